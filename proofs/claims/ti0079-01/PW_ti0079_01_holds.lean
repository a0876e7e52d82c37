import PyProof.Rows.All
import PyProof.Draws
import PyProof.StrLawsChain
import PyProof.StrLawsOcc
import PyProof.ZipIter
import PyProof.Rows.ZipGen
import Open.Line
import Wide.FinOn
import OpenK.AllK
import Wide.All
import Lean
import PySem.Challenge.RW_ti0079_01
set_option Elab.async false
set_option maxRecDepth 100000
set_option maxHeartbeats 80000000
set_option pp.deepTerms false
set_option pp.deepTerms.threshold 4
set_option rowWalk.seconds 300
set_option linter.unusedVariables false
set_option compiler.extract_closed false
section
open PySem PySem.W
theorem Mine.said_row:OpenRow.wellSaid (OpenLaw.row PySem.Challenge.rw_ti0079_01) = true := by
  with_reducible unfold OpenRow.wellSaid OpenRow.partSaid looksOpen
  repeat' (with_reducible refine look_both ?_ ?_)
  all_goals decide +kernel
theorem Mine.said_all:OpenLaw.wellSaid PySem.Challenge.rw_ti0079_01 = true := by
  unfold OpenLaw.wellSaid
  iterate 18 (refine look_both ?_ ?_)
  · exact Mine.said_row
  all_goals decide +kernel
end
section
open PySem PySem.W PyProof.Rows
namespace Mine
noncomputable def nth:List Stmt -> Nat -> Stmt
  | [],_=>.Pass ⟨0,0,0,0⟩
  | s :: _,0=>s
  | _ :: r,n + 1=>nth r n
noncomputable def fAS (st:Stmt):Arguments × Scope := by
  cases st with
  | FunctionDef _ a _ _ _ _ s=>exact (a,s)
  | _=>exact (⟨[],[],none,[],[],none,[]⟩, { kind := .function,names := [],isGenerator := false,isCoroutine := false,more := [] })
noncomputable def fA (s:Stmt):Arguments := (fAS s).1
noncomputable def fS (s:Stmt):Scope := (fAS s).2
noncomputable def fB (st:Stmt):List Stmt := by
  cases st with
  | FunctionDef _ _ b=>exact b
  | ClassDef _ _ _ b=>exact b
  | For _ _ b=>exact b
  | _=>exact []
noncomputable def stm (i:Nat):Stmt := nth PySem.Challenge.pw_ti0079_01.main.body i
noncomputable def mth (j:Nat):Stmt := nth (fB (stm 7)) j
noncomputable def cC (e:PySem.Expr):PySem.Const := by
  cases e with
  | Constant c=>exact c
  | _=>exact .none
noncomputable def kInt:PySem.Const -> Int
  | .int k=>k
  | _=>0
noncomputable def kStr:PySem.Const -> PySem.Str
  | .str x=>x
  | _=>.ofString ""
noncomputable def cInt:Option PySem.Expr -> Int
  | some e=>kInt (cC e)
  | none=>0
noncomputable def cStr (e:PySem.Expr):PySem.Str := kStr (cC e)
noncomputable def dPairs:List (Option PySem.Expr) -> List PySem.Expr -> List (Int × PySem.Str)
  | k :: ks,v :: vs=>(cInt k,cStr v) :: dPairs ks vs
  | _,_=>[]
noncomputable def asE (st:Stmt):PySem.Expr := by
  cases st with
  | Assign _ e=>exact e
  | _=>exact .Constant .none 0 ⟨0,0,0,0⟩
noncomputable def dicE (e:PySem.Expr):List (Option PySem.Expr) × List PySem.Expr := by
  cases e with
  | Dict ks vs=>exact (ks,vs)
  | _=>exact ([],[])
noncomputable def b3Pairs:List (Int × PySem.Str) := dPairs (dicE (asE (stm 16))).1 (dicE (asE (stm 16))).2
noncomputable def b3Tail:Nat -> List (Int × PySem.Str) -> List DictEntry
  | _,[]=>[]
  | t,(k,v) :: r=>⟨k,.int k t,.str v (t + 1)⟩ :: b3Tail (t + 2) r
noncomputable def b3Ents:Nat -> List (Int × PySem.Str) -> List DictEntry
  | _,[]=>[]
  | t,(k,v) :: r=>⟨k,.int k t,.str v (t + 1)⟩ :: b3Ents (t + 3) r
noncomputable def KF:Params -> Frag := fun P =>
(nat_lit 2,(Obj.mk Value.none none (Data.dict #[(DictEntry.mk (PyData.keyHash P (.ofString "\x69mport.loaded._sre")) (Value.str (.ofString "\x69mport.loaded._sre") 183) (Value.bool Bool.true)),(DictEntry.mk (PyData.keyHash P (.ofString "class._frozen_importlib.BuiltinImporter")) (Value.str (.ofString "class._frozen_importlib.BuiltinImporter") 185) (Value.ref 14)),(DictEntry.mk (PyData.keyHash P (.ofString "watched.\x69mport")) (Value.str (.ofString "watched.\x69mport") 206) (Value.ref 18)),(DictEntry.mk (PyData.keyHash P (.ofString "class._frozen_importlib.ModuleSpec")) (Value.str (.ofString "class._frozen_importlib.ModuleSpec") 216) (Value.ref 22)),(DictEntry.mk (PyData.keyHash P (.ofString "sys.modules.booked-epoch")) (Value.str (.ofString "sys.modules.booked-epoch") 245) (Value.int 3 0)),(DictEntry.mk (PyData.keyHash P (.ofString "\x69mport.later-laid._sre")) (Value.str (.ofString "\x69mport.later-laid._sre") 270) (Value.bool Bool.true)),(DictEntry.mk (PyData.keyHash P (.ofString "watched.library")) (Value.str (.ofString "watched.library") 272) (Value.ref 27)),(DictEntry.mk (PyData.keyHash P (.ofString "watched.library-objects")) (Value.str (.ofString "watched.library-objects") 0) (Value.str (.ofString "\x0c") 0)),(DictEntry.mk (PyData.keyHash P (.ofString "watched.library-deep._sre")) (Value.str (.ofString "watched.library-deep._sre") 273) (Value.str (.ofString "\x04\x00\x00\x0b\x04\x00\x00\x0b\x04\x00\x00\x03\x04\x00\x00\x0b\x08\x04dict\x02") 0))] 9) #[])) ::
(nat_lit 3,(Obj.mk (Value.type "dict") none (Data.dict #[(DictEntry.mk (PyData.keyHash P (.ofString "__name__")) (Value.str (.ofString "__name__") 165) (Value.str (.ofString "law_ti0079_01") 2583)),(DictEntry.mk (PyData.keyHash P (.ofString "__doc__")) (Value.str (.ofString "__doc__") 166) Value.none),(DictEntry.mk (PyData.keyHash P (.ofString "__package__")) (Value.str (.ofString "__package__") 167) Value.none),(DictEntry.mk (PyData.keyHash P (.ofString "__loader__")) (Value.str (.ofString "__loader__") 168) (Value.builtin "__main__.__loader__#opaque")),(DictEntry.mk (PyData.keyHash P (.ofString "__spec__")) (Value.str (.ofString "__spec__") 169) Value.none),(DictEntry.mk (PyData.keyHash P (.ofString "__annotations__")) (Value.str (.ofString "__annotations__") 170) (Value.ref 6)),(DictEntry.mk (PyData.keyHash P (.ofString "__builtins__")) (Value.str (.ofString "__builtins__") 171) (Value.ref 4)),(DictEntry.mk (PyData.keyHash P (.ofString "__file__")) (Value.str (.ofString "__file__") 173) (Value.str (.ofString "/claim/cut.py") 172)),(DictEntry.mk (PyData.keyHash P (.ofString "__cached__")) (Value.str (.ofString "__cached__") 174) Value.none),(DictEntry.mk (PyData.keyHash P (.ofString "_sre")) (Value.str (.ofString "_sre") 275) (Value.ref 12)),(DictEntry.mk (PyData.keyHash P (.ofString "_wall")) (Value.str (.ofString "_wall") 288) (Value.ref 38)),(DictEntry.mk (PyData.keyHash P (.ofString "_twin_re_1")) (Value.str (.ofString "_twin_re_1") 328) (Value.ref 43)),(DictEntry.mk (PyData.keyHash P (.ofString "_namespace_map")) (Value.str (.ofString "_namespace_map") 350) (Value.ref 44)),(DictEntry.mk (PyData.keyHash P (.ofString "_raise_serialization_error")) (Value.str (.ofString "_raise_serialization_error") 357) (Value.ref 51)),(DictEntry.mk (PyData.keyHash P (.ofString "_looks_like_prefix_name")) (Value.str (.ofString "_looks_like_prefix_name") 359) (Value.ref 52)),(DictEntry.mk (PyData.keyHash P (.ofString "C14NWriterTarget")) (Value.str (.ofString "C14NWriterTarget") 524) (Value.ref 150)),(DictEntry.mk (PyData.keyHash P (.ofString "_escape_cdata_c14n")) (Value.str (.ofString "_escape_cdata_c14n") 531) (Value.ref 161)),(DictEntry.mk (PyData.keyHash P (.ofString "_escape_attrib_c14n")) (Value.str (.ofString "_escape_attrib_c14n") 538) (Value.ref 168)),(DictEntry.mk (PyData.keyHash P (.ofString "ELLIPSIS_MARKER")) (Value.str (.ofString "ELLIPSIS_MARKER") 542) (Value.str (.ofString "...") 541)),(DictEntry.mk (PyData.keyHash P (.ofString "_ellipsis_match")) (Value.str (.ofString "_ellipsis_match") 554) (Value.ref 175)),(DictEntry.mk (PyData.keyHash P (.ofString "b1_set")) (Value.str (.ofString "b1_set") 616) (Value.ref 183)),(DictEntry.mk (PyData.keyHash P (.ofString "in_table_b1")) (Value.str (.ofString "in_table_b1") 623) (Value.ref 193)),(DictEntry.mk (PyData.keyHash P (.ofString "b3_exceptions")) (Value.str (.ofString "b3_exceptions") 2574) (Value.ref 194)),(DictEntry.mk (PyData.keyHash P (.ofString "map_table_b3")) (Value.str (.ofString "map_table_b3") 2582) (Value.ref 239)),(DictEntry.mk (PyData.keyHash P (.ofString "_law_dressed")) (Value.str (.ofString "_law_dressed") 2594) (Value.ref 246)),(DictEntry.mk (PyData.keyHash P (.ofString "_law_picked")) (Value.str (.ofString "_law_picked") 2605) (Value.ref 253)),(DictEntry.mk (PyData.keyHash P (.ofString "_law_page")) (Value.str (.ofString "_law_page") 2611) (Value.ref 258)),(DictEntry.mk (PyData.keyHash P (.ofString "_law_prepared")) (Value.str (.ofString "_law_prepared") 2617) (Value.ref 263)),(DictEntry.mk (PyData.keyHash P (.ofString "_law_question")) (Value.str (.ofString "_law_question") 2623) (Value.ref 268)),(DictEntry.mk (PyData.keyHash P (.ofString "_law_falls")) (Value.str (.ofString "_law_falls") 2629) (Value.ref 273)),(DictEntry.mk (PyData.keyHash P (.ofString "_law_choices")) (Value.str (.ofString "_law_choices") 2639) (Value.ref 280)),(DictEntry.mk (PyData.keyHash P (.ofString "law")) (Value.str (.ofString "law") 2645) (Value.ref 285))] 32) #[])) ::
(nat_lit 32,(Obj.mk (Value.type "tuple") none (Data.seq #[] 0) #[])) ::
(nat_lit 34,(Obj.mk (Value.type "tuple") none (Data.seq #[(Value.str (.ofString "k") 285)] 0) #[])) ::
(nat_lit 35,(Obj.mk (Value.type "tuple") none (Data.seq #[] 0) #[])) ::
(nat_lit 37,(Obj.mk (Value.type "code") none (Data.fields #[(Value.str (.ofString "_wall") 282),(Value.str (.ofString "_wall") 283),(Value.str (.ofString "/claim/cut.py") 284),(Value.int 2 0),(Value.int 1 0),(Value.int 0 0),(Value.int 0 0),(Value.int 3 0),(Value.ref 32),(Value.bool Bool.true),(Value.int 276 0),(Value.ref 33),Value.none,(Value.ref 34),(Value.ref 35),(Value.ref 36),(Value.int 286 0),(Value.int 2 0),(Value.str (.ofString "/claim/cut.py") 287)]) #[])) ::
(nat_lit 38,(Obj.mk (Value.type "function") none (Data.func (FuncData.mk (.ofString "_wall") (.ofString "_wall") (fA (stm 1)) (FuncBody.stmts (fB (stm 1))) (fS (stm 1)) 3 [] Value.none Value.none Value.none (Value.str (.ofString "__main__") 164) none (Value.ref 37) Value.none 0)) #[])) ::
(nat_lit 42,(Obj.mk (Value.type "tuple") none (Data.seq #[(Value.int 14 0),(Value.int 4 0),(Value.int 0 0),(Value.int 3 0),(Value.int 4294967295 0),(Value.int 6 0),(Value.int 0 0),(Value.int 24 0),(Value.int 9 0),(Value.int 1 0),(Value.int 4294967295 0),(Value.int 13 0),(Value.int 4 0),(Value.int 8 0),(Value.int 14 0),(Value.int 0 0),(Value.int 1 0),(Value.int 16 0),(Value.int 58 0),(Value.int 24 0),(Value.int 9 0),(Value.int 1 0),(Value.int 4294967295 0),(Value.int 13 0),(Value.int 4 0),(Value.int 8 0),(Value.int 14 0),(Value.int 0 0),(Value.int 1 0),(Value.int 6 0),(Value.int 5 0),(Value.int 1 0)] 0) #[])) ::
(nat_lit 43,(Obj.mk (Value.type "re.Pattern") none (Data.fields #[(Value.str (.ofString "^\\w+:\\w+$") 292),(Value.int 32 327),(Value.int 0 0),Value.none,Value.none,(Value.ref 42),(Value.int 0 0)]) #[])) ::
(nat_lit 44,(Obj.mk (Value.type "dict") none (Data.dict #[(DictEntry.mk (PyData.keyHash P (.ofString "http://www.w3.org/XML/1998/namespace")) (Value.str (.ofString "http://www.w3.org/XML/1998/namespace") 329) (Value.str (.ofString "xml") 330)),(DictEntry.mk (PyData.keyHash P (.ofString "http://www.w3.org/1999/xhtml")) (Value.str (.ofString "http://www.w3.org/1999/xhtml") 331) (Value.str (.ofString "html") 332)),(DictEntry.mk (PyData.keyHash P (.ofString "http://www.w3.org/1999/02/22-rdf-syntax-ns#")) (Value.str (.ofString "http://www.w3.org/1999/02/22-rdf-syntax-ns#") 333) (Value.str (.ofString "rdf") 334)),(DictEntry.mk (PyData.keyHash P (.ofString "http://schemas.xmlsoap.org/wsdl/")) (Value.str (.ofString "http://schemas.xmlsoap.org/wsdl/") 335) (Value.str (.ofString "wsdl") 336)),(DictEntry.mk (PyData.keyHash P (.ofString "http://www.w3.org/2001/XMLSchema")) (Value.str (.ofString "http://www.w3.org/2001/XMLSchema") 337) (Value.str (.ofString "xs") 338)),(DictEntry.mk (PyData.keyHash P (.ofString "http://www.w3.org/2001/XMLSchema-\x69nstance")) (Value.str (.ofString "http://www.w3.org/2001/XMLSchema-\x69nstance") 339) (Value.str (.ofString "xsi") 340)),(DictEntry.mk (PyData.keyHash P (.ofString "http://purl.org/dc/elements/1.1/")) (Value.str (.ofString "http://purl.org/dc/elements/1.1/") 341) (Value.str (.ofString "dc") 342))] 7) #[])) ::
(nat_lit 45,(Obj.mk (Value.type "tuple") none (Data.seq #[] 0) #[])) ::
(nat_lit 47,(Obj.mk (Value.type "tuple") none (Data.seq #[(Value.str (.ofString "text") 354)] 0) #[])) ::
(nat_lit 48,(Obj.mk (Value.type "tuple") none (Data.seq #[] 0) #[])) ::
(nat_lit 50,(Obj.mk (Value.type "code") none (Data.fields #[(Value.str (.ofString "_raise_serialization_error") 351),(Value.str (.ofString "_raise_serialization_error") 352),(Value.str (.ofString "/claim/cut.py") 353),(Value.int 8 0),(Value.int 1 0),(Value.int 0 0),(Value.int 0 0),(Value.int 3 0),(Value.ref 45),(Value.bool Bool.true),(Value.int 276 0),(Value.ref 46),Value.none,(Value.ref 47),(Value.ref 48),(Value.ref 49),(Value.int 355 0),(Value.int 8 0),(Value.str (.ofString "/claim/cut.py") 356)]) #[])) ::
(nat_lit 51,(Obj.mk (Value.type "function") none (Data.func (FuncData.mk (.ofString "_raise_serialization_error") (.ofString "_raise_serialization_error") (fA (stm 5)) (FuncBody.stmts (fB (stm 5))) (fS (stm 5)) 3 [] Value.none Value.none Value.none (Value.str (.ofString "cpy313.xml.etree.ElementTree") 289) none (Value.ref 50) Value.none 0)) #[])) ::
(nat_lit 52,(Obj.mk (Value.type "builtin_function_or_method") none (Data.fields #[(Value.builtin "re.Pattern.match"),(Value.ref 43)]) #[])) ::
(nat_lit 60,(Obj.mk (Value.type "dict") none (Data.dict #[(DictEntry.mk (PyData.keyHash P (.ofString "with_comments")) (Value.str (.ofString "with_comments") 372) (Value.bool Bool.false)),(DictEntry.mk (PyData.keyHash P (.ofString "strip_text")) (Value.str (.ofString "strip_text") 373) (Value.bool Bool.false)),(DictEntry.mk (PyData.keyHash P (.ofString "rewrite_prefixes")) (Value.str (.ofString "rewrite_prefixes") 374) (Value.bool Bool.false)),(DictEntry.mk (PyData.keyHash P (.ofString "qname_aware_tags")) (Value.str (.ofString "qname_aware_tags") 375) Value.none),(DictEntry.mk (PyData.keyHash P (.ofString "qname_aware_attrs")) (Value.str (.ofString "qname_aware_attrs") 376) Value.none),(DictEntry.mk (PyData.keyHash P (.ofString "exclude_attrs")) (Value.str (.ofString "exclude_attrs") 377) Value.none),(DictEntry.mk (PyData.keyHash P (.ofString "exclude_tags")) (Value.str (.ofString "exclude_tags") 378) Value.none)] 7) #[])) ::
(nat_lit 61,(Obj.mk (Value.type "tuple") none (Data.seq #[] 0) #[])) ::
(nat_lit 63,(Obj.mk (Value.type "tuple") none (Data.seq #[(Value.str (.ofString "self") 382),(Value.str (.ofString "write") 383),(Value.str (.ofString "with_comments") 384),(Value.str (.ofString "strip_text") 385),(Value.str (.ofString "rewrite_prefixes") 386),(Value.str (.ofString "qname_aware_tags") 387),(Value.str (.ofString "qname_aware_attrs") 388),(Value.str (.ofString "exclude_attrs") 389),(Value.str (.ofString "exclude_tags") 390)] 0) #[])) ::
(nat_lit 64,(Obj.mk (Value.type "tuple") none (Data.seq #[] 0) #[])) ::
(nat_lit 66,(Obj.mk (Value.type "code") none (Data.fields #[(Value.str (.ofString "__init__") 379),(Value.str (.ofString "C14NWriterTarget.__init__") 380),(Value.str (.ofString "/claim/cut.py") 381),(Value.int 13 0),(Value.int 2 0),(Value.int 0 0),(Value.int 7 0),(Value.int 3 0),(Value.ref 61),(Value.bool Bool.true),(Value.int 276 0),(Value.ref 62),Value.none,(Value.ref 63),(Value.ref 64),(Value.ref 65),(Value.int 391 0),(Value.int 13 0),(Value.str (.ofString "/claim/cut.py") 392)]) #[])) ::
(nat_lit 67,(Obj.mk (Value.type "function") none (Data.func (FuncData.mk (.ofString "__init__") (.ofString "C14NWriterTarget.__init__") (fA (mth 0)) (FuncBody.stmts (fB (mth 0))) (fS (mth 0)) 3 [] Value.none (Value.ref 60) Value.none (Value.str (.ofString "cpy313.xml.etree.ElementTree") 289) none (Value.ref 66) Value.none 0)) #[])) ::
(nat_lit 68,(Obj.mk (Value.type "tuple") none (Data.seq #[(Value.type "reversed")] 0) #[])) ::
(nat_lit 69,(Obj.mk (Value.type "tuple") none (Data.seq #[] 0) #[])) ::
(nat_lit 71,(Obj.mk (Value.type "tuple") none (Data.seq #[(Value.str (.ofString "self") 397),(Value.str (.ofString "ns_stack") 398),(Value.str (.ofString "_reversed") 399),(Value.str (.ofString "namespaces") 400)] 0) #[])) ::
(nat_lit 72,(Obj.mk (Value.type "tuple") none (Data.seq #[] 0) #[])) ::
(nat_lit 74,(Obj.mk (Value.type "code") none (Data.fields #[(Value.str (.ofString "_iter_namespaces") 394),(Value.str (.ofString "C14NWriterTarget._iter_namespaces") 395),(Value.str (.ofString "/claim/cut.py") 396),(Value.int 41 0),(Value.int 3 0),(Value.int 0 0),(Value.int 0 0),(Value.int 35 0),(Value.ref 69),(Value.bool Bool.true),(Value.int 276 0),(Value.ref 70),Value.none,(Value.ref 71),(Value.ref 72),(Value.ref 73),(Value.int 401 0),(Value.int 41 0),(Value.str (.ofString "/claim/cut.py") 402)]) #[])) ::
(nat_lit 75,(Obj.mk (Value.type "function") none (Data.func (FuncData.mk (.ofString "_iter_namespaces") (.ofString "C14NWriterTarget._iter_namespaces") (fA (mth 1)) (FuncBody.stmts (fB (mth 1))) (fS (mth 1)) 3 [] (Value.ref 68) Value.none Value.none (Value.str (.ofString "cpy313.xml.etree.ElementTree") 289) none (Value.ref 74) Value.none 0)) #[])) ::
(nat_lit 76,(Obj.mk (Value.type "tuple") none (Data.seq #[] 0) #[])) ::
(nat_lit 78,(Obj.mk (Value.type "tuple") none (Data.seq #[(Value.str (.ofString "self") 407),(Value.str (.ofString "prefixed_name") 408),(Value.str (.ofString "prefix") 409),(Value.str (.ofString "name") 410),(Value.str (.ofString "uri") 411),(Value.str (.ofString "p") 412)] 0) #[])) ::
(nat_lit 79,(Obj.mk (Value.type "tuple") none (Data.seq #[] 0) #[])) ::
(nat_lit 81,(Obj.mk (Value.type "code") none (Data.fields #[(Value.str (.ofString "_resolve_prefix_name") 404),(Value.str (.ofString "C14NWriterTarget._resolve_prefix_name") 405),(Value.str (.ofString "/claim/cut.py") 406),(Value.int 46 0),(Value.int 2 0),(Value.int 0 0),(Value.int 0 0),(Value.int 3 0),(Value.ref 76),(Value.bool Bool.true),(Value.int 276 0),(Value.ref 77),Value.none,(Value.ref 78),(Value.ref 79),(Value.ref 80),(Value.int 413 0),(Value.int 46 0),(Value.str (.ofString "/claim/cut.py") 414)]) #[])) ::
(nat_lit 82,(Obj.mk (Value.type "function") none (Data.func (FuncData.mk (.ofString "_resolve_prefix_name") (.ofString "C14NWriterTarget._resolve_prefix_name") (fA (mth 2)) (FuncBody.stmts (fB (mth 2))) (fS (mth 2)) 3 [] Value.none Value.none Value.none (Value.str (.ofString "cpy313.xml.etree.ElementTree") 289) none (Value.ref 81) Value.none 0)) #[])) ::
(nat_lit 83,(Obj.mk (Value.type "tuple") none (Data.seq #[Value.none] 0) #[])) ::
(nat_lit 84,(Obj.mk (Value.type "tuple") none (Data.seq #[] 0) #[])) ::
(nat_lit 86,(Obj.mk (Value.type "tuple") none (Data.seq #[(Value.str (.ofString "self") 419),(Value.str (.ofString "qname") 420),(Value.str (.ofString "uri") 421),(Value.str (.ofString "tag") 422),(Value.str (.ofString "prefixes_seen") 423),(Value.str (.ofString "u") 424),(Value.str (.ofString "prefix") 425)] 0) #[])) ::
(nat_lit 87,(Obj.mk (Value.type "tuple") none (Data.seq #[] 0) #[])) ::
(nat_lit 89,(Obj.mk (Value.type "code") none (Data.fields #[(Value.str (.ofString "_qname") 416),(Value.str (.ofString "C14NWriterTarget._qname") 417),(Value.str (.ofString "/claim/cut.py") 418),(Value.int 53 0),(Value.int 3 0),(Value.int 0 0),(Value.int 0 0),(Value.int 3 0),(Value.ref 84),(Value.bool Bool.true),(Value.int 276 0),(Value.ref 85),Value.none,(Value.ref 86),(Value.ref 87),(Value.ref 88),(Value.int 426 0),(Value.int 53 0),(Value.str (.ofString "/claim/cut.py") 427)]) #[])) ::
(nat_lit 90,(Obj.mk (Value.type "function") none (Data.func (FuncData.mk (.ofString "_qname") (.ofString "C14NWriterTarget._qname") (fA (mth 3)) (FuncBody.stmts (fB (mth 3))) (fS (mth 3)) 3 [] (Value.ref 83) Value.none Value.none (Value.str (.ofString "cpy313.xml.etree.ElementTree") 289) none (Value.ref 89) Value.none 0)) #[])) ::
(nat_lit 91,(Obj.mk (Value.type "tuple") none (Data.seq #[] 0) #[])) ::
(nat_lit 93,(Obj.mk (Value.type "tuple") none (Data.seq #[(Value.str (.ofString "self") 432),(Value.str (.ofString "data") 433)] 0) #[])) ::
(nat_lit 94,(Obj.mk (Value.type "tuple") none (Data.seq #[] 0) #[])) ::
(nat_lit 96,(Obj.mk (Value.type "code") none (Data.fields #[(Value.str (.ofString "data") 429),(Value.str (.ofString "C14NWriterTarget.data") 430),(Value.str (.ofString "/claim/cut.py") 431),(Value.int 80 0),(Value.int 2 0),(Value.int 0 0),(Value.int 0 0),(Value.int 3 0),(Value.ref 91),(Value.bool Bool.true),(Value.int 276 0),(Value.ref 92),Value.none,(Value.ref 93),(Value.ref 94),(Value.ref 95),(Value.int 434 0),(Value.int 80 0),(Value.str (.ofString "/claim/cut.py") 435)]) #[])) ::
(nat_lit 97,(Obj.mk (Value.type "function") none (Data.func (FuncData.mk (.ofString "data") (.ofString "C14NWriterTarget.data") (fA (mth 4)) (FuncBody.stmts (fB (mth 4))) (fS (mth 4)) 3 [] Value.none Value.none Value.none (Value.str (.ofString "cpy313.xml.etree.ElementTree") 289) none (Value.ref 96) Value.none 0)) #[])) ::
(nat_lit 98,(Obj.mk (Value.type "builtin_function_or_method") none (Data.fields #[(Value.builtin "str.join"),(Value.str (.ofString "") 437)]) #[])) ::
(nat_lit 99,(Obj.mk (Value.type "tuple") none (Data.seq #[(Value.ref 98)] 0) #[])) ::
(nat_lit 100,(Obj.mk (Value.type "tuple") none (Data.seq #[] 0) #[])) ::
(nat_lit 102,(Obj.mk (Value.type "tuple") none (Data.seq #[(Value.str (.ofString "self") 442),(Value.str (.ofString "_join_text") 443),(Value.str (.ofString "data") 444),(Value.str (.ofString "args") 445),(Value.str (.ofString "qname_text") 446)] 0) #[])) ::
(nat_lit 103,(Obj.mk (Value.type "tuple") none (Data.seq #[] 0) #[])) ::
(nat_lit 105,(Obj.mk (Value.type "code") none (Data.fields #[(Value.str (.ofString "_flush") 439),(Value.str (.ofString "C14NWriterTarget._flush") 440),(Value.str (.ofString "/claim/cut.py") 441),(Value.int 84 0),(Value.int 2 0),(Value.int 0 0),(Value.int 0 0),(Value.int 3 0),(Value.ref 100),(Value.bool Bool.true),(Value.int 276 0),(Value.ref 101),Value.none,(Value.ref 102),(Value.ref 103),(Value.ref 104),(Value.int 447 0),(Value.int 84 0),(Value.str (.ofString "/claim/cut.py") 448)]) #[])) ::
(nat_lit 106,(Obj.mk (Value.type "function") none (Data.func (FuncData.mk (.ofString "_flush") (.ofString "C14NWriterTarget._flush") (fA (mth 5)) (FuncBody.stmts (fB (mth 5))) (fS (mth 5)) 3 [] (Value.ref 99) Value.none Value.none (Value.str (.ofString "cpy313.xml.etree.ElementTree") 289) none (Value.ref 105) Value.none 0)) #[])) ::
(nat_lit 107,(Obj.mk (Value.type "tuple") none (Data.seq #[] 0) #[])) ::
(nat_lit 109,(Obj.mk (Value.type "tuple") none (Data.seq #[(Value.str (.ofString "self") 453),(Value.str (.ofString "prefix") 454),(Value.str (.ofString "uri") 455)] 0) #[])) ::
(nat_lit 110,(Obj.mk (Value.type "tuple") none (Data.seq #[] 0) #[])) ::
(nat_lit 112,(Obj.mk (Value.type "code") none (Data.fields #[(Value.str (.ofString "start_ns") 450),(Value.str (.ofString "C14NWriterTarget.start_ns") 451),(Value.str (.ofString "/claim/cut.py") 452),(Value.int 98 0),(Value.int 3 0),(Value.int 0 0),(Value.int 0 0),(Value.int 3 0),(Value.ref 107),(Value.bool Bool.true),(Value.int 276 0),(Value.ref 108),Value.none,(Value.ref 109),(Value.ref 110),(Value.ref 111),(Value.int 456 0),(Value.int 98 0),(Value.str (.ofString "/claim/cut.py") 457)]) #[])) ::
(nat_lit 113,(Obj.mk (Value.type "function") none (Data.func (FuncData.mk (.ofString "start_ns") (.ofString "C14NWriterTarget.start_ns") (fA (mth 6)) (FuncBody.stmts (fB (mth 6))) (fS (mth 6)) 3 [] Value.none Value.none Value.none (Value.str (.ofString "cpy313.xml.etree.ElementTree") 289) none (Value.ref 112) Value.none 0)) #[])) ::
(nat_lit 114,(Obj.mk (Value.type "tuple") none (Data.seq #[] 0) #[])) ::
(nat_lit 116,(Obj.mk (Value.type "tuple") none (Data.seq #[(Value.str (.ofString "self") 462),(Value.str (.ofString "tag") 463),(Value.str (.ofString "attrs") 464),(Value.str (.ofString "new_namespaces") 465)] 0) #[])) ::
(nat_lit 117,(Obj.mk (Value.type "tuple") none (Data.seq #[] 0) #[])) ::
(nat_lit 119,(Obj.mk (Value.type "code") none (Data.fields #[(Value.str (.ofString "start") 459),(Value.str (.ofString "C14NWriterTarget.start") 460),(Value.str (.ofString "/claim/cut.py") 461),(Value.int 101 0),(Value.int 3 0),(Value.int 0 0),(Value.int 0 0),(Value.int 3 0),(Value.ref 114),(Value.bool Bool.true),(Value.int 276 0),(Value.ref 115),Value.none,(Value.ref 116),(Value.ref 117),(Value.ref 118),(Value.int 466 0),(Value.int 101 0),(Value.str (.ofString "/claim/cut.py") 467)]) #[])) ::
(nat_lit 120,(Obj.mk (Value.type "function") none (Data.func (FuncData.mk (.ofString "start") (.ofString "C14NWriterTarget.start") (fA (mth 7)) (FuncBody.stmts (fB (mth 7))) (fS (mth 7)) 3 [] Value.none Value.none Value.none (Value.str (.ofString "cpy313.xml.etree.ElementTree") 289) none (Value.ref 119) Value.none 0)) #[])) ::
(nat_lit 121,(Obj.mk (Value.type "tuple") none (Data.seq #[Value.none] 0) #[])) ::
(nat_lit 122,(Obj.mk (Value.type "tuple") none (Data.seq #[] 0) #[])) ::
(nat_lit 125,(Obj.mk (Value.type "code") none (Data.fields #[(Value.str (.ofString "_start") 469),(Value.str (.ofString "C14NWriterTarget._start") 470),(Value.str (.ofString "/claim/cut.py") 471),(Value.int 114 0),(Value.int 5 0),(Value.int 0 0),(Value.int 0 0),(Value.int 3 0),(Value.ref 122),(Value.bool Bool.true),(Value.int 276 0),(Value.ref 123),Value.none,Value.none,Value.none,(Value.ref 124),(Value.int 472 0),(Value.int 114 0),(Value.str (.ofString "/claim/cut.py") 473)]) #[])) ::
(nat_lit 126,(Obj.mk (Value.type "function") none (Data.func (FuncData.mk (.ofString "_start") (.ofString "C14NWriterTarget._start") (fA (mth 8)) (FuncBody.stmts (fB (mth 8))) (fS (mth 8)) 3 [] (Value.ref 121) Value.none Value.none (Value.str (.ofString "cpy313.xml.etree.ElementTree") 289) none (Value.ref 125) Value.none 0)) #[])) ::
(nat_lit 127,(Obj.mk (Value.type "tuple") none (Data.seq #[] 0) #[])) ::
(nat_lit 129,(Obj.mk (Value.type "tuple") none (Data.seq #[(Value.str (.ofString "self") 478),(Value.str (.ofString "tag") 479)] 0) #[])) ::
(nat_lit 130,(Obj.mk (Value.type "tuple") none (Data.seq #[] 0) #[])) ::
(nat_lit 132,(Obj.mk (Value.type "code") none (Data.fields #[(Value.str (.ofString "end") 475),(Value.str (.ofString "C14NWriterTarget.end") 476),(Value.str (.ofString "/claim/cut.py") 477),(Value.int 159 0),(Value.int 2 0),(Value.int 0 0),(Value.int 0 0),(Value.int 3 0),(Value.ref 127),(Value.bool Bool.true),(Value.int 276 0),(Value.ref 128),Value.none,(Value.ref 129),(Value.ref 130),(Value.ref 131),(Value.int 480 0),(Value.int 159 0),(Value.str (.ofString "/claim/cut.py") 481)]) #[])) ::
(nat_lit 133,(Obj.mk (Value.type "function") none (Data.func (FuncData.mk (.ofString "end") (.ofString "C14NWriterTarget.end") (fA (mth 9)) (FuncBody.stmts (fB (mth 9))) (fS (mth 9)) 3 [] Value.none Value.none Value.none (Value.str (.ofString "cpy313.xml.etree.ElementTree") 289) none (Value.ref 132) Value.none 0)) #[])) ::
(nat_lit 134,(Obj.mk (Value.type "tuple") none (Data.seq #[] 0) #[])) ::
(nat_lit 136,(Obj.mk (Value.type "tuple") none (Data.seq #[(Value.str (.ofString "self") 486),(Value.str (.ofString "text") 487)] 0) #[])) ::
(nat_lit 137,(Obj.mk (Value.type "tuple") none (Data.seq #[] 0) #[])) ::
(nat_lit 139,(Obj.mk (Value.type "code") none (Data.fields #[(Value.str (.ofString "comment") 483),(Value.str (.ofString "C14NWriterTarget.comment") 484),(Value.str (.ofString "/claim/cut.py") 485),(Value.int 162 0),(Value.int 2 0),(Value.int 0 0),(Value.int 0 0),(Value.int 3 0),(Value.ref 134),(Value.bool Bool.true),(Value.int 276 0),(Value.ref 135),Value.none,(Value.ref 136),(Value.ref 137),(Value.ref 138),(Value.int 488 0),(Value.int 162 0),(Value.str (.ofString "/claim/cut.py") 489)]) #[])) ::
(nat_lit 140,(Obj.mk (Value.type "function") none (Data.func (FuncData.mk (.ofString "comment") (.ofString "C14NWriterTarget.comment") (fA (mth 10)) (FuncBody.stmts (fB (mth 10))) (fS (mth 10)) 3 [] Value.none Value.none Value.none (Value.str (.ofString "cpy313.xml.etree.ElementTree") 289) none (Value.ref 139) Value.none 0)) #[])) ::
(nat_lit 141,(Obj.mk (Value.type "tuple") none (Data.seq #[] 0) #[])) ::
(nat_lit 143,(Obj.mk (Value.type "tuple") none (Data.seq #[(Value.str (.ofString "self") 494),(Value.str (.ofString "target") 495),(Value.str (.ofString "data") 496)] 0) #[])) ::
(nat_lit 144,(Obj.mk (Value.type "tuple") none (Data.seq #[] 0) #[])) ::
(nat_lit 146,(Obj.mk (Value.type "code") none (Data.fields #[(Value.str (.ofString "pi") 491),(Value.str (.ofString "C14NWriterTarget.pi") 492),(Value.str (.ofString "/claim/cut.py") 493),(Value.int 165 0),(Value.int 3 0),(Value.int 0 0),(Value.int 0 0),(Value.int 3 0),(Value.ref 141),(Value.bool Bool.true),(Value.int 276 0),(Value.ref 142),Value.none,(Value.ref 143),(Value.ref 144),(Value.ref 145),(Value.int 497 0),(Value.int 165 0),(Value.str (.ofString "/claim/cut.py") 498)]) #[])) ::
(nat_lit 147,(Obj.mk (Value.type "function") none (Data.func (FuncData.mk (.ofString "pi") (.ofString "C14NWriterTarget.pi") (fA (mth 11)) (FuncBody.stmts (fB (mth 11))) (fS (mth 11)) 3 [] Value.none Value.none Value.none (Value.str (.ofString "cpy313.xml.etree.ElementTree") 289) none (Value.ref 146) Value.none 0)) #[])) ::
(nat_lit 148,(Obj.mk (Value.type "tuple") none (Data.seq #[(Value.str (.ofString "_data") 500),(Value.str (.ofString "_declared_ns_stack") 501),(Value.str (.ofString "_exclude_attrs") 502),(Value.str (.ofString "_exclude_tags") 503),(Value.str (.ofString "_find_qname_aware_attrs") 504),(Value.str (.ofString "_ignored_depth") 505),(Value.str (.ofString "_ns_stack") 506),(Value.str (.ofString "_pending_start") 507),(Value.str (.ofString "_prefix_map") 508),(Value.str (.ofString "_preserve_space") 509),(Value.str (.ofString "_qname_aware_tags") 510),(Value.str (.ofString "_rewrite_prefixes") 511),(Value.str (.ofString "_root_done") 512),(Value.str (.ofString "_root_seen") 513),(Value.str (.ofString "_strip_text") 514),(Value.str (.ofString "_with_comments") 515),(Value.str (.ofString "_write") 516)] 0) #[])) ::
(nat_lit 149,(Obj.mk (Value.type "dict") none (Data.dict #[(DictEntry.mk (PyData.keyHash P (.ofString "__module__")) (Value.str (.ofString "__module__") 367) (Value.str (.ofString "cpy313.xml.etree.ElementTree") 289)),(DictEntry.mk (PyData.keyHash P (.ofString "__firstlineno__")) (Value.str (.ofString "__firstlineno__") 371) (Value.int 11 370)),(DictEntry.mk (PyData.keyHash P (.ofString "__init__")) (Value.str (.ofString "__init__") 393) (Value.ref 67)),(DictEntry.mk (PyData.keyHash P (.ofString "_iter_namespaces")) (Value.str (.ofString "_iter_namespaces") 403) (Value.ref 75)),(DictEntry.mk (PyData.keyHash P (.ofString "_resolve_prefix_name")) (Value.str (.ofString "_resolve_prefix_name") 415) (Value.ref 82)),(DictEntry.mk (PyData.keyHash P (.ofString "_qname")) (Value.str (.ofString "_qname") 428) (Value.ref 90)),(DictEntry.mk (PyData.keyHash P (.ofString "data")) (Value.str (.ofString "data") 436) (Value.ref 97)),(DictEntry.mk (PyData.keyHash P (.ofString "_flush")) (Value.str (.ofString "_flush") 449) (Value.ref 106)),(DictEntry.mk (PyData.keyHash P (.ofString "start_ns")) (Value.str (.ofString "start_ns") 458) (Value.ref 113)),(DictEntry.mk (PyData.keyHash P (.ofString "start")) (Value.str (.ofString "start") 468) (Value.ref 120)),(DictEntry.mk (PyData.keyHash P (.ofString "_start")) (Value.str (.ofString "_start") 474) (Value.ref 126)),(DictEntry.mk (PyData.keyHash P (.ofString "end")) (Value.str (.ofString "end") 482) (Value.ref 133)),(DictEntry.mk (PyData.keyHash P (.ofString "comment")) (Value.str (.ofString "comment") 490) (Value.ref 140)),(DictEntry.mk (PyData.keyHash P (.ofString "pi")) (Value.str (.ofString "pi") 499) (Value.ref 147)),(DictEntry.mk (PyData.keyHash P (.ofString "__static_attributes__")) (Value.str (.ofString "__static_attributes__") 517) (Value.ref 148)),(DictEntry.mk (PyData.keyHash P (.ofString "__dict__")) (Value.str (.ofString "__dict__") 519) (Value.ref 151)),(DictEntry.mk (PyData.keyHash P (.ofString "__weakref__")) (Value.str (.ofString "__weakref__") 521) (Value.ref 152)),(DictEntry.mk (PyData.keyHash P (.ofString "__doc__")) (Value.str (.ofString "__doc__") 522) Value.none)] 4) #[])) ::
(nat_lit 150,(Obj.mk (Value.type "type") none (Data.cls (ClassData.mk (.ofString "C14NWriterTarget") [(Value.type "object")] [(Value.ref 150),(Value.type "object")] 149 (.ofString "C14NWriterTarget") Bool.true [] [] Bool.false none Bool.false)) #[none,none,(some (Value.str (.ofString "C14NWriterTarget") 360)),(some (Value.str (.ofString "C14NWriterTarget") 368)),(some (Value.builtin "object.__new__")),(some (Value.bool Bool.true))])) ::
(nat_lit 151,(Obj.mk (Value.type "getset_descriptor") none (Data.fields #[(Value.str (.ofString "__dict__") 518),(Value.ref 150),(Value.builtin "function.__dict__"),(Value.builtin "function.__dict__#set")]) #[])) ::
(nat_lit 152,(Obj.mk (Value.type "getset_descriptor") none (Data.fields #[(Value.str (.ofString "__weakref__") 520),(Value.ref 150),(Value.builtin "ExceptionGroup.__weakref__"),Value.none]) #[])) ::
(nat_lit 155,(Obj.mk (Value.type "tuple") none (Data.seq #[] 0) #[])) ::
(nat_lit 157,(Obj.mk (Value.type "tuple") none (Data.seq #[(Value.str (.ofString "text") 528)] 0) #[])) ::
(nat_lit 158,(Obj.mk (Value.type "tuple") none (Data.seq #[] 0) #[])) ::
(nat_lit 160,(Obj.mk (Value.type "code") none (Data.fields #[(Value.str (.ofString "_escape_cdata_c14n") 525),(Value.str (.ofString "_escape_cdata_c14n") 526),(Value.str (.ofString "/claim/cut.py") 527),(Value.int 167 0),(Value.int 1 0),(Value.int 0 0),(Value.int 0 0),(Value.int 3 0),(Value.ref 155),(Value.bool Bool.true),(Value.int 276 0),(Value.ref 156),Value.none,(Value.ref 157),(Value.ref 158),(Value.ref 159),(Value.int 529 0),(Value.int 167 0),(Value.str (.ofString "/claim/cut.py") 530)]) #[])) ::
(nat_lit 161,(Obj.mk (Value.type "function") none (Data.func (FuncData.mk (.ofString "_escape_cdata_c14n") (.ofString "_escape_cdata_c14n") (fA (stm 8)) (FuncBody.stmts (fB (stm 8))) (fS (stm 8)) 3 [] Value.none Value.none Value.none (Value.str (.ofString "cpy313.xml.etree.ElementTree") 289) none (Value.ref 160) Value.none 0)) #[])) ::
(nat_lit 162,(Obj.mk (Value.type "tuple") none (Data.seq #[] 0) #[])) ::
(nat_lit 164,(Obj.mk (Value.type "tuple") none (Data.seq #[(Value.str (.ofString "text") 535)] 0) #[])) ::
(nat_lit 165,(Obj.mk (Value.type "tuple") none (Data.seq #[] 0) #[])) ::
(nat_lit 167,(Obj.mk (Value.type "code") none (Data.fields #[(Value.str (.ofString "_escape_attrib_c14n") 532),(Value.str (.ofString "_escape_attrib_c14n") 533),(Value.str (.ofString "/claim/cut.py") 534),(Value.int 180 0),(Value.int 1 0),(Value.int 0 0),(Value.int 0 0),(Value.int 3 0),(Value.ref 162),(Value.bool Bool.true),(Value.int 276 0),(Value.ref 163),Value.none,(Value.ref 164),(Value.ref 165),(Value.ref 166),(Value.int 536 0),(Value.int 180 0),(Value.str (.ofString "/claim/cut.py") 537)]) #[])) ::
(nat_lit 168,(Obj.mk (Value.type "function") none (Data.func (FuncData.mk (.ofString "_escape_attrib_c14n") (.ofString "_escape_attrib_c14n") (fA (stm 9)) (FuncBody.stmts (fB (stm 9))) (fS (stm 9)) 3 [] Value.none Value.none Value.none (Value.str (.ofString "cpy313.xml.etree.ElementTree") 289) none (Value.ref 167) Value.none 0)) #[])) ::
(nat_lit 169,(Obj.mk (Value.type "tuple") none (Data.seq #[] 0) #[])) ::
(nat_lit 171,(Obj.mk (Value.type "tuple") none (Data.seq #[(Value.str (.ofString "want") 546),(Value.str (.ofString "got") 547),(Value.str (.ofString "ws") 548),(Value.str (.ofString "startpos") 549),(Value.str (.ofString "endpos") 550),(Value.str (.ofString "w") 551)] 0) #[])) ::
(nat_lit 172,(Obj.mk (Value.type "tuple") none (Data.seq #[] 0) #[])) ::
(nat_lit 174,(Obj.mk (Value.type "code") none (Data.fields #[(Value.str (.ofString "_ellipsis_match") 543),(Value.str (.ofString "_ellipsis_match") 544),(Value.str (.ofString "/claim/cut.py") 545),(Value.int 199 0),(Value.int 2 0),(Value.int 0 0),(Value.int 0 0),(Value.int 3 0),(Value.ref 169),(Value.bool Bool.true),(Value.int 276 0),(Value.ref 170),Value.none,(Value.ref 171),(Value.ref 172),(Value.ref 173),(Value.int 552 0),(Value.int 199 0),(Value.str (.ofString "/claim/cut.py") 553)]) #[])) ::
(nat_lit 175,(Obj.mk (Value.type "function") none (Data.func (FuncData.mk (.ofString "_ellipsis_match") (.ofString "_ellipsis_match") (fA (stm 12)) (FuncBody.stmts (fB (stm 12))) (fS (stm 12)) 3 [] Value.none Value.none Value.none (Value.str (.ofString "cpy313.doctest") 539) none (Value.ref 174) Value.none 0)) #[])) ::
(nat_lit 183,(Obj.mk (Value.type "set") none (Data.set #[(65024,(Value.int 65024 573)),(65025,(Value.int 65025 574)),(65026,(Value.int 65026 575)),(65027,(Value.int 65027 576)),(65028,(Value.int 65028 577)),(65029,(Value.int 65029 578)),(6150,(Value.int 6150 559)),(65030,(Value.int 65030 579)),(65031,(Value.int 65031 580)),(65032,(Value.int 65032 581)),(65033,(Value.int 65033 582)),(6155,(Value.int 6155 560)),(6156,(Value.int 6156 561)),(6157,(Value.int 6157 562)),(8203,(Value.int 8203 563)),(8204,(Value.int 8204 564)),(8205,(Value.int 8205 565)),(65034,(Value.int 65034 583)),(65035,(Value.int 65035 584)),(65036,(Value.int 65036 585)),(65037,(Value.int 65037 586)),(65038,(Value.int 65038 587)),(65039,(Value.int 65039 588)),(173,(Value.int 173 557)),(847,(Value.int 847 558)),(8288,(Value.int 8288 566)),(65279,(Value.int 65279 567))] 29 (SetTable.mk 127 #[0,1,2,3,4,5,6,7,8,9,10,11,12,13,14,15,16,17,18,19,20,21,22,45,79,96,127] #[] 0 (Bool.not (Params.followText P "set-order")) 2 Bool.true)) #[])) ::
(nat_lit 187,(Obj.mk (Value.type "tuple") none (Data.seq #[] 0) #[])) ::
(nat_lit 189,(Obj.mk (Value.type "tuple") none (Data.seq #[(Value.str (.ofString "code") 620)] 0) #[])) ::
(nat_lit 190,(Obj.mk (Value.type "tuple") none (Data.seq #[] 0) #[])) ::
(nat_lit 192,(Obj.mk (Value.type "code") none (Data.fields #[(Value.str (.ofString "in_table_b1") 617),(Value.str (.ofString "in_table_b1") 618),(Value.str (.ofString "/claim/cut.py") 619),(Value.int 229 0),(Value.int 1 0),(Value.int 0 0),(Value.int 0 0),(Value.int 3 0),(Value.ref 187),(Value.bool Bool.true),(Value.int 276 0),(Value.ref 188),Value.none,(Value.ref 189),(Value.ref 190),(Value.ref 191),(Value.int 621 0),(Value.int 229 0),(Value.str (.ofString "/claim/cut.py") 622)]) #[])) ::
(nat_lit 193,(Obj.mk (Value.type "function") none (Data.func (FuncData.mk (.ofString "in_table_b1") (.ofString "in_table_b1") (fA (stm 15)) (FuncBody.stmts (fB (stm 15))) (fS (stm 15)) 3 [] Value.none Value.none Value.none (Value.str (.ofString "cpy313.stringprep") 555) none (Value.ref 192) Value.none 0)) #[])) ::
(nat_lit 194,(Obj.mk (Value.type "dict") none (Data.dict (List.toArray (b3Ents 624 (b3Pairs.take 646) ++ b3Tail 2562 (b3Pairs.drop 646))) 650) #[])) ::
(nat_lit 233,(Obj.mk (Value.type "tuple") none (Data.seq #[] 0) #[])) ::
(nat_lit 235,(Obj.mk (Value.type "tuple") none (Data.seq #[(Value.str (.ofString "code") 2578),(Value.str (.ofString "r") 2579)] 0) #[])) ::
(nat_lit 236,(Obj.mk (Value.type "tuple") none (Data.seq #[] 0) #[])) ::
(nat_lit 238,(Obj.mk (Value.type "code") none (Data.fields #[(Value.str (.ofString "map_table_b3") 2575),(Value.str (.ofString "map_table_b3") 2576),(Value.str (.ofString "/claim/cut.py") 2577),(Value.int 232 0),(Value.int 1 0),(Value.int 0 0),(Value.int 0 0),(Value.int 3 0),(Value.ref 233),(Value.bool Bool.true),(Value.int 276 0),(Value.ref 234),Value.none,(Value.ref 235),(Value.ref 236),(Value.ref 237),(Value.int 2580 0),(Value.int 232 0),(Value.str (.ofString "/claim/cut.py") 2581)]) #[])) ::
(nat_lit 239,(Obj.mk (Value.type "function") none (Data.func (FuncData.mk (.ofString "map_table_b3") (.ofString "map_table_b3") (fA (stm 17)) (FuncBody.stmts (fB (stm 17))) (fS (stm 17)) 3 [] Value.none Value.none Value.none (Value.str (.ofString "cpy313.stringprep") 555) none (Value.ref 238) Value.none 0)) #[])) ::
(nat_lit 240,(Obj.mk (Value.type "tuple") none (Data.seq #[] 0) #[])) ::
(nat_lit 242,(Obj.mk (Value.type "tuple") none (Data.seq #[(Value.str (.ofString "dress") 2588),(Value.str (.ofString "letter") 2589),(Value.str (.ofString "codes") 2590),(Value.str (.ofString "firsts") 2591)] 0) #[])) ::
(nat_lit 243,(Obj.mk (Value.type "tuple") none (Data.seq #[] 0) #[])) ::
(nat_lit 245,(Obj.mk (Value.type "code") none (Data.fields #[(Value.str (.ofString "_law_dressed") 2585),(Value.str (.ofString "_law_dressed") 2586),(Value.str (.ofString "/claim/cut.py") 2587),(Value.int 238 0),(Value.int 2 0),(Value.int 0 0),(Value.int 0 0),(Value.int 3 0),(Value.ref 240),(Value.bool Bool.true),(Value.int 276 0),(Value.ref 241),Value.none,(Value.ref 242),(Value.ref 243),(Value.ref 244),(Value.int 2592 0),(Value.int 238 0),(Value.str (.ofString "/claim/cut.py") 2593)]) #[])) ::
(nat_lit 246,(Obj.mk (Value.type "function") none (Data.func (FuncData.mk (.ofString "_law_dressed") (.ofString "_law_dressed") (fA (stm 19)) (FuncBody.stmts (fB (stm 19))) (fS (stm 19)) 3 [] Value.none Value.none Value.none (Value.str (.ofString "law_ti0079_01") 2583) none (Value.ref 245) Value.none 0)) #[])) ::
(nat_lit 247,(Obj.mk (Value.type "tuple") none (Data.seq #[] 0) #[])) ::
(nat_lit 249,(Obj.mk (Value.type "tuple") none (Data.seq #[(Value.str (.ofString "stock") 2598),(Value.str (.ofString "numbers") 2599),(Value.str (.ofString "picked") 2600),(Value.str (.ofString "number") 2601),(Value.str (.ofString "place") 2602)] 0) #[])) ::
(nat_lit 250,(Obj.mk (Value.type "tuple") none (Data.seq #[] 0) #[])) ::
(nat_lit 252,(Obj.mk (Value.type "code") none (Data.fields #[(Value.str (.ofString "_law_picked") 2595),(Value.str (.ofString "_law_picked") 2596),(Value.str (.ofString "/claim/cut.py") 2597),(Value.int 246 0),(Value.int 2 0),(Value.int 0 0),(Value.int 0 0),(Value.int 3 0),(Value.ref 247),(Value.bool Bool.true),(Value.int 276 0),(Value.ref 248),Value.none,(Value.ref 249),(Value.ref 250),(Value.ref 251),(Value.int 2603 0),(Value.int 246 0),(Value.str (.ofString "/claim/cut.py") 2604)]) #[])) ::
(nat_lit 253,(Obj.mk (Value.type "function") none (Data.func (FuncData.mk (.ofString "_law_picked") (.ofString "_law_picked") (fA (stm 20)) (FuncBody.stmts (fB (stm 20))) (fS (stm 20)) 3 [] Value.none Value.none Value.none (Value.str (.ofString "law_ti0079_01") 2583) none (Value.ref 252) Value.none 0)) #[])) ::
(nat_lit 254,(Obj.mk (Value.type "tuple") none (Data.seq #[] 0) #[])) ::
(nat_lit 257,(Obj.mk (Value.type "code") none (Data.fields #[(Value.str (.ofString "_law_page") 2606),(Value.str (.ofString "_law_page") 2607),(Value.str (.ofString "/claim/cut.py") 2608),(Value.int 253 0),(Value.int 2 0),(Value.int 0 0),(Value.int 0 0),(Value.int 3 0),(Value.ref 254),(Value.bool Bool.true),(Value.int 276 0),(Value.ref 255),Value.none,Value.none,Value.none,(Value.ref 256),(Value.int 2609 0),(Value.int 253 0),(Value.str (.ofString "/claim/cut.py") 2610)]) #[])) ::
(nat_lit 258,(Obj.mk (Value.type "function") none (Data.func (FuncData.mk (.ofString "_law_page") (.ofString "_law_page") (fA (stm 21)) (FuncBody.stmts (fB (stm 21))) (fS (stm 21)) 3 [] Value.none Value.none Value.none (Value.str (.ofString "law_ti0079_01") 2583) none (Value.ref 257) Value.none 0)) #[])) ::
(nat_lit 259,(Obj.mk (Value.type "tuple") none (Data.seq #[] 0) #[])) ::
(nat_lit 262,(Obj.mk (Value.type "code") none (Data.fields #[(Value.str (.ofString "_law_prepared") 2612),(Value.str (.ofString "_law_prepared") 2613),(Value.str (.ofString "/claim/cut.py") 2614),(Value.int 258 0),(Value.int 1 0),(Value.int 0 0),(Value.int 0 0),(Value.int 3 0),(Value.ref 259),(Value.bool Bool.true),(Value.int 276 0),(Value.ref 260),Value.none,Value.none,Value.none,(Value.ref 261),(Value.int 2615 0),(Value.int 258 0),(Value.str (.ofString "/claim/cut.py") 2616)]) #[])) ::
(nat_lit 263,(Obj.mk (Value.type "function") none (Data.func (FuncData.mk (.ofString "_law_prepared") (.ofString "_law_prepared") (fA (stm 22)) (FuncBody.stmts (fB (stm 22))) (fS (stm 22)) 3 [] Value.none Value.none Value.none (Value.str (.ofString "law_ti0079_01") 2583) none (Value.ref 262) Value.none 0)) #[])) ::
(nat_lit 264,(Obj.mk (Value.type "tuple") none (Data.seq #[] 0) #[])) ::
(nat_lit 267,(Obj.mk (Value.type "code") none (Data.fields #[(Value.str (.ofString "_law_question") 2618),(Value.str (.ofString "_law_question") 2619),(Value.str (.ofString "/claim/cut.py") 2620),(Value.int 264 0),(Value.int 2 0),(Value.int 0 0),(Value.int 0 0),(Value.int 3 0),(Value.ref 264),(Value.bool Bool.true),(Value.int 276 0),(Value.ref 265),Value.none,Value.none,Value.none,(Value.ref 266),(Value.int 2621 0),(Value.int 264 0),(Value.str (.ofString "/claim/cut.py") 2622)]) #[])) ::
(nat_lit 268,(Obj.mk (Value.type "function") none (Data.func (FuncData.mk (.ofString "_law_question") (.ofString "_law_question") (fA (stm 23)) (FuncBody.stmts (fB (stm 23))) (fS (stm 23)) 3 [] Value.none Value.none Value.none (Value.str (.ofString "law_ti0079_01") 2583) none (Value.ref 267) Value.none 0)) #[])) ::
(nat_lit 269,(Obj.mk (Value.type "tuple") none (Data.seq #[] 0) #[])) ::
(nat_lit 272,(Obj.mk (Value.type "code") none (Data.fields #[(Value.str (.ofString "_law_falls") 2624),(Value.str (.ofString "_law_falls") 2625),(Value.str (.ofString "/claim/cut.py") 2626),(Value.int 266 0),(Value.int 1 0),(Value.int 0 0),(Value.int 0 0),(Value.int 3 0),(Value.ref 269),(Value.bool Bool.true),(Value.int 276 0),(Value.ref 270),Value.none,Value.none,Value.none,(Value.ref 271),(Value.int 2627 0),(Value.int 266 0),(Value.str (.ofString "/claim/cut.py") 2628)]) #[])) ::
(nat_lit 273,(Obj.mk (Value.type "function") none (Data.func (FuncData.mk (.ofString "_law_falls") (.ofString "_law_falls") (fA (stm 24)) (FuncBody.stmts (fB (stm 24))) (fS (stm 24)) 3 [] Value.none Value.none Value.none (Value.str (.ofString "law_ti0079_01") 2583) none (Value.ref 272) Value.none 0)) #[])) ::
(nat_lit 274,(Obj.mk (Value.type "tuple") none (Data.seq #[] 0) #[])) ::
(nat_lit 276,(Obj.mk (Value.type "tuple") none (Data.seq #[(Value.str (.ofString "things") 2633),(Value.str (.ofString "size") 2634),(Value.str (.ofString "total") 2635),(Value.str (.ofString "k") 2636)] 0) #[])) ::
(nat_lit 277,(Obj.mk (Value.type "tuple") none (Data.seq #[] 0) #[])) ::
(nat_lit 279,(Obj.mk (Value.type "code") none (Data.fields #[(Value.str (.ofString "_law_choices") 2630),(Value.str (.ofString "_law_choices") 2631),(Value.str (.ofString "/claim/cut.py") 2632),(Value.int 268 0),(Value.int 2 0),(Value.int 0 0),(Value.int 0 0),(Value.int 3 0),(Value.ref 274),(Value.bool Bool.true),(Value.int 276 0),(Value.ref 275),Value.none,(Value.ref 276),(Value.ref 277),(Value.ref 278),(Value.int 2637 0),(Value.int 268 0),(Value.str (.ofString "/claim/cut.py") 2638)]) #[])) ::
(nat_lit 280,(Obj.mk (Value.type "function") none (Data.func (FuncData.mk (.ofString "_law_choices") (.ofString "_law_choices") (fA (stm 25)) (FuncBody.stmts (fB (stm 25))) (fS (stm 25)) 3 [] Value.none Value.none Value.none (Value.str (.ofString "law_ti0079_01") 2583) none (Value.ref 279) Value.none 0)) #[])) ::
(nat_lit 281,(Obj.mk (Value.type "tuple") none (Data.seq #[] 0) #[])) ::
(nat_lit 284,(Obj.mk (Value.type "code") none (Data.fields #[(Value.str (.ofString "law") 2640),(Value.str (.ofString "law") 2641),(Value.str (.ofString "/claim/cut.py") 2642),(Value.int 273 0),(Value.int 1 0),(Value.int 0 0),(Value.int 0 0),(Value.int 3 0),(Value.ref 281),(Value.bool Bool.true),(Value.int 276 0),(Value.ref 282),Value.none,Value.none,Value.none,(Value.ref 283),(Value.int 2643 0),(Value.int 273 0),(Value.str (.ofString "/claim/cut.py") 2644)]) #[])) ::
(nat_lit 285,(Obj.mk (Value.type "function") none (Data.func (FuncData.mk (.ofString "law") (.ofString "law") (fA (stm 26)) (FuncBody.stmts (fB (stm 26))) (fS (stm 26)) 3 [] Value.none Value.none Value.none (Value.str (.ofString "law_ti0079_01") 2583) none (Value.ref 284) Value.none 0)) #[])) :: []
end Mine
end
section
open PySem PySem.W PyProof.Rows PySem.Challenge
namespace Mine
noncomputable abbrev b3At (j:Nat):List DictEntry := b3Ents (624 + 51 * j) ((b3Pairs.drop (17 * j)).take 17)
noncomputable abbrev lifeH:Life := Life.mk [] [] [] 0 [] [] false #[] [] 0 false false false 0 [2000,10,10] false 0 true [] [] 0 false
noncomputable abbrev drawH:Drawn := Drawn.mk 0 0 0 0
noncomputable abbrev gensH:Array GenState := Array.mk []
noncomputable abbrev pH:Program := rw_ti0079_01.prog
noncomputable def envH:Env := { scope := pH.main.scope,locals := mainNs,globals := mainNs,cells := [],code := .ref 30,frame := some 31 }
noncomputable abbrev cH:Code := .body (behindTheImports pH) envH
noncomputable abbrev BH:List Frame := [topFrame ⟨0,0,0,0⟩]
noncomputable abbrev stH (T:Params -> BT) (n tk:Nat) (w:World) (os:OsState):SharedT := SharedT.mk (T w.params) n lifeH gensH drawH tk os
noncomputable abbrev eS (P:Params) (x:String) (n:Tok) (v:Value):DictEntry := DictEntry.mk (PyData.keyHash P (.ofString x)) (Value.str (.ofString x) n) v
noncomputable abbrev vS (x:String) (n:Tok):Value := .str (.ofString x) n
noncomputable abbrev vC (l:List Nat) (n:Tok):Value := .str ⟨⟨l⟩⟩ n
noncomputable abbrev vR (n:Addr):Value := .ref n
noncomputable abbrev vI (n:Int):Value := .int n 0
noncomputable abbrev oT (l:List Value):Obj := Obj.mk (Value.type "tuple") none (Data.seq (List.toArray l) 0) #[]
noncomputable abbrev oF (l:List Value):Obj := Obj.mk Value.none none (Data.fields (List.toArray l)) #[]
noncomputable abbrev oC (l:List Value):Obj := Obj.mk (Value.type "code") none (Data.fields (List.toArray l)) #[]
noncomputable abbrev oD (l:List DictEntry) (n:Nat):Obj := Obj.mk (Value.type "dict") none (Data.dict (List.toArray l) n) #[]
noncomputable abbrev oM (f:FuncData):Obj := Obj.mk (Value.type "function") none (Data.func f) #[]
noncomputable abbrev oN (f:FuncData):Obj := Obj.mk Value.none none (Data.func f) #[]
noncomputable abbrev cut:String := "/claim/cut.py"
noncomputable abbrev fF (n q:String) (s:Stmt) (g:Addr) (d kd doc pm:Value) (an:Option Addr) (c ct:Value) (b:Addr):FuncData := FuncData.mk (.ofString n) (.ofString q) (fA s) (.stmts (fB s)) (fS s) g [] d kd doc pm an c ct b
noncomputable abbrev nd (o:Obj) (l r:BT):BT := .node o l r
noncomputable abbrev lf (o:Obj):BT := .node o .nil .nil
noncomputable abbrev nl:BT := .nil
noncomputable abbrev o0v0 (P:Params):Obj := (Obj.mk (Value.type "dict") none (Data.dict (List.toArray ((eS P "__name__" 1 (vS "builtins" 160))::(eS P "__doc__" 2 (Value.builtin "builtins.__doc__:str#opaque"))::(eS P "__package__" 3 (Value.builtin "builtins.__package__:str#opaque"))::(eS P "__loader__" 4 (Value.builtin "builtins.__loader__:shared#opaque"))::(eS P "__spec__" 5 (Value.builtin "builtins.__spec__#opaque"))::(eS P "__build_class__" 6 (Value.builtin "__build_class__"))::(eS P "__import__" 7 (Value.builtin "__import__"))::(eS P "abs" 8 (Value.builtin "abs"))::(eS P "all" 9 (Value.builtin "all"))::(eS P "any" 10 (Value.builtin "any"))::(eS P "ascii" 11 (Value.builtin "ascii"))::(eS P "bin" 12 (Value.builtin "bin"))::(eS P "breakpoint" 13 (Value.builtin "breakpoint"))::(eS P "callable" 14 (Value.builtin "callable"))::(eS P "chr" 15 (Value.builtin "chr"))::(eS P "compile" 16 (Value.builtin "compile"))::(eS P "delattr" 17 (Value.builtin "delattr"))::(eS P "dir" 18 (Value.builtin "dir"))::(eS P "divmod" 19 (Value.builtin "divmod"))::(eS P "eval" 20 (Value.builtin "eval"))::(eS P "exec" 21 (Value.builtin "exec"))::(eS P "format" 22 (Value.builtin "format"))::(eS P "getattr" 23 (Value.builtin "getattr"))::(eS P "globals" 24 (Value.builtin "globals"))::(eS P "hasattr" 25 (Value.builtin "hasattr"))::(eS P "hash" 26 (Value.builtin "hash"))::(eS P "hex" 27 (Value.builtin "hex"))::(eS P "id" 28 (Value.builtin "id"))::(eS P "input" 29 (Value.builtin "input"))::(eS P "isinstance" 30 (Value.builtin "isinstance"))::(eS P "issubclass" 31 (Value.builtin "issubclass"))::(eS P "iter" 32 (Value.builtin "iter"))::(eS P "aiter" 33 (Value.builtin "aiter"))::(eS P "len" 34 (Value.builtin "len"))::(eS P "locals" 35 (Value.builtin "locals"))::(eS P "max" 36 (Value.builtin "max"))::(eS P "min" 37 (Value.builtin "min"))::(eS P "next" 38 (Value.builtin "next"))::(eS P "anext" 39 (Value.builtin "anext"))::(eS P "oct" 40 (Value.builtin "oct"))::(eS P "ord" 41 (Value.builtin "ord"))::(eS P "pow" 42 (Value.builtin "pow"))::(eS P "print" 43 (Value.builtin "print"))::(eS P "repr" 44 (Value.builtin "repr"))::(eS P "round" 45 (Value.builtin "round"))::(eS P "setattr" 46 (Value.builtin "setattr"))::(eS P "sorted" 47 (Value.builtin "sorted"))::(eS P "sum" 48 (Value.builtin "sum"))::(eS P "vars" 49 (Value.builtin "vars"))::(eS P "None" 50 Value.none)::(eS P "Ellipsis" 51 Value.ellipsis)::(eS P "NotImplemented" 52 Value.notImplemented)::(eS P "False" 53 (Value.bool Bool.false))::(eS P "True" 54 (Value.bool Bool.true))::(eS P "bool" 55 (Value.type "bool"))::(eS P "memoryview" 56 (Value.type "memoryview"))::(eS P "bytearray" 57 (Value.type "bytearray"))::(eS P "bytes" 58 (Value.type "bytes"))::(eS P "classmethod" 59 (Value.type "classmethod"))::(eS P "complex" 60 (Value.type "complex"))::(eS P "dict" 61 (Value.type "dict"))::(eS P "enumerate" 62 (Value.type "enumerate"))::(eS P "filter" 63 (Value.type "filter"))::(eS P "float" 64 (Value.type "float"))::(eS P "frozenset" 65 (Value.type "frozenset"))::(eS P "property" 66 (Value.type "property"))::(eS P "int" 67 (Value.type "int"))::(eS P "list" 68 (Value.type "list"))::(eS P "map" 69 (Value.type "map"))::(eS P "object" 70 (Value.type "object"))::(eS P "range" 71 (Value.type "range"))::(eS P "reversed" 72 (Value.type "reversed"))::(eS P "set" 73 (Value.type "set"))::(eS P "slice" 74 (Value.type "slice"))::(eS P "staticmethod" 75 (Value.type "staticmethod"))::(eS P "str" 76 (Value.type "str"))::(eS P "super" 77 (Value.type "super"))::(eS P "tuple" 78 (Value.type "tuple"))::(eS P "type" 79 (Value.type "type"))::(eS P "zip" 80 (Value.type "zip"))::(eS P "__debug__" 81 (Value.bool Bool.true))::(eS P "BaseException" 82 (Value.type "BaseException"))::(eS P "BaseExceptionGroup" 83 (Value.type "BaseExceptionGroup"))::(eS P "Exception" 84 (Value.type "Exception"))::(eS P "GeneratorExit" 85 (Value.type "GeneratorExit"))::(eS P "KeyboardInterrupt" 86 (Value.type "KeyboardInterrupt"))::(eS P "SystemExit" 87 (Value.type "SystemExit"))::(eS P "ArithmeticError" 88 (Value.type "ArithmeticError"))::(eS P "AssertionError" 89 (Value.type "AssertionError"))::(eS P "AttributeError" 90 (Value.type "AttributeError"))::(eS P "BufferError" 91 (Value.type "BufferError"))::(eS P "EOFError" 92 (Value.type "EOFError"))::(eS P "ImportError" 93 (Value.type "ImportError"))::(eS P "LookupError" 94 (Value.type "LookupError"))::(eS P "MemoryError" 95 (Value.type "MemoryError"))::(eS P "NameError" 96 (Value.type "NameError"))::(eS P "OSError" 97 (Value.type "OSError"))::(eS P "ReferenceError" 98 (Value.type "ReferenceError"))::(eS P "RuntimeError" 99 (Value.type "RuntimeError"))::(eS P "StopAsyncIteration" 100 (Value.type "StopAsyncIteration"))::(eS P "StopIteration" 101 (Value.type "StopIteration"))::(eS P "SyntaxError" 102 (Value.type "SyntaxError"))::(eS P "SystemError" 103 (Value.type "SystemError"))::(eS P "TypeError" 104 (Value.type "TypeError"))::(eS P "ValueError" 105 (Value.type "ValueError"))::(eS P "Warning" 106 (Value.type "Warning"))::(eS P "FloatingPointError" 107 (Value.type "FloatingPointError"))::(eS P "OverflowError" 108 (Value.type "OverflowError"))::(eS P "ZeroDivisionError" 109 (Value.type "ZeroDivisionError"))::(eS P "BytesWarning" 110 (Value.type "BytesWarning"))::(eS P "DeprecationWarning" 111 (Value.type "DeprecationWarning"))::(eS P "EncodingWarning" 112 (Value.type "EncodingWarning"))::(eS P "FutureWarning" 113 (Value.type "FutureWarning"))::(eS P "ImportWarning" 114 (Value.type "ImportWarning"))::(eS P "PendingDeprecationWarning" 115 (Value.type "PendingDeprecationWarning"))::(eS P "ResourceWarning" 116 (Value.type "ResourceWarning"))::(eS P "RuntimeWarning" 117 (Value.type "RuntimeWarning"))::(eS P "SyntaxWarning" 118 (Value.type "SyntaxWarning"))::(eS P "UnicodeWarning" 119 (Value.type "UnicodeWarning"))::(eS P "UserWarning" 120 (Value.type "UserWarning"))::(eS P "BlockingIOError" 121 (Value.type "BlockingIOError"))::(eS P "ChildProcessError" 122 (Value.type "ChildProcessError"))::(eS P "ConnectionError" 123 (Value.type "ConnectionError"))::(eS P "FileExistsError" 124 (Value.type "FileExistsError"))::(eS P "FileNotFoundError" 125 (Value.type "FileNotFoundError"))::(eS P "InterruptedError" 126 (Value.type "InterruptedError"))::(eS P "IsADirectoryError" 127 (Value.type "IsADirectoryError"))::(eS P "NotADirectoryError" 128 (Value.type "NotADirectoryError"))::(eS P "PermissionError" 129 (Value.type "PermissionError"))::(eS P "ProcessLookupError" 130 (Value.type "ProcessLookupError"))::(eS P "TimeoutError" 131 (Value.type "TimeoutError"))::(eS P "IndentationError" 132 (Value.type "IndentationError"))::(eS P "_IncompleteInputError" 133 (Value.type "_IncompleteInputError"))::(eS P "IndexError" 134 (Value.type "IndexError"))::(eS P "KeyError" 135 (Value.type "KeyError"))::(eS P "ModuleNotFoundError" 136 (Value.type "ModuleNotFoundError"))::(eS P "NotImplementedError" 137 (Value.type "NotImplementedError"))::(eS P "PythonFinalizationError" 138 (Value.type "PythonFinalizationError"))::(eS P "RecursionError" 139 (Value.type "RecursionError"))::(eS P "UnboundLocalError" 140 (Value.type "UnboundLocalError"))::(eS P "UnicodeError" 141 (Value.type "UnicodeError"))::(eS P "BrokenPipeError" 142 (Value.type "BrokenPipeError"))::(eS P "ConnectionAbortedError" 143 (Value.type "ConnectionAbortedError"))::(eS P "ConnectionRefusedError" 144 (Value.type "ConnectionRefusedError"))::(eS P "ConnectionResetError" 145 (Value.type "ConnectionResetError"))::(eS P "TabError" 146 (Value.type "TabError"))::(eS P "UnicodeDecodeError" 147 (Value.type "UnicodeDecodeError"))::(eS P "UnicodeEncodeError" 148 (Value.type "UnicodeEncodeError"))::(eS P "UnicodeTranslateError" 149 (Value.type "UnicodeTranslateError"))::(eS P "ExceptionGroup" 150 (Value.type "ExceptionGroup"))::(eS P "EnvironmentError" 151 (Value.type "OSError"))::(eS P "IOError" 152 (Value.type "OSError"))::(eS P "open" 153 (Value.builtin "open"))::(eS P "quit" 154 (Value.builtin "builtins.quit#opaque"))::(eS P "exit" 155 (Value.builtin "builtins.exit#opaque"))::(eS P "copyright" 156 (Value.builtin "builtins.copyright#opaque"))::(eS P "credits" 157 (Value.builtin "builtins.credits#opaque"))::(eS P "license" 158 (Value.builtin "builtins.license#opaque"))::(eS P "help" 159 (Value.builtin "builtins.help#opaque"))::[])) 159) #[])
noncomputable abbrev o1v0 (P:Params):Obj := oD [eS P "builtins" 162 (vR 4),eS P "__main__" 163 (vR 5),eS P "_sre" 244 (vR 12)] 3
noncomputable abbrev o2v0 (P:Params):Obj := (Obj.mk Value.none none (Data.dict #[eS P "\x69mport.loaded._sre" 183 (Value.bool Bool.true),eS P "class._frozen_importlib.BuiltinImporter" 185 (vR 14),eS P "watched.\x69mport" 206 (vR 18),eS P "class._frozen_importlib.ModuleSpec" 216 (vR 22),eS P "sys.modules.booked-epoch" 245 (vI 3),eS P "\x69mport.later-laid._sre" 270 (Value.bool Bool.true),eS P "watched.library" 272 (vR 27),eS P "watched.library-objects" 0 (vS "\x0c" 0),eS P "watched.library-deep._sre" 273 (vS "\x04\x00\x00\x0b\x04\x00\x00\x0b\x04\x00\x00\x03\x04\x00\x00\x0b\x08\x04dict\x02" 0)] 9) #[])
noncomputable abbrev o3v0 (P:Params):Obj := oD [eS P "__name__" 165 (vS "__main__" 164),eS P "__doc__" 166 Value.none,eS P "__package__" 167 Value.none,eS P "__loader__" 168 (Value.builtin "__main__.__loader__#opaque"),eS P "__spec__" 169 Value.none,eS P "__annotations__" 170 (vR 6),eS P "__builtins__" 171 (vR 4),eS P "__file__" 173 (vS cut 172),eS P "__cached__" 174 Value.none,eS P "_sre" 275 (vR 12)] 10
noncomputable abbrev o3v1 (P:Params):Obj := oD [eS P "__name__" 165 (vS "cpy313.xml.etree.ElementTree" 289),eS P "__doc__" 166 Value.none,eS P "__package__" 167 Value.none,eS P "__loader__" 168 (Value.builtin "__main__.__loader__#opaque"),eS P "__spec__" 169 Value.none,eS P "__annotations__" 170 (vR 6),eS P "__builtins__" 171 (vR 4),eS P "__file__" 173 (vS cut 172),eS P "__cached__" 174 Value.none,eS P "_sre" 275 (vR 12),eS P "_wall" 288 (vR 38),eS P "_twin_re_1" 328 (vR 43)] 12
noncomputable abbrev o3v2 (P:Params):Obj := oD [eS P "__name__" 165 (vS "cpy313.xml.etree.ElementTree" 289),eS P "__doc__" 166 Value.none,eS P "__package__" 167 Value.none,eS P "__loader__" 168 (Value.builtin "__main__.__loader__#opaque"),eS P "__spec__" 169 Value.none,eS P "__annotations__" 170 (vR 6),eS P "__builtins__" 171 (vR 4),eS P "__file__" 173 (vS cut 172),eS P "__cached__" 174 Value.none,eS P "_sre" 275 (vR 12),eS P "_wall" 288 (vR 38),eS P "_twin_re_1" 328 (vR 43),eS P "_namespace_map" 350 (vR 44)] 13
noncomputable abbrev o3v3 (P:Params):Obj := oD [eS P "__name__" 165 (vS "cpy313.xml.etree.ElementTree" 289),eS P "__doc__" 166 Value.none,eS P "__package__" 167 Value.none,eS P "__loader__" 168 (Value.builtin "__main__.__loader__#opaque"),eS P "__spec__" 169 Value.none,eS P "__annotations__" 170 (vR 6),eS P "__builtins__" 171 (vR 4),eS P "__file__" 173 (vS cut 172),eS P "__cached__" 174 Value.none,eS P "_sre" 275 (vR 12),eS P "_wall" 288 (vR 38),eS P "_twin_re_1" 328 (vR 43),eS P "_namespace_map" 350 (vR 44),eS P "_raise_serialization_error" 357 (vR 51),eS P "_looks_like_prefix_name" 359 (vR 52)] 15
noncomputable abbrev o3v4 (P:Params):Obj := oD [eS P "__name__" 165 (vS "cpy313.xml.etree.ElementTree" 289),eS P "__doc__" 166 Value.none,eS P "__package__" 167 Value.none,eS P "__loader__" 168 (Value.builtin "__main__.__loader__#opaque"),eS P "__spec__" 169 Value.none,eS P "__annotations__" 170 (vR 6),eS P "__builtins__" 171 (vR 4),eS P "__file__" 173 (vS cut 172),eS P "__cached__" 174 Value.none,eS P "_sre" 275 (vR 12),eS P "_wall" 288 (vR 38),eS P "_twin_re_1" 328 (vR 43),eS P "_namespace_map" 350 (vR 44),eS P "_raise_serialization_error" 357 (vR 51),eS P "_looks_like_prefix_name" 359 (vR 52),eS P "C14NWriterTarget" 524 (vR 150)] 16
noncomputable abbrev o3v5 (P:Params):Obj := oD [eS P "__name__" 165 (vS "cpy313.stringprep" 555),eS P "__doc__" 166 Value.none,eS P "__package__" 167 Value.none,eS P "__loader__" 168 (Value.builtin "__main__.__loader__#opaque"),eS P "__spec__" 169 Value.none,eS P "__annotations__" 170 (vR 6),eS P "__builtins__" 171 (vR 4),eS P "__file__" 173 (vS cut 172),eS P "__cached__" 174 Value.none,eS P "_sre" 275 (vR 12),eS P "_wall" 288 (vR 38),eS P "_twin_re_1" 328 (vR 43),eS P "_namespace_map" 350 (vR 44),eS P "_raise_serialization_error" 357 (vR 51),eS P "_looks_like_prefix_name" 359 (vR 52),eS P "C14NWriterTarget" 524 (vR 150),eS P "_escape_cdata_c14n" 531 (vR 161),eS P "_escape_attrib_c14n" 538 (vR 168),eS P "ELLIPSIS_MARKER" 542 (vS "..." 541),eS P "_ellipsis_match" 554 (vR 175)] 20
noncomputable abbrev o3v6 (P:Params):Obj := oD [eS P "__name__" 165 (vS "cpy313.stringprep" 555),eS P "__doc__" 166 Value.none,eS P "__package__" 167 Value.none,eS P "__loader__" 168 (Value.builtin "__main__.__loader__#opaque"),eS P "__spec__" 169 Value.none,eS P "__annotations__" 170 (vR 6),eS P "__builtins__" 171 (vR 4),eS P "__file__" 173 (vS cut 172),eS P "__cached__" 174 Value.none,eS P "_sre" 275 (vR 12),eS P "_wall" 288 (vR 38),eS P "_twin_re_1" 328 (vR 43),eS P "_namespace_map" 350 (vR 44),eS P "_raise_serialization_error" 357 (vR 51),eS P "_looks_like_prefix_name" 359 (vR 52),eS P "C14NWriterTarget" 524 (vR 150),eS P "_escape_cdata_c14n" 531 (vR 161),eS P "_escape_attrib_c14n" 538 (vR 168),eS P "ELLIPSIS_MARKER" 542 (vS "..." 541),eS P "_ellipsis_match" 554 (vR 175),eS P "b1_set" 616 (vR 183)] 21
noncomputable abbrev o3v7 (P:Params):Obj := oD [eS P "__name__" 165 (vS "cpy313.stringprep" 555),eS P "__doc__" 166 Value.none,eS P "__package__" 167 Value.none,eS P "__loader__" 168 (Value.builtin "__main__.__loader__#opaque"),eS P "__spec__" 169 Value.none,eS P "__annotations__" 170 (vR 6),eS P "__builtins__" 171 (vR 4),eS P "__file__" 173 (vS cut 172),eS P "__cached__" 174 Value.none,eS P "_sre" 275 (vR 12),eS P "_wall" 288 (vR 38),eS P "_twin_re_1" 328 (vR 43),eS P "_namespace_map" 350 (vR 44),eS P "_raise_serialization_error" 357 (vR 51),eS P "_looks_like_prefix_name" 359 (vR 52),eS P "C14NWriterTarget" 524 (vR 150),eS P "_escape_cdata_c14n" 531 (vR 161),eS P "_escape_attrib_c14n" 538 (vR 168),eS P "ELLIPSIS_MARKER" 542 (vS "..." 541),eS P "_ellipsis_match" 554 (vR 175),eS P "b1_set" 616 (vR 183),eS P "in_table_b1" 623 (vR 193)] 22
noncomputable abbrev o3v8 (P:Params):Obj := oD [eS P "__name__" 165 (vS "cpy313.stringprep" 555),eS P "__doc__" 166 Value.none,eS P "__package__" 167 Value.none,eS P "__loader__" 168 (Value.builtin "__main__.__loader__#opaque"),eS P "__spec__" 169 Value.none,eS P "__annotations__" 170 (vR 6),eS P "__builtins__" 171 (vR 4),eS P "__file__" 173 (vS cut 172),eS P "__cached__" 174 Value.none,eS P "_sre" 275 (vR 12),eS P "_wall" 288 (vR 38),eS P "_twin_re_1" 328 (vR 43),eS P "_namespace_map" 350 (vR 44),eS P "_raise_serialization_error" 357 (vR 51),eS P "_looks_like_prefix_name" 359 (vR 52),eS P "C14NWriterTarget" 524 (vR 150),eS P "_escape_cdata_c14n" 531 (vR 161),eS P "_escape_attrib_c14n" 538 (vR 168),eS P "ELLIPSIS_MARKER" 542 (vS "..." 541),eS P "_ellipsis_match" 554 (vR 175),eS P "b1_set" 616 (vR 183),eS P "in_table_b1" 623 (vR 193),eS P "b3_exceptions" 2574 (vR 194)] 23
noncomputable abbrev o3v9 (P:Params):Obj := oD [eS P "__name__" 165 (vS "law_ti0079_01" 2583),eS P "__doc__" 166 Value.none,eS P "__package__" 167 Value.none,eS P "__loader__" 168 (Value.builtin "__main__.__loader__#opaque"),eS P "__spec__" 169 Value.none,eS P "__annotations__" 170 (vR 6),eS P "__builtins__" 171 (vR 4),eS P "__file__" 173 (vS cut 172),eS P "__cached__" 174 Value.none,eS P "_sre" 275 (vR 12),eS P "_wall" 288 (vR 38),eS P "_twin_re_1" 328 (vR 43),eS P "_namespace_map" 350 (vR 44),eS P "_raise_serialization_error" 357 (vR 51),eS P "_looks_like_prefix_name" 359 (vR 52),eS P "C14NWriterTarget" 524 (vR 150),eS P "_escape_cdata_c14n" 531 (vR 161),eS P "_escape_attrib_c14n" 538 (vR 168),eS P "ELLIPSIS_MARKER" 542 (vS "..." 541),eS P "_ellipsis_match" 554 (vR 175),eS P "b1_set" 616 (vR 183),eS P "in_table_b1" 623 (vR 193),eS P "b3_exceptions" 2574 (vR 194),eS P "map_table_b3" 2582 (vR 239),eS P "_law_dressed" 2594 (vR 246),eS P "_law_picked" 2605 (vR 253),eS P "_law_page" 2611 (vR 258),eS P "_law_prepared" 2617 (vR 263),eS P "_law_question" 2623 (vR 268),eS P "_law_falls" 2629 (vR 273),eS P "_law_choices" 2639 (vR 280),eS P "law" 2645 (vR 285)] 32
noncomputable abbrev o4v0 (P:Params):Obj := (Obj.mk (Value.type "module") (some 0) Data.plain #[])
noncomputable abbrev o5v0 (P:Params):Obj := (Obj.mk (Value.type "module") (some 3) Data.plain #[])
noncomputable abbrev o6v0 (P:Params):Obj := oD [] 0
noncomputable abbrev o7v0 (P:Params):Obj := oT []
noncomputable abbrev o8v0 (P:Params):Obj := oF []
noncomputable abbrev o9v0 (P:Params):Obj := oC [vS "<module>" 176,vS "<module>" 177,vS cut 178,vI 1,vI 0,vI 0,vI 0,vI 0,vR 7,(Value.bool Bool.false),vI 175,vR 8,Value.none,Value.none,Value.none,Value.none,vI 179,vI 1,vS cut 180]
noncomputable abbrev o10v0 (P:Params):Obj := (Obj.mk (Value.type "frame") none Data.plain #[(some (vR 9)),(some (vR 3)),(some (vR 3)),none,(some (vS "__main__" 164)),none,(some (vR 0))])
noncomputable abbrev o11v0 (P:Params):Obj := oD [eS P "__name__" 247 (vS "_sre" 246),eS P "__doc__" 248 Value.none,eS P "__package__" 250 (vS "" 249),eS P "__loader__" 251 (Value.builtin "off-the-table:_sre.__loader__:shared#opaque"),eS P "__spec__" 252 (Value.builtin "off-the-table:_sre.__spec__:shared#opaque"),eS P "compile" 253 (Value.builtin "_sre.compile"),eS P "template" 254 (Value.builtin "off-the-table:_sre.template:shared#opaque"),eS P "getcodesize" 255 (Value.builtin "off-the-table:_sre.getcodesize:shared#opaque"),eS P "ascii_iscased" 256 (Value.builtin "off-the-table:_sre.ascii_iscased:shared#opaque"),eS P "unicode_iscased" 257 (Value.builtin "off-the-table:_sre.unicode_iscased:shared#opaque"),eS P "ascii_tolower" 258 (Value.builtin "off-the-table:_sre.ascii_tolower:shared#opaque"),eS P "unicode_tolower" 259 (Value.builtin "off-the-table:_sre.unicode_tolower:shared#opaque"),eS P "MAGIC" 261 (Value.int 20230612 260),eS P "CODESIZE" 263 (Value.int 4 262),eS P "MAXREPEAT" 265 (Value.int 4294967295 264),eS P "MAXGROUPS" 267 (Value.int 1073741823 266),(eS P "copyright" 269 (vS " SRE 2.2.2 Copyright (c) 1997-2002 by Secret Labs AB " 268))] 17
noncomputable abbrev o12v0 (P:Params):Obj := (Obj.mk (Value.type "module") (some 11) Data.plain #[])
noncomputable abbrev o13v0 (P:Params):Obj := oD [eS P "__module__" 189 (vS "_frozen_importlib" 186),eS P "__firstlineno__" 190 (Value.int 971 187),eS P "__doc__" 191 (Value.builtin "_frozen_importlib.BuiltinImporter.__doc__:str#opaque"),eS P "_ORIGIN" 192 (vS "built-in" 188),eS P "find_spec" 193 (Value.builtin "_frozen_importlib.BuiltinImporter.find_spec#opaque"),eS P "create_module" 194 (Value.builtin "_frozen_importlib.BuiltinImporter.create_module#opaque"),eS P "exec_module" 195 (Value.builtin "_frozen_importlib.BuiltinImporter.exec_module#opaque"),eS P "get_code" 196 (Value.builtin "_frozen_importlib.BuiltinImporter.get_code#opaque"),eS P "get_source" 197 (Value.builtin "_frozen_importlib.BuiltinImporter.get_source#opaque"),eS P "is_package" 198 (Value.builtin "_frozen_importlib.BuiltinImporter.is_package#opaque"),eS P "load_module" 199 (Value.builtin "_frozen_importlib.BuiltinImporter.load_module#opaque"),eS P "__static_attributes__" 200 (vR 15),eS P "__dict__" 202 (vR 16),eS P "__weakref__" 204 (vR 17)] 14
noncomputable abbrev o14v0 (P:Params):Obj := (Obj.mk (Value.type "type") none (Data.cls (ClassData.mk (.ofString "BuiltinImporter") [(Value.type "object")] [vR 14,(Value.type "object")] 13 (.ofString "BuiltinImporter") Bool.true [] [] Bool.false none Bool.false)) #[])
noncomputable abbrev o15v0 (P:Params):Obj := oT []
noncomputable abbrev o16v0 (P:Params):Obj := (Obj.mk (Value.type "getset_descriptor") none (Data.fields #[vS "__dict__" 201,vR 14,(Value.builtin "function.__dict__"),(Value.builtin "function.__dict__#set")]) #[])
noncomputable abbrev o17v0 (P:Params):Obj := (Obj.mk (Value.type "getset_descriptor") none (Data.fields #[vS "__weakref__" 203,vR 14,(Value.builtin "ExceptionGroup.__weakref__"),Value.none]) #[])
noncomputable abbrev o18v0 (P:Params):Obj := (Obj.mk Value.none none (Data.seq #[vI 13,(vC [6,189,10,95,95,109,111,100,117,108,101,95,95,6,186,17,95,102,114,111,122,101,110,95,105,109,112,111,114,116,108,105,98,6,190,15,95,95,102,105,114,115,116,108,105,110,101,110,111,95,95,4,187,0,971,6,191,7,95,95,100,111,99,95,95,9,52,95,102,114,111,122,101,110,95,105,109,112,111,114,116,108,105,98,46,66,117,105,108,116,105,110,73,109,112,111,114,116,101,114,46,95,95,100,111,99,95,95,58,115,116,114,35,111,112,97,113,117,101,6,192,7,95,79,82,73,71,73,78,6,188,8,98,117,105,108,116,45,105,110,6,193,9,102,105,110,100,95,115,112,101,99,9,50,95,102,114,111,122,101,110,95,105,109,112,111,114,116,108,105,98,46,66,117,105,108,116,105,110,73,109,112,111,114,116,101,114,46,102,105,110,100,95,115,112,101,99,35,111,112,97,113,117,101,6,194,13,99,114,101,97,116,101,95,109,111,100,117,108,101,9,54,95,102,114,111,122,101,110,95,105,109,112,111,114,116,108,105,98,46,66,117,105,108,116,105,110,73,109,112,111,114,116,101,114,46,99,114,101,97,116,101,95,109,111,100,117,108,101,35,111,112,97,113,117,101,6,195,11,101,120,101,99,95,109,111,100,117,108,101,9,52,95,102,114,111,122,101,110,95,105,109,112,111,114,116,108,105,98,46,66,117,105,108,116,105,110,73,109,112,111,114,116,101,114,46,101,120,101,99,95,109,111,100,117,108,101,35,111,112,97,113,117,101,6,196,8,103,101,116,95,99,111,100,101,9,49,95,102,114,111,122,101,110,95,105,109,112,111,114,116,108,105,98,46,66,117,105,108,116,105,110,73,109,112,111,114,116,101,114,46,103,101,116,95,99,111,100,101,35,111,112,97,113,117,101,6,197,10,103,101,116,95,115,111,117,114,99,101,9,51,95,102,114,111,122,101,110,95,105,109,112,111,114,116,108,105,98,46,66,117,105,108,116,105,110,73,109,112,111,114,116,101,114,46,103,101,116,95,115,111,117,114,99,101,35,111,112,97,113,117,101,6,198,10,105,115,95,112,97,99,107,97,103,101,9,51,95,102,114,111,122,101,110,95,105,109,112,111,114,116,108,105,98,46,66,117,105,108,116,105,110,73,109,112,111,114,116,101,114,46,105,115,95,112,97,99,107,97,103,101,35,111,112,97,113,117,101,6,199,11,108,111,97,100,95,109,111,100,117,108,101,9,52,95,102,114,111,122,101,110,95,105,109,112,111,114,116,108,105,98,46,66,117,105,108,116,105,110,73,109,112,111,114,116,101,114,46,108,111,97,100,95,109,111,100,117,108,101,35,111,112,97,113,117,101,6,200,21,95,95,115,116,97,116,105,99,95,97,116,116,114,105,98,117,116,101,115,95,95,4,0,0,15,6,202,8,95,95,100,105,99,116,95,95,4,0,0,16,6,204,11,95,95,119,101,97,107,114,101,102,95,95,4,0,0,17] 0),(Value.bool Bool.true),(Value.bool Bool.true),vS "" 205,vI 21,(vC [6,227,10,95,95,109,111,100,117,108,101,95,95,6,217,17,95,102,114,111,122,101,110,95,105,109,112,111,114,116,108,105,98,6,228,15,95,95,102,105,114,115,116,108,105,110,101,110,111,95,95,4,218,0,562,6,229,7,95,95,100,111,99,95,95,9,47,95,102,114,111,122,101,110,95,105,109,112,111,114,116,108,105,98,46,77,111,100,117,108,101,83,112,101,99,46,95,95,100,111,99,95,95,58,115,116,114,35,111,112,97,113,117,101,6,230,8,95,95,105,110,105,116,95,95,9,44,95,102,114,111,122,101,110,95,105,109,112,111,114,116,108,105,98,46,77,111,100,117,108,101,83,112,101,99,46,95,95,105,110,105,116,95,95,35,111,112,97,113,117,101,6,231,8,95,95,114,101,112,114,95,95,9,44,95,102,114,111,122,101,110,95,105,109,112,111,114,116,108,105,98,46,77,111,100,117,108,101,83,112,101,99,46,95,95,114,101,112,114,95,95,35,111,112,97,113,117,101,6,232,6,95,95,101,113,95,95,9,42,95,102,114,111,122,101,110,95,105,109,112,111,114,116,108,105,98,46,77,111,100,117,108,101,83,112,101,99,46,95,95,101,113,95,95,35,111,112,97,113,117,101,6,233,6,99,97,99,104,101,100,9,42,95,102,114,111,122,101,110,95,105,109,112,111,114,116,108,105,98,46,77,111,100,117,108,101,83,112,101,99,46,99,97,99,104,101,100,35,111,112,97,113,117,101,6,234,6,112,97,114,101,110,116,9,42,95,102,114,111,122,101,110,95,105,109,112,111,114,116,108,105,98,46,77,111,100,117,108,101,83,112,101,99,46,112,97,114,101,110,116,35,111,112,97,113,117,101,6,235,12,104,97,115,95,108,111,99,97,116,105,111,110,9,48,95,102,114,111,122,101,110,95,105,109,112,111,114,116,108,105,98,46,77,111,100,117,108,101,83,112,101,99,46,104,97,115,95,108,111,99,97,116,105,111,110,35,111,112,97,113,117,101,6,236,21,95,95,115,116,97,116,105,99,95,97,116,116,114,105,98,117,116,101,115,95,95,4,0,0,23,6,238,8,95,95,100,105,99,116,95,95,4,0,0,24,6,240,11,95,95,119,101,97,107,114,101,102,95,95,4,0,0,25,6,241,8,95,95,104,97,115,104,95,95,0] 0),(Value.bool Bool.true),(Value.bool Bool.true),vS "" 242] 1) #[])
noncomputable abbrev o19v0 (P:Params):Obj := (Obj.mk (Value.type "list") none (Data.seq #[] 0) #[])
noncomputable abbrev o20v0 (P:Params):Obj := oD [eS P "name" 208 (vS "_sre" 207),eS P "loader" 209 (vR 14),eS P "origin" 210 (vS "built-in" 184),eS P "loader_state" 211 Value.none,eS P "submodule_search_locations" 212 Value.none,eS P "_uninitialized_submodules" 213 (vR 19),eS P "_set_fileattr" 214 (Value.bool Bool.false),eS P "_cached" 215 Value.none,eS P "_initializing" 243 (Value.bool Bool.false)] 9
noncomputable abbrev o21v0 (P:Params):Obj := oD [eS P "__module__" 227 (vS "_frozen_importlib" 217),eS P "__firstlineno__" 228 (Value.int 562 218),eS P "__doc__" 229 (Value.builtin "_frozen_importlib.ModuleSpec.__doc__:str#opaque"),eS P "__init__" 230 (Value.builtin "_frozen_importlib.ModuleSpec.__init__#opaque"),eS P "__repr__" 231 (Value.builtin "_frozen_importlib.ModuleSpec.__repr__#opaque"),eS P "__eq__" 232 (Value.builtin "_frozen_importlib.ModuleSpec.__eq__#opaque"),eS P "cached" 233 (Value.builtin "_frozen_importlib.ModuleSpec.cached#opaque"),eS P "parent" 234 (Value.builtin "_frozen_importlib.ModuleSpec.parent#opaque"),eS P "has_location" 235 (Value.builtin "_frozen_importlib.ModuleSpec.has_location#opaque"),eS P "__static_attributes__" 236 (vR 23),eS P "__dict__" 238 (vR 24),eS P "__weakref__" 240 (vR 25),eS P "__hash__" 241 Value.none] 13
noncomputable abbrev o22v0 (P:Params):Obj := (Obj.mk (Value.type "type") none (Data.cls (ClassData.mk (.ofString "ModuleSpec") [(Value.type "object")] [vR 22,(Value.type "object")] 21 (.ofString "ModuleSpec") Bool.true [] [] Bool.false none Bool.false)) #[])
noncomputable abbrev o23v0 (P:Params):Obj := oT [vS "_cached" 219,vS "_set_fileattr" 220,vS "_uninitialized_submodules" 221,vS "loader" 222,vS "loader_state" 223,vS "name" 224,vS "origin" 225,vS "submodule_search_locations" 226]
noncomputable abbrev o24v0 (P:Params):Obj := (Obj.mk (Value.type "getset_descriptor") none (Data.fields #[vS "__dict__" 237,vR 22,(Value.builtin "function.__dict__"),(Value.builtin "function.__dict__#set")]) #[])
noncomputable abbrev o25v0 (P:Params):Obj := (Obj.mk (Value.type "getset_descriptor") none (Data.fields #[vS "__weakref__" 239,vR 22,(Value.builtin "ExceptionGroup.__weakref__"),Value.none]) #[])
noncomputable abbrev o26v0 (P:Params):Obj := (Obj.mk (vR 22) (some 20) Data.plain #[])
noncomputable abbrev o27v0 (P:Params):Obj := (Obj.mk Value.none none (Data.seq #[vI 11,(Value.str (Str.mk (List.toArray (6::247::8::95::95::110::97::109::101::95::95::6::246::4::95::115::114::101::6::248::7::95::95::100::111::99::95::95::0::6::250::11::95::95::112::97::99::107::97::103::101::95::95::6::249::0::6::251::10::95::95::108::111::97::100::101::114::95::95::4::0::0::14::6::252::8::95::95::115::112::101::99::95::95::4::0::0::26::6::253::7::99::111::109::112::105::108::101::9::12::95::115::114::101::46::99::111::109::112::105::108::101::6::254::8::116::101::109::112::108::97::116::101::9::13::95::115::114::101::46::116::101::109::112::108::97::116::101::6::255::11::103::101::116::99::111::100::101::115::105::122::101::9::16::95::115::114::101::46::103::101::116::99::111::100::101::115::105::122::101::6::256::13::97::115::99::105::105::95::105::115::99::97::115::101::100::9::18::95::115::114::101::46::97::115::99::105::105::95::105::115::99::97::115::101::100::6::257::15::117::110::105::99::111::100::101::95::105::115::99::97::115::101::100::9::20::95::115::114::101::46::117::110::105::99::111::100::101::95::105::115::99::97::115::101::100::6::258::13::97::115::99::105::105::95::116::111::108::111::119::101::114::9::18::95::115::114::101::46::97::115::99::105::105::95::116::111::108::111::119::101::114::6::259::15::117::110::105::99::111::100::101::95::116::111::108::111::119::101::114::9::20::95::115::114::101::46::117::110::105::99::111::100::101::95::116::111::108::111::119::101::114::6::261::5::77::65::71::73::67::4::260::0::20230612::6::263::8::67::79::68::69::83::73::90::69::4::262::0::4::6::265::9::77::65::88::82::69::80::69::65::84::4::264::0::4294967295::6::267::9::77::65::88::71::82::79::85::80::83::4::266::0::1073741823::6::269::9::99::111::112::121::114::105::103::104::116::6::268::53::32::83::82::69::32::50::46::50::46::50::32::67::111::112::121::114::105::103::104::116::32::40::99::41::32::49::57::57::55::45::50::48::48::50::32::98::121::32::83::101::99::114::101::116::32::76::97::98::115::32::65::66::32::[]))) 0),(Value.bool Bool.true),(Value.bool Bool.false),vS "_sre" 271] 0) #[])
noncomputable abbrev o28v0 (P:Params):Obj := oT []
noncomputable abbrev o29v0 (P:Params):Obj := oF []
noncomputable abbrev o29v1 (P:Params):Obj := oF [vI 2,vI 0,vR 37]
noncomputable abbrev o29v2 (P:Params):Obj := oF [vI 2,vI 0,vR 37,vI 8,vI 0,vR 50]
noncomputable abbrev o29v3 (P:Params):Obj := oF [vI 2,vI 0,vR 37,vI 8,vI 0,vR 50,vI 11,vI 0,vR 58]
noncomputable abbrev o29v4 (P:Params):Obj := oF [vI 2,vI 0,vR 37,vI 8,vI 0,vR 50,vI 11,vI 0,vR 58,vI 167,vI 0,vR 160,vI 180,vI 0,vR 167,vI 199,vI 0,vR 174]
noncomputable abbrev o29v5 (P:Params):Obj := oF [vI 2,vI 0,vR 37,vI 8,vI 0,vR 50,vI 11,vI 0,vR 58,vI 167,vI 0,vR 160,vI 180,vI 0,vR 167,vI 199,vI 0,vR 174,vI 229,vI 0,vR 192]
noncomputable abbrev o29v6 (P:Params):Obj := (Obj.mk Value.none none (Data.fields (List.toArray ((vI 2)::(vI 0)::(vR 37)::(vI 8)::(vI 0)::(vR 50)::(vI 11)::(vI 0)::(vR 58)::(vI 167)::(vI 0)::(vR 160)::(vI 180)::(vI 0)::(vR 167)::(vI 199)::(vI 0)::(vR 174)::(vI 229)::(vI 0)::(vR 192)::(vI 232)::(vI 0)::(vR 238)::(vI 238)::(vI 0)::(vR 245)::(vI 246)::(vI 0)::(vR 252)::(vI 253)::(vI 0)::(vR 257)::(vI 258)::(vI 0)::(vR 262)::(vI 264)::(vI 0)::(vR 267)::(vI 266)::(vI 0)::(vR 272)::(vI 268)::(vI 0)::(vR 279)::(vI 273)::(vI 0)::(vR 284)::[]))) #[])
noncomputable abbrev o30v0 (P:Params):Obj := oC [vS "<module>" 277,vS "<module>" 278,vS cut 279,vI 1,vI 0,vI 0,vI 0,vI 0,vR 28,(Value.bool Bool.false),vI 276,vR 29,Value.none,Value.none,Value.none,Value.none,vI 280,vI 1,vS cut 281]
noncomputable abbrev o31v0 (P:Params):Obj := (Obj.mk (Value.type "frame") none Data.plain #[(some (vR 30)),(some (vR 3)),(some (vR 3)),none,(some (vS "__main__" 164)),none,(some (vR 0))])
noncomputable abbrev o32v0 (P:Params):Obj := oT []
noncomputable abbrev o33v0 (P:Params):Obj := oF []
noncomputable abbrev o34v0 (P:Params):Obj := oT [vS "k" 285]
noncomputable abbrev o35v0 (P:Params):Obj := oT []
noncomputable abbrev o36v0 (P:Params):Obj := oN (fF "_wall" "_wall" (stm 1) 0 Value.none Value.none Value.none Value.none none Value.none Value.none 0)
noncomputable abbrev o37v0 (P:Params):Obj := oC [vS "_wall" 282,vS "_wall" 283,vS cut 284,vI 2,vI 1,vI 0,vI 0,vI 3,vR 32,(Value.bool Bool.true),vI 276,vR 33,Value.none,vR 34,vR 35,vR 36,vI 286,vI 2,vS cut 287]
noncomputable abbrev o38v0 (P:Params):Obj := oM (fF "_wall" "_wall" (stm 1) 3 Value.none Value.none Value.none (vS "__main__" 164) none (vR 37) Value.none 0)
noncomputable abbrev o39v0 (P:Params):Obj := (Obj.mk (Value.type "list") none (Data.seq #[(Value.int 14 294),(Value.int 4 295),(Value.int 0 296),(Value.int 3 297),(Value.int 4294967295 298),(Value.int 6 299),(Value.int 0 300),(Value.int 24 301),(Value.int 9 302),(Value.int 1 303),(Value.int 4294967295 304),(Value.int 13 305),(Value.int 4 306),(Value.int 8 307),(Value.int 14 308),(Value.int 0 309),(Value.int 1 310),(Value.int 16 311),(Value.int 58 312),(Value.int 24 313),(Value.int 9 314),(Value.int 1 315),(Value.int 4294967295 316),(Value.int 13 317),(Value.int 4 318),(Value.int 8 319),(Value.int 14 320),(Value.int 0 321),(Value.int 1 322),(Value.int 6 323),(Value.int 5 324),(Value.int 1 325)] 0) #[])
noncomputable abbrev o40v0 (P:Params):Obj := oD [] 0
noncomputable abbrev o41v0 (P:Params):Obj := oT [Value.none]
noncomputable abbrev o42v0 (P:Params):Obj := oT [vI 14,vI 4,vI 0,vI 3,vI 4294967295,vI 6,vI 0,vI 24,vI 9,vI 1,vI 4294967295,vI 13,vI 4,vI 8,vI 14,vI 0,vI 1,vI 16,vI 58,vI 24,vI 9,vI 1,vI 4294967295,vI 13,vI 4,vI 8,vI 14,vI 0,vI 1,vI 6,vI 5,vI 1]
noncomputable abbrev o43v0 (P:Params):Obj := (Obj.mk (Value.type "re.Pattern") none (Data.fields #[vS "^\\w+:\\w+$" 292,(Value.int 32 327),vI 0,Value.none,Value.none,vR 42,vI 0]) #[])
noncomputable abbrev o44v0 (P:Params):Obj := oD [eS P "http://www.w3.org/XML/1998/namespace" 329 (vS "xml" 330),eS P "http://www.w3.org/1999/xhtml" 331 (vS "html" 332),eS P "http://www.w3.org/1999/02/22-rdf-syntax-ns#" 333 (vS "rdf" 334),eS P "http://schemas.xmlsoap.org/wsdl/" 335 (vS "wsdl" 336),eS P "http://www.w3.org/2001/XMLSchema" 337 (vS "xs" 338),eS P "http://www.w3.org/2001/XMLSchema-\x69nstance" 339 (vS "xsi" 340),eS P "http://purl.org/dc/elements/1.1/" 341 (vS "dc" 342)] 7
noncomputable abbrev o45v0 (P:Params):Obj := oT []
noncomputable abbrev o46v0 (P:Params):Obj := oF []
noncomputable abbrev o47v0 (P:Params):Obj := oT [vS "text" 354]
noncomputable abbrev o48v0 (P:Params):Obj := oT []
noncomputable abbrev o49v0 (P:Params):Obj := oN (fF "_raise_serialization_error" "_raise_serialization_error" (stm 5) 0 Value.none Value.none Value.none Value.none none Value.none Value.none 0)
noncomputable abbrev o50v0 (P:Params):Obj := oC [vS "_raise_serialization_error" 351,vS "_raise_serialization_error" 352,vS cut 353,vI 8,vI 1,vI 0,vI 0,vI 3,vR 45,(Value.bool Bool.true),vI 276,vR 46,Value.none,vR 47,vR 48,vR 49,vI 355,vI 8,vS cut 356]
noncomputable abbrev o51v0 (P:Params):Obj := oM (fF "_raise_serialization_error" "_raise_serialization_error" (stm 5) 3 Value.none Value.none Value.none (vS "cpy313.xml.etree.ElementTree" 289) none (vR 50) Value.none 0)
noncomputable abbrev o52v0 (P:Params):Obj := (Obj.mk (Value.type "builtin_function_or_method") none (Data.fields #[(Value.builtin "re.Pattern.match"),vR 43]) #[])
noncomputable abbrev o53v0 (P:Params):Obj := oT []
noncomputable abbrev o54v0 (P:Params):Obj := (Obj.mk (Value.type "builtin_function_or_method") none (Data.fields #[(Value.builtin "type.__prepare__"),(Value.type "type")]) #[])
noncomputable abbrev o55v0 (P:Params):Obj := oD [eS P "__module__" 367 (vS "cpy313.xml.etree.ElementTree" 289),eS P "__qualname__" 369 (vS "C14NWriterTarget" 368),eS P "__firstlineno__" 371 (Value.int 11 370),eS P "__init__" 393 (vR 67),eS P "_iter_namespaces" 403 (vR 75),eS P "_resolve_prefix_name" 415 (vR 82),eS P "_qname" 428 (vR 90),eS P "data" 436 (vR 97),eS P "_flush" 449 (vR 106),eS P "start_ns" 458 (vR 113),eS P "start" 468 (vR 120),eS P "_start" 474 (vR 126),eS P "end" 482 (vR 133),eS P "comment" 490 (vR 140),eS P "pi" 499 (vR 147),eS P "__static_attributes__" 517 (vR 148)] 16
noncomputable abbrev o56v0 (P:Params):Obj := oT []
noncomputable abbrev o57v0 (P:Params):Obj := oF [vI 13,vI 4,vR 66,vI 41,vI 4,vR 74,vI 46,vI 4,vR 81,vI 53,vI 4,vR 89,vI 80,vI 4,vR 96,vI 84,vI 4,vR 105,vI 98,vI 4,vR 112,vI 101,vI 4,vR 119,vI 114,vI 4,vR 125,vI 159,vI 4,vR 132,vI 162,vI 4,vR 139,vI 165,vI 4,vR 146]
noncomputable abbrev o58v0 (P:Params):Obj := oC [vS "C14NWriterTarget" 362,vS "C14NWriterTarget" 363,vS cut 364,vI 11,vI 0,vI 0,vI 0,vI 0,vR 56,(Value.bool Bool.false),vI 276,vR 57,Value.none,Value.none,Value.none,Value.none,vI 365,vI 11,vS cut 366]
noncomputable abbrev o59v0 (P:Params):Obj := (Obj.mk (Value.type "frame") none Data.plain #[(some (vR 58)),(some (vR 3)),(some (vR 55)),none,(some (vS "cpy313.xml.etree.ElementTree" 289)),none,(some (vR 0))])
noncomputable abbrev o60v0 (P:Params):Obj := oD [eS P "with_comments" 372 (Value.bool Bool.false),eS P "strip_text" 373 (Value.bool Bool.false),eS P "rewrite_prefixes" 374 (Value.bool Bool.false),eS P "qname_aware_tags" 375 Value.none,eS P "qname_aware_attrs" 376 Value.none,eS P "exclude_attrs" 377 Value.none,eS P "exclude_tags" 378 Value.none] 7
noncomputable abbrev o61v0 (P:Params):Obj := oT []
noncomputable abbrev o62v0 (P:Params):Obj := oF []
noncomputable abbrev o63v0 (P:Params):Obj := oT [vS "self" 382,vS "write" 383,vS "with_comments" 384,vS "strip_text" 385,vS "rewrite_prefixes" 386,vS "qname_aware_tags" 387,vS "qname_aware_attrs" 388,vS "exclude_attrs" 389,vS "exclude_tags" 390]
noncomputable abbrev o64v0 (P:Params):Obj := oT []
noncomputable abbrev o65v0 (P:Params):Obj := oN (fF "__init__" "C14NWriterTarget.__init__" (mth 0) 0 Value.none Value.none Value.none Value.none none Value.none Value.none 0)
noncomputable abbrev o66v0 (P:Params):Obj := oC [vS "__init__" 379,vS "C14NWriterTarget.__init__" 380,vS cut 381,vI 13,vI 2,vI 0,vI 7,vI 3,vR 61,(Value.bool Bool.true),vI 276,vR 62,Value.none,vR 63,vR 64,vR 65,vI 391,vI 13,vS cut 392]
noncomputable abbrev o67v0 (P:Params):Obj := oM (fF "__init__" "C14NWriterTarget.__init__" (mth 0) 3 Value.none (vR 60) Value.none (vS "cpy313.xml.etree.ElementTree" 289) none (vR 66) Value.none 0)
noncomputable abbrev o68v0 (P:Params):Obj := oT [(Value.type "reversed")]
noncomputable abbrev o69v0 (P:Params):Obj := oT []
noncomputable abbrev o70v0 (P:Params):Obj := oF []
noncomputable abbrev o71v0 (P:Params):Obj := oT [vS "self" 397,vS "ns_stack" 398,vS "_reversed" 399,vS "namespaces" 400]
noncomputable abbrev o72v0 (P:Params):Obj := oT []
noncomputable abbrev o73v0 (P:Params):Obj := oN (fF "_iter_namespaces" "C14NWriterTarget._iter_namespaces" (mth 1) 0 Value.none Value.none Value.none Value.none none Value.none Value.none 0)
noncomputable abbrev o74v0 (P:Params):Obj := oC [vS "_iter_namespaces" 394,vS "C14NWriterTarget._iter_namespaces" 395,vS cut 396,vI 41,vI 3,vI 0,vI 0,vI 35,vR 69,(Value.bool Bool.true),vI 276,vR 70,Value.none,vR 71,vR 72,vR 73,vI 401,vI 41,vS cut 402]
noncomputable abbrev o75v0 (P:Params):Obj := oM (fF "_iter_namespaces" "C14NWriterTarget._iter_namespaces" (mth 1) 3 (vR 68) Value.none Value.none (vS "cpy313.xml.etree.ElementTree" 289) none (vR 74) Value.none 0)
noncomputable abbrev o76v0 (P:Params):Obj := oT []
noncomputable abbrev o77v0 (P:Params):Obj := oF []
noncomputable abbrev o78v0 (P:Params):Obj := oT [vS "self" 407,vS "prefixed_name" 408,vS "prefix" 409,vS "name" 410,vS "uri" 411,vS "p" 412]
noncomputable abbrev o79v0 (P:Params):Obj := oT []
noncomputable abbrev o80v0 (P:Params):Obj := oN (fF "_resolve_prefix_name" "C14NWriterTarget._resolve_prefix_name" (mth 2) 0 Value.none Value.none Value.none Value.none none Value.none Value.none 0)
noncomputable abbrev o81v0 (P:Params):Obj := oC [vS "_resolve_prefix_name" 404,vS "C14NWriterTarget._resolve_prefix_name" 405,vS cut 406,vI 46,vI 2,vI 0,vI 0,vI 3,vR 76,(Value.bool Bool.true),vI 276,vR 77,Value.none,vR 78,vR 79,vR 80,vI 413,vI 46,vS cut 414]
noncomputable abbrev o82v0 (P:Params):Obj := oM (fF "_resolve_prefix_name" "C14NWriterTarget._resolve_prefix_name" (mth 2) 3 Value.none Value.none Value.none (vS "cpy313.xml.etree.ElementTree" 289) none (vR 81) Value.none 0)
noncomputable abbrev o83v0 (P:Params):Obj := oT [Value.none]
noncomputable abbrev o84v0 (P:Params):Obj := oT []
noncomputable abbrev o85v0 (P:Params):Obj := oF []
noncomputable abbrev o86v0 (P:Params):Obj := oT [vS "self" 419,vS "qname" 420,vS "uri" 421,vS "tag" 422,vS "prefixes_seen" 423,vS "u" 424,vS "prefix" 425]
noncomputable abbrev o87v0 (P:Params):Obj := oT []
noncomputable abbrev o88v0 (P:Params):Obj := oN (fF "_qname" "C14NWriterTarget._qname" (mth 3) 0 Value.none Value.none Value.none Value.none none Value.none Value.none 0)
noncomputable abbrev o89v0 (P:Params):Obj := oC [vS "_qname" 416,vS "C14NWriterTarget._qname" 417,vS cut 418,vI 53,vI 3,vI 0,vI 0,vI 3,vR 84,(Value.bool Bool.true),vI 276,vR 85,Value.none,vR 86,vR 87,vR 88,vI 426,vI 53,vS cut 427]
noncomputable abbrev o90v0 (P:Params):Obj := oM (fF "_qname" "C14NWriterTarget._qname" (mth 3) 3 (vR 83) Value.none Value.none (vS "cpy313.xml.etree.ElementTree" 289) none (vR 89) Value.none 0)
noncomputable abbrev o91v0 (P:Params):Obj := oT []
noncomputable abbrev o92v0 (P:Params):Obj := oF []
noncomputable abbrev o93v0 (P:Params):Obj := oT [vS "self" 432,vS "data" 433]
noncomputable abbrev o94v0 (P:Params):Obj := oT []
noncomputable abbrev o95v0 (P:Params):Obj := oN (fF "data" "C14NWriterTarget.data" (mth 4) 0 Value.none Value.none Value.none Value.none none Value.none Value.none 0)
noncomputable abbrev o96v0 (P:Params):Obj := oC [vS "data" 429,vS "C14NWriterTarget.data" 430,vS cut 431,vI 80,vI 2,vI 0,vI 0,vI 3,vR 91,(Value.bool Bool.true),vI 276,vR 92,Value.none,vR 93,vR 94,vR 95,vI 434,vI 80,vS cut 435]
noncomputable abbrev o97v0 (P:Params):Obj := oM (fF "data" "C14NWriterTarget.data" (mth 4) 3 Value.none Value.none Value.none (vS "cpy313.xml.etree.ElementTree" 289) none (vR 96) Value.none 0)
noncomputable abbrev o98v0 (P:Params):Obj := (Obj.mk (Value.type "builtin_function_or_method") none (Data.fields #[(Value.builtin "str.join"),vS "" 437]) #[])
noncomputable abbrev o99v0 (P:Params):Obj := oT [vR 98]
noncomputable abbrev o100v0 (P:Params):Obj := oT []
noncomputable abbrev o101v0 (P:Params):Obj := oF []
noncomputable abbrev o102v0 (P:Params):Obj := oT [vS "self" 442,vS "_join_text" 443,vS "data" 444,vS "args" 445,vS "qname_text" 446]
noncomputable abbrev o103v0 (P:Params):Obj := oT []
noncomputable abbrev o104v0 (P:Params):Obj := oN (fF "_flush" "C14NWriterTarget._flush" (mth 5) 0 Value.none Value.none Value.none Value.none none Value.none Value.none 0)
noncomputable abbrev o105v0 (P:Params):Obj := oC [vS "_flush" 439,vS "C14NWriterTarget._flush" 440,vS cut 441,vI 84,vI 2,vI 0,vI 0,vI 3,vR 100,(Value.bool Bool.true),vI 276,vR 101,Value.none,vR 102,vR 103,vR 104,vI 447,vI 84,vS cut 448]
noncomputable abbrev o106v0 (P:Params):Obj := oM (fF "_flush" "C14NWriterTarget._flush" (mth 5) 3 (vR 99) Value.none Value.none (vS "cpy313.xml.etree.ElementTree" 289) none (vR 105) Value.none 0)
noncomputable abbrev o107v0 (P:Params):Obj := oT []
noncomputable abbrev o108v0 (P:Params):Obj := oF []
noncomputable abbrev o109v0 (P:Params):Obj := oT [vS "self" 453,vS "prefix" 454,vS "uri" 455]
noncomputable abbrev o110v0 (P:Params):Obj := oT []
noncomputable abbrev o111v0 (P:Params):Obj := oN (fF "start_ns" "C14NWriterTarget.start_ns" (mth 6) 0 Value.none Value.none Value.none Value.none none Value.none Value.none 0)
noncomputable abbrev o112v0 (P:Params):Obj := oC [vS "start_ns" 450,vS "C14NWriterTarget.start_ns" 451,vS cut 452,vI 98,vI 3,vI 0,vI 0,vI 3,vR 107,(Value.bool Bool.true),vI 276,vR 108,Value.none,vR 109,vR 110,vR 111,vI 456,vI 98,vS cut 457]
noncomputable abbrev o113v0 (P:Params):Obj := oM (fF "start_ns" "C14NWriterTarget.start_ns" (mth 6) 3 Value.none Value.none Value.none (vS "cpy313.xml.etree.ElementTree" 289) none (vR 112) Value.none 0)
noncomputable abbrev o114v0 (P:Params):Obj := oT []
noncomputable abbrev o115v0 (P:Params):Obj := oF []
noncomputable abbrev o116v0 (P:Params):Obj := oT [vS "self" 462,vS "tag" 463,vS "attrs" 464,vS "new_namespaces" 465]
noncomputable abbrev o117v0 (P:Params):Obj := oT []
noncomputable abbrev o118v0 (P:Params):Obj := oN (fF "start" "C14NWriterTarget.start" (mth 7) 0 Value.none Value.none Value.none Value.none none Value.none Value.none 0)
noncomputable abbrev o119v0 (P:Params):Obj := oC [vS "start" 459,vS "C14NWriterTarget.start" 460,vS cut 461,vI 101,vI 3,vI 0,vI 0,vI 3,vR 114,(Value.bool Bool.true),vI 276,vR 115,Value.none,vR 116,vR 117,vR 118,vI 466,vI 101,vS cut 467]
noncomputable abbrev o120v0 (P:Params):Obj := oM (fF "start" "C14NWriterTarget.start" (mth 7) 3 Value.none Value.none Value.none (vS "cpy313.xml.etree.ElementTree" 289) none (vR 119) Value.none 0)
noncomputable abbrev o121v0 (P:Params):Obj := oT [Value.none]
noncomputable abbrev o122v0 (P:Params):Obj := oT []
noncomputable abbrev o123v0 (P:Params):Obj := oF []
noncomputable abbrev o124v0 (P:Params):Obj := oN (fF "_start" "C14NWriterTarget._start" (mth 8) 0 Value.none Value.none Value.none Value.none none Value.none Value.none 0)
noncomputable abbrev o125v0 (P:Params):Obj := oC [vS "_start" 469,vS "C14NWriterTarget._start" 470,vS cut 471,vI 114,vI 5,vI 0,vI 0,vI 3,vR 122,(Value.bool Bool.true),vI 276,vR 123,Value.none,Value.none,Value.none,vR 124,vI 472,vI 114,vS cut 473]
noncomputable abbrev o126v0 (P:Params):Obj := oM (fF "_start" "C14NWriterTarget._start" (mth 8) 3 (vR 121) Value.none Value.none (vS "cpy313.xml.etree.ElementTree" 289) none (vR 125) Value.none 0)
noncomputable abbrev o127v0 (P:Params):Obj := oT []
noncomputable abbrev o128v0 (P:Params):Obj := oF []
noncomputable abbrev o129v0 (P:Params):Obj := oT [vS "self" 478,vS "tag" 479]
noncomputable abbrev o130v0 (P:Params):Obj := oT []
noncomputable abbrev o131v0 (P:Params):Obj := oN (fF "end" "C14NWriterTarget.end" (mth 9) 0 Value.none Value.none Value.none Value.none none Value.none Value.none 0)
noncomputable abbrev o132v0 (P:Params):Obj := oC [vS "end" 475,vS "C14NWriterTarget.end" 476,vS cut 477,vI 159,vI 2,vI 0,vI 0,vI 3,vR 127,(Value.bool Bool.true),vI 276,vR 128,Value.none,vR 129,vR 130,vR 131,vI 480,vI 159,vS cut 481]
noncomputable abbrev o133v0 (P:Params):Obj := oM (fF "end" "C14NWriterTarget.end" (mth 9) 3 Value.none Value.none Value.none (vS "cpy313.xml.etree.ElementTree" 289) none (vR 132) Value.none 0)
noncomputable abbrev o134v0 (P:Params):Obj := oT []
noncomputable abbrev o135v0 (P:Params):Obj := oF []
noncomputable abbrev o136v0 (P:Params):Obj := oT [vS "self" 486,vS "text" 487]
noncomputable abbrev o137v0 (P:Params):Obj := oT []
noncomputable abbrev o138v0 (P:Params):Obj := oN (fF "comment" "C14NWriterTarget.comment" (mth 10) 0 Value.none Value.none Value.none Value.none none Value.none Value.none 0)
noncomputable abbrev o139v0 (P:Params):Obj := oC [vS "comment" 483,vS "C14NWriterTarget.comment" 484,vS cut 485,vI 162,vI 2,vI 0,vI 0,vI 3,vR 134,(Value.bool Bool.true),vI 276,vR 135,Value.none,vR 136,vR 137,vR 138,vI 488,vI 162,vS cut 489]
noncomputable abbrev o140v0 (P:Params):Obj := oM (fF "comment" "C14NWriterTarget.comment" (mth 10) 3 Value.none Value.none Value.none (vS "cpy313.xml.etree.ElementTree" 289) none (vR 139) Value.none 0)
noncomputable abbrev o141v0 (P:Params):Obj := oT []
noncomputable abbrev o142v0 (P:Params):Obj := oF []
noncomputable abbrev o143v0 (P:Params):Obj := oT [vS "self" 494,vS "target" 495,vS "data" 496]
noncomputable abbrev o144v0 (P:Params):Obj := oT []
noncomputable abbrev o145v0 (P:Params):Obj := oN (fF "pi" "C14NWriterTarget.pi" (mth 11) 0 Value.none Value.none Value.none Value.none none Value.none Value.none 0)
noncomputable abbrev o146v0 (P:Params):Obj := oC [vS "pi" 491,vS "C14NWriterTarget.pi" 492,vS cut 493,vI 165,vI 3,vI 0,vI 0,vI 3,vR 141,(Value.bool Bool.true),vI 276,vR 142,Value.none,vR 143,vR 144,vR 145,vI 497,vI 165,vS cut 498]
noncomputable abbrev o147v0 (P:Params):Obj := oM (fF "pi" "C14NWriterTarget.pi" (mth 11) 3 Value.none Value.none Value.none (vS "cpy313.xml.etree.ElementTree" 289) none (vR 146) Value.none 0)
noncomputable abbrev o148v0 (P:Params):Obj := oT [vS "_data" 500,vS "_declared_ns_stack" 501,vS "_exclude_attrs" 502,vS "_exclude_tags" 503,vS "_find_qname_aware_attrs" 504,vS "_ignored_depth" 505,vS "_ns_stack" 506,vS "_pending_start" 507,vS "_prefix_map" 508,vS "_preserve_space" 509,vS "_qname_aware_tags" 510,vS "_rewrite_prefixes" 511,vS "_root_done" 512,vS "_root_seen" 513,vS "_strip_text" 514,vS "_with_comments" 515,vS "_write" 516]
noncomputable abbrev o149v0 (P:Params):Obj := oD [eS P "__module__" 367 (vS "cpy313.xml.etree.ElementTree" 289),eS P "__firstlineno__" 371 (Value.int 11 370),eS P "__init__" 393 (vR 67),eS P "_iter_namespaces" 403 (vR 75),eS P "_resolve_prefix_name" 415 (vR 82),eS P "_qname" 428 (vR 90),eS P "data" 436 (vR 97),eS P "_flush" 449 (vR 106),eS P "start_ns" 458 (vR 113),eS P "start" 468 (vR 120),eS P "_start" 474 (vR 126),eS P "end" 482 (vR 133),eS P "comment" 490 (vR 140),eS P "pi" 499 (vR 147),eS P "__static_attributes__" 517 (vR 148),eS P "__dict__" 519 (vR 151),eS P "__weakref__" 521 (vR 152),eS P "__doc__" 522 Value.none] 4
noncomputable abbrev o150v0 (P:Params):Obj := (Obj.mk (Value.type "type") none (Data.cls (ClassData.mk (.ofString "C14NWriterTarget") [(Value.type "object")] [vR 150,(Value.type "object")] 149 (.ofString "C14NWriterTarget") Bool.true [] [] Bool.false none Bool.false)) #[none,none,(some (vS "C14NWriterTarget" 360)),(some (vS "C14NWriterTarget" 368)),(some (Value.builtin "object.__new__")),(some (Value.bool Bool.true))])
noncomputable abbrev o151v0 (P:Params):Obj := (Obj.mk (Value.type "getset_descriptor") none (Data.fields #[vS "__dict__" 518,vR 150,(Value.builtin "function.__dict__"),(Value.builtin "function.__dict__#set")]) #[])
noncomputable abbrev o152v0 (P:Params):Obj := (Obj.mk (Value.type "getset_descriptor") none (Data.fields #[vS "__weakref__" 520,vR 150,(Value.builtin "ExceptionGroup.__weakref__"),Value.none]) #[])
noncomputable abbrev o153v0 (P:Params):Obj := (Obj.mk (Value.type "super") none (Data.fields #[vR 150,vR 150,vR 150]) #[])
noncomputable abbrev o154v0 (P:Params):Obj := (Obj.mk (Value.type "builtin_function_or_method") none (Data.fields #[(Value.builtin "object.__init_subclass__"),vR 150]) #[])
noncomputable abbrev o155v0 (P:Params):Obj := oT []
noncomputable abbrev o156v0 (P:Params):Obj := oF []
noncomputable abbrev o157v0 (P:Params):Obj := oT [vS "text" 528]
noncomputable abbrev o158v0 (P:Params):Obj := oT []
noncomputable abbrev o159v0 (P:Params):Obj := oN (fF "_escape_cdata_c14n" "_escape_cdata_c14n" (stm 8) 0 Value.none Value.none Value.none Value.none none Value.none Value.none 0)
noncomputable abbrev o160v0 (P:Params):Obj := oC [vS "_escape_cdata_c14n" 525,vS "_escape_cdata_c14n" 526,vS cut 527,vI 167,vI 1,vI 0,vI 0,vI 3,vR 155,(Value.bool Bool.true),vI 276,vR 156,Value.none,vR 157,vR 158,vR 159,vI 529,vI 167,vS cut 530]
noncomputable abbrev o161v0 (P:Params):Obj := oM (fF "_escape_cdata_c14n" "_escape_cdata_c14n" (stm 8) 3 Value.none Value.none Value.none (vS "cpy313.xml.etree.ElementTree" 289) none (vR 160) Value.none 0)
noncomputable abbrev o162v0 (P:Params):Obj := oT []
noncomputable abbrev o163v0 (P:Params):Obj := oF []
noncomputable abbrev o164v0 (P:Params):Obj := oT [vS "text" 535]
noncomputable abbrev o165v0 (P:Params):Obj := oT []
noncomputable abbrev o166v0 (P:Params):Obj := oN (fF "_escape_attrib_c14n" "_escape_attrib_c14n" (stm 9) 0 Value.none Value.none Value.none Value.none none Value.none Value.none 0)
noncomputable abbrev o167v0 (P:Params):Obj := oC [vS "_escape_attrib_c14n" 532,vS "_escape_attrib_c14n" 533,vS cut 534,vI 180,vI 1,vI 0,vI 0,vI 3,vR 162,(Value.bool Bool.true),vI 276,vR 163,Value.none,vR 164,vR 165,vR 166,vI 536,vI 180,vS cut 537]
noncomputable abbrev o168v0 (P:Params):Obj := oM (fF "_escape_attrib_c14n" "_escape_attrib_c14n" (stm 9) 3 Value.none Value.none Value.none (vS "cpy313.xml.etree.ElementTree" 289) none (vR 167) Value.none 0)
noncomputable abbrev o169v0 (P:Params):Obj := oT []
noncomputable abbrev o170v0 (P:Params):Obj := oF []
noncomputable abbrev o171v0 (P:Params):Obj := oT [vS "want" 546,vS "got" 547,vS "ws" 548,vS "startpos" 549,vS "endpos" 550,vS "w" 551]
noncomputable abbrev o172v0 (P:Params):Obj := oT []
noncomputable abbrev o173v0 (P:Params):Obj := oN (fF "_ellipsis_match" "_ellipsis_match" (stm 12) 0 Value.none Value.none Value.none Value.none none Value.none Value.none 0)
noncomputable abbrev o174v0 (P:Params):Obj := oC [vS "_ellipsis_match" 543,vS "_ellipsis_match" 544,vS cut 545,vI 199,vI 2,vI 0,vI 0,vI 3,vR 169,(Value.bool Bool.true),vI 276,vR 170,Value.none,vR 171,vR 172,vR 173,vI 552,vI 199,vS cut 553]
noncomputable abbrev o175v0 (P:Params):Obj := oM (fF "_ellipsis_match" "_ellipsis_match" (stm 12) 3 Value.none Value.none Value.none (vS "cpy313.doctest" 539) none (vR 174) Value.none 0)
noncomputable abbrev o176v0 (P:Params):Obj := (Obj.mk (Value.type "list") none (Data.seq #[(Value.int 173 557),(Value.int 847 558),(Value.int 6150 559),(Value.int 6155 560),(Value.int 6156 561),(Value.int 6157 562),(Value.int 8203 563),(Value.int 8204 564),(Value.int 8205 565),(Value.int 8288 566),(Value.int 65279 567)] 0) #[])
noncomputable abbrev o177v0 (P:Params):Obj := (Obj.mk (Value.type "range") none (Data.fields #[(Value.int 65024 568),(Value.int 65040 569),(Value.int 1 570)]) #[])
noncomputable abbrev o178v0 (P:Params):Obj := (Obj.mk (Value.type "list") none (Data.seq #[(Value.int 65024 573),(Value.int 65025 574),(Value.int 65026 575),(Value.int 65027 576),(Value.int 65028 577),(Value.int 65029 578),(Value.int 65030 579),(Value.int 65031 580),(Value.int 65032 581),(Value.int 65033 582),(Value.int 65034 583),(Value.int 65035 584),(Value.int 65036 585),(Value.int 65037 586),(Value.int 65038 587),(Value.int 65039 588)] 18) #[])
noncomputable abbrev o179v0 (P:Params):Obj := (Obj.mk (Value.type "range_iterator") none (Data.fields #[vI 65040,vI 0,vI 1]) #[])
noncomputable abbrev o180v0 (P:Params):Obj := oT []
noncomputable abbrev o181v0 (P:Params):Obj := (Obj.mk (Value.type "StopIteration") none (Data.fields #[vR 180,Value.none,Value.none,Value.none,(Value.bool Bool.false),Value.none]) #[])
noncomputable abbrev o182v0 (P:Params):Obj := (Obj.mk (Value.type "list") none (Data.seq #[(Value.int 173 557),(Value.int 847 558),(Value.int 6150 559),(Value.int 6155 560),(Value.int 6156 561),(Value.int 6157 562),(Value.int 8203 563),(Value.int 8204 564),(Value.int 8205 565),(Value.int 8288 566),(Value.int 65279 567),(Value.int 65024 573),(Value.int 65025 574),(Value.int 65026 575),(Value.int 65027 576),(Value.int 65028 577),(Value.int 65029 578),(Value.int 65030 579),(Value.int 65031 580),(Value.int 65032 581),(Value.int 65033 582),(Value.int 65034 583),(Value.int 65035 584),(Value.int 65036 585),(Value.int 65037 586),(Value.int 65038 587),(Value.int 65039 588)] 0) #[])
noncomputable abbrev o183v0 (P:Params):Obj := (Obj.mk (Value.type "set") none (Data.set #[(65024,(Value.int 65024 573)),(65025,(Value.int 65025 574)),(65026,(Value.int 65026 575)),(65027,(Value.int 65027 576)),(65028,(Value.int 65028 577)),(65029,(Value.int 65029 578)),(6150,(Value.int 6150 559)),(65030,(Value.int 65030 579)),(65031,(Value.int 65031 580)),(65032,(Value.int 65032 581)),(65033,(Value.int 65033 582)),(6155,(Value.int 6155 560)),(6156,(Value.int 6156 561)),(6157,(Value.int 6157 562)),(8203,(Value.int 8203 563)),(8204,(Value.int 8204 564)),(8205,(Value.int 8205 565)),(65034,(Value.int 65034 583)),(65035,(Value.int 65035 584)),(65036,(Value.int 65036 585)),(65037,(Value.int 65037 586)),(65038,(Value.int 65038 587)),(65039,(Value.int 65039 588)),(173,(Value.int 173 557)),(847,(Value.int 847 558)),(8288,(Value.int 8288 566)),(65279,(Value.int 65279 567))] 29 (SetTable.mk 127 #[0,1,2,3,4,5,6,7,8,9,10,11,12,13,14,15,16,17,18,19,20,21,22,45,79,96,127] #[] 0 (Bool.not (Params.followText P "set-order")) 2 Bool.true)) #[])
noncomputable abbrev o184v0 (P:Params):Obj := (Obj.mk (Value.type "list_iterator") none (Data.fields #[Value.none,vI 27]) #[])
noncomputable abbrev o185v0 (P:Params):Obj := oT []
noncomputable abbrev o186v0 (P:Params):Obj := (Obj.mk (Value.type "StopIteration") none (Data.fields #[vR 185,Value.none,Value.none,Value.none,(Value.bool Bool.false),Value.none]) #[])
noncomputable abbrev o187v0 (P:Params):Obj := oT []
noncomputable abbrev o188v0 (P:Params):Obj := oF []
noncomputable abbrev o189v0 (P:Params):Obj := oT [vS "code" 620]
noncomputable abbrev o190v0 (P:Params):Obj := oT []
noncomputable abbrev o191v0 (P:Params):Obj := oN (fF "in_table_b1" "in_table_b1" (stm 15) 0 Value.none Value.none Value.none Value.none none Value.none Value.none 0)
noncomputable abbrev o192v0 (P:Params):Obj := oC [vS "in_table_b1" 617,vS "in_table_b1" 618,vS cut 619,vI 229,vI 1,vI 0,vI 0,vI 3,vR 187,(Value.bool Bool.true),vI 276,vR 188,Value.none,vR 189,vR 190,vR 191,vI 621,vI 229,vS cut 622]
noncomputable abbrev o193v0 (P:Params):Obj := oM (fF "in_table_b1" "in_table_b1" (stm 15) 3 Value.none Value.none Value.none (vS "cpy313.stringprep" 555) none (vR 192) Value.none 0)
noncomputable abbrev o194v0 (P:Params):Obj := Obj.mk (Value.type "dict") none (Data.dict (List.toArray (b3Ents 624 (b3Pairs.take 646) ++ b3Tail 2562 (b3Pairs.drop 646))) 650) #[]
noncomputable abbrev o195v0 (P:Params):Obj := Obj.mk (Value.type "dict") none (Data.dict (List.toArray (b3At 1)) 17) #[]
noncomputable abbrev o196v0 (P:Params):Obj := Obj.mk (Value.type "dict") none (Data.dict (List.toArray (b3At 2)) 17) #[]
noncomputable abbrev o197v0 (P:Params):Obj := Obj.mk (Value.type "dict") none (Data.dict (List.toArray (b3At 3)) 17) #[]
noncomputable abbrev o198v0 (P:Params):Obj := Obj.mk (Value.type "dict") none (Data.dict (List.toArray (b3At 4)) 17) #[]
noncomputable abbrev o199v0 (P:Params):Obj := Obj.mk (Value.type "dict") none (Data.dict (List.toArray (b3At 5)) 17) #[]
noncomputable abbrev o200v0 (P:Params):Obj := Obj.mk (Value.type "dict") none (Data.dict (List.toArray (b3At 6)) 17) #[]
noncomputable abbrev o201v0 (P:Params):Obj := Obj.mk (Value.type "dict") none (Data.dict (List.toArray (b3At 7)) 17) #[]
noncomputable abbrev o202v0 (P:Params):Obj := Obj.mk (Value.type "dict") none (Data.dict (List.toArray (b3At 8)) 17) #[]
noncomputable abbrev o203v0 (P:Params):Obj := Obj.mk (Value.type "dict") none (Data.dict (List.toArray (b3At 9)) 17) #[]
noncomputable abbrev o204v0 (P:Params):Obj := Obj.mk (Value.type "dict") none (Data.dict (List.toArray (b3At 10)) 17) #[]
noncomputable abbrev o205v0 (P:Params):Obj := Obj.mk (Value.type "dict") none (Data.dict (List.toArray (b3At 11)) 17) #[]
noncomputable abbrev o206v0 (P:Params):Obj := Obj.mk (Value.type "dict") none (Data.dict (List.toArray (b3At 12)) 17) #[]
noncomputable abbrev o207v0 (P:Params):Obj := Obj.mk (Value.type "dict") none (Data.dict (List.toArray (b3At 13)) 17) #[]
noncomputable abbrev o208v0 (P:Params):Obj := Obj.mk (Value.type "dict") none (Data.dict (List.toArray (b3At 14)) 17) #[]
noncomputable abbrev o209v0 (P:Params):Obj := Obj.mk (Value.type "dict") none (Data.dict (List.toArray (b3At 15)) 17) #[]
noncomputable abbrev o210v0 (P:Params):Obj := Obj.mk (Value.type "dict") none (Data.dict (List.toArray (b3At 16)) 17) #[]
noncomputable abbrev o211v0 (P:Params):Obj := Obj.mk (Value.type "dict") none (Data.dict (List.toArray (b3At 17)) 17) #[]
noncomputable abbrev o212v0 (P:Params):Obj := Obj.mk (Value.type "dict") none (Data.dict (List.toArray (b3At 18)) 17) #[]
noncomputable abbrev o213v0 (P:Params):Obj := Obj.mk (Value.type "dict") none (Data.dict (List.toArray (b3At 19)) 17) #[]
noncomputable abbrev o214v0 (P:Params):Obj := Obj.mk (Value.type "dict") none (Data.dict (List.toArray (b3At 20)) 17) #[]
noncomputable abbrev o215v0 (P:Params):Obj := Obj.mk (Value.type "dict") none (Data.dict (List.toArray (b3At 21)) 17) #[]
noncomputable abbrev o216v0 (P:Params):Obj := Obj.mk (Value.type "dict") none (Data.dict (List.toArray (b3At 22)) 17) #[]
noncomputable abbrev o217v0 (P:Params):Obj := Obj.mk (Value.type "dict") none (Data.dict (List.toArray (b3At 23)) 17) #[]
noncomputable abbrev o218v0 (P:Params):Obj := Obj.mk (Value.type "dict") none (Data.dict (List.toArray (b3At 24)) 17) #[]
noncomputable abbrev o219v0 (P:Params):Obj := Obj.mk (Value.type "dict") none (Data.dict (List.toArray (b3At 25)) 17) #[]
noncomputable abbrev o220v0 (P:Params):Obj := Obj.mk (Value.type "dict") none (Data.dict (List.toArray (b3At 26)) 17) #[]
noncomputable abbrev o221v0 (P:Params):Obj := Obj.mk (Value.type "dict") none (Data.dict (List.toArray (b3At 27)) 17) #[]
noncomputable abbrev o222v0 (P:Params):Obj := Obj.mk (Value.type "dict") none (Data.dict (List.toArray (b3At 28)) 17) #[]
noncomputable abbrev o223v0 (P:Params):Obj := Obj.mk (Value.type "dict") none (Data.dict (List.toArray (b3At 29)) 17) #[]
noncomputable abbrev o224v0 (P:Params):Obj := Obj.mk (Value.type "dict") none (Data.dict (List.toArray (b3At 30)) 17) #[]
noncomputable abbrev o225v0 (P:Params):Obj := Obj.mk (Value.type "dict") none (Data.dict (List.toArray (b3At 31)) 17) #[]
noncomputable abbrev o226v0 (P:Params):Obj := Obj.mk (Value.type "dict") none (Data.dict (List.toArray (b3At 32)) 17) #[]
noncomputable abbrev o227v0 (P:Params):Obj := Obj.mk (Value.type "dict") none (Data.dict (List.toArray (b3At 33)) 17) #[]
noncomputable abbrev o228v0 (P:Params):Obj := Obj.mk (Value.type "dict") none (Data.dict (List.toArray (b3At 34)) 17) #[]
noncomputable abbrev o229v0 (P:Params):Obj := Obj.mk (Value.type "dict") none (Data.dict (List.toArray (b3At 35)) 17) #[]
noncomputable abbrev o230v0 (P:Params):Obj := Obj.mk (Value.type "dict") none (Data.dict (List.toArray (b3At 36)) 17) #[]
noncomputable abbrev o231v0 (P:Params):Obj := Obj.mk (Value.type "dict") none (Data.dict (List.toArray (b3At 37)) 17) #[]
noncomputable abbrev o232v0 (P:Params):Obj := Obj.mk (Value.type "dict") none (Data.dict (List.toArray (b3Tail 2562 (b3Pairs.drop 646))) 4) #[]
noncomputable abbrev o233v0 (P:Params):Obj := oT []
noncomputable abbrev o234v0 (P:Params):Obj := oF []
noncomputable abbrev o235v0 (P:Params):Obj := oT [vS "code" 2578,vS "r" 2579]
noncomputable abbrev o236v0 (P:Params):Obj := oT []
noncomputable abbrev o237v0 (P:Params):Obj := oN (fF "map_table_b3" "map_table_b3" (stm 17) 0 Value.none Value.none Value.none Value.none none Value.none Value.none 0)
noncomputable abbrev o238v0 (P:Params):Obj := oC [vS "map_table_b3" 2575,vS "map_table_b3" 2576,vS cut 2577,vI 232,vI 1,vI 0,vI 0,vI 3,vR 233,(Value.bool Bool.true),vI 276,vR 234,Value.none,vR 235,vR 236,vR 237,vI 2580,vI 232,vS cut 2581]
noncomputable abbrev o239v0 (P:Params):Obj := oM (fF "map_table_b3" "map_table_b3" (stm 17) 3 Value.none Value.none Value.none (vS "cpy313.stringprep" 555) none (vR 238) Value.none 0)
noncomputable abbrev o240v0 (P:Params):Obj := oT []
noncomputable abbrev o241v0 (P:Params):Obj := oF []
noncomputable abbrev o242v0 (P:Params):Obj := oT [vS "dress" 2588,vS "letter" 2589,vS "codes" 2590,vS "firsts" 2591]
noncomputable abbrev o243v0 (P:Params):Obj := oT []
noncomputable abbrev o244v0 (P:Params):Obj := oN (fF "_law_dressed" "_law_dressed" (stm 19) 0 Value.none Value.none Value.none Value.none none Value.none Value.none 0)
noncomputable abbrev o245v0 (P:Params):Obj := oC [vS "_law_dressed" 2585,vS "_law_dressed" 2586,vS cut 2587,vI 238,vI 2,vI 0,vI 0,vI 3,vR 240,(Value.bool Bool.true),vI 276,vR 241,Value.none,vR 242,vR 243,vR 244,vI 2592,vI 238,vS cut 2593]
noncomputable abbrev o246v0 (P:Params):Obj := oM (fF "_law_dressed" "_law_dressed" (stm 19) 3 Value.none Value.none Value.none (vS "law_ti0079_01" 2583) none (vR 245) Value.none 0)
noncomputable abbrev o247v0 (P:Params):Obj := oT []
noncomputable abbrev o248v0 (P:Params):Obj := oF []
noncomputable abbrev o249v0 (P:Params):Obj := oT [vS "stock" 2598,vS "numbers" 2599,vS "picked" 2600,vS "number" 2601,vS "place" 2602]
noncomputable abbrev o250v0 (P:Params):Obj := oT []
noncomputable abbrev o251v0 (P:Params):Obj := oN (fF "_law_picked" "_law_picked" (stm 20) 0 Value.none Value.none Value.none Value.none none Value.none Value.none 0)
noncomputable abbrev o252v0 (P:Params):Obj := oC [vS "_law_picked" 2595,vS "_law_picked" 2596,vS cut 2597,vI 246,vI 2,vI 0,vI 0,vI 3,vR 247,(Value.bool Bool.true),vI 276,vR 248,Value.none,vR 249,vR 250,vR 251,vI 2603,vI 246,vS cut 2604]
noncomputable abbrev o253v0 (P:Params):Obj := oM (fF "_law_picked" "_law_picked" (stm 20) 3 Value.none Value.none Value.none (vS "law_ti0079_01" 2583) none (vR 252) Value.none 0)
noncomputable abbrev o254v0 (P:Params):Obj := oT []
noncomputable abbrev o255v0 (P:Params):Obj := oF []
noncomputable abbrev o256v0 (P:Params):Obj := oN (fF "_law_page" "_law_page" (stm 21) 0 Value.none Value.none Value.none Value.none none Value.none Value.none 0)
noncomputable abbrev o257v0 (P:Params):Obj := oC [vS "_law_page" 2606,vS "_law_page" 2607,vS cut 2608,vI 253,vI 2,vI 0,vI 0,vI 3,vR 254,(Value.bool Bool.true),vI 276,vR 255,Value.none,Value.none,Value.none,vR 256,vI 2609,vI 253,vS cut 2610]
noncomputable abbrev o258v0 (P:Params):Obj := oM (fF "_law_page" "_law_page" (stm 21) 3 Value.none Value.none Value.none (vS "law_ti0079_01" 2583) none (vR 257) Value.none 0)
noncomputable abbrev o259v0 (P:Params):Obj := oT []
noncomputable abbrev o260v0 (P:Params):Obj := oF []
noncomputable abbrev o261v0 (P:Params):Obj := oN (fF "_law_prepared" "_law_prepared" (stm 22) 0 Value.none Value.none Value.none Value.none none Value.none Value.none 0)
noncomputable abbrev o262v0 (P:Params):Obj := oC [vS "_law_prepared" 2612,vS "_law_prepared" 2613,vS cut 2614,vI 258,vI 1,vI 0,vI 0,vI 3,vR 259,(Value.bool Bool.true),vI 276,vR 260,Value.none,Value.none,Value.none,vR 261,vI 2615,vI 258,vS cut 2616]
noncomputable abbrev o263v0 (P:Params):Obj := oM (fF "_law_prepared" "_law_prepared" (stm 22) 3 Value.none Value.none Value.none (vS "law_ti0079_01" 2583) none (vR 262) Value.none 0)
noncomputable abbrev o264v0 (P:Params):Obj := oT []
noncomputable abbrev o265v0 (P:Params):Obj := oF []
noncomputable abbrev o266v0 (P:Params):Obj := oN (fF "_law_question" "_law_question" (stm 23) 0 Value.none Value.none Value.none Value.none none Value.none Value.none 0)
noncomputable abbrev o267v0 (P:Params):Obj := oC [vS "_law_question" 2618,vS "_law_question" 2619,vS cut 2620,vI 264,vI 2,vI 0,vI 0,vI 3,vR 264,(Value.bool Bool.true),vI 276,vR 265,Value.none,Value.none,Value.none,vR 266,vI 2621,vI 264,vS cut 2622]
noncomputable abbrev o268v0 (P:Params):Obj := oM (fF "_law_question" "_law_question" (stm 23) 3 Value.none Value.none Value.none (vS "law_ti0079_01" 2583) none (vR 267) Value.none 0)
noncomputable abbrev o269v0 (P:Params):Obj := oT []
noncomputable abbrev o270v0 (P:Params):Obj := oF []
noncomputable abbrev o271v0 (P:Params):Obj := oN (fF "_law_falls" "_law_falls" (stm 24) 0 Value.none Value.none Value.none Value.none none Value.none Value.none 0)
noncomputable abbrev o272v0 (P:Params):Obj := oC [vS "_law_falls" 2624,vS "_law_falls" 2625,vS cut 2626,vI 266,vI 1,vI 0,vI 0,vI 3,vR 269,(Value.bool Bool.true),vI 276,vR 270,Value.none,Value.none,Value.none,vR 271,vI 2627,vI 266,vS cut 2628]
noncomputable abbrev o273v0 (P:Params):Obj := oM (fF "_law_falls" "_law_falls" (stm 24) 3 Value.none Value.none Value.none (vS "law_ti0079_01" 2583) none (vR 272) Value.none 0)
noncomputable abbrev o274v0 (P:Params):Obj := oT []
noncomputable abbrev o275v0 (P:Params):Obj := oF []
noncomputable abbrev o276v0 (P:Params):Obj := oT [vS "things" 2633,vS "size" 2634,vS "total" 2635,vS "k" 2636]
noncomputable abbrev o277v0 (P:Params):Obj := oT []
noncomputable abbrev o278v0 (P:Params):Obj := oN (fF "_law_choices" "_law_choices" (stm 25) 0 Value.none Value.none Value.none Value.none none Value.none Value.none 0)
noncomputable abbrev o279v0 (P:Params):Obj := oC [vS "_law_choices" 2630,vS "_law_choices" 2631,vS cut 2632,vI 268,vI 2,vI 0,vI 0,vI 3,vR 274,(Value.bool Bool.true),vI 276,vR 275,Value.none,vR 276,vR 277,vR 278,vI 2637,vI 268,vS cut 2638]
noncomputable abbrev o280v0 (P:Params):Obj := oM (fF "_law_choices" "_law_choices" (stm 25) 3 Value.none Value.none Value.none (vS "law_ti0079_01" 2583) none (vR 279) Value.none 0)
noncomputable abbrev o281v0 (P:Params):Obj := oT []
noncomputable abbrev o282v0 (P:Params):Obj := oF []
noncomputable abbrev o283v0 (P:Params):Obj := oN (fF "law" "law" (stm 26) 0 Value.none Value.none Value.none Value.none none Value.none Value.none 0)
noncomputable abbrev o284v0 (P:Params):Obj := oC [vS "law" 2640,vS "law" 2641,vS cut 2642,vI 273,vI 1,vI 0,vI 0,vI 3,vR 281,(Value.bool Bool.true),vI 276,vR 282,Value.none,Value.none,Value.none,vR 283,vI 2643,vI 273,vS cut 2644]
noncomputable abbrev o285v0 (P:Params):Obj := oM (fF "law" "law" (stm 26) 3 Value.none Value.none Value.none (vS "law_ti0079_01" 2583) none (vR 284) Value.none 0)
noncomputable abbrev hes0:Params -> Heap := fun P=>Heap.mk (Array.mk (o0v0 P::o1v0 P::o2v0 P::o3v0 P::o4v0 P::o5v0 P::o6v0 P::o7v0 P::o8v0 P::o9v0 P::o10v0 P::o11v0 P::o12v0 P::o13v0 P::o14v0 P::o15v0 P::o16v0 P::o17v0 P::o18v0 P::o19v0 P::o20v0 P::o21v0 P::o22v0 P::o23v0 P::o24v0 P::o25v0 P::o26v0 P::o27v0 P::[])) lifeH
noncomputable abbrev hesa:Params -> Heap := fun P=>Heap.mk (Array.mk (o0v0 P::o1v0 P::o2v0 P::o3v0 P::o4v0 P::o5v0 P::o6v0 P::o7v0 P::o8v0 P::o9v0 P::o10v0 P::o11v0 P::o12v0 P::o13v0 P::o14v0 P::o15v0 P::o16v0 P::o17v0 P::o18v0 P::o19v0 P::o20v0 P::o21v0 P::o22v0 P::o23v0 P::o24v0 P::o25v0 P::o26v0 P::o27v0 P::o28v0 P::o29v0 P::o30v0 P::o31v0 P::[])) lifeH
noncomputable abbrev trsa:Params -> BT := fun P=>(nd (o0v0 P) (nd (o1v0 P) (nd (o3v0 P) (nd (o7v0 P) (nd (o15v0 P) (lf (o31v0 P)) nl) (lf (o23v0 P))) (nd (o11v0 P) (lf (o19v0 P)) (lf (o27v0 P)))) (nd (o5v0 P) (nd (o9v0 P) (lf (o17v0 P)) (lf (o25v0 P))) (nd (o13v0 P) (lf (o21v0 P)) (lf (o29v0 P))))) (nd (o2v0 P) (nd (o4v0 P) (nd (o8v0 P) (lf (o16v0 P)) (lf (o24v0 P))) (nd (o12v0 P) (lf (o20v0 P)) (lf (o28v0 P)))) (nd (o6v0 P) (nd (o10v0 P) (lf (o18v0 P)) (lf (o26v0 P))) (nd (o14v0 P) (lf (o22v0 P)) (lf (o30v0 P))))))
noncomputable abbrev trg0:Params -> BT := fun P=>(nd (o0v0 P) (nd (o1v0 P) (nd (o3v1 P) (nd (o7v0 P) (nd (o15v0 P) (lf (o31v0 P)) nl) (nd (o23v0 P) (lf (o39v0 P)) nl)) (nd (o11v0 P) (nd (o19v0 P) (lf (o35v0 P)) nl) (nd (o27v0 P) (lf (o43v0 P)) nl))) (nd (o5v0 P) (nd (o9v0 P) (nd (o17v0 P) (lf (o33v0 P)) nl) (nd (o25v0 P) (lf (o41v0 P)) nl)) (nd (o13v0 P) (nd (o21v0 P) (lf (o37v0 P)) nl) (lf (o29v1 P))))) (nd (o2v0 P) (nd (o4v0 P) (nd (o8v0 P) (nd (o16v0 P) (lf (o32v0 P)) nl) (nd (o24v0 P) (lf (o40v0 P)) nl)) (nd (o12v0 P) (nd (o20v0 P) (lf (o36v0 P)) nl) (lf (o28v0 P)))) (nd (o6v0 P) (nd (o10v0 P) (nd (o18v0 P) (lf (o34v0 P)) nl) (nd (o26v0 P) (lf (o42v0 P)) nl)) (nd (o14v0 P) (nd (o22v0 P) (lf (o38v0 P)) nl) (lf (o30v0 P))))))
noncomputable abbrev trg1:Params -> BT := fun P=>(nd (o0v0 P) (nd (o1v0 P) (nd (o3v2 P) (nd (o7v0 P) (nd (o15v0 P) (lf (o31v0 P)) nl) (nd (o23v0 P) (lf (o39v0 P)) nl)) (nd (o11v0 P) (nd (o19v0 P) (lf (o35v0 P)) nl) (nd (o27v0 P) (lf (o43v0 P)) nl))) (nd (o5v0 P) (nd (o9v0 P) (nd (o17v0 P) (lf (o33v0 P)) nl) (nd (o25v0 P) (lf (o41v0 P)) nl)) (nd (o13v0 P) (nd (o21v0 P) (lf (o37v0 P)) nl) (lf (o29v1 P))))) (nd (o2v0 P) (nd (o4v0 P) (nd (o8v0 P) (nd (o16v0 P) (lf (o32v0 P)) nl) (nd (o24v0 P) (lf (o40v0 P)) nl)) (nd (o12v0 P) (nd (o20v0 P) (lf (o36v0 P)) nl) (nd (o28v0 P) (lf (o44v0 P)) nl))) (nd (o6v0 P) (nd (o10v0 P) (nd (o18v0 P) (lf (o34v0 P)) nl) (nd (o26v0 P) (lf (o42v0 P)) nl)) (nd (o14v0 P) (nd (o22v0 P) (lf (o38v0 P)) nl) (lf (o30v0 P))))))
noncomputable abbrev trg2:Params -> BT := fun P=>(nd (o0v0 P) (nd (o1v0 P) (nd (o3v3 P) (nd (o7v0 P) (nd (o15v0 P) (lf (o31v0 P)) (lf (o47v0 P))) (nd (o23v0 P) (lf (o39v0 P)) nl)) (nd (o11v0 P) (nd (o19v0 P) (lf (o35v0 P)) (lf (o51v0 P))) (nd (o27v0 P) (lf (o43v0 P)) nl))) (nd (o5v0 P) (nd (o9v0 P) (nd (o17v0 P) (lf (o33v0 P)) (lf (o49v0 P))) (nd (o25v0 P) (lf (o41v0 P)) nl)) (nd (o13v0 P) (nd (o21v0 P) (lf (o37v0 P)) nl) (nd (o29v2 P) (lf (o45v0 P)) nl)))) (nd (o2v0 P) (nd (o4v0 P) (nd (o8v0 P) (nd (o16v0 P) (lf (o32v0 P)) (lf (o48v0 P))) (nd (o24v0 P) (lf (o40v0 P)) nl)) (nd (o12v0 P) (nd (o20v0 P) (lf (o36v0 P)) (lf (o52v0 P))) (nd (o28v0 P) (lf (o44v0 P)) nl))) (nd (o6v0 P) (nd (o10v0 P) (nd (o18v0 P) (lf (o34v0 P)) (lf (o50v0 P))) (nd (o26v0 P) (lf (o42v0 P)) nl)) (nd (o14v0 P) (nd (o22v0 P) (lf (o38v0 P)) nl) (nd (o30v0 P) (lf (o46v0 P)) nl)))))
noncomputable abbrev trg3:Params -> BT := fun P=>(nd (o0v0 P) (nd (o1v0 P) (nd (o3v4 P) (nd (o7v0 P) (nd (o15v0 P) (nd (o31v0 P) (nd (o63v0 P) (lf (o127v0 P)) nl) (lf (o95v0 P))) (nd (o47v0 P) (nd (o79v0 P) (lf (o143v0 P)) nl) (lf (o111v0 P)))) (nd (o23v0 P) (nd (o39v0 P) (nd (o71v0 P) (lf (o135v0 P)) nl) (lf (o103v0 P))) (nd (o55v0 P) (nd (o87v0 P) (lf (o151v0 P)) nl) (lf (o119v0 P))))) (nd (o11v0 P) (nd (o19v0 P) (nd (o35v0 P) (nd (o67v0 P) (lf (o131v0 P)) nl) (lf (o99v0 P))) (nd (o51v0 P) (nd (o83v0 P) (lf (o147v0 P)) nl) (lf (o115v0 P)))) (nd (o27v0 P) (nd (o43v0 P) (nd (o75v0 P) (lf (o139v0 P)) nl) (lf (o107v0 P))) (nd (o59v0 P) (lf (o91v0 P)) (lf (o123v0 P)))))) (nd (o5v0 P) (nd (o9v0 P) (nd (o17v0 P) (nd (o33v0 P) (nd (o65v0 P) (lf (o129v0 P)) nl) (lf (o97v0 P))) (nd (o49v0 P) (nd (o81v0 P) (lf (o145v0 P)) nl) (lf (o113v0 P)))) (nd (o25v0 P) (nd (o41v0 P) (nd (o73v0 P) (lf (o137v0 P)) nl) (lf (o105v0 P))) (nd (o57v0 P) (nd (o89v0 P) (lf (o153v0 P)) nl) (lf (o121v0 P))))) (nd (o13v0 P) (nd (o21v0 P) (nd (o37v0 P) (nd (o69v0 P) (lf (o133v0 P)) nl) (lf (o101v0 P))) (nd (o53v0 P) (nd (o85v0 P) (lf (o149v0 P)) nl) (lf (o117v0 P)))) (nd (o29v3 P) (nd (o45v0 P) (nd (o77v0 P) (lf (o141v0 P)) nl) (lf (o109v0 P))) (nd (o61v0 P) (lf (o93v0 P)) (lf (o125v0 P))))))) (nd (o2v0 P) (nd (o4v0 P) (nd (o8v0 P) (nd (o16v0 P) (nd (o32v0 P) (nd (o64v0 P) (lf (o128v0 P)) nl) (lf (o96v0 P))) (nd (o48v0 P) (nd (o80v0 P) (lf (o144v0 P)) nl) (lf (o112v0 P)))) (nd (o24v0 P) (nd (o40v0 P) (nd (o72v0 P) (lf (o136v0 P)) nl) (lf (o104v0 P))) (nd (o56v0 P) (nd (o88v0 P) (lf (o152v0 P)) nl) (lf (o120v0 P))))) (nd (o12v0 P) (nd (o20v0 P) (nd (o36v0 P) (nd (o68v0 P) (lf (o132v0 P)) nl) (lf (o100v0 P))) (nd (o52v0 P) (nd (o84v0 P) (lf (o148v0 P)) nl) (lf (o116v0 P)))) (nd (o28v0 P) (nd (o44v0 P) (nd (o76v0 P) (lf (o140v0 P)) nl) (lf (o108v0 P))) (nd (o60v0 P) (lf (o92v0 P)) (lf (o124v0 P)))))) (nd (o6v0 P) (nd (o10v0 P) (nd (o18v0 P) (nd (o34v0 P) (nd (o66v0 P) (lf (o130v0 P)) nl) (lf (o98v0 P))) (nd (o50v0 P) (nd (o82v0 P) (lf (o146v0 P)) nl) (lf (o114v0 P)))) (nd (o26v0 P) (nd (o42v0 P) (nd (o74v0 P) (lf (o138v0 P)) nl) (lf (o106v0 P))) (nd (o58v0 P) (nd (o90v0 P) (lf (o154v0 P)) nl) (lf (o122v0 P))))) (nd (o14v0 P) (nd (o22v0 P) (nd (o38v0 P) (nd (o70v0 P) (lf (o134v0 P)) nl) (lf (o102v0 P))) (nd (o54v0 P) (nd (o86v0 P) (lf (o150v0 P)) nl) (lf (o118v0 P)))) (nd (o30v0 P) (nd (o46v0 P) (nd (o78v0 P) (lf (o142v0 P)) nl) (lf (o110v0 P))) (nd (o62v0 P) (lf (o94v0 P)) (lf (o126v0 P))))))))
noncomputable abbrev trg4:Params -> BT := fun P=>(nd (o0v0 P) (nd (o1v0 P) (nd (o3v5 P) (nd (o7v0 P) (nd (o15v0 P) (nd (o31v0 P) (nd (o63v0 P) (lf (o127v0 P)) nl) (nd (o95v0 P) (lf (o159v0 P)) nl)) (nd (o47v0 P) (nd (o79v0 P) (lf (o143v0 P)) nl) (nd (o111v0 P) (lf (o175v0 P)) nl))) (nd (o23v0 P) (nd (o39v0 P) (nd (o71v0 P) (lf (o135v0 P)) nl) (nd (o103v0 P) (lf (o167v0 P)) nl)) (nd (o55v0 P) (nd (o87v0 P) (lf (o151v0 P)) nl) (lf (o119v0 P))))) (nd (o11v0 P) (nd (o19v0 P) (nd (o35v0 P) (nd (o67v0 P) (lf (o131v0 P)) nl) (nd (o99v0 P) (lf (o163v0 P)) nl)) (nd (o51v0 P) (nd (o83v0 P) (lf (o147v0 P)) nl) (lf (o115v0 P)))) (nd (o27v0 P) (nd (o43v0 P) (nd (o75v0 P) (lf (o139v0 P)) nl) (nd (o107v0 P) (lf (o171v0 P)) nl)) (nd (o59v0 P) (nd (o91v0 P) (lf (o155v0 P)) nl) (lf (o123v0 P)))))) (nd (o5v0 P) (nd (o9v0 P) (nd (o17v0 P) (nd (o33v0 P) (nd (o65v0 P) (lf (o129v0 P)) nl) (nd (o97v0 P) (lf (o161v0 P)) nl)) (nd (o49v0 P) (nd (o81v0 P) (lf (o145v0 P)) nl) (lf (o113v0 P)))) (nd (o25v0 P) (nd (o41v0 P) (nd (o73v0 P) (lf (o137v0 P)) nl) (nd (o105v0 P) (lf (o169v0 P)) nl)) (nd (o57v0 P) (nd (o89v0 P) (lf (o153v0 P)) nl) (lf (o121v0 P))))) (nd (o13v0 P) (nd (o21v0 P) (nd (o37v0 P) (nd (o69v0 P) (lf (o133v0 P)) nl) (nd (o101v0 P) (lf (o165v0 P)) nl)) (nd (o53v0 P) (nd (o85v0 P) (lf (o149v0 P)) nl) (lf (o117v0 P)))) (nd (o29v4 P) (nd (o45v0 P) (nd (o77v0 P) (lf (o141v0 P)) nl) (nd (o109v0 P) (lf (o173v0 P)) nl)) (nd (o61v0 P) (nd (o93v0 P) (lf (o157v0 P)) nl) (lf (o125v0 P))))))) (nd (o2v0 P) (nd (o4v0 P) (nd (o8v0 P) (nd (o16v0 P) (nd (o32v0 P) (nd (o64v0 P) (lf (o128v0 P)) nl) (nd (o96v0 P) (lf (o160v0 P)) nl)) (nd (o48v0 P) (nd (o80v0 P) (lf (o144v0 P)) nl) (lf (o112v0 P)))) (nd (o24v0 P) (nd (o40v0 P) (nd (o72v0 P) (lf (o136v0 P)) nl) (nd (o104v0 P) (lf (o168v0 P)) nl)) (nd (o56v0 P) (nd (o88v0 P) (lf (o152v0 P)) nl) (lf (o120v0 P))))) (nd (o12v0 P) (nd (o20v0 P) (nd (o36v0 P) (nd (o68v0 P) (lf (o132v0 P)) nl) (nd (o100v0 P) (lf (o164v0 P)) nl)) (nd (o52v0 P) (nd (o84v0 P) (lf (o148v0 P)) nl) (lf (o116v0 P)))) (nd (o28v0 P) (nd (o44v0 P) (nd (o76v0 P) (lf (o140v0 P)) nl) (nd (o108v0 P) (lf (o172v0 P)) nl)) (nd (o60v0 P) (nd (o92v0 P) (lf (o156v0 P)) nl) (lf (o124v0 P)))))) (nd (o6v0 P) (nd (o10v0 P) (nd (o18v0 P) (nd (o34v0 P) (nd (o66v0 P) (lf (o130v0 P)) nl) (nd (o98v0 P) (lf (o162v0 P)) nl)) (nd (o50v0 P) (nd (o82v0 P) (lf (o146v0 P)) nl) (lf (o114v0 P)))) (nd (o26v0 P) (nd (o42v0 P) (nd (o74v0 P) (lf (o138v0 P)) nl) (nd (o106v0 P) (lf (o170v0 P)) nl)) (nd (o58v0 P) (nd (o90v0 P) (lf (o154v0 P)) nl) (lf (o122v0 P))))) (nd (o14v0 P) (nd (o22v0 P) (nd (o38v0 P) (nd (o70v0 P) (lf (o134v0 P)) nl) (nd (o102v0 P) (lf (o166v0 P)) nl)) (nd (o54v0 P) (nd (o86v0 P) (lf (o150v0 P)) nl) (lf (o118v0 P)))) (nd (o30v0 P) (nd (o46v0 P) (nd (o78v0 P) (lf (o142v0 P)) nl) (nd (o110v0 P) (lf (o174v0 P)) nl)) (nd (o62v0 P) (nd (o94v0 P) (lf (o158v0 P)) nl) (lf (o126v0 P))))))))
noncomputable abbrev trg5:Params -> BT := fun P=>(nd (o0v0 P) (nd (o1v0 P) (nd (o3v6 P) (nd (o7v0 P) (nd (o15v0 P) (nd (o31v0 P) (nd (o63v0 P) (lf (o127v0 P)) nl) (nd (o95v0 P) (lf (o159v0 P)) nl)) (nd (o47v0 P) (nd (o79v0 P) (lf (o143v0 P)) nl) (nd (o111v0 P) (lf (o175v0 P)) nl))) (nd (o23v0 P) (nd (o39v0 P) (nd (o71v0 P) (lf (o135v0 P)) nl) (nd (o103v0 P) (lf (o167v0 P)) nl)) (nd (o55v0 P) (nd (o87v0 P) (lf (o151v0 P)) nl) (nd (o119v0 P) (lf (o183v0 P)) nl)))) (nd (o11v0 P) (nd (o19v0 P) (nd (o35v0 P) (nd (o67v0 P) (lf (o131v0 P)) nl) (nd (o99v0 P) (lf (o163v0 P)) nl)) (nd (o51v0 P) (nd (o83v0 P) (lf (o147v0 P)) nl) (nd (o115v0 P) (lf (o179v0 P)) nl))) (nd (o27v0 P) (nd (o43v0 P) (nd (o75v0 P) (lf (o139v0 P)) nl) (nd (o107v0 P) (lf (o171v0 P)) nl)) (nd (o59v0 P) (nd (o91v0 P) (lf (o155v0 P)) nl) (lf (o123v0 P)))))) (nd (o5v0 P) (nd (o9v0 P) (nd (o17v0 P) (nd (o33v0 P) (nd (o65v0 P) (lf (o129v0 P)) nl) (nd (o97v0 P) (lf (o161v0 P)) nl)) (nd (o49v0 P) (nd (o81v0 P) (lf (o145v0 P)) nl) (nd (o113v0 P) (lf (o177v0 P)) nl))) (nd (o25v0 P) (nd (o41v0 P) (nd (o73v0 P) (lf (o137v0 P)) nl) (nd (o105v0 P) (lf (o169v0 P)) nl)) (nd (o57v0 P) (nd (o89v0 P) (lf (o153v0 P)) nl) (nd (o121v0 P) (lf (o185v0 P)) nl)))) (nd (o13v0 P) (nd (o21v0 P) (nd (o37v0 P) (nd (o69v0 P) (lf (o133v0 P)) nl) (nd (o101v0 P) (lf (o165v0 P)) nl)) (nd (o53v0 P) (nd (o85v0 P) (lf (o149v0 P)) nl) (nd (o117v0 P) (lf (o181v0 P)) nl))) (nd (o29v4 P) (nd (o45v0 P) (nd (o77v0 P) (lf (o141v0 P)) nl) (nd (o109v0 P) (lf (o173v0 P)) nl)) (nd (o61v0 P) (nd (o93v0 P) (lf (o157v0 P)) nl) (lf (o125v0 P))))))) (nd (o2v0 P) (nd (o4v0 P) (nd (o8v0 P) (nd (o16v0 P) (nd (o32v0 P) (nd (o64v0 P) (lf (o128v0 P)) nl) (nd (o96v0 P) (lf (o160v0 P)) nl)) (nd (o48v0 P) (nd (o80v0 P) (lf (o144v0 P)) nl) (nd (o112v0 P) (lf (o176v0 P)) nl))) (nd (o24v0 P) (nd (o40v0 P) (nd (o72v0 P) (lf (o136v0 P)) nl) (nd (o104v0 P) (lf (o168v0 P)) nl)) (nd (o56v0 P) (nd (o88v0 P) (lf (o152v0 P)) nl) (nd (o120v0 P) (lf (o184v0 P)) nl)))) (nd (o12v0 P) (nd (o20v0 P) (nd (o36v0 P) (nd (o68v0 P) (lf (o132v0 P)) nl) (nd (o100v0 P) (lf (o164v0 P)) nl)) (nd (o52v0 P) (nd (o84v0 P) (lf (o148v0 P)) nl) (nd (o116v0 P) (lf (o180v0 P)) nl))) (nd (o28v0 P) (nd (o44v0 P) (nd (o76v0 P) (lf (o140v0 P)) nl) (nd (o108v0 P) (lf (o172v0 P)) nl)) (nd (o60v0 P) (nd (o92v0 P) (lf (o156v0 P)) nl) (lf (o124v0 P)))))) (nd (o6v0 P) (nd (o10v0 P) (nd (o18v0 P) (nd (o34v0 P) (nd (o66v0 P) (lf (o130v0 P)) nl) (nd (o98v0 P) (lf (o162v0 P)) nl)) (nd (o50v0 P) (nd (o82v0 P) (lf (o146v0 P)) nl) (nd (o114v0 P) (lf (o178v0 P)) nl))) (nd (o26v0 P) (nd (o42v0 P) (nd (o74v0 P) (lf (o138v0 P)) nl) (nd (o106v0 P) (lf (o170v0 P)) nl)) (nd (o58v0 P) (nd (o90v0 P) (lf (o154v0 P)) nl) (nd (o122v0 P) (lf (o186v0 P)) nl)))) (nd (o14v0 P) (nd (o22v0 P) (nd (o38v0 P) (nd (o70v0 P) (lf (o134v0 P)) nl) (nd (o102v0 P) (lf (o166v0 P)) nl)) (nd (o54v0 P) (nd (o86v0 P) (lf (o150v0 P)) nl) (nd (o118v0 P) (lf (o182v0 P)) nl))) (nd (o30v0 P) (nd (o46v0 P) (nd (o78v0 P) (lf (o142v0 P)) nl) (nd (o110v0 P) (lf (o174v0 P)) nl)) (nd (o62v0 P) (nd (o94v0 P) (lf (o158v0 P)) nl) (lf (o126v0 P))))))))
noncomputable abbrev trg6:Params -> BT := fun P=>(nd (o0v0 P) (nd (o1v0 P) (nd (o3v7 P) (nd (o7v0 P) (nd (o15v0 P) (nd (o31v0 P) (nd (o63v0 P) (lf (o127v0 P)) (lf (o191v0 P))) (nd (o95v0 P) (lf (o159v0 P)) nl)) (nd (o47v0 P) (nd (o79v0 P) (lf (o143v0 P)) nl) (nd (o111v0 P) (lf (o175v0 P)) nl))) (nd (o23v0 P) (nd (o39v0 P) (nd (o71v0 P) (lf (o135v0 P)) nl) (nd (o103v0 P) (lf (o167v0 P)) nl)) (nd (o55v0 P) (nd (o87v0 P) (lf (o151v0 P)) nl) (nd (o119v0 P) (lf (o183v0 P)) nl)))) (nd (o11v0 P) (nd (o19v0 P) (nd (o35v0 P) (nd (o67v0 P) (lf (o131v0 P)) nl) (nd (o99v0 P) (lf (o163v0 P)) nl)) (nd (o51v0 P) (nd (o83v0 P) (lf (o147v0 P)) nl) (nd (o115v0 P) (lf (o179v0 P)) nl))) (nd (o27v0 P) (nd (o43v0 P) (nd (o75v0 P) (lf (o139v0 P)) nl) (nd (o107v0 P) (lf (o171v0 P)) nl)) (nd (o59v0 P) (nd (o91v0 P) (lf (o155v0 P)) nl) (nd (o123v0 P) (lf (o187v0 P)) nl))))) (nd (o5v0 P) (nd (o9v0 P) (nd (o17v0 P) (nd (o33v0 P) (nd (o65v0 P) (lf (o129v0 P)) (lf (o193v0 P))) (nd (o97v0 P) (lf (o161v0 P)) nl)) (nd (o49v0 P) (nd (o81v0 P) (lf (o145v0 P)) nl) (nd (o113v0 P) (lf (o177v0 P)) nl))) (nd (o25v0 P) (nd (o41v0 P) (nd (o73v0 P) (lf (o137v0 P)) nl) (nd (o105v0 P) (lf (o169v0 P)) nl)) (nd (o57v0 P) (nd (o89v0 P) (lf (o153v0 P)) nl) (nd (o121v0 P) (lf (o185v0 P)) nl)))) (nd (o13v0 P) (nd (o21v0 P) (nd (o37v0 P) (nd (o69v0 P) (lf (o133v0 P)) nl) (nd (o101v0 P) (lf (o165v0 P)) nl)) (nd (o53v0 P) (nd (o85v0 P) (lf (o149v0 P)) nl) (nd (o117v0 P) (lf (o181v0 P)) nl))) (nd (o29v5 P) (nd (o45v0 P) (nd (o77v0 P) (lf (o141v0 P)) nl) (nd (o109v0 P) (lf (o173v0 P)) nl)) (nd (o61v0 P) (nd (o93v0 P) (lf (o157v0 P)) nl) (nd (o125v0 P) (lf (o189v0 P)) nl)))))) (nd (o2v0 P) (nd (o4v0 P) (nd (o8v0 P) (nd (o16v0 P) (nd (o32v0 P) (nd (o64v0 P) (lf (o128v0 P)) (lf (o192v0 P))) (nd (o96v0 P) (lf (o160v0 P)) nl)) (nd (o48v0 P) (nd (o80v0 P) (lf (o144v0 P)) nl) (nd (o112v0 P) (lf (o176v0 P)) nl))) (nd (o24v0 P) (nd (o40v0 P) (nd (o72v0 P) (lf (o136v0 P)) nl) (nd (o104v0 P) (lf (o168v0 P)) nl)) (nd (o56v0 P) (nd (o88v0 P) (lf (o152v0 P)) nl) (nd (o120v0 P) (lf (o184v0 P)) nl)))) (nd (o12v0 P) (nd (o20v0 P) (nd (o36v0 P) (nd (o68v0 P) (lf (o132v0 P)) nl) (nd (o100v0 P) (lf (o164v0 P)) nl)) (nd (o52v0 P) (nd (o84v0 P) (lf (o148v0 P)) nl) (nd (o116v0 P) (lf (o180v0 P)) nl))) (nd (o28v0 P) (nd (o44v0 P) (nd (o76v0 P) (lf (o140v0 P)) nl) (nd (o108v0 P) (lf (o172v0 P)) nl)) (nd (o60v0 P) (nd (o92v0 P) (lf (o156v0 P)) nl) (nd (o124v0 P) (lf (o188v0 P)) nl))))) (nd (o6v0 P) (nd (o10v0 P) (nd (o18v0 P) (nd (o34v0 P) (nd (o66v0 P) (lf (o130v0 P)) nl) (nd (o98v0 P) (lf (o162v0 P)) nl)) (nd (o50v0 P) (nd (o82v0 P) (lf (o146v0 P)) nl) (nd (o114v0 P) (lf (o178v0 P)) nl))) (nd (o26v0 P) (nd (o42v0 P) (nd (o74v0 P) (lf (o138v0 P)) nl) (nd (o106v0 P) (lf (o170v0 P)) nl)) (nd (o58v0 P) (nd (o90v0 P) (lf (o154v0 P)) nl) (nd (o122v0 P) (lf (o186v0 P)) nl)))) (nd (o14v0 P) (nd (o22v0 P) (nd (o38v0 P) (nd (o70v0 P) (lf (o134v0 P)) nl) (nd (o102v0 P) (lf (o166v0 P)) nl)) (nd (o54v0 P) (nd (o86v0 P) (lf (o150v0 P)) nl) (nd (o118v0 P) (lf (o182v0 P)) nl))) (nd (o30v0 P) (nd (o46v0 P) (nd (o78v0 P) (lf (o142v0 P)) nl) (nd (o110v0 P) (lf (o174v0 P)) nl)) (nd (o62v0 P) (nd (o94v0 P) (lf (o158v0 P)) nl) (nd (o126v0 P) (lf (o190v0 P)) nl)))))))
noncomputable abbrev trg7:Params -> BT := fun P=>(nd (o0v0 P) (nd (o1v0 P) (nd (o3v8 P) (nd (o7v0 P) (nd (o15v0 P) (nd (o31v0 P) (nd (o63v0 P) (lf (o127v0 P)) (lf (o191v0 P))) (nd (o95v0 P) (lf (o159v0 P)) (lf (o223v0 P)))) (nd (o47v0 P) (nd (o79v0 P) (lf (o143v0 P)) (lf (o207v0 P))) (nd (o111v0 P) (lf (o175v0 P)) nl))) (nd (o23v0 P) (nd (o39v0 P) (nd (o71v0 P) (lf (o135v0 P)) (lf (o199v0 P))) (nd (o103v0 P) (lf (o167v0 P)) (lf (o231v0 P)))) (nd (o55v0 P) (nd (o87v0 P) (lf (o151v0 P)) (lf (o215v0 P))) (nd (o119v0 P) (lf (o183v0 P)) nl)))) (nd (o11v0 P) (nd (o19v0 P) (nd (o35v0 P) (nd (o67v0 P) (lf (o131v0 P)) (lf (o195v0 P))) (nd (o99v0 P) (lf (o163v0 P)) (lf (o227v0 P)))) (nd (o51v0 P) (nd (o83v0 P) (lf (o147v0 P)) (lf (o211v0 P))) (nd (o115v0 P) (lf (o179v0 P)) nl))) (nd (o27v0 P) (nd (o43v0 P) (nd (o75v0 P) (lf (o139v0 P)) (lf (o203v0 P))) (nd (o107v0 P) (lf (o171v0 P)) nl)) (nd (o59v0 P) (nd (o91v0 P) (lf (o155v0 P)) (lf (o219v0 P))) (nd (o123v0 P) (lf (o187v0 P)) nl))))) (nd (o5v0 P) (nd (o9v0 P) (nd (o17v0 P) (nd (o33v0 P) (nd (o65v0 P) (lf (o129v0 P)) (lf (o193v0 P))) (nd (o97v0 P) (lf (o161v0 P)) (lf (o225v0 P)))) (nd (o49v0 P) (nd (o81v0 P) (lf (o145v0 P)) (lf (o209v0 P))) (nd (o113v0 P) (lf (o177v0 P)) nl))) (nd (o25v0 P) (nd (o41v0 P) (nd (o73v0 P) (lf (o137v0 P)) (lf (o201v0 P))) (nd (o105v0 P) (lf (o169v0 P)) nl)) (nd (o57v0 P) (nd (o89v0 P) (lf (o153v0 P)) (lf (o217v0 P))) (nd (o121v0 P) (lf (o185v0 P)) nl)))) (nd (o13v0 P) (nd (o21v0 P) (nd (o37v0 P) (nd (o69v0 P) (lf (o133v0 P)) (lf (o197v0 P))) (nd (o101v0 P) (lf (o165v0 P)) (lf (o229v0 P)))) (nd (o53v0 P) (nd (o85v0 P) (lf (o149v0 P)) (lf (o213v0 P))) (nd (o117v0 P) (lf (o181v0 P)) nl))) (nd (o29v5 P) (nd (o45v0 P) (nd (o77v0 P) (lf (o141v0 P)) (lf (o205v0 P))) (nd (o109v0 P) (lf (o173v0 P)) nl)) (nd (o61v0 P) (nd (o93v0 P) (lf (o157v0 P)) (lf (o221v0 P))) (nd (o125v0 P) (lf (o189v0 P)) nl)))))) (nd (o2v0 P) (nd (o4v0 P) (nd (o8v0 P) (nd (o16v0 P) (nd (o32v0 P) (nd (o64v0 P) (lf (o128v0 P)) (lf (o192v0 P))) (nd (o96v0 P) (lf (o160v0 P)) (lf (o224v0 P)))) (nd (o48v0 P) (nd (o80v0 P) (lf (o144v0 P)) (lf (o208v0 P))) (nd (o112v0 P) (lf (o176v0 P)) nl))) (nd (o24v0 P) (nd (o40v0 P) (nd (o72v0 P) (lf (o136v0 P)) (lf (o200v0 P))) (nd (o104v0 P) (lf (o168v0 P)) (lf (o232v0 P)))) (nd (o56v0 P) (nd (o88v0 P) (lf (o152v0 P)) (lf (o216v0 P))) (nd (o120v0 P) (lf (o184v0 P)) nl)))) (nd (o12v0 P) (nd (o20v0 P) (nd (o36v0 P) (nd (o68v0 P) (lf (o132v0 P)) (lf (o196v0 P))) (nd (o100v0 P) (lf (o164v0 P)) (lf (o228v0 P)))) (nd (o52v0 P) (nd (o84v0 P) (lf (o148v0 P)) (lf (o212v0 P))) (nd (o116v0 P) (lf (o180v0 P)) nl))) (nd (o28v0 P) (nd (o44v0 P) (nd (o76v0 P) (lf (o140v0 P)) (lf (o204v0 P))) (nd (o108v0 P) (lf (o172v0 P)) nl)) (nd (o60v0 P) (nd (o92v0 P) (lf (o156v0 P)) (lf (o220v0 P))) (nd (o124v0 P) (lf (o188v0 P)) nl))))) (nd (o6v0 P) (nd (o10v0 P) (nd (o18v0 P) (nd (o34v0 P) (nd (o66v0 P) (lf (o130v0 P)) (lf (o194v0 P))) (nd (o98v0 P) (lf (o162v0 P)) (lf (o226v0 P)))) (nd (o50v0 P) (nd (o82v0 P) (lf (o146v0 P)) (lf (o210v0 P))) (nd (o114v0 P) (lf (o178v0 P)) nl))) (nd (o26v0 P) (nd (o42v0 P) (nd (o74v0 P) (lf (o138v0 P)) (lf (o202v0 P))) (nd (o106v0 P) (lf (o170v0 P)) nl)) (nd (o58v0 P) (nd (o90v0 P) (lf (o154v0 P)) (lf (o218v0 P))) (nd (o122v0 P) (lf (o186v0 P)) nl)))) (nd (o14v0 P) (nd (o22v0 P) (nd (o38v0 P) (nd (o70v0 P) (lf (o134v0 P)) (lf (o198v0 P))) (nd (o102v0 P) (lf (o166v0 P)) (lf (o230v0 P)))) (nd (o54v0 P) (nd (o86v0 P) (lf (o150v0 P)) (lf (o214v0 P))) (nd (o118v0 P) (lf (o182v0 P)) nl))) (nd (o30v0 P) (nd (o46v0 P) (nd (o78v0 P) (lf (o142v0 P)) (lf (o206v0 P))) (nd (o110v0 P) (lf (o174v0 P)) nl)) (nd (o62v0 P) (nd (o94v0 P) (lf (o158v0 P)) (lf (o222v0 P))) (nd (o126v0 P) (lf (o190v0 P)) nl)))))))
noncomputable abbrev heg8:Params -> Heap := fun P=>Heap.mk (Array.mk (o0v0 P::o1v0 P::o2v0 P::o3v9 P::o4v0 P::o5v0 P::o6v0 P::o7v0 P::o8v0 P::o9v0 P::o10v0 P::o11v0 P::o12v0 P::o13v0 P::o14v0 P::o15v0 P::o16v0 P::o17v0 P::o18v0 P::o19v0 P::o20v0 P::o21v0 P::o22v0 P::o23v0 P::o24v0 P::o25v0 P::o26v0 P::o27v0 P::o28v0 P::o29v6 P::o30v0 P::o31v0 P::o32v0 P::o33v0 P::o34v0 P::o35v0 P::o36v0 P::o37v0 P::o38v0 P::o39v0 P::o40v0 P::o41v0 P::o42v0 P::o43v0 P::o44v0 P::o45v0 P::o46v0 P::o47v0 P::o48v0 P::o49v0 P::o50v0 P::o51v0 P::o52v0 P::o53v0 P::o54v0 P::o55v0 P::o56v0 P::o57v0 P::o58v0 P::o59v0 P::o60v0 P::o61v0 P::o62v0 P::o63v0 P::o64v0 P::o65v0 P::o66v0 P::o67v0 P::o68v0 P::o69v0 P::o70v0 P::o71v0 P::o72v0 P::o73v0 P::o74v0 P::o75v0 P::o76v0 P::o77v0 P::o78v0 P::o79v0 P::o80v0 P::o81v0 P::o82v0 P::o83v0 P::o84v0 P::o85v0 P::o86v0 P::o87v0 P::o88v0 P::o89v0 P::o90v0 P::o91v0 P::o92v0 P::o93v0 P::o94v0 P::o95v0 P::o96v0 P::o97v0 P::o98v0 P::o99v0 P::o100v0 P::o101v0 P::o102v0 P::o103v0 P::o104v0 P::o105v0 P::o106v0 P::o107v0 P::o108v0 P::o109v0 P::o110v0 P::o111v0 P::o112v0 P::o113v0 P::o114v0 P::o115v0 P::o116v0 P::o117v0 P::o118v0 P::o119v0 P::o120v0 P::o121v0 P::o122v0 P::o123v0 P::o124v0 P::o125v0 P::o126v0 P::o127v0 P::o128v0 P::o129v0 P::o130v0 P::o131v0 P::o132v0 P::o133v0 P::o134v0 P::o135v0 P::o136v0 P::o137v0 P::o138v0 P::o139v0 P::o140v0 P::o141v0 P::o142v0 P::o143v0 P::o144v0 P::o145v0 P::o146v0 P::o147v0 P::o148v0 P::o149v0 P::o150v0 P::o151v0 P::o152v0 P::o153v0 P::o154v0 P::o155v0 P::o156v0 P::o157v0 P::o158v0 P::o159v0 P::o160v0 P::o161v0 P::o162v0 P::o163v0 P::o164v0 P::o165v0 P::o166v0 P::o167v0 P::o168v0 P::o169v0 P::o170v0 P::o171v0 P::o172v0 P::o173v0 P::o174v0 P::o175v0 P::o176v0 P::o177v0 P::o178v0 P::o179v0 P::o180v0 P::o181v0 P::o182v0 P::o183v0 P::o184v0 P::o185v0 P::o186v0 P::o187v0 P::o188v0 P::o189v0 P::o190v0 P::o191v0 P::o192v0 P::o193v0 P::o194v0 P::o195v0 P::o196v0 P::o197v0 P::o198v0 P::o199v0 P::o200v0 P::o201v0 P::o202v0 P::o203v0 P::o204v0 P::o205v0 P::o206v0 P::o207v0 P::o208v0 P::o209v0 P::o210v0 P::o211v0 P::o212v0 P::o213v0 P::o214v0 P::o215v0 P::o216v0 P::o217v0 P::o218v0 P::o219v0 P::o220v0 P::o221v0 P::o222v0 P::o223v0 P::o224v0 P::o225v0 P::o226v0 P::o227v0 P::o228v0 P::o229v0 P::o230v0 P::o231v0 P::o232v0 P::o233v0 P::o234v0 P::o235v0 P::o236v0 P::o237v0 P::o238v0 P::o239v0 P::o240v0 P::o241v0 P::o242v0 P::o243v0 P::o244v0 P::o245v0 P::o246v0 P::o247v0 P::o248v0 P::o249v0 P::o250v0 P::o251v0 P::o252v0 P::o253v0 P::o254v0 P::o255v0 P::o256v0 P::o257v0 P::o258v0 P::o259v0 P::o260v0 P::o261v0 P::o262v0 P::o263v0 P::o264v0 P::o265v0 P::o266v0 P::o267v0 P::o268v0 P::o269v0 P::o270v0 P::o271v0 P::o272v0 P::o273v0 P::o274v0 P::o275v0 P::o276v0 P::o277v0 P::o278v0 P::o279v0 P::o280v0 P::o281v0 P::o282v0 P::o283v0 P::o284v0 P::o285v0 P::[])) lifeH
noncomputable abbrev trg8:Params -> BT := fun P=>(nd (o0v0 P) (nd (o1v0 P) (nd (o3v9 P) (nd (o7v0 P) (nd (o15v0 P) (nd (o31v0 P) (nd (o63v0 P) (nd (o127v0 P) (lf (o255v0 P)) nl) (lf (o191v0 P))) (nd (o95v0 P) (lf (o159v0 P)) (lf (o223v0 P)))) (nd (o47v0 P) (nd (o79v0 P) (nd (o143v0 P) (lf (o271v0 P)) nl) (lf (o207v0 P))) (nd (o111v0 P) (lf (o175v0 P)) (lf (o239v0 P))))) (nd (o23v0 P) (nd (o39v0 P) (nd (o71v0 P) (nd (o135v0 P) (lf (o263v0 P)) nl) (lf (o199v0 P))) (nd (o103v0 P) (lf (o167v0 P)) (lf (o231v0 P)))) (nd (o55v0 P) (nd (o87v0 P) (nd (o151v0 P) (lf (o279v0 P)) nl) (lf (o215v0 P))) (nd (o119v0 P) (lf (o183v0 P)) (lf (o247v0 P)))))) (nd (o11v0 P) (nd (o19v0 P) (nd (o35v0 P) (nd (o67v0 P) (nd (o131v0 P) (lf (o259v0 P)) nl) (lf (o195v0 P))) (nd (o99v0 P) (lf (o163v0 P)) (lf (o227v0 P)))) (nd (o51v0 P) (nd (o83v0 P) (nd (o147v0 P) (lf (o275v0 P)) nl) (lf (o211v0 P))) (nd (o115v0 P) (lf (o179v0 P)) (lf (o243v0 P))))) (nd (o27v0 P) (nd (o43v0 P) (nd (o75v0 P) (nd (o139v0 P) (lf (o267v0 P)) nl) (lf (o203v0 P))) (nd (o107v0 P) (lf (o171v0 P)) (lf (o235v0 P)))) (nd (o59v0 P) (nd (o91v0 P) (nd (o155v0 P) (lf (o283v0 P)) nl) (lf (o219v0 P))) (nd (o123v0 P) (lf (o187v0 P)) (lf (o251v0 P))))))) (nd (o5v0 P) (nd (o9v0 P) (nd (o17v0 P) (nd (o33v0 P) (nd (o65v0 P) (nd (o129v0 P) (lf (o257v0 P)) nl) (lf (o193v0 P))) (nd (o97v0 P) (lf (o161v0 P)) (lf (o225v0 P)))) (nd (o49v0 P) (nd (o81v0 P) (nd (o145v0 P) (lf (o273v0 P)) nl) (lf (o209v0 P))) (nd (o113v0 P) (lf (o177v0 P)) (lf (o241v0 P))))) (nd (o25v0 P) (nd (o41v0 P) (nd (o73v0 P) (nd (o137v0 P) (lf (o265v0 P)) nl) (lf (o201v0 P))) (nd (o105v0 P) (lf (o169v0 P)) (lf (o233v0 P)))) (nd (o57v0 P) (nd (o89v0 P) (nd (o153v0 P) (lf (o281v0 P)) nl) (lf (o217v0 P))) (nd (o121v0 P) (lf (o185v0 P)) (lf (o249v0 P)))))) (nd (o13v0 P) (nd (o21v0 P) (nd (o37v0 P) (nd (o69v0 P) (nd (o133v0 P) (lf (o261v0 P)) nl) (lf (o197v0 P))) (nd (o101v0 P) (lf (o165v0 P)) (lf (o229v0 P)))) (nd (o53v0 P) (nd (o85v0 P) (nd (o149v0 P) (lf (o277v0 P)) nl) (lf (o213v0 P))) (nd (o117v0 P) (lf (o181v0 P)) (lf (o245v0 P))))) (nd (o29v6 P) (nd (o45v0 P) (nd (o77v0 P) (nd (o141v0 P) (lf (o269v0 P)) nl) (lf (o205v0 P))) (nd (o109v0 P) (lf (o173v0 P)) (lf (o237v0 P)))) (nd (o61v0 P) (nd (o93v0 P) (nd (o157v0 P) (lf (o285v0 P)) nl) (lf (o221v0 P))) (nd (o125v0 P) (lf (o189v0 P)) (lf (o253v0 P)))))))) (nd (o2v0 P) (nd (o4v0 P) (nd (o8v0 P) (nd (o16v0 P) (nd (o32v0 P) (nd (o64v0 P) (nd (o128v0 P) (lf (o256v0 P)) nl) (lf (o192v0 P))) (nd (o96v0 P) (lf (o160v0 P)) (lf (o224v0 P)))) (nd (o48v0 P) (nd (o80v0 P) (nd (o144v0 P) (lf (o272v0 P)) nl) (lf (o208v0 P))) (nd (o112v0 P) (lf (o176v0 P)) (lf (o240v0 P))))) (nd (o24v0 P) (nd (o40v0 P) (nd (o72v0 P) (nd (o136v0 P) (lf (o264v0 P)) nl) (lf (o200v0 P))) (nd (o104v0 P) (lf (o168v0 P)) (lf (o232v0 P)))) (nd (o56v0 P) (nd (o88v0 P) (nd (o152v0 P) (lf (o280v0 P)) nl) (lf (o216v0 P))) (nd (o120v0 P) (lf (o184v0 P)) (lf (o248v0 P)))))) (nd (o12v0 P) (nd (o20v0 P) (nd (o36v0 P) (nd (o68v0 P) (nd (o132v0 P) (lf (o260v0 P)) nl) (lf (o196v0 P))) (nd (o100v0 P) (lf (o164v0 P)) (lf (o228v0 P)))) (nd (o52v0 P) (nd (o84v0 P) (nd (o148v0 P) (lf (o276v0 P)) nl) (lf (o212v0 P))) (nd (o116v0 P) (lf (o180v0 P)) (lf (o244v0 P))))) (nd (o28v0 P) (nd (o44v0 P) (nd (o76v0 P) (nd (o140v0 P) (lf (o268v0 P)) nl) (lf (o204v0 P))) (nd (o108v0 P) (lf (o172v0 P)) (lf (o236v0 P)))) (nd (o60v0 P) (nd (o92v0 P) (nd (o156v0 P) (lf (o284v0 P)) nl) (lf (o220v0 P))) (nd (o124v0 P) (lf (o188v0 P)) (lf (o252v0 P))))))) (nd (o6v0 P) (nd (o10v0 P) (nd (o18v0 P) (nd (o34v0 P) (nd (o66v0 P) (nd (o130v0 P) (lf (o258v0 P)) nl) (lf (o194v0 P))) (nd (o98v0 P) (lf (o162v0 P)) (lf (o226v0 P)))) (nd (o50v0 P) (nd (o82v0 P) (nd (o146v0 P) (lf (o274v0 P)) nl) (lf (o210v0 P))) (nd (o114v0 P) (lf (o178v0 P)) (lf (o242v0 P))))) (nd (o26v0 P) (nd (o42v0 P) (nd (o74v0 P) (nd (o138v0 P) (lf (o266v0 P)) nl) (lf (o202v0 P))) (nd (o106v0 P) (lf (o170v0 P)) (lf (o234v0 P)))) (nd (o58v0 P) (nd (o90v0 P) (nd (o154v0 P) (lf (o282v0 P)) nl) (lf (o218v0 P))) (nd (o122v0 P) (lf (o186v0 P)) (lf (o250v0 P)))))) (nd (o14v0 P) (nd (o22v0 P) (nd (o38v0 P) (nd (o70v0 P) (nd (o134v0 P) (lf (o262v0 P)) nl) (lf (o198v0 P))) (nd (o102v0 P) (lf (o166v0 P)) (lf (o230v0 P)))) (nd (o54v0 P) (nd (o86v0 P) (nd (o150v0 P) (lf (o278v0 P)) nl) (lf (o214v0 P))) (nd (o118v0 P) (lf (o182v0 P)) (lf (o246v0 P))))) (nd (o30v0 P) (nd (o46v0 P) (nd (o78v0 P) (nd (o142v0 P) (lf (o270v0 P)) nl) (lf (o206v0 P))) (nd (o110v0 P) (lf (o174v0 P)) (lf (o238v0 P)))) (nd (o62v0 P) (nd (o94v0 P) (lf (o158v0 P)) (lf (o222v0 P))) (nd (o126v0 P) (lf (o190v0 P)) (lf (o254v0 P)))))))))
end Mine
end
section
open PySem PySem.W PyProof.Rows PySem.Challenge
namespace Mine
theorem pre_go:∀ w:World,(fun os=>topGo treeTable pH w 28 (some (.ref 6)) 12 ⟨hes0 w.params,gensH,drawH,276,os⟩ (topStub pH)) = fun os=>some (⟨hesa w.params,gensH,drawH,282,os⟩,⟨denote treeTable cH,cH,⟨0,0,0,0⟩,BH⟩) := by
  intro w; kernel_rfl
theorem block_go:∀ w:World,(fun os=>segRun treeTable pH w 28 (some (.ref 6)) 1 1 ⟨hesa w.params,gensH,drawH,282,os⟩ (blockOf (behindTheImports pH) envH cH ⟨0,0,0,0⟩ BH)) = fun os=>some (.next,(stH trsa 32 282 w os).abs,cH,⟨0,0,0,0⟩) := by
  intro w; kernel_rfl
theorem fin_go:∀ w:World,(fun os=>topRun treeTable pH w 28 (some (.ref 6)) 2 (stH trg8 286 2646 w os).abs ⟨doneF .next,cH,⟨273,0,306,15⟩,BH⟩) = fun os=>some ⟨heg8 w.params,gensH,drawH,2646,os⟩ := by
  intro w; kernel_rfl
theorem size_go:∀ w:World,((hes0 w.params).isNs mainGlobals && gensH.size == 0,(hes0 w.params).objs.size,(hes0 w.params).nsMap mainGlobals "__annotations__") = (true,28,some (.ref 6)) := by
  intro w; kernel_rfl
noncomputable abbrev Pr:Type := Sem Value × Sem Value
noncomputable def flH (run:List Pr):Option Addr -> Sem (Option Addr)
  | none=>subDict run >>= fun a=>pure (some a)
  | some d=>holding [.ref d] (subDict run) >>= fun a =>
      ((holding [.ref d,.ref a] (mergeMapping d (.ref a) false)).onRaise fun x=>(holding [.ref d,x] (runValue (.builtin "proto.let_go" {})) >>= fun _=>pure ())) >>= fun _=>pure (some d)
noncomputable def chainH:List (List Pr) -> Option Addr -> Sem Value
  | [],m=>match m with
    | some d=>pure (.ref d)
    | none=>newDict
  | c :: r,m=>flH c m >>= fun m' => chainH r m'
theorem loop_short {σ:Type} {body:Option (Sem Value) × Sem Value -> Option Addr × List Pr -> Sem (ForInStep (Option Addr × List Pr))}
    (h:∀ k v main run,(run ++ [(k,v)]).length < 17 -> body (some k,v) (main,run) = pure (.yield (main,run ++ [(k,v)]))) :
    ∀ (c run:List Pr) (rest:List (Option (Sem Value) × Sem Value)) (main:Option Addr),(run ++ c).length < 17 ->
      forIn ((c.map fun p=>(some p.1,p.2)) ++ rest) (main,run) body = forIn rest (main,run ++ c) body
  | [],run,rest,main,_=>by simp
  | p :: c,run,rest,main,hl=>by
    have hl2:((run ++ [p]) ++ c).length < 17 := by simpa using hl
    rw [List.map_cons,List.cons_append,List.forIn_cons,h p.1 p.2 main run (by simp at hl ⊢; lia),pure_bind]
    show forIn ((c.map fun p=>(some p.1,p.2)) ++ rest) (main,run ++ [p]) body = _
    rw [loop_short (σ := σ) h c (run ++ [p]) rest main hl2]
    simp
theorem loop_long {body:Option (Sem Value) × Sem Value -> Option Addr × List Pr -> Sem (ForInStep (Option Addr × List Pr))} {fl:List Pr -> Option Addr -> Sem (Option Addr)}
    (h:∀ k v main run,(run ++ [(k,v)]).length < 17 -> body (some k,v) (main,run) = pure (.yield (main,run ++ [(k,v)])))
    (h2:∀ k v main run,(run ++ [(k,v)]).length = 17 -> body (some k,v) (main,run) = (fl (run ++ [(k,v)]) main >>= fun m=>pure (.yield (m,[]))))
    (c:List Pr) (rest:List (Option (Sem Value) × Sem Value)) (main:Option Addr) (hc:c.length = 17) :
      forIn ((c.map fun p=>(some p.1,p.2)) ++ rest) (main,[]) body = (fl c main >>= fun m=>forIn rest (m,[]) body) := by
  obtain ⟨c',p,rfl⟩:∃ c' p,c = c' ++ [p] := by
    rcases List.eq_nil_or_concat c with h | ⟨a,b,h⟩
    · rw [h] at hc; cases hc
    · exact ⟨a,b,by rw [h,List.concat_eq_append]⟩
  have hc':c'.length = 16 := by simp at hc; exact hc
  rw [List.map_append,List.append_assoc,loop_short (σ := Nat) h c' [] _ main (by simpa using (by lia:c'.length < 17)),List.nil_append]
  rw [List.map_singleton,List.singleton_append,List.forIn_cons,h2 p.1 p.2 main c' (by simp; lia),bind_assoc]
  simp
noncomputable def runsH (fl:List Pr -> Option Addr -> Sem (Option Addr)):List (List Pr) -> Option Addr -> Sem (Option Addr)
  | [],m=>pure m
  | c :: r,m=>fl c m >>= fun m' => runsH fl r m'
theorem runsH_nil {fl:List Pr -> Option Addr -> Sem (Option Addr)} {m:Option Addr} : runsH fl [] m = pure m := rfl
theorem runsH_cons {fl:List Pr -> Option Addr -> Sem (Option Addr)} {c:List Pr} {r:List (List Pr)} {m:Option Addr} : runsH fl (c :: r) m = fl c m >>= fun m' => runsH fl r m' := rfl
theorem disp_loop {body:Option (Sem Value) × Sem Value -> Option Addr × List Pr -> Sem (ForInStep (Option Addr × List Pr))} (fl:List Pr -> Option Addr -> Sem (Option Addr)) (c:List Pr) (hc:c.length < 17)
    (h:∀ k v main run,(run ++ [(k,v)]).length < 17 -> body (some k,v) (main,run) = pure (.yield (main,run ++ [(k,v)])))
    (h2:∀ k v main run,(run ++ [(k,v)]).length = 17 -> body (some k,v) (main,run) = (fl (run ++ [(k,v)]) main >>= fun m=>pure (.yield (m,[])))) :
    ∀ (cs:List (List Pr)) (main:Option Addr),(∀ x ∈ cs,x.length = 17) -> forIn ((cs ++ [c]).flatten.map fun p=>(some p.1,p.2)) (main,[]) body = (runsH fl cs main >>= fun m=>pure (m,c))
  | [],main,_=>by
    have := loop_short (σ := Nat) h c [] [] main (by simpa using hc)
    simpa [runsH_nil] using this
  | x :: cs,main,hcs=>by
    rw [List.cons_append,List.flatten_cons,List.map_append,loop_long h h2 x _ main (hcs x (.head _)),runsH_cons,bind_assoc]
    congr 1
    funext m
    exact disp_loop fl c hc h h2 cs m fun y hy=>hcs y (.tail _ hy)
theorem runs_chain (c:List Pr):∀ (cs:List (List Pr)) (main:Option Addr),(runsH flH cs main >>= fun m=>chainH [c] m) = chainH (cs ++ [c]) main
  | [],m=>by
    show (pure m >>= fun m=>chainH [c] m) = _
    rw [pure_bind]; rfl
  | x :: r,m=>by
    show ((flH x m >>= fun m' => runsH flH r m') >>= fun m=>chainH [c] m) = (flH x m >>= fun m' => chainH (r ++ [c]) m')
    rw [bind_assoc]
    congr 1
    funext m'
    exact runs_chain c r m'
theorem disp_eq (cs:List (List Pr)) (c:List Pr) (hcs:∀ x ∈ cs,x.length = 17) (hc:c.length < 17) (hne:c ≠ []) :
    dictDisplay ((cs ++ [c]).flatten.map fun p=>(some p.1,p.2)) = chainH (cs ++ [c]) none := by
  have hne':c.isEmpty = false := by cases c with
    | nil=>exact absurd rfl hne
    | cons=>rfl
  unfold dictDisplay
  dsimp only
  rw [disp_loop flH c hc ?h ?h2 cs none hcs,bind_assoc]
  case h =>
    intro k v main run hl
    have:((run ++ [(k,v)]).length == 17) = false := by rw [beq_eq_false_iff_ne]; lia
    simp only [this,Bool.false_eq_true,if_false]
  case h2 =>
    intro k v main run hl
    have h1:((run ++ [(k,v)]).length == 17) = true := by rw [beq_iff_eq]; exact hl
    have h3:(run ++ [(k,v)]).isEmpty = false := by cases run <;> rfl
    simp only [h1,h3,Bool.false_eq_true,if_false,if_true]
    cases main <;> rfl
  rw [← runs_chain]
  congr 1
  funext m
  rw [pure_bind]
  simp only [hne',Bool.false_eq_true,if_false]
  cases m <;> rfl
noncomputable abbrev trM (o3:Params -> Obj) (f:Nat -> BT):Params -> BT := fun P=>(nd (o0v0 P) (nd (o1v0 P) (nd (o3 P) (nd (o7v0 P) (nd (o15v0 P) (nd (o31v0 P) (nd (o63v0 P) (lf (o127v0 P)) (lf (o191v0 P))) (nd (o95v0 P) (lf (o159v0 P)) (f 29))) (nd (o47v0 P) (nd (o79v0 P) (lf (o143v0 P)) (f 13)) (nd (o111v0 P) (lf (o175v0 P)) nl))) (nd (o23v0 P) (nd (o39v0 P) (nd (o71v0 P) (lf (o135v0 P)) (f 5)) (nd (o103v0 P) (lf (o167v0 P)) (f 37))) (nd (o55v0 P) (nd (o87v0 P) (lf (o151v0 P)) (f 21)) (nd (o119v0 P) (lf (o183v0 P)) nl)))) (nd (o11v0 P) (nd (o19v0 P) (nd (o35v0 P) (nd (o67v0 P) (lf (o131v0 P)) (f 1)) (nd (o99v0 P) (lf (o163v0 P)) (f 33))) (nd (o51v0 P) (nd (o83v0 P) (lf (o147v0 P)) (f 17)) (nd (o115v0 P) (lf (o179v0 P)) nl))) (nd (o27v0 P) (nd (o43v0 P) (nd (o75v0 P) (lf (o139v0 P)) (f 9)) (nd (o107v0 P) (lf (o171v0 P)) nl)) (nd (o59v0 P) (nd (o91v0 P) (lf (o155v0 P)) (f 25)) (nd (o123v0 P) (lf (o187v0 P)) nl))))) (nd (o5v0 P) (nd (o9v0 P) (nd (o17v0 P) (nd (o33v0 P) (nd (o65v0 P) (lf (o129v0 P)) (lf (o193v0 P))) (nd (o97v0 P) (lf (o161v0 P)) (f 31))) (nd (o49v0 P) (nd (o81v0 P) (lf (o145v0 P)) (f 15)) (nd (o113v0 P) (lf (o177v0 P)) nl))) (nd (o25v0 P) (nd (o41v0 P) (nd (o73v0 P) (lf (o137v0 P)) (f 7)) (nd (o105v0 P) (lf (o169v0 P)) nl)) (nd (o57v0 P) (nd (o89v0 P) (lf (o153v0 P)) (f 23)) (nd (o121v0 P) (lf (o185v0 P)) nl)))) (nd (o13v0 P) (nd (o21v0 P) (nd (o37v0 P) (nd (o69v0 P) (lf (o133v0 P)) (f 3)) (nd (o101v0 P) (lf (o165v0 P)) (f 35))) (nd (o53v0 P) (nd (o85v0 P) (lf (o149v0 P)) (f 19)) (nd (o117v0 P) (lf (o181v0 P)) nl))) (nd (o29v5 P) (nd (o45v0 P) (nd (o77v0 P) (lf (o141v0 P)) (f 11)) (nd (o109v0 P) (lf (o173v0 P)) nl)) (nd (o61v0 P) (nd (o93v0 P) (lf (o157v0 P)) (f 27)) (nd (o125v0 P) (lf (o189v0 P)) nl)))))) (nd (o2v0 P) (nd (o4v0 P) (nd (o8v0 P) (nd (o16v0 P) (nd (o32v0 P) (nd (o64v0 P) (lf (o128v0 P)) (lf (o192v0 P))) (nd (o96v0 P) (lf (o160v0 P)) (f 30))) (nd (o48v0 P) (nd (o80v0 P) (lf (o144v0 P)) (f 14)) (nd (o112v0 P) (lf (o176v0 P)) nl))) (nd (o24v0 P) (nd (o40v0 P) (nd (o72v0 P) (lf (o136v0 P)) (f 6)) (nd (o104v0 P) (lf (o168v0 P)) (f 38))) (nd (o56v0 P) (nd (o88v0 P) (lf (o152v0 P)) (f 22)) (nd (o120v0 P) (lf (o184v0 P)) nl)))) (nd (o12v0 P) (nd (o20v0 P) (nd (o36v0 P) (nd (o68v0 P) (lf (o132v0 P)) (f 2)) (nd (o100v0 P) (lf (o164v0 P)) (f 34))) (nd (o52v0 P) (nd (o84v0 P) (lf (o148v0 P)) (f 18)) (nd (o116v0 P) (lf (o180v0 P)) nl))) (nd (o28v0 P) (nd (o44v0 P) (nd (o76v0 P) (lf (o140v0 P)) (f 10)) (nd (o108v0 P) (lf (o172v0 P)) nl)) (nd (o60v0 P) (nd (o92v0 P) (lf (o156v0 P)) (f 26)) (nd (o124v0 P) (lf (o188v0 P)) nl))))) (nd (o6v0 P) (nd (o10v0 P) (nd (o18v0 P) (nd (o34v0 P) (nd (o66v0 P) (lf (o130v0 P)) (f 0)) (nd (o98v0 P) (lf (o162v0 P)) (f 32))) (nd (o50v0 P) (nd (o82v0 P) (lf (o146v0 P)) (f 16)) (nd (o114v0 P) (lf (o178v0 P)) nl))) (nd (o26v0 P) (nd (o42v0 P) (nd (o74v0 P) (lf (o138v0 P)) (f 8)) (nd (o106v0 P) (lf (o170v0 P)) nl)) (nd (o58v0 P) (nd (o90v0 P) (lf (o154v0 P)) (f 24)) (nd (o122v0 P) (lf (o186v0 P)) nl)))) (nd (o14v0 P) (nd (o22v0 P) (nd (o38v0 P) (nd (o70v0 P) (lf (o134v0 P)) (f 4)) (nd (o102v0 P) (lf (o166v0 P)) (f 36))) (nd (o54v0 P) (nd (o86v0 P) (lf (o150v0 P)) (f 20)) (nd (o118v0 P) (lf (o182v0 P)) nl))) (nd (o30v0 P) (nd (o46v0 P) (nd (o78v0 P) (lf (o142v0 P)) (f 12)) (nd (o110v0 P) (lf (o174v0 P)) nl)) (nd (o62v0 P) (nd (o94v0 P) (lf (o158v0 P)) (f 28)) (nd (o126v0 P) (lf (o190v0 P)) nl)))))))
noncomputable def ksH:List (Option PySem.Expr) := (dicE (asE (stm 16))).1
noncomputable def vsH:List PySem.Expr := (dicE (asE (stm 16))).2
noncomputable def tgH:List PySem.Expr := [.Name ⟨#[98,51,95,101,120,99,101,112,116,105,111,110,115]⟩ ⟨231,0,231,13⟩]
noncomputable def p0H:Pos := ⟨231,0,231,8704⟩
noncomputable def p1H:Pos := ⟨231,16,231,8704⟩
theorem stm16:stm 16 = .Assign tgH (.Dict ksH vsH p1H) p0H := by kernel_rfl
noncomputable def itemsH:List (Option (Sem Value) × Sem Value) := (evalEachOpt ksH envH).zip ((evalEach vsH envH).map fun v=>do let x ← v; standAt p1H; pure x)
noncomputable def prsH:List Pr := itemsH.filterMap fun p=>p.1.map fun k=>(k,p.2)
noncomputable def chH:Nat -> List Pr -> List (List Pr)
  | 0,l=>[l]
  | n + 1,l=>l.take 17 :: chH n (l.drop 17)
theorem chH_cons {n:Nat} {l:List Pr} : chH (n + 1) l = l.take 17 :: chH n (l.drop 17) := rfl
noncomputable def chk (j:Nat):List Pr := (prsH.drop (17 * j)).take 17
noncomputable def resO:Option Addr -> Flow
  | none=>.next
  | some d=>.ret (.ref d)
noncomputable def hasHash (h:Int):List DictEntry -> Bool
  | []=>false
  | e :: r=>match (Int.decEq e.hash h).decide with
    | true=>true
    | false=>hasHash h r
theorem hasHash_cons {h:Int} {e:DictEntry} {r:List DictEntry} : hasHash h (e :: r) = match (Int.decEq e.hash h).decide with
  | true=>true
  | false=>hasHash h r := rfl
theorem hasHash_iff (h:Int):∀ l:List DictEntry,hasHash h l = true ↔ ∃ e ∈ l,e.hash = h
  | []=>by simp [show hasHash h [] = false from rfl]
  | e :: r=>by
    rw [hasHash_cons]
    by_cases q:e.hash = h
    · have:(Int.decEq e.hash h).decide = true := decide_eq_true q
      rw [this]; simp [q]
    · have:(Int.decEq e.hash h).decide = false := decide_eq_false q
      rw [this]; simp only [hasHash_iff h r]; simp [q]
noncomputable def placesQ (es:Array DictEntry) (h:Int):List Nat := match hasHash h es.toList with
  | true=>placesWithHash es.size (fun i=>es[i]?.map (·.hash)) h
  | false=>[]
theorem places_eq (es:Array DictEntry) (h:Int):placesWithHash es.size (fun i=>es[i]?.map (·.hash)) h = placesQ es h := by
  unfold placesQ
  cases e:hasHash h es.toList with
  | true=>rfl
  | false =>
    have e':¬ ∃ x ∈ es.toList,x.hash = h := fun z=>by rw [(hasHash_iff h _).mpr z] at e; cases e
    show (List.range es.size).filter _ = []
    rw [List.filter_eq_nil_iff]
    intro i hi q
    have hi':i < es.size := List.mem_range.mp hi
    dsimp only at q
    rw [Array.getElem?_eq_getElem hi'] at q
    simp only [Option.map_some,beq_iff_eq,Option.some.injEq] at q
    exact e' ⟨es[i],Array.getElem_mem_toList hi',q⟩
end Mine
end
section
open PySem PySem.W PyProof.Rows PySem.Challenge
namespace Mine
noncomputable abbrev TRun (w:World):Nat -> Shared -> Thread -> Option Shared := topRun treeTable pH w 28 (some (.ref 6))
noncomputable def GoT {α:Type} (w:World) (s:SharedT) (p:Pos) (m:Sem α) (n:Nat) (s':SharedT) (p':Pos) (a:α):Prop :=
  ∀ (K:α -> Sem Fin) (H:Value -> Sem Fin) (gd:Bool -> Bool) (lv:List Value -> List Value) (N:Nat) (r:Shared),TRun w N s'.abs ⟨K a,cH,p',BH⟩ = some r -> TRun w (n + N) s.abs ⟨m.wrap K H gd lv,cH,p,BH⟩ = some r
section
variable {α β:Type} {w:World} {s s' s'':SharedT} {p p' p'':Pos} {m:Sem α} {f:α -> Sem β} {a:α} {b:β} {n n':Nat}
theorem GoT.pure:GoT w s p (.pure a) 0 s p a := fun K H gd lv N r h=>by rw [Nat.zero_add]; exact h
theorem GoT.bind (h:GoT w s p m n s' p' a) (k:GoT w s' p' (f a) n' s'' p'' b):GoT w s p (m >>= f) (n + n') s'' p'' b := fun K H gd lv N r hr=>by
  rw [Sem.bind_eq_wrap',Sem.wrap_wrap,Nat.add_assoc]
  exact h _ _ _ _ _ _ (k K H gd lv N r hr)
theorem GoT.keep {vs:List Value} (h:GoT w s p m n s' p' a):GoT w s p (m.keep vs) n s' p' a := fun K H gd lv N r hr=>by
  rw [Sem.keep_eq_wrap,Sem.wrap_wrap]
  exact h _ _ _ _ _ _ hr
theorem GoT.holding {vs:List Value} (h:GoT w s p m n s' p' a):GoT w s p (PySem.holding vs m) n s' p' a := by
  unfold PySem.holding
  split
  · exact h
  · exact h.keep
theorem GoT.onRaise {g:Value -> Sem Unit} (h:GoT w s p m n s' p' a):GoT w s p (m.onRaise g) n s' p' a := fun K H gd lv N r hr=>by
  rw [Sem.onRaise_eq_wrap,Sem.wrap_wrap]
  exact h _ _ _ _ _ _ hr
theorem GoT.one {c:Sem Fin} {t':Thread} {N:Nat} {r:Shared} (ok:stepOk 28 (some (.ref 6)) ⟨c,cH,p,BH⟩ = true) (st:stepT (denote treeTable) pH w s ⟨c,cH,p,BH⟩ = some (s',t')) (h:TRun w N s'.abs t' = some r):TRun w (1 + N) s.abs ⟨c,cH,p,BH⟩ = some r := by
  rw [Nat.add_comm]
  show topRun treeTable pH w 28 (some (.ref 6)) (N + 1) s.abs ⟨c,cH,p,BH⟩ = some r
  unfold topRun
  have th:through ⟨c,cH,p,BH⟩ = false := rfl
  rw [th,ok,stepT_spec st]
  exact h
theorem GoT.load {d:Addr} {q:Option Value} {o:Obj} (hd:Nat.blt d s.n = true) (hT:s.tree.get d = some o) (hA:alive o = some o):GoT w s p (loadPart d q) 1 s p o := fun K H gd lv N r hr=>by
  refine GoT.one (s' := s) ?_ ?_ hr
  · rfl
  · obtain ⟨T,n,life,gens,drawn,toks,os⟩ := s
    show (match Nat.blt d n with | true=>_ | false=>_) = _
    rw [hd]
    dsimp only at hT ⊢
    rw [hT]
    dsimp only
    rw [hA]
    rfl
theorem GoT.update {d:Addr} {q:Option Value} {o:Obj} {f:Obj -> Obj} (hn:Nat.ble 28 d = true) (hd:Nat.blt d s.n = true) (hT:s.tree.get d = some o) (hA:alive o = some o):GoT w s p (updatePart d q f) 1 { s with tree := s.tree.set d f } p () := fun K H gd lv N r hr=>by
  refine GoT.one (s' := { s with tree := s.tree.set d f }) ?_ ?_ hr
  · show (Thread.calm _ && (Nat.ble 28 d || _ || _ || _)) = true
    rw [hn]; rfl
  · obtain ⟨T,n,life,gens,drawn,toks,os⟩ := s
    show (match Nat.blt d n with | true=>_ | false=>_) = _
    rw [hd]
    dsimp only at hT ⊢
    rw [hT]
    dsimp only
    rw [hA]
    rfl
end
end Mine
end
section
open PySem PySem.W PyProof.Rows PySem.Challenge
namespace Mine
noncomputable abbrev dOb (es:List DictEntry) (n:Nat):Obj := ⟨.type "dict",none,.dict (List.toArray es) n,#[]⟩
section
variable {w:World} {s:SharedT} {p:Pos}
theorem GoT.cast {α:Type} {w:World} {s s':SharedT} {p p':Pos} {m m':Sem α} {n:Nat} {a:α} (e:m = m') (h:GoT w s p m' n s' p' a):GoT w s p m n s' p' a := e ▸ h
theorem GoT.entries {d:Addr} {q:Option Value} {es:List DictEntry} {n:Nat} (hd:Nat.blt d s.n = true) (hT:s.tree.get d = some (dOb es n)):GoT w s p (dictEntries d q) 1 s p (List.toArray es) :=
  GoT.bind (n' := 0) (GoT.load hd hT rfl) GoT.pure
theorem GoT.epoch {d:Addr} {q:Option Value} {es:List DictEntry} {n:Nat} (hd:Nat.blt d s.n = true) (hT:s.tree.get d = some (dOb es n)):GoT w s p (dictEpoch d q) 1 s p n :=
  GoT.bind (n' := 0) (GoT.load hd hT rfl) GoT.pure
theorem GoT.find {d:Addr} {k h:Int} {t:Tok} {es:List DictEntry} {n:Nat} (hd:Nat.blt d s.n = true) (hT:s.tree.get d = some (dOb es n)) (hh:hasHash h es = false):GoT w s p (dictFind d (.int k t) h) 1 s p none := by
  unfold dictFind
  refine GoT.bind (n' := 0) (GoT.entries hd hT) ?_
  have e := (places_eq (List.toArray es) h).trans (by unfold placesQ; rw [show (List.toArray es).toList = es from rfl,hh])
  simp only [e]
  exact GoT.pure
theorem GoT.putKeys {d:Addr} {q:Option Value} {f:Array DictEntry -> Array DictEntry} {es es':List DictEntry} {n:Nat} (hf:f (List.toArray es) = List.toArray es') (hsz:es'.length ≤ 1000) (hn:Nat.ble 28 d = true) (hd:Nat.blt d s.n = true) (hT:s.tree.get d = some (dOb es n)) :
    GoT w s p (updateDictKeys d f q) 3 { s with tree := s.tree.set d (Obj.mapDictKeys f) } p () := by
  unfold updateDictKeys
  refine GoT.bind (n := 1) (n' := 2) (GoT.load hd hT rfl) ?_
  show GoT w s p (updatePart d q (Obj.mapDictKeys f) >>= fun _=>lookBehind d q) 2 _ p ()
  refine GoT.bind (n := 1) (n' := 1) (GoT.update hn hd hT rfl) ?_
  unfold lookBehind
  have hT':(s.tree.set d (Obj.mapDictKeys f)).get d = some (dOb es' (n + 1)) := by
    rw [BT.get_set,if_pos rfl,hT]
    show some (Obj.mk _ _ (.dict (f (List.toArray es)) _) _) = _
    rw [hf]
  refine GoT.bind (n := 1) (n' := 0) (GoT.load (s := { s with tree := s.tree.set d (Obj.mapDictKeys f) }) hd hT' rfl) ?_
  have:(dOb es' (n + 1)).data.pastItsLine = none := by
    show (if (List.toArray es').size > sizeLine + 1 then _ else _) = _
    rw [if_neg]
    rw [sizeLine_eq]
    show ¬ es'.length > _
    lia
  rw [this]
  exact GoT.pure
theorem GoT.put {d:Addr} {k h:Int} {v:Value} {t:Tok} {es:List DictEntry} {n:Nat} (hn:Nat.ble 28 d = true) (hd:Nat.blt d s.n = true) (hT:s.tree.get d = some (dOb es n)) (hh:hasHash h es = false) (hl:es.length + 1 ≤ 1000) :
    GoT w s p (dictPut d h (.int k t) v) 4 { s with tree := s.tree.set d (Obj.mapDictKeys (·.push ⟨h,.int k t,v⟩)) } p () := by
  unfold dictPut
  refine GoT.bind (n := 1) (n' := 3) (GoT.find hd hT hh) ?_
  exact GoT.putKeys (es' := es ++ [⟨h,.int k t,v⟩]) (by simp) (by simpa using hl) hn hd hT
end
end Mine
end
section
open PySem PySem.W PyProof.Rows PySem.Challenge
namespace Mine
theorem bt_set {v:Obj} {l r:BT} {i:Nat} {f:Obj -> Obj} : (BT.node v l r).set i f = (match Nat.beq i 0 with
    | true=>.node (f v) l r
    | false=>match Nat.beq (i % 2) 1 with
      | true=>.node v (l.set (i / 2) f) r
      | false=>.node v l (r.set (i / 2 - 1) f)) := rfl
theorem bt_get {v:Obj} {l r:BT} {i:Nat} : (BT.node v l r).get i = (match Nat.beq i 0 with
    | true=>some v
    | false=>match Nat.beq (i % 2) 1 with
      | true=>l.get (i / 2)
      | false=>r.get (i / 2 - 1)) := rfl
theorem set_congr {f g:Obj -> Obj} : ∀ (t:BT) (a:Nat),(∀ o,t.get a = some o -> f o = g o) -> t.set a f = t.set a g
  | .nil,_,_=>rfl
  | .node v l r,i,h=>by
    rw [bt_get] at h
    rw [bt_set,bt_set]
    cases e:Nat.beq i 0 with
    | true=>dsimp only; rw [e] at h; rw [h v rfl]
    | false =>
      rw [e] at h
      dsimp only at h ⊢
      cases e2:Nat.beq (i % 2) 1 with
      | true=>rw [e2] at h; dsimp only at h ⊢; rw [set_congr l _ h]
      | false=>rw [e2] at h; dsimp only at h ⊢; rw [set_congr r _ h]
theorem set_id:∀ (t:BT) (a:Nat),t.set a (fun o=>o) = t
  | .nil,_=>rfl
  | .node v l r,i=>by
    rw [bt_set,set_id l,set_id r]
    cases Nat.beq i 0 <;> dsimp only
    cases Nat.beq (i % 2) 1 <;> rfl
theorem set_set {f g:Obj -> Obj} : ∀ (t:BT) (a:Nat),(t.set a f).set a g = t.set a (fun o=>g (f o))
  | .nil,_=>rfl
  | .node v l r,i=>by
    cases e:Nat.beq i 0 with
    | true=>simp only [bt_set,e]
    | false =>
      cases e2:Nat.beq (i % 2) 1 with
      | true=>simp only [bt_set,e,e2,set_set l]
      | false=>simp only [bt_set,e,e2,set_set r]
section
variable {w:World} {p:Pos}
theorem GoT.of_seg {α:Type} {s s':SharedT} {p':Pos} {m:Sem α} {n:Nat} {a:α} (res:α -> Flow) (inj:∀ b,res b = res a -> b = a) (h:∀ gd lv,segRunT treeTable pH w 28 (some (.ref 6)) 1 n s ⟨m.wrap (fun a=>.pure (.done (res a))) deadEnd gd lv,cH,p,BH⟩ = some (res a,s',cH,p')):GoT w s p m n s' p' a := fun K H gd lv N r hr=>by
  obtain ⟨b,hb,hN⟩ := seg_top (res := res) (K' := K) (H' := H) (B := BH) rfl n s.abs ⟨m.wrap (fun a=>.pure (.done (res a))) deadEnd gd lv,cH,p,BH⟩ ⟨m.wrap K H gd lv,cH,p,BH⟩ _ _ _ _ ⟨rfl,rfl,.inl ⟨rfl,rfl,_,rfl,rfl⟩⟩ (segRun_of (h gd lv))
  obtain rfl := inj b hb
  exact hN N r hr
noncomputable def intKeys:List DictEntry -> List DictEntry -> Bool
  | _,[]=>true
  | es,e :: r=>(match e.key with
    | .int _ _=>true
    | _=>false) && !hasHash e.hash es && intKeys (es ++ [e]) r
theorem intKeys_nil {es:List DictEntry} : intKeys es [] = true := rfl
theorem intKeys_cons {es r:List DictEntry} {e:DictEntry} : intKeys es (e :: r) = ((match e.key with
    | .int _ _=>true
    | _=>false) && !hasHash e.hash es && intKeys (es ++ [e]) r) := rfl
theorem key_int {key:Value} (q:(match key with
    | .int _ _=>true
    | _=>false) = true):∃ i t,key = .int i t := by
  cases key <;> first | exact ⟨_,_,rfl⟩ | cases q
theorem GoT.loop {body:Nat -> PUnit -> Sem (ForInStep PUnit)} {a d:Addr} {sub:List DictEntry} {m c:Nat} (hda:d ≠ a)
    (hb:∀ (s:SharedT) (i:Nat) (e:DictEntry) (es:List DictEntry) (n:Nat),Nat.blt a s.n = true -> Nat.blt d s.n = true -> s.tree.get a = some (dOb sub m) -> s.tree.get d = some (dOb es n) -> sub[i]? = some e -> intKeys es [e] = true -> es.length < 999 ->
      GoT w s p (body i ⟨⟩) c { s with tree := s.tree.set d fun _=>dOb (es ++ [e]) (n + 1) } p (.yield ⟨⟩)) :
    ∀ (l pre:List DictEntry) (s:SharedT) (es:List DictEntry) (n:Nat),sub = pre ++ l -> Nat.blt a s.n = true -> Nat.blt d s.n = true -> s.tree.get a = some (dOb sub m) -> s.tree.get d = some (dOb es n) -> intKeys es l = true -> es.length + l.length < 1000 ->
      GoT w s p (forIn (List.range' pre.length l.length) PUnit.unit body) (c * l.length) { s with tree := s.tree.set d fun _=>dOb (es ++ l) (n + l.length) } p ⟨⟩
  | [],pre,s,es,n,_,_,_,_,h4,_,_=>by
    have:s.tree.set d (fun _=>dOb (es ++ []) (n + 0)) = s.tree := by
      rw [List.append_nil,Nat.add_zero,set_congr (g := fun o=>o) s.tree d (fun o ho=>by rw [h4] at ho; cases ho; rfl),set_id]
    show GoT w s p (forIn [] PUnit.unit body) 0 { s with tree := s.tree.set d fun _=>dOb (es ++ []) (n + 0) } p ⟨⟩
    rw [this]
    exact GoT.pure
  | e :: l,pre,s,es,n,h1,h2,h3,h5,h4,hk,hl=>by
    simp only [intKeys_cons,Bool.and_eq_true] at hk
    rw [List.length_cons,List.range'_succ,List.forIn_cons,show c * (l.length + 1) = c + c * l.length by rw [Nat.mul_succ,Nat.add_comm]]
    have hg:(s.tree.set d fun _=>dOb (es ++ [e]) (n + 1)).get a = some (dOb sub m) := by
      rw [BT.get_set,if_neg (Ne.symm hda)]; exact h5
    have hg2:(s.tree.set d fun _=>dOb (es ++ [e]) (n + 1)).get d = some (dOb (es ++ [e]) (n + 1)) := by
      rw [BT.get_set,if_pos rfl,h4]; rfl
    refine GoT.bind (hb s _ e es n h2 h3 h5 h4 (by rw [h1,List.getElem?_append_right (Nat.le_refl _)]; simp) (by simp only [intKeys_cons,intKeys_nil,hk.1.1,hk.1.2,Bool.and_self]) (by simp at hl; lia)) ?_
    have := GoT.loop hda hb l (pre ++ [e]) { s with tree := s.tree.set d fun _=>dOb (es ++ [e]) (n + 1) } (es ++ [e]) (n + 1) (by rw [h1]; simp) h2 h3 hg hg2 hk.2 (by simp at hl ⊢; lia)
    rw [List.length_append,List.length_singleton] at this
    dsimp only at this
    rw [set_set,List.append_assoc,List.singleton_append,Nat.add_assoc,Nat.add_comm 1] at this
    exact this
theorem GoT.merge {s:SharedT} {a d:Addr} {sub es:List DictEntry} {m n n1 n2:Nat} (hda:d ≠ a) (hsys:(a == sysModules) = false) (hne:es ≠ [])
    (i1:GoT w s p (isInstance (.ref a) (.type "dict")) n1 s p true) (i2:GoT w s p (specialOf (.ref a) (.ofString "__iter__")) n2 s p (some (.builtin "dict.__iter__")))
    (h2:Nat.blt a s.n = true) (h3:Nat.blt d s.n = true) (hn:Nat.ble 28 d = true) (h5:s.tree.get a = some (dOb sub m)) (h4:s.tree.get d = some (dOb es n)) (hk:intKeys es sub = true) (hl:es.length + sub.length < 1000) :
    GoT w s p (mergeMapping d (.ref a) false) (n1 + n2 + 3 + 6 * sub.length) { s with tree := s.tree.set d fun _=>dOb (es ++ sub) (n + sub.length) } p ⟨⟩ := by
  unfold mergeMapping
  rw [Nat.add_assoc n1,Nat.add_assoc n1]
  refine GoT.bind i1 ?_
  rw [Nat.add_assoc n2]
  refine GoT.bind i2 ?_
  dsimp only [pure_bind]
  have hE:(List.toArray es).isEmpty = false := by cases es with
    | nil=>exact absurd rfl hne
    | cons=>rfl
  show GoT w s p (if (a == sysModules) = true then _ else _) _ _ _ _
  rw [hsys,if_neg (by decide)]
  rw [show 3 + 6 * sub.length = 1 + (1 + (1 + 6 * sub.length)) by lia]
  refine GoT.bind (GoT.entries h3 h4) ?_
  rw [hE,if_neg (by decide)]
  refine GoT.bind (GoT.entries h2 h5) ?_
  refine GoT.bind (GoT.epoch h2 h5) ?_
  rw [show (List.toArray sub).size = sub.length from rfl,List.range_eq_range']
  refine GoT.cast (bind_pure _).symm.symm ?_
  refine GoT.loop (sub := sub) hda ?hb sub [] s es n rfl h2 h3 h5 h4 hk hl
  intro s i e es n g1 g2 g3 g4 g5 g6 g7
  refine GoT.bind (n := 1) (n' := 5) (GoT.entries g1 g3) ?_
  have ei:(List.toArray sub)[i]? = some e := by rw [List.getElem?_toArray]; exact g5
  rw [ei]
  dsimp only
  obtain ⟨h,key,v⟩ := e
  simp only [intKeys_cons,Bool.and_eq_true,Bool.not_eq_true'] at g6
  obtain ⟨⟨q1,q2⟩,-⟩ := g6
  obtain ⟨ki,kt,rfl⟩ := key_int q1
  have gT:s.tree.set d (Obj.mapDictKeys (·.push ⟨h,.int ki kt,v⟩)) = s.tree.set d fun _=>dOb (es ++ [⟨h,.int ki kt,v⟩]) (n + 1) := by
    refine set_congr _ _ fun o ho=>?_
    rw [g4] at ho; cases ho
    show Obj.mk _ _ (.dict ((List.toArray es).push _) _) _ = _
    rw [List.push_toArray]
  refine GoT.bind (n := 4) (n' := 1) (GoT.holding (GoT.put hn g2 g4 q2 (by lia))) ?_
  rw [gT]
  have hg:(s.tree.set d fun _=>dOb (es ++ [⟨h,.int ki kt,v⟩]) (n + 1)).get a = some (dOb sub m) := by
    rw [BT.get_set,if_neg (Ne.symm hda)]; exact g3
  refine GoT.bind (n := 1) (n' := 0) (GoT.epoch g1 hg) ?_
  rw [show (m != m) = false by simp,if_neg (by decide)]
  exact GoT.pure
end
end Mine
end
section
open PySem PySem.W PyProof.Rows PySem.Challenge
namespace Mine
noncomputable def subO (j:Nat):Obj := match Nat.blt j 38 with
  | true=>dOb (b3At j) 17
  | false=>dOb (b3Tail 2562 (b3Pairs.drop 646)) 4
noncomputable def lfM (o:Obj) (j i:Nat):BT := match Nat.blt i j with
  | true=>.node (match i with
    | 0=>o
    | i=>subO i) .nil .nil
  | false=>.nil
noncomputable abbrev stM (tk j:Nat) (o:Obj) (w:World) (os:OsState):SharedT := stH (trM o3v7 (lfM o j)) (194 + j) tk w os
noncomputable def resA (a:Addr):Flow := .ret (.ref a)
noncomputable def resB:Bool -> Flow
  | true=>.next
  | false=>.brk
noncomputable def resV:Option Value -> Flow
  | none=>.next
  | some v=>.ret v
noncomputable abbrev sgT := @PySem.W.Fast.tw10110043849684766642 PySem.W.Fast.tw14364793385576792824
noncomputable abbrev wF (b:Bool) (w:World):World := w.withFollow "special-get-raises" b
noncomputable def resW (v:Value):Flow := .ret v
noncomputable abbrev AnyGo {α:Type} (n:Nat) (res:α -> Flow) (m:Sem α) (d:Nat) (a:Nat -> α) (w:World):Prop := (fun (T:BT) (k:Nat) (li:Life) (ge:Array GenState) (dr:Drawn) (tk:Nat) (os:OsState) gd lv (q:Pos)=>segRunT treeTable pH w 28 (some (.ref 6)) 1 n ⟨T,k,li,ge,dr,tk,os⟩ ⟨m.wrap (fun a=>.pure (.done (res a))) deadEnd gd lv,cH,q,BH⟩) = fun T k li ge dr tk os _ _ q=>some (res (a tk),⟨T,k,li,ge,dr,tk + d,os⟩,cH,q)
theorem sub_any:∀ w,AnyGo 30 resB (isSubtype (.type "dict") (.type "dict")) 0 (fun _=>true) w := by
  intro w; unfold AnyGo; rw [PySem.W.Fast.te10110043849684766642,PySem.W.Fast.te14364793385576792824]; kernel_rfl
theorem look_any:∀ w,AnyGo 30 resV (typeLookup (.type "dict") (.ofString "__iter__")) 0 (fun _=>some (.builtin "dict.__iter__")) w := by
  intro w; unfold AnyGo; rw [PySem.W.Fast.te10110043849684766642,PySem.W.Fast.te14364793385576792824]; kernel_rfl
theorem int_any (k:Int):∀ w,AnyGo 30 resW (mkInt k) 1 (fun tk=>.int k tk) w := by
  intro w; unfold AnyGo; rw [PySem.W.Fast.te10110043849684766642,PySem.W.Fast.te14364793385576792824]; kernel_rfl
theorem room_any (k:Int) (t:Tok):∀ w,AnyGo 30 (fun _=>.next) (cRoomFor "hash" [.int k t]) 0 (fun _=>()) w := by
  intro w; unfold AnyGo; rw [PySem.W.Fast.te10110043849684766642,PySem.W.Fast.te14364793385576792824]; kernel_rfl
theorem spec_any (k:Int) (t:Tok):∀ w,AnyGo 30 resV (specialOf (.int k t) (.ofString "__hash__")) 0 (fun _=>some (.builtin "int.__hash__")) w := by
  intro w; unfold AnyGo; rw [PySem.W.Fast.te10110043849684766642,PySem.W.Fast.te14364793385576792824]; kernel_rfl
theorem call_anyf (k:Int) (t:Tok) (refuse:Sem Value):∀ w,AnyGo 60 resV (callSpecialIfBoundUnlessNone? (.int k t) (.ofString "__hash__") refuse) 1 (fun tk=>some (.int (rawHash k) tk)) (wF false w) := by
  intro w; unfold AnyGo; rw [PySem.W.Fast.te10110043849684766642,PySem.W.Fast.te14364793385576792824]; kernel_rfl
theorem call_anyt (k:Int) (t:Tok) (refuse:Sem Value):∀ w,AnyGo 60 resV (callSpecialIfBoundUnlessNone? (.int k t) (.ofString "__hash__") refuse) 1 (fun tk=>some (.int (rawHash k) tk)) (wF true w) := by
  intro w; unfold AnyGo; rw [PySem.W.Fast.te10110043849684766642,PySem.W.Fast.te14364793385576792824]; kernel_rfl
noncomputable def ascK:Int -> List (Int × PySem.Str) -> Bool
  | _,[]=>true
  | b,(k,_) :: r=>(Int.decLt b k).decide && ascK k r
theorem ascK_cons {b k:Int} {v:PySem.Str} {r:List (Int × PySem.Str)} : ascK b ((k,v) :: r) = ((Int.decLt b k).decide && ascK k r) := rfl
theorem b3Ents_cons {t:Nat} {k:Int} {v:PySem.Str} {r:List (Int × PySem.Str)} : b3Ents t ((k,v) :: r) = ⟨k,.int k t,.str v (t + 1)⟩ :: b3Ents (t + 3) r := rfl
theorem b3Tail_cons {t:Nat} {k:Int} {v:PySem.Str} {r:List (Int × PySem.Str)} : b3Tail t ((k,v) :: r) = ⟨k,.int k t,.str v (t + 1)⟩ :: b3Tail (t + 2) r := rfl
theorem asc_b3:ascK (-1) b3Pairs = true := by kernel_rfl
theorem len_b3:b3Pairs.length = 650 := by kernel_rfl
theorem asc_app:∀ {a c:List (Int × PySem.Str)} {b:Int},ascK b (a ++ c) = true -> ∃ b',ascK b' c = true ∧ b ≤ b' ∧ ∀ x ∈ a,x.1 ≤ b'
  | [],c,b,h=>⟨b,h,Int.le_refl _,fun _ h=>nomatch h⟩
  | (k,v) :: a,c,b,h=>by
    simp only [List.cons_append,ascK,Bool.and_eq_true] at h
    have h1:b < k := of_decide_eq_true h.1
    obtain ⟨b',g1,g2,g3⟩ := asc_app h.2
    refine ⟨b',g1,by lia,fun x hx=>?_⟩
    rcases List.mem_cons.mp hx with rfl | hx
    · exact g2
    · exact g3 x hx
theorem b3Ents_app:∀ (a c:List (Int × PySem.Str)) (t:Nat),b3Ents t (a ++ c) = b3Ents t a ++ b3Ents (t + 3 * a.length) c
  | [],c,t=>rfl
  | (k,v) :: a,c,t=>by
    simp only [List.cons_append,b3Ents_cons,b3Ents_app a c]
    rw [List.length_cons,show t + 3 + 3 * a.length = t + 3 * (a.length + 1) by lia]
theorem b3Ents_len:∀ (a:List (Int × PySem.Str)) (t:Nat),(b3Ents t a).length = a.length
  | [],_=>rfl
  | (k,v) :: a,t=>by rw [b3Ents_cons,List.length_cons,b3Ents_len a,List.length_cons]
theorem b3Tail_len:∀ (a:List (Int × PySem.Str)) (t:Nat),(b3Tail t a).length = a.length
  | [],_=>rfl
  | (k,v) :: a,t=>by rw [b3Tail_cons,List.length_cons,b3Tail_len a,List.length_cons]
theorem b3Ents_mem:∀ (a:List (Int × PySem.Str)) (t:Nat), ∀ e ∈ b3Ents t a, ∃ x ∈ a,e.hash = x.1
  | [],_,_,h=>nomatch h
  | (k,v) :: a,t,e,h=>by
    rw [b3Ents_cons] at h
    rcases List.mem_cons.mp h with rfl | h
    · exact ⟨_,.head _,rfl⟩
    · obtain ⟨x,h1,h2⟩ := b3Ents_mem a _ e h
      exact ⟨x,.tail _ h1,h2⟩
theorem hash_no {h:Int} {es:List DictEntry} (hs:∀ e ∈ es,e.hash < h):hasHash h es = false := by
  cases q:hasHash h es with
  | false=>rfl
  | true =>
    obtain ⟨e,h1,h2⟩ := (hasHash_iff h es).mp q
    have := hs e h1
    lia
theorem keys_ents:∀ (l:List (Int × PySem.Str)) (t:Nat) (es:List DictEntry) (b:Int),ascK b l = true -> (∀ e ∈ es,e.hash ≤ b) -> intKeys es (b3Ents t l) = true
  | [],_,_,_,_,_=>rfl
  | (k,v) :: l,t,es,b,h,hs=>by
    simp only [ascK_cons,Bool.and_eq_true] at h
    have h1:b < k := of_decide_eq_true h.1
    rw [b3Ents_cons,intKeys_cons]
    have := hash_no (h := k) (es := es) fun e he=>by have := hs e he; lia
    rw [this,keys_ents l _ _ k h.2 ?_]
    · rfl
    · intro e he
      rcases List.mem_append.mp he with he | he
      · have := hs e he; lia
      · rw [List.mem_singleton.mp he]; exact Int.le_refl _
theorem keys_tail:∀ (l:List (Int × PySem.Str)) (t:Nat) (es:List DictEntry) (b:Int),ascK b l = true -> (∀ e ∈ es,e.hash ≤ b) -> intKeys es (b3Tail t l) = true
  | [],_,_,_,_,_=>rfl
  | (k,v) :: l,t,es,b,h,hs=>by
    simp only [ascK_cons,Bool.and_eq_true] at h
    have h1:b < k := of_decide_eq_true h.1
    rw [b3Tail_cons,intKeys_cons]
    have := hash_no (h := k) (es := es) fun e he=>by have := hs e he; lia
    rw [this,keys_tail l _ _ k h.2 ?_]
    · rfl
    · intro e he
      rcases List.mem_append.mp he with he | he
      · have := hs e he; lia
      · rw [List.mem_singleton.mp he]; exact Int.le_refl _
theorem asc_take:∀ {l:List (Int × PySem.Str)} {b:Int} (n:Nat),ascK b l = true -> ascK b (l.take n) = true
  | [],_,n,_=>by rw [List.take_nil]; rfl
  | (k,v) :: l,b,0,_=>rfl
  | (k,v) :: l,b,n + 1,h=>by
    simp only [List.take_succ_cons,ascK,Bool.and_eq_true] at h ⊢
    exact ⟨h.1,asc_take n h.2⟩
noncomputable abbrev ents (n:Nat):List DictEntry := b3Ents 624 (b3Pairs.take n)
theorem drop_asc (n:Nat):∃ b,ascK b (b3Pairs.drop n) = true ∧ ∀ e ∈ ents n,e.hash ≤ b := by
  obtain ⟨b,h1,-,h2⟩ := asc_app (a := b3Pairs.take n) (c := b3Pairs.drop n) (b := -1) (by rw [List.take_append_drop]; exact asc_b3)
  exact ⟨b,h1,fun e he=>by obtain ⟨x,h3,h4⟩ := b3Ents_mem _ _ e he; rw [h4]; exact h2 x h3⟩
theorem ents_len {n:Nat} (h:n ≤ 650):(ents n).length = n := by rw [b3Ents_len,List.length_take,len_b3]; lia
theorem ents_next {j:Nat} (h:17 * j ≤ 633):ents (17 * j) ++ b3At j = ents (17 * (j + 1)) := by
  unfold ents b3At
  rw [show 17 * (j + 1) = 17 * j + 17 by lia,List.take_add,b3Ents_app]
  rw [List.length_take,len_b3,show 624 + 3 * min (17 * j) 650 = 624 + 51 * j by lia]
theorem keys_at (j:Nat):intKeys (ents (17 * j)) (b3At j) = true := by
  obtain ⟨b,h1,h2⟩ := drop_asc (17 * j)
  exact keys_ents _ _ _ b (asc_take 17 h1) h2
theorem keys_last:intKeys (ents 646) (b3Tail 2562 (b3Pairs.drop 646)) = true := by
  obtain ⟨b,h1,h2⟩ := drop_asc 646
  exact keys_tail _ _ _ b h1 h2
theorem at_len {j:Nat} (h:17 * j ≤ 633):(b3At j).length = 17 := by
  unfold b3At
  rw [b3Ents_len,List.length_take,List.length_drop,len_b3]; exact Nat.min_eq_left (Nat.le_sub_of_add_le (Nat.add_le_add_left h 17))
theorem last_len:(b3Tail 2562 (b3Pairs.drop 646)).length = 4 := by rw [b3Tail_len,List.length_drop,len_b3]
end Mine
end
section
open PySem PySem.W PyProof.Rows PySem.Challenge
namespace Mine
theorem rule_any:∀ w,AnyGo 10 (fun _=>.next) (rule "dict.set.new-key-at-the-end") 0 (fun _=>()) w := by
  intro w; unfold AnyGo; rw [PySem.W.Fast.te10110043849684766642,PySem.W.Fast.te14364793385576792824]; kernel_rfl
theorem rule_any2:∀ w,AnyGo 10 (fun _=>.next) (rule "dict.display.long") 0 (fun _=>()) w := by
  intro w; unfold AnyGo; rw [PySem.W.Fast.te10110043849684766642,PySem.W.Fast.te14364793385576792824]; kernel_rfl
theorem resV_inj (a b) (h:resV b = resV a):b = a := by
  cases a with
  | none=>cases b with
    | none=>rfl
    | some _=>nomatch h
  | some _=>cases b with
    | none=>nomatch h
    | some _=>injection h with h; rw [h]
theorem resB_inj (a b) (h:resB b = resB a):b = a := by
  cases a with
  | true=>cases b with
    | true=>rfl
    | false=>nomatch h
  | false=>cases b with
    | true=>nomatch h
    | false=>rfl
theorem resW_inj (a b:Value) (h:resW b = resW a):b = a := by injection h
theorem raw_small {k:Int} (h0:0 ≤ k) (h1:k < 2 ^ 60):rawHash k = k := by
  unfold rawHash
  have e:((k.natAbs:Int) % ((2 ^ 61 - 1:Nat):Int)) = k := by
    rw [Int.natAbs_of_nonneg h0]
    refine Int.emod_eq_of_lt h0 ?_
    have:((2 ^ 61 - 1:Nat):Int) = 2305843009213693951 := rfl
    lia
  have e2:(k == -1) = false := by rw [beq_eq_false_iff_ne]; lia
  simp only [e,if_neg (show ¬ k < 0 by lia),e2]
  rfl
section
variable {w:World} {s:SharedT} {p:Pos}
theorem GoT.of_any {α:Type} {n d:Nat} {res:α -> Flow} {m:Sem α} {a:Nat -> α} (inj:∀ a b,res b = res a -> b = a) (h:AnyGo n res m d a w):GoT w s p m n { s with toks := s.toks + d } p (a s.toks) := by
  obtain ⟨T,k,li,ge,dr,tk,os⟩ := s
  exact GoT.of_seg res (inj _) fun gd lv=>congrFun (congrFun (congrFun (congrFun (congrFun (congrFun (congrFun (congrFun (congrFun (congrFun h T) k) li) ge) dr) tk) os) gd) lv) p
theorem hash_call (k:Int) (t:Tok) (refuse:Sem Value):AnyGo 60 resV (callSpecialIfBoundUnlessNone? (.int k t) (.ofString "__hash__") refuse) 1 (fun tk=>some (.int (rawHash k) tk)) w :=
  byRow2 (P := fun w=>AnyGo 60 resV (callSpecialIfBoundUnlessNone? (.int k t) (.ofString "__hash__") refuse) 1 (fun tk=>some (.int (rawHash k) tk)) w) "special-get-raises" (call_anyf k t refuse) (call_anyt k t refuse) w
theorem GoT.hash {k:Int} {t:Tok} (h0:0 ≤ k) (h1:k < 2 ^ 60):GoT w s p (pyHash (.int k t)) 150 { s with toks := s.toks + 1 } p k := by
  show GoT w s p (pyHashByItsType (.int k t)) 150 _ p k
  unfold pyHashByItsType
  refine GoT.bind (n := 30) (n' := 120) (GoT.of_any (s := s) (fun _ _ _=>rfl) (room_any k t w)) ?_
  refine GoT.bind (n := 30) (n' := 90) (GoT.of_any (s := s) resV_inj (spec_any k t w)) ?_
  rw [if_neg (by decide)]
  refine GoT.bind (n := 30) (n' := 60) (GoT.of_any (s := s) resV_inj (spec_any k t w)) ?_
  rw [if_neg (by decide)]
  refine GoT.bind (n := 60) (n' := 0) (GoT.of_any (s := s) resV_inj (hash_call k t _)) ?_
  show GoT w _ p (pyHashByItsType.reduced (rawHash k)) 0 _ p k
  rw [raw_small h0 h1]
  unfold pyHashByItsType.reduced
  have e:(decide (-(2 ^ 63:Int) ≤ k) && decide (k < 2 ^ 63)) = true := by
    rw [Bool.and_eq_true]; exact ⟨decide_eq_true (by lia),decide_eq_true (by lia)⟩
  have e2:(k == -1) = false := by rw [beq_eq_false_iff_ne]; lia
  rw [if_pos e,e2,if_neg (by decide)]
  exact GoT.pure
theorem GoT.dset {d:Addr} {k:Int} {v:Value} {t:Tok} {es:List DictEntry} {n:Nat} (h0:0 ≤ k) (h1:k < 2 ^ 60) (hn:Nat.ble 28 d = true) (hd:Nat.blt d s.n = true) (hT:s.tree.get d = some (dOb es n)) (hh:hasHash k es = false) (hl:es.length + 1 ≤ 1000) :
    GoT w s p (dictSet d (.int k t) v) 164 { s with tree := s.tree.set d fun _=>dOb (es ++ [⟨k,.int k t,v⟩]) (n + 1),toks := s.toks + 1 } p () := by
  have gT:s.tree.set d (Obj.mapDictKeys (·.push ⟨k,.int k t,v⟩)) = s.tree.set d fun _=>dOb (es ++ [⟨k,.int k t,v⟩]) (n + 1) := by
    refine set_congr _ _ fun o ho=>?_
    rw [hT] at ho; cases ho
    show Obj.mk _ _ (.dict ((List.toArray es).push _) _) _ = _
    rw [List.push_toArray]
  rw [← gT]
  unfold dictSet
  refine GoT.holding (GoT.bind (n := 150) (n' := 14) (GoT.hash h0 h1) ?_)
  unfold dictSetHashed
  refine GoT.holding (GoT.bind (n := 1) (n' := 13) (GoT.find (s := { s with toks := s.toks + 1 }) hd hT hh) ?_)
  refine GoT.bind (n := 10) (n' := 3) (GoT.of_any (s := { s with toks := s.toks + 1 }) (fun _ _ _=>rfl) (rule_any w)) ?_
  exact GoT.putKeys (s := { s with toks := s.toks + 1 }) (es' := es ++ [⟨k,.int k t,v⟩]) (by simp) (by simpa using hl) hn hd hT
theorem GoT.alloc {o:Obj} (h:((s.tree.ins s.n o).get s.n).isSome = true):GoT w s p (PySem.alloc o) 1 { s with tree := s.tree.ins s.n o,n := s.n + 1 } p s.n := fun K H gd lv N r hr=>by
  refine GoT.one (s' := { s with tree := s.tree.ins s.n o,n := s.n + 1 }) rfl ?_ hr
  obtain ⟨T,n,life,gens,drawn,toks,os⟩ := s
  show (match ((T.ins n o).get n).isSome with | true=>_ | false=>_) = _
  dsimp only at h
  rw [h]
  rfl
end
end Mine
end
section
open PySem PySem.W PyProof.Rows PySem.Challenge
namespace Mine
noncomputable def kcK:PySem.Const -> Bool
  | .int k=>decide (0 ≤ k) && decide (k < 2 ^ 60)
  | _=>false
noncomputable def kcS:PySem.Const -> Bool
  | .str _=>true
  | _=>false
noncomputable def cK:Option PySem.Expr -> Bool
  | some e=>kcK (cC e)
  | none=>false
noncomputable def cS (e:PySem.Expr):Bool := kcS (cC e)
theorem cC_inv {e:PySem.Expr} (h:cC e ≠ .none):∃ a b,e = .Constant (cC e) a b := by
  cases e with
  | Constant c a b=>exact ⟨a,b,rfl⟩
  | _=>exact absurd rfl h
theorem cK_ok {o:Option PySem.Expr} (h:cK o = true):∃ k a b,o = some (.Constant (.int k) a b) ∧ 0 ≤ k ∧ k < 2 ^ 60 := by
  cases o with
  | none=>exact Bool.noConfusion h
  | some e =>
    have h:kcK (cC e) = true := h
    cases q:cC e with
    | int k =>
      rw [q] at h
      have h' := Bool.and_eq_true_iff.mp h
      obtain ⟨a,b,e'⟩ := cC_inv (e := e) (by rw [q]; exact fun z=>nomatch z)
      rw [q] at e'
      exact ⟨k,a,b,congrArg some e',of_decide_eq_true h'.1,of_decide_eq_true h'.2⟩
    | _=>rw [q] at h; exact Bool.noConfusion h
theorem cS_ok {o:PySem.Expr} (h:cS o = true):∃ x a b,o = .Constant (.str x) a b := by
  have h:kcS (cC o) = true := h
  cases q:cC o with
  | str x =>
    obtain ⟨a,b,e'⟩ := cC_inv (e := o) (by rw [q]; exact fun z=>nomatch z)
    rw [q] at e'
    exact ⟨x,a,b,e'⟩
  | _=>rw [q] at h; exact Bool.noConfusion h
noncomputable def isCst:List (Option PySem.Expr) -> List PySem.Expr -> Bool
  | [],vs=>vs.isEmpty
  | k :: ks,vs=>match vs with
    | []=>false
    | v :: vs=>cK k && cS v && isCst ks vs
structure Pr2 (x:Int × PySem.Str) (p:Pr):Prop where
  lo:0 ≤ x.1
  hi:x.1 < 2 ^ 60
  key:∀ (w:World) (s:SharedT) (q:Pos),GoT w s q p.1 30 { s with toks := s.toks + 1 } q (.int x.1 s.toks)
  val:∀ (w:World) (s:SharedT) (q:Pos),GoT w s q p.2 31 { s with toks := s.toks + 1 } p1H (.str x.2 s.toks)
inductive AllH {α β:Type} (R:α -> β -> Prop):List α -> List β -> Prop
  | nil:AllH R [] []
  | cons {a b as bs} (h:R a b) (t:AllH R as bs):AllH R (a :: as) (b :: bs)
theorem AllH.drop {α β:Type} {R:α -> β -> Prop} : ∀ {as:List α} {bs:List β} (n:Nat),AllH R as bs -> AllH R (as.drop n) (bs.drop n) := fun n h=>by
  induction h generalizing n with
  | nil=>rw [List.drop_nil,List.drop_nil]; exact .nil
  | cons h t ih=>cases n with
    | zero=>exact .cons h t
    | succ n=>exact ih n
theorem AllH.take {α β:Type} {R:α -> β -> Prop} : ∀ {as:List α} {bs:List β} (n:Nat),AllH R as bs -> AllH R (as.take n) (bs.take n) := fun n h=>by
  induction h generalizing n with
  | nil=>rw [List.take_nil,List.take_nil]; exact .nil
  | cons h t ih=>cases n with
    | zero=>exact .nil
    | succ n=>exact .cons h (ih n)
theorem AllH.len {α β:Type} {R:α -> β -> Prop} : ∀ {as:List α} {bs:List β},AllH R as bs -> bs.length = as.length := fun h=>by
  induction h with
  | nil=>rfl
  | cons _ _ ih=>exact congrArg (· + 1) ih
theorem str_any (x:PySem.Str):∀ w,AnyGo 30 resW (mkText x) 1 (fun tk=>.str x tk) w := by
  intro w; unfold AnyGo; rw [PySem.W.Fast.te10110043849684766642,PySem.W.Fast.te14364793385576792824]; kernel_rfl
theorem stand_go {w:World} {p q:Pos} {s:SharedT} : GoT w s p (standAt q) 1 s q () := fun K H gd lv N r hr=>by
  refine GoT.one (s' := s) rfl ?_ hr
  rfl
theorem prs_go:∀ (ks:List (Option PySem.Expr)) (vs:List PySem.Expr),isCst ks vs = true ->
    AllH Pr2 (dPairs ks vs) (((evalEachOpt ks envH).zip ((evalEach vs envH).map fun v=>do let x ← v; standAt p1H; pure x)).filterMap fun p=>p.1.map fun k=>(k,p.2))
  | [],[],_=>.nil
  | [],_ :: _,h=>Bool.noConfusion h
  | _ :: _,[],h=>Bool.noConfusion h
  | k :: ks,v :: vs,h=>by
    have h' := Bool.and_eq_true_iff.mp h
    have h'' := Bool.and_eq_true_iff.mp h'.1
    obtain ⟨k,a,b,rfl,l1,l2⟩ := cK_ok h''.1
    obtain ⟨x,c,d,rfl⟩ := cS_ok h''.2
    refine .cons ⟨l1,l2,fun w s q=>GoT.of_any (s := s) resW_inj (int_any k w),fun w s q=>?_⟩ (prs_go ks vs h'.2)
    exact GoT.bind (n := 30) (n' := 1) (GoT.of_any (s := s) resW_inj (str_any x w)) (GoT.bind (n := 1) (n' := 0) stand_go GoT.pure)
theorem cst_all:isCst ksH vsH = true := by kernel_rfl
theorem prs_all:AllH Pr2 b3Pairs prsH := by
  have := prs_go ksH vsH cst_all
  have e:b3Pairs = dPairs ksH vsH := rfl
  rw [e]
  exact this
section
variable {w:World}
theorem GoT.pairs {body:Pr -> PUnit -> Sem (ForInStep PUnit)} {d:Addr}
    (hb:∀ (x:Int × PySem.Str) (q:Pr) (s:SharedT) (es:List DictEntry) (n:Nat),Pr2 x q -> Nat.blt d s.n = true -> s.tree.get d = some (dOb es n) -> hasHash x.1 es = false -> es.length + 1 ≤ 1000 ->
      GoT w s p1H (body q ⟨⟩) 225 { s with tree := s.tree.set d fun _=>dOb (es ++ [⟨x.1,.int x.1 s.toks,.str x.2 (s.toks + 1)⟩]) (n + 1),toks := s.toks + 3 } p1H (.yield ⟨⟩)) :
    ∀ (l:List (Int × PySem.Str)) (ps:List Pr) (s:SharedT) (es:List DictEntry) (n:Nat),AllH Pr2 l ps -> Nat.blt d s.n = true -> s.tree.get d = some (dOb es n) -> intKeys es (b3Ents s.toks l) = true -> es.length + l.length < 1000 ->
      GoT w s p1H (forIn ps PUnit.unit body) (225 * l.length) { s with tree := s.tree.set d fun _=>dOb (es ++ b3Ents s.toks l) (n + l.length),toks := s.toks + 3 * l.length } p1H ⟨⟩ := by
  intro l ps s es n ha
  induction ha generalizing s es n with
  | nil =>
    intro _ h4 _ _
    have:s.tree.set d (fun _=>dOb (es ++ []) (n + 0)) = s.tree := by
      rw [List.append_nil,Nat.add_zero,set_congr (g := fun o=>o) s.tree d (fun o ho=>by rw [h4] at ho; cases ho; rfl),set_id]
    show GoT w s p1H (forIn [] PUnit.unit body) 0 { s with tree := s.tree.set d fun _=>dOb (es ++ []) (n + 0) } p1H ⟨⟩
    rw [this]
    exact GoT.pure
  | @cons kv q l qs h t ih =>
    intro h3 h4 hk hl
    obtain ⟨k,v⟩ := kv
    rw [b3Ents_cons,intKeys_cons] at hk
    simp only [Bool.and_eq_true,Bool.not_eq_true',Bool.true_and] at hk
    rw [List.length_cons,List.forIn_cons,show 225 * (l.length + 1) = 225 + 225 * l.length by lia]
    have hg2:(s.tree.set d fun _=>dOb (es ++ [⟨k,.int k s.toks,.str v (s.toks + 1)⟩]) (n + 1)).get d = some (dOb (es ++ [⟨k,.int k s.toks,.str v (s.toks + 1)⟩]) (n + 1)) := by
      rw [BT.get_set,if_pos rfl,h4]; rfl
    refine GoT.bind (hb (k,v) q s es n h h3 h4 hk.1 (by simp at hl; lia)) ?_
    have := ih { s with tree := s.tree.set d fun _=>dOb (es ++ [⟨k,.int k s.toks,.str v (s.toks + 1)⟩]) (n + 1),toks := s.toks + 3 } _ (n + 1) h3 hg2 hk.2 (by simp at hl ⊢; lia)
    dsimp only at this
    rw [set_set,List.append_assoc,List.singleton_append,Nat.add_assoc n,Nat.add_comm 1,Nat.add_assoc s.toks,show 3 + 3 * l.length = 3 * (l.length + 1) by lia] at this
    exact this
theorem GoT.subLong {s:SharedT} {l:List (Int × PySem.Str)} {ps:List Pr} (ha:AllH Pr2 l ps) (h15:15 < l.length) (hl:l.length < 1000) (hn:Nat.ble 28 s.n = true) (hi:(s.tree.ins s.n (dOb [] 0)).get s.n = some (dOb [] 0)) (hk:intKeys [] (b3Ents s.toks l) = true) :
    GoT w s p1H (subDict ps) (11 + 225 * l.length) { s with tree := (s.tree.ins s.n (dOb [] 0)).set s.n fun _=>dOb (b3Ents s.toks l) l.length,n := s.n + 1,toks := s.toks + 3 * l.length } p1H s.n := by
  unfold subDict
  rw [show 11 + 225 * l.length = 1 + (10 + 225 * l.length) by lia]
  refine GoT.bind (GoT.alloc (by rw [show ({ cls := .type "dict",data := .dict #[] } : Obj) = dOb [] 0 from rfl,hi]; rfl)) ?_
  have hlt:Nat.blt s.n (s.n + 1) = true := Nat.ble_eq.mpr (Nat.le_refl _)
  refine GoT.bind (a := ⟨⟩) (n := 10 + 225 * l.length) (n' := 0) (GoT.holding ?_) GoT.pure
  rw [if_neg (by rw [ha.len]; lia)]
  refine GoT.bind (n := 10) (GoT.of_any (s := { s with tree := s.tree.ins s.n (dOb [] 0),n := s.n + 1 }) (fun _ _ _=>rfl) (rule_any2 w)) ?_
  have := GoT.pairs (w := w) (d := s.n) (body := fun x _=>match x with
    | (k,v)=>do
      let kv ← k
      let vv ← PySem.holding [kv] v
      PySem.holding [kv,vv] (dictSet s.n kv vv)
      Pure.pure (ForInStep.yield PUnit.unit)) (fun x q s' es n h h3 h4 hh hl=>?_) l ps { s with tree := s.tree.ins s.n (dOb [] 0),n := s.n + 1 } [] 0 ha hlt hi hk (by simpa using hl)
  · rw [List.nil_append,Nat.zero_add] at this
    exact GoT.bind (n := 225 * l.length) (n' := 0) this GoT.pure
  · obtain ⟨q1,q2⟩ := q
    refine GoT.bind (n := 30) (n' := 195) (h.key w s' p1H) ?_
    refine GoT.bind (n := 31) (n' := 164) (GoT.holding (h.val w { s' with toks := s'.toks + 1 } p1H)) ?_
    refine GoT.bind (n := 164) (n' := 0) (GoT.holding (GoT.dset (s := { s' with toks := s'.toks + 1 + 1 }) h.lo h.hi hn h3 h4 hh hl)) ?_
    exact GoT.pure
end
end Mine
end
section
open PySem PySem.W PyProof.Rows PySem.Challenge
namespace Mine
theorem items_map:itemsH = prsH.map fun p=>(some p.1,p.2) := by
  have h:itemsH.all (·.1.isSome) = true := by kernel_rfl
  unfold prsH
  generalize itemsH = l at h
  induction l with
  | nil=>rfl
  | cons x l ih =>
    obtain ⟨_ | k,v⟩ := x
    · simp at h
    · simp only [List.all_cons,Bool.and_eq_true] at h
      exact congrArg _ (ih h.2)
theorem prs_len:prsH.length = 650 := by kernel_rfl
theorem ch_parts:∀ (n:Nat) (l:List Pr),l.length = 17 * n + 4 -> ∃ cs c,chH n l = cs ++ [c] ∧ (∀ x ∈ cs,x.length = 17) ∧ c.length = 4 ∧ (cs ++ [c]).flatten = l
  | 0,l,h=>⟨[],l,rfl,fun _ h=>(nomatch h),h,by simp⟩
  | n + 1,l,h=>by
    obtain ⟨cs,c,h1,h2,h3,h4⟩ := ch_parts n (l.drop 17) (by rw [List.length_drop]; exact Nat.sub_eq_of_eq_add (h.trans (Nat.add_right_comm (17 * n) 17 4)))
    refine ⟨l.take 17 :: cs,c,by rw [chH_cons,h1,List.cons_append],fun x hx=>?_,h3,by rw [List.cons_append,List.flatten_cons,h4,List.take_append_drop]⟩
    rcases List.mem_cons.mp hx with rfl | hx
    · rw [List.length_take,h]; exact Nat.min_eq_left (Nat.le_trans (Nat.le_add_left 17 (17 * n)) (Nat.le_add_right _ 4))
    · exact h2 x hx
theorem disp_chain:dictDisplay itemsH = chainH (chH 38 prsH) none := by
  obtain ⟨cs,c,h1,h2,h3,h4⟩ := ch_parts 38 prsH prs_len
  have := disp_eq cs c h2 (by rw [h3]; decide) (by rintro rfl; cases h3)
  rw [h4, ← items_map, ← h1] at this
  exact this
theorem exec_16:exec (stm 16) envH = (standAt p0H >>= fun _=>(standAt p1H >>= fun _=>dictDisplay itemsH) >>= fun v=>(swappedStores tgH (.Dict ksH vsH p1H) envH >>= fun sw=>assignStores envH v sw ((assignEach tgH envH).map (·.2)))) := by
  rw [stm16]; kernel_rfl
theorem chk_last:chk 38 = prsH.drop (17 * 38) := by
  unfold chk
  rw [List.take_of_length_le]
  rw [List.length_drop,prs_len]; decide
section
variable {w:World} {os:OsState}
theorem isDict_go {s:SharedT} {p:Pos} {a:Addr} {es:List DictEntry} {n:Nat} (h:Nat.blt a s.n = true) (hT:s.tree.get a = some (dOb es n)):GoT w s p (isInstance (.ref a) (.type "dict")) 31 s p true := by
  unfold isInstance
  exact GoT.bind (n := 1) (n' := 30) (GoT.bind (n := 1) (n' := 0) (GoT.load h hT rfl) GoT.pure) (GoT.of_any (s := s) resB_inj (sub_any w))
theorem iter_go {s:SharedT} {p:Pos} {a:Addr} {es:List DictEntry} {n:Nat} (h:Nat.blt a s.n = true) (hT:s.tree.get a = some (dOb es n)):GoT w s p (specialOf (.ref a) (.ofString "__iter__")) 31 s p (some (.builtin "dict.__iter__")) := by
  unfold specialOf
  exact GoT.bind (n := 1) (n' := 30) (GoT.bind (n := 1) (n' := 0) (GoT.load h hT rfl) GoT.pure) (GoT.of_any (s := s) resV_inj (look_any w))
theorem flush {j tk tk' n n' c:Nat} {es sub:List DictEntry} (h0:1 ≤ j) (hj:j ≤ 38) (hc:GoT w (stM tk j (dOb es n) w os) p1H (PySem.holding [.ref 194] (subDict (chk j))) c (stM tk' (j + 1) (dOb es n) w os) p1H (194 + j)) (hg:∀ P o,(trM o3v7 (lfM o (j + 1)) P).get (194 + j) = some (subO j)) (hs:subO j = dOb sub n') (hne:es ≠ []) (hk:intKeys es sub = true) (hl:es.length + sub.length < 1000) :
    GoT w (stM tk j (dOb es n) w os) p1H (flH (chk j) (some 194)) (c + (31 + 31 + 3 + 6 * sub.length)) (stM tk' (j + 1) (dOb (es ++ sub) (n + sub.length)) w os) p1H (some 194) := by
  have b1:Nat.blt (194 + j) (194 + (j + 1)) = true := Nat.ble_eq.mpr (by lia)
  have g1 := (hg w.params (dOb es n)).trans (congrArg some hs)
  refine GoT.bind (n' := 31 + 31 + 3 + 6 * sub.length) hc ?_
  refine GoT.bind (n' := 0) (GoT.onRaise (GoT.holding (GoT.merge (a := 194 + j) (d := 194) (n := n) (m := n') (n1 := 31) (n2 := 31) (sub := sub) (by show (194:Nat) ≠ 194 + j; lia) ?_ hne (isDict_go b1 g1) (iter_go b1 g1) b1 ?_ rfl g1 ?_ hk hl))) ?_
  · rw [beq_eq_false_iff_ne]; show 194 + j ≠ _; unfold sysModules; lia
  · show Nat.ble 195 (194 + (j + 1)) = true
    exact Nat.ble_eq.mpr (by lia)
  · rfl
  · exact GoT.pure
end
end Mine
end
section
open PySem PySem.W PyProof.Rows PySem.Challenge
namespace Mine
noncomputable abbrev GI (j:Nat):Prop := ∀ (P:Params) (o:Obj),((trM o3v7 (lfM o j) P).ins (194 + j) (dOb [] 0)).get (194 + j) = some (dOb [] 0) ∧
  ((trM o3v7 (lfM o j) P).ins (194 + j) (dOb [] 0)).set (194 + j) (fun _=>subO j) = trM o3v7 (lfM o (j + 1)) P ∧ (trM o3v7 (lfM o (j + 1)) P).get (194 + j) = some (subO j)
theorem upto_succ {p:Nat -> Prop} {n:Nat} (h:p n) (r:∀ j,j < n -> p j):∀ j,j < n + 1 -> p j := fun j hj=>by
  rcases Nat.lt_or_eq_of_le (Nat.le_of_lt_succ hj) with h' | h'
  · exact r j h'
  · rw [h']
    exact h
theorem gi_all:∀ j,j < 37 -> GI (j + 1) := by
  repeat refine upto_succ (p := fun j=>GI (j + 1)) (fun P o=>⟨by kernel_rfl,by kernel_rfl,by kernel_rfl⟩) ?_
  exact fun j h=>absurd h (Nat.not_lt_zero j)
theorem ents_ne {j:Nat} (h1:1 ≤ j) (h:17 * j ≤ 650):ents (17 * j) ≠ [] := fun e=>by
  have := ents_len h
  rw [e] at this
  simp at this
  lia
noncomputable abbrev endL:List DictEntry := ents 646 ++ b3Tail 2562 (b3Pairs.drop 646)
theorem keys_self (j:Nat):intKeys [] (b3At j) = true := by
  obtain ⟨b,h1,h2⟩ := drop_asc (17 * j)
  exact keys_ents _ _ _ b (asc_take 17 h1) fun _ h=>nomatch h
theorem run_len {j:Nat} (h:17 * j ≤ 633):((b3Pairs.drop (17 * j)).take 17).length = 17 := by
  rw [List.length_take,List.length_drop,len_b3]; exact Nat.min_eq_left (Nat.le_sub_of_add_le (Nat.add_le_add_left h 17))
section
variable {w:World} {os:OsState}
theorem sub_mid {j:Nat} (h:j < 37) (o:Obj):GoT w (stM (624 + 51 * (j + 1)) (j + 1) o w os) p1H (PySem.holding [.ref 194] (subDict (chk (j + 1)))) 3836 (stM (624 + 51 * (j + 1 + 1)) (j + 1 + 1) o w os) p1H (194 + (j + 1)) := by
  obtain ⟨g1,g2,g3⟩ := gi_all j h w.params o
  have l := run_len (j := j + 1) (by lia)
  have := GoT.subLong (w := w) (s := stM (624 + 51 * (j + 1)) (j + 1) o w os) ((prs_all.drop (17 * (j + 1))).take 17) (by rw [l]; decide) (by rw [l]; decide) (Nat.ble_eq.mpr (by show 28 ≤ 194 + (j + 1); lia)) g1 (keys_self (j + 1))
  rw [l] at this
  refine GoT.holding ?_
  have e:dOb (b3Ents (624 + 51 * (j + 1)) ((b3Pairs.drop (17 * (j + 1))).take 17)) 17 = subO (j + 1) := by
    unfold subO
    rw [show Nat.blt (j + 1) 38 = true from Nat.ble_eq.mpr (by lia)]
  dsimp only at this
  rw [e,g2] at this
  exact this
theorem flush_mid {j:Nat} (h:j < 37):GoT w (stM (624 + 51 * (j + 1)) (j + 1) (dOb (ents (17 * (j + 1))) (17 * (j + 1))) w os) p1H (flH (chk (j + 1)) (some 194)) 4003 (stM (624 + 51 * (j + 1 + 1)) (j + 1 + 1) (dOb (ents (17 * (j + 1 + 1))) (17 * (j + 1 + 1))) w os) p1H (some 194) := by
  have hs:subO (j + 1) = dOb (b3At (j + 1)) 17 := by
    unfold subO
    rw [show Nat.blt (j + 1) 38 = true from Nat.ble_eq.mpr (by lia)]
  have := flush (w := w) (os := os) (n := 17 * (j + 1)) (Nat.le_add_left 1 j) (by lia) (sub_mid h _) (fun P o=>(gi_all j h P o).2.2) hs (ents_ne (Nat.le_add_left 1 j) (by lia)) (keys_at (j + 1)) (by rw [ents_len (by lia),at_len (by lia)]; lia)
  rw [at_len (by lia),ents_next (by lia),show 17 * (j + 1) + 17 = 17 * (j + 1 + 1) by lia] at this
  exact this
noncomputable def ck38 (w:World):Prop := (fun (o:Obj) (os:OsState) gd lv=>segRunT treeTable pH w 28 (some (.ref 6)) 1 300 (stM 2562 38 o w os) ⟨(PySem.holding [.ref 194] (subDict (chk 38))).wrap (fun a=>.pure (.done (resA a))) deadEnd gd lv,cH,p1H,BH⟩) = fun o os _ _=>some (resA (194 + 38),stM 2574 39 o w os,cH,p1H)
theorem ck_38f:∀ w:World,ck38 (wF false w) := by
  intro w; unfold ck38; rw [PySem.W.Fast.te10110043849684766642,PySem.W.Fast.te14364793385576792824]; kernel_rfl
theorem ck_38t:∀ w:World,ck38 (wF true w) := by
  intro w; unfold ck38; rw [PySem.W.Fast.te10110043849684766642,PySem.W.Fast.te14364793385576792824]; kernel_rfl
theorem ck_38:∀ w:World,ck38 w := byRow2 "special-get-raises" ck_38f ck_38t
theorem gt_38:∀ P o,(trM o3v7 (lfM o 39) P).get 232 = some (subO 38) := by intro P o; kernel_rfl
theorem flush_last:GoT w (stM 2562 38 (dOb (ents 646) 646) w os) p1H (flH (chk 38) (some 194)) 389 (stM 2574 39 (dOb endL 650) w os) p1H (some 194) := by
  have hs:subO 38 = dOb (b3Tail 2562 (b3Pairs.drop 646)) 4 := rfl
  have := flush (w := w) (os := os) (n := 646) (j := 38) (by lia) (by lia) (GoT.of_seg resA (fun b h=>by injection h with h; injection h) fun gd lv=>congrFun (congrFun (congrFun (congrFun (ck_38 w) (dOb (ents 646) 646)) os) gd) lv) gt_38 hs (ents_ne (j := 38) (by lia) (by lia)) keys_last (by rw [ents_len (by lia),last_len]; lia)
  rw [last_len] at this
  exact this
theorem chain_go:∀ (k j:Nat),j + k = 37 -> GoT w (stM (624 + 51 * (j + 1)) (j + 1) (dOb (ents (17 * (j + 1))) (17 * (j + 1))) w os) p1H (chainH (chH k (prsH.drop (17 * (j + 1)))) (some 194)) (4003 * k + 389) (stM 2574 39 (dOb endL 650) w os) p1H (.ref 194)
  | 0,j,h=>by
    obtain rfl:j = 37 := by lia
    show GoT _ _ _ (flH (prsH.drop (17 * 38)) (some 194) >>= fun m' => chainH [] m') _ _ _ _
    rw [← chk_last]
    exact GoT.bind (n := 389) (n' := 0) flush_last GoT.pure
  | k + 1,j,h=>by
    show GoT _ _ _ (flH (chk (j + 1)) (some 194) >>= fun m' => chainH (chH k ((prsH.drop (17 * (j + 1))).drop 17)) m') _ _ _ _
    rw [show 4003 * (k + 1) + 389 = 4003 + (4003 * k + 389) by lia]
    refine GoT.bind (flush_mid (by lia)) ?_
    rw [List.drop_drop,show 17 * (j + 1) + 17 = 17 * (j + 1 + 1) by lia]
    exact chain_go k (j + 1) (by lia)
theorem gi_0:∀ (P:Params) (o o':Obj),((trM o3v7 (lfM o 0) P).ins 194 (dOb [] 0)).get 194 = some (dOb [] 0) ∧ ((trM o3v7 (lfM o 0) P).ins 194 (dOb [] 0)).set 194 (fun _=>o') = trM o3v7 (lfM o' 1) P := fun P o o' => ⟨by kernel_rfl,by kernel_rfl⟩
theorem first_go:GoT w (stM 624 0 default w os) p1H (flH (chk 0) none) 3836 (stM 675 1 (dOb (ents 17) 17) w os) p1H (some 194) := by
  obtain ⟨g1,g2⟩ := gi_0 w.params default (dOb (ents 17) 17)
  have l := run_len (j := 0) (by lia)
  have := GoT.subLong (w := w) (s := stM 624 0 default w os) ((prs_all.drop (17 * 0)).take 17) (by rw [l]; decide) (by rw [l]; decide) rfl g1 (keys_self 0)
  rw [l] at this
  dsimp only at this
  have g2':((trM o3v7 (lfM default 0) w.params).ins (194 + 0) (dOb [] 0)).set (194 + 0) (fun _=>dOb (b3Ents 624 ((b3Pairs.drop (17 * 0)).take 17)) 17) = trM o3v7 (lfM (dOb (ents 17) 17) 1) w.params := g2
  rw [g2'] at this
  exact GoT.bind (n := 3836) (n' := 0) this GoT.pure
theorem disp_go:GoT w (stM 624 0 default w os) p1H (dictDisplay itemsH) (3836 + (4003 * 37 + 389)) (stM 2574 39 (dOb endL 650) w os) p1H (.ref 194) := by
  rw [disp_chain]
  show GoT _ _ _ (flH (prsH.take 17) none >>= fun m' => chainH (chH 37 (prsH.drop 17)) m') _ _ _ _
  rw [show prsH.take 17 = chk 0 from rfl]
  exact GoT.bind (n := 3836) first_go (chain_go 37 0 rfl)
end
end Mine
end
section
open PySem PySem.W PyProof.Rows PySem.Challenge
namespace Mine
noncomputable abbrev stsg0:List Stmt := [stm 1,stm 2,stm 3]
noncomputable def Pg0 (w:World):Prop := (fun os=>segRunT treeTable pH w 28 (some (.ref 6)) 1 120 (stH trsa 32 282 w os) (piecesOf stsg0 envH cH ⟨0,0,0,0⟩ BH)) = fun os=>some (.next,(stH trg0 44 329 w os),cH,⟨6,0,6,10⟩)
theorem pg0:∀ w,Pg0 w := by
  intro w; unfold Pg0; rw [PySem.W.Fast.te10110043849684766642,PySem.W.Fast.te14364793385576792824]; kernel_rfl
noncomputable abbrev stsg1:List Stmt := [stm 4]
noncomputable def Pg1 (w:World):Prop := (fun os=>segRunT treeTable pH w 28 (some (.ref 6)) 1 116 (stH trg0 44 329 w os) (piecesOf stsg1 envH cH ⟨6,0,6,10⟩ BH)) = fun os=>some (.next,(stH trg1 45 351 w os),cH,⟨7,0,7,14⟩)
theorem pg1f:∀ w:World,Pg1 (w.withFollow "special-get-raises" false) := by
  intro w; unfold Pg1; rw [PySem.W.Fast.te10110043849684766642,PySem.W.Fast.te14364793385576792824]; kernel_rfl
theorem pg1t:∀ w:World,Pg1 (w.withFollow "special-get-raises" true) := by
  intro w; unfold Pg1; rw [PySem.W.Fast.te10110043849684766642,PySem.W.Fast.te14364793385576792824]; kernel_rfl
theorem pg1:∀ w,Pg1 w := byRow2 "special-get-raises" pg1f pg1t
noncomputable abbrev stsg2:List Stmt := [stm 5,stm 6]
noncomputable def Pg2 (w:World):Prop := (fun os=>segRunT treeTable pH w 28 (some (.ref 6)) 1 57 (stH trg1 45 351 w os) (piecesOf stsg2 envH cH ⟨7,0,7,14⟩ BH)) = fun os=>some (.next,(stH trg2 53 360 w os),cH,⟨10,0,10,23⟩)
theorem pg2:∀ w,Pg2 w := by
  intro w; unfold Pg2; rw [PySem.W.Fast.te10110043849684766642,PySem.W.Fast.te14364793385576792824]; kernel_rfl
noncomputable abbrev stsg3:List Stmt := [stm 7]
noncomputable def Pg3 (w:World):Prop := (fun os=>segRunT treeTable pH w 28 (some (.ref 6)) 1 661 (stH trg2 53 360 w os) (piecesOf stsg3 envH cH ⟨10,0,10,23⟩ BH)) = fun os=>some (.next,(stH trg3 155 525 w os),cH,⟨11,0,166,16⟩)
theorem pg3:∀ w,Pg3 w := by
  intro w; unfold Pg3; rw [PySem.W.Fast.te10110043849684766642,PySem.W.Fast.te14364793385576792824]; kernel_rfl
noncomputable abbrev stsg4:List Stmt := [stm 8,stm 9,stm 10,stm 11,stm 12,stm 13]
noncomputable def Pg4 (w:World):Prop := (fun os=>segRunT treeTable pH w 28 (some (.ref 6)) 1 120 (stH trg3 155 525 w os) (piecesOf stsg4 envH cH ⟨11,0,166,16⟩ BH)) = fun os=>some (.next,(stH trg4 176 557 w os),cH,⟨227,0,227,8⟩)
theorem pg4:∀ w,Pg4 w := by
  intro w; unfold Pg4; rw [PySem.W.Fast.te10110043849684766642,PySem.W.Fast.te14364793385576792824]; kernel_rfl
noncomputable abbrev stsg5:List Stmt := [stm 14]
noncomputable def Pg5 (w:World):Prop := (fun os=>segRunT treeTable pH w 28 (some (.ref 6)) 1 999 (stH trg4 176 557 w os) (piecesOf stsg5 envH cH ⟨227,0,227,8⟩ BH)) = fun os=>some (.next,(stH trg5 187 617 w os),cH,⟨228,0,228,6⟩)
theorem pg5ff:∀ w:World,Pg5 ((w.withFollow "set-order" false).withFollow "special-get-raises" false) := by
  intro w; unfold Pg5; rw [PySem.W.Fast.te10110043849684766642,PySem.W.Fast.te14364793385576792824]; kernel_rfl
theorem pg5ft:∀ w:World,Pg5 ((w.withFollow "set-order" true).withFollow "special-get-raises" false) := by
  intro w; unfold Pg5; rw [PySem.W.Fast.te10110043849684766642,PySem.W.Fast.te14364793385576792824]; kernel_rfl
theorem pg5f:∀ w:World,Pg5 (w.withFollow "special-get-raises" false) := byRow2 (P := fun w=>Pg5 (w.withFollow "special-get-raises" false)) "set-order" pg5ff pg5ft
theorem pg5tf:∀ w:World,Pg5 ((w.withFollow "set-order" false).withFollow "special-get-raises" true) := by
  intro w; unfold Pg5; rw [PySem.W.Fast.te10110043849684766642,PySem.W.Fast.te14364793385576792824]; kernel_rfl
theorem pg5tt:∀ w:World,Pg5 ((w.withFollow "set-order" true).withFollow "special-get-raises" true) := by
  intro w; unfold Pg5; rw [PySem.W.Fast.te10110043849684766642,PySem.W.Fast.te14364793385576792824]; kernel_rfl
theorem pg5t:∀ w:World,Pg5 (w.withFollow "special-get-raises" true) := byRow2 (P := fun w=>Pg5 (w.withFollow "special-get-raises" true)) "set-order" pg5tf pg5tt
theorem pg5:∀ w,Pg5 w := byRow2 "special-get-raises" pg5f pg5t
noncomputable abbrev stsg6:List Stmt := [stm 15]
noncomputable def Pg6 (w:World):Prop := (fun os=>segRunT treeTable pH w 28 (some (.ref 6)) 1 30 (stH trg5 187 617 w os) (piecesOf stsg6 envH cH ⟨228,0,228,6⟩ BH)) = fun os=>some (.next,(stH trg6 194 624 w os),cH,⟨229,0,230,30⟩)
theorem pg6:∀ w,Pg6 w := by
  intro w; unfold Pg6; rw [PySem.W.Fast.te10110043849684766642,PySem.W.Fast.te14364793385576792824]; kernel_rfl
noncomputable abbrev stsg8:List Stmt := [stm 17,stm 18,stm 19,stm 20,stm 21,stm 22,stm 23,stm 24,stm 25,stm 26]
noncomputable def Pg8 (w:World):Prop := (fun os=>segRunT treeTable pH w 28 (some (.ref 6)) 1 267 (stH trg7 233 2575 w os) (piecesOf stsg8 envH cH ⟨231,0,231,13⟩ BH)) = fun os=>some (.next,(stH trg8 286 2646 w os),cH,⟨273,0,306,15⟩)
theorem pg8:∀ w,Pg8 w := by
  intro w; unfold Pg8; rw [PySem.W.Fast.te10110043849684766642,PySem.W.Fast.te14364793385576792824]; kernel_rfl
end Mine
end
section
open PySem PySem.W PyProof.Rows PySem.Challenge
namespace Mine
section
variable {w:World} {os:OsState}
noncomputable abbrev K16 (rest:List Stmt):Flow -> Sem Fin := fun f=>match f with
  | .next=>(execs rest envH).wrap doneF (leaveH envH) id id
  | f=>doneF f
noncomputable def tail16 (v:Value):Sem Flow := swappedStores tgH (.Dict ksH vsH p1H) envH >>= fun sw=>assignStores envH v sw ((assignEach tgH envH).map (·.2))
noncomputable def last16 (w:World):Prop := (fun (os:OsState) gd lv=>segRunT treeTable pH w 28 (some (.ref 6)) 1 30 (stM 2574 39 (dOb endL 650) w os) ⟨(tail16 (.ref 194)).wrap doneF deadEnd gd lv,cH,p1H,BH⟩) = fun os _ _=>some (.next,stH trg7 233 2575 w os,cH,⟨231,0,231,13⟩)
theorem last_16:∀ w:World,last16 w := by
  intro w; unfold last16; rw [PySem.W.Fast.te10110043849684766642,PySem.W.Fast.te14364793385576792824]; kernel_rfl
end
end Mine
end
section
open PySem PySem.W PyProof.Rows PySem.Challenge
namespace Mine
theorem st16:∀ (w:World) (os:OsState),stM 624 0 default w os = stH trg6 194 624 w os := by intro w os; kernel_rfl
section
variable {w:World} {os:OsState}
theorem go16:GoT w (stH trg6 194 624 w os) ⟨229,0,230,30⟩ (exec (stm 16) envH) (1 + (1 + (3836 + (4003 * 37 + 389)) + 30)) (stH trg7 233 2575 w os) ⟨231,0,231,13⟩ .next := by
  rw [exec_16, ← st16]
  refine GoT.bind stand_go (GoT.bind (GoT.bind stand_go disp_go) ?_)
  exact GoT.of_seg id (fun b h=>h) fun gd lv=>congrFun (congrFun (congrFun (last_16 w) os) gd) lv
theorem piece16 {rest:List Stmt} {N:Nat} {r:Shared} (k:TRun w N (stH trg7 233 2575 w os).abs (restOf rest envH cH ⟨231,0,231,13⟩ BH) = some r) :
    TRun w (1 + (1 + (3836 + (4003 * 37 + 389)) + 30) + N) (stH trg6 194 624 w os).abs (restOf (stm 16 :: rest) envH cH ⟨229,0,230,30⟩ BH) = some r := by
  unfold restOf
  rw [execs_cons_wrap]
  exact go16 _ _ _ _ _ _ k
end
theorem body_eq:behindTheImports pH = stsg0 ++ (stsg1 ++ (stsg2 ++ (stsg3 ++ (stsg4 ++ (stsg5 ++ (stsg6 ++ (stm 16 :: (stsg8 ++ [])))))))) := by kernel_rfl
theorem run_all:∀ (w:World) (os:OsState),topRun treeTable pH w 28 (some (.ref 6)) (12 + (1 + (120 + (116 + (57 + (661 + (120 + (999 + (30 + (1 + (1 + (3836 + (4003 * 37 + 389)) + 30) + (267 + 2))))))))))) ⟨hes0 w.params,gensH,drawH,276,os⟩ (topStub pH) = some ⟨heg8 w.params,gensH,drawH,2646,os⟩ := by
  intro w os
  refine go_top (congrFun (pre_go w) os) ?_
  refine piece_block (congrFun (block_go w) os) ?_
  rw [body_eq]
  refine piece_app (segRun_of (congrFun (pg0 w) os)) ?_
  refine piece_app (segRun_of (congrFun (pg1 w) os)) ?_
  refine piece_app (segRun_of (congrFun (pg2 w) os)) ?_
  refine piece_app (segRun_of (congrFun (pg3 w) os)) ?_
  refine piece_app (segRun_of (congrFun (pg4 w) os)) ?_
  refine piece_app (segRun_of (congrFun (pg5 w) os)) ?_
  refine piece_app (segRun_of (congrFun (pg6 w) os)) ?_
  refine piece16 ?_
  refine piece_app (segRun_of (congrFun (pg8 w) os)) ?_
  exact congrFun (fin_go w) os
end Mine
end
section
open PySem PySem.W PyProof.Rows PySem.Challenge
namespace Mine
noncomputable def view:Program := PySem.W.view pw_ti0079_01 [0,1,3,4,5,6,7,8,9,11,12,14,15,16,17,19,20,21,22,23,24,25,26]
noncomputable abbrev loose:List Str := [.ofString "_twin_re_1",.ofString "_namespace_map",.ofString "_looks_like_prefix_name",.ofString "C14NWriterTarget",.ofString "b1_set",.ofString "b3_exceptions"]
noncomputable def as:List Addr := [2,3,32,34,35,37,38,42,43,44,45,47,48,50,51,52,60,61,63,64,66,67,68,69,71,72,74,75,76,78,79,81,82,83,84,86,87,89,90,91,93,94,96,97,98,99,100,102,103,105,106,107,109,110,112,113,114,116,117,119,120,121,122,125,126,127,129,130,132,133,134,136,137,139,140,141,143,144,146,147,148,149,150,151,152,155,157,158,160,161,162,164,165,167,168,169,171,172,174,175,183,187,189,190,192,193,194,233,235,236,238,239,240,242,243,245,246,247,249,250,252,253,254,257,258,259,262,263,264,267,268,269,272,273,274,276,277,279,280,281,284,285]
theorem as_eq:∀ P,as = (KF P).map (·.1) := fun P=>by kernel_rfl
noncomputable abbrev Hk:Hook := kmHook KF as as_eq [123]
noncomputable abbrev XtH:Shared -> Bool := fun s=>xlAt view [] s && recOk (RowW.records rw_ti0079_01.row.toRowW) s
noncomputable abbrev shE (w:World) (os:OsState):Shared := ⟨heg8 w.params,gensH,drawH,2646,os⟩
noncomputable def ascP:Int -> List (PyData × PyData) -> Bool
  | _,[]=>true
  | b,(.int k,_) :: r=>(Int.decLt b k).decide && ascP k r
  | _,_=>false
theorem ascP_no {k:Int} : ∀ {D:List (PyData × PyData)} {b:Int},ascP b D = true -> k ≤ b -> hasIntKey k D = false
  | [],_,_,_=>rfl
  | (d,v) :: D,b,h,hk=>by
    cases d <;> first | exact absurd (show false = true from h) Bool.false_ne_true | skip
    have h := Bool.and_eq_true_iff.mp (show ((Int.decLt b _).decide && ascP _ D) = true from h)
    have h1:b < _ := of_decide_eq_true h.1
    unfold hasIntKey
    rw [ascP_no h.2 (Int.le_of_lt (Int.lt_of_le_of_lt hk h1)),Bool.or_false,beq_eq_false_iff_ne]
    exact Int.ne_of_gt (Int.lt_of_le_of_lt hk h1)
theorem ascP_apart:∀ {D:List (PyData × PyData)} {b:Int},ascP b D = true -> keysApartInt D = true
  | [],_,_=>rfl
  | (d,v) :: D,b,h=>by
    cases d <;> first | exact absurd (show false = true from h) Bool.false_ne_true | skip
    have h := Bool.and_eq_true_iff.mp (show ((Int.decLt b _).decide && ascP _ D) = true from h)
    unfold keysApartInt
    rw [ascP_no h.2 (Int.le_refl _),ascP_apart h.2]
    rfl
noncomputable def keysQ (D:List (PyData × PyData)):Bool := match ascP (-1) D with
  | true=>true
  | false=>keysApartInt D
theorem keys_eq (D:List (PyData × PyData)):keysApartInt D = keysQ D := by
  unfold keysQ
  cases e:ascP (-1) D with
  | true=>exact ascP_apart e
  | false=>rfl
noncomputable def tabQ:{ f:Heap -> PySem.Str -> List (PyData × PyData) -> Bool // Heap.tabIntOk = f } := ⟨_,by
  funext h n D
  unfold Heap.tabIntOk
  rw [show @keysApartInt = @keysQ from funext keys_eq]⟩
noncomputable def tablesQ:{ f:Program -> Heap -> Bool // tablesOk = f } := ⟨_,by
  funext p h
  unfold tablesOk
  rw [tabQ.2]⟩
theorem look1:∀ w:World,(fun (os:OsState)=>(staticsOk (importedModules pH.main.body) (hes0 w.params) (heg8 w.params) && namesBound pH (heg8 w.params) && gensDone (shE w os) && laidKept (hes0 w.params) (heg8 w.params))) = fun _=>true := by
  intro w; kernel_rfl
theorem look3:∀ w:World,(fun (os:OsState)=>Hook.obs Hk (shE w os)) = fun _=>Hook.val Hk w := by
  intro w; kernel_rfl
theorem look2:∀ w:World,(fun (os:OsState)=>openSeen view loose (importedModules pH.main.body) XtH true (shE w os)) = fun _=>openGood view loose := by
  intro w; unfold openSeen; rw [tablesQ.2]; kernel_rfl
theorem looks:∀ w:World,(fun os=>((staticsOk (importedModules pH.main.body) (hes0 w.params) (heg8 w.params) && namesBound pH (heg8 w.params) && gensDone (shE w os) && laidKept (hes0 w.params) (heg8 w.params)),openSeen view loose (importedModules pH.main.body) XtH true (shE w os),Hook.obs Hk (shE w os))) = fun _=>(true,openGood view loose,Hook.val Hk w) := fun w=>by
  funext os
  exact Prod.ext (congrFun (look1 w) os) (Prod.ext (congrFun (look2 w) os) (congrFun (look3 w) os))
end Mine
end
section
open PySem PySem.W PyProof.Rows PySem.Challenge
namespace Mine
theorem open1:∀ w:World,(fencedOpening treeTable pH w 400000).map (fun s=>(s.heap,s.gens,s.drawn,s.toks)) = some (hes0 w.params,gensH,drawH,276) := by
  intro w; kernel_rfl
theorem left:LeftO rw_ti0079_01.prog view loose XtH (Hook.obs Hk) (Hook.val Hk) 400000 :=
  LeftO.of_pieces (p := pH) (gs₀ := gensH) (gs₁ := gensH) (d₀ := drawH) (d₁ := drawH) (H₁ := heg8) (k₁ := 2646) (m₀ := 28) (ann := some (.ref 6)) open1 size_go run_all (by decide) looks
end Mine
end
section
variable {prog:PySem.Program} {w:PySem.World} {p:PySem.Program} {loose:List PySem.Str} {mean:PySem.ExcName -> Option PySem.Value} {mg mb:PySem.Str -> Option PySem.Value} {dp un:Nat} {gd:Option (List PySem.Code)} {cn:PySem.Str} {cs:PySem.Scope} {a:PySem.Addr} {ccd:PySem.Value} {cl:List (PySem.Str × PySem.Addr)} {outer:List PySem.Env} {A₀:PySem.Around} {base h₀:PySem.Heap} {L:PySem.Addr} {m:PySem.Str -> Option PySem.Value} {news:List (PySem.Addr × PySem.Obj)} {s:PySem.Shared} {Q E:PySem.Value -> PySem.Shared -> Prop}
section
open PySem PySem.W PyProof.Rows PySem.Spec PySem.Calls
namespace Mine
noncomputable def Uses (_:OpenLaw) (_:Params -> Frag):Prop := True
theorem map_getMethod {prog:Program} {w:World} {K:Type} [DecidableEq K] {knd:KeyKind prog w K} {A:Around} {E:Value -> Shared -> Prop} {s:Shared} {d:Addr} {f:K -> Option Value} {pl:Sem Bool} {Q:Value × List Value -> Shared -> Prop} (hm:s.heap.MapOf knd d f) (h:Q (.builtin "dict.get",[.ref d]) s) :
    wpAny (model prog w) A (getMethod (.ref d) "get" pl) Q E s :=
  getMethod_builtin hm.typeIs PySem.F.plainAttrs_dict PySem.F.slot_dict_get PySem.F.type_dict_get hm.noDict h
theorem map_get1 {prog:Program} {w:World} {K:Type} [DecidableEq K] {knd:KeyKind prog w K} {A:Around} {E:Value -> Shared -> Prop} {s:Shared} {d:Addr} {f:K -> Option Value} {k:K} {key:Value} {Q:Value -> Shared -> Prop} (hm:s.heap.MapOf knd d f) (lo:(d == sysModules) = false) (hkey:knd.is k key = true) (h:Q ((f k).getD .none) { s with toks := s.toks + 1 }) :
    wpAny (model prog w) A (call (.builtin "dict.get") [.ref d,key]) Q E s :=
  call_meetsIn PySem.F.slot_dict_get hm.typeIs PySem.F.entry_dict_get (PySem.F.args_dict_get_2 _ _) (meets_dict_get knd d hkey lo) ⟨_,hm,h⟩
noncomputable def b3Es:List DictEntry := b3Ents 624 (b3Pairs.take 646) ++ b3Tail 2562 (b3Pairs.drop 646)
noncomputable def b3 (k:Int):Option Str := b3Pairs.lookup k
theorem b3Ents_keys {prog:Program} {w:World} : ∀ (l:List (Int × Str)) (t:Nat),(∀ p ∈ l,hashInt p.1 = p.1) -> ∀ e ∈ b3Ents t l, ∃ k,(intKind prog w).is k e.key = true ∧ e.hash = (intKind prog w).hash k
  | [],_,_,e,he=>nomatch he
  | (k,v) :: r,t,h,e,he=>by
    rcases List.mem_cons.mp he with rfl | he
    · exact ⟨k,intKind_is _ _ _ _,(h _ (.head _)).symm⟩
    · exact b3Ents_keys r _ (fun p hp=>h p (.tail _ hp)) e he
theorem b3Tail_keys {prog:Program} {w:World} : ∀ (l:List (Int × Str)) (t:Nat),(∀ p ∈ l,hashInt p.1 = p.1) -> ∀ e ∈ b3Tail t l, ∃ k,(intKind prog w).is k e.key = true ∧ e.hash = (intKind prog w).hash k
  | [],_,_,e,he=>nomatch he
  | (k,v) :: r,t,h,e,he=>by
    rcases List.mem_cons.mp he with rfl | he
    · exact ⟨k,intKind_is _ _ _ _,(h _ (.head _)).symm⟩
    · exact b3Tail_keys r _ (fun p hp=>h p (.tail _ hp)) e he
noncomputable def Same3 (o:Option DictEntry) (x:Option Str):Prop := match x with
  | some x=>∃ e tk,o = some e ∧ e.val = .str x tk
  | none=>o = none
theorem b3Ents_find:∀ (l:List (Int × Str)) (t:Nat) (k:Int),Same3 ((b3Ents t l).find? fun d=>Value.isInt k d.key) (l.lookup k)
  | [],_,_=>rfl
  | (k',v) :: r,t,k=>by
    unfold b3Ents
    rw [List.find?_cons,List.lookup_cons]
    by_cases h:k = k'
    · subst h
      simp [Value.isInt,Same3]
    · have h1:(k == k') = false := by simpa using h
      have h2:Value.isInt k (Value.int k' t) = false := by simpa [Value.isInt] using fun q=>h q.symm
      simp only [h1,h2]
      exact b3Ents_find r _ k
theorem b3Tail_find:∀ (l:List (Int × Str)) (t:Nat) (k:Int),Same3 ((b3Tail t l).find? fun d=>Value.isInt k d.key) (l.lookup k)
  | [],_,_=>rfl
  | (k',v) :: r,t,k=>by
    unfold b3Tail
    rw [List.find?_cons,List.lookup_cons]
    by_cases h:k = k'
    · subst h
      simp [Value.isInt,Same3]
    · have h1:(k == k') = false := by simpa using h
      have h2:Value.isInt k (Value.int k' t) = false := by simpa [Value.isInt] using fun q=>h q.symm
      simp only [h1,h2]
      exact b3Tail_find r _ k
theorem same3_app {l₁ l₂:List DictEntry} {q:DictEntry -> Bool} {k:Int} {p₁ p₂:List (Int × Str)} (h1:Same3 (l₁.find? q) (p₁.lookup k)) (h2:Same3 (l₂.find? q) (p₂.lookup k)):Same3 ((l₁ ++ l₂).find? q) ((p₁ ++ p₂).lookup k) := by
  rw [List.find?_append,List.lookup_append]
  cases e:p₁.lookup k with
  | some x =>
    rw [e] at h1
    obtain ⟨d,tk,h3,h4⟩ := h1
    rw [h3]
    exact ⟨d,tk,rfl,h4⟩
  | none =>
    rw [e] at h1
    have h1:l₁.find? q = none := h1
    rw [h1]
    exact h2
theorem b3_find (k:Int):Same3 (b3Es.find? fun d=>Value.isInt k d.key) (b3 k) := by
  unfold b3 b3Es
  have := same3_app (b3Ents_find (b3Pairs.take 646) 624 k) (b3Tail_find (b3Pairs.drop 646) 2562 k)
  rwa [List.take_append_drop] at this
theorem b3_hash:∀ p ∈ b3Pairs,hashInt p.1 = p.1 := by
  have:b3Pairs.all (fun p=>decide (hashInt p.1 = p.1)) = true := by decide +kernel
  intro p hp
  exact of_decide_eq_true (List.all_eq_true.mp this p hp)
noncomputable def b3F (k:Int):Option Value := findBy Value.isInt b3Es.toArray k
theorem b3_map {prog:Program} {w:World} {P:Params} {h:Heap} (X:(KF P).In h):h.MapOf (intKind prog w) 194 b3F :=
  ⟨_,b3Es.toArray,_,X 194 _ (by with_unfolding_all rfl),⟨rfl,rfl,rfl⟩,rfl,fun e he=>by
    have he:e ∈ b3Es := by simpa using he
    unfold b3Es at he
    rcases List.mem_append.mp he with he | he
    · exact b3Ents_keys _ _ (fun p hp=>b3_hash p (List.mem_of_mem_take hp)) e he
    · exact b3Tail_keys _ _ (fun p hp=>b3_hash p (List.mem_of_mem_drop hp)) e he,fun _=>rfl⟩
theorem b3F_spec (k:Int):match b3 k with
    | some x=>∃ tk,b3F k = some (.str x tk)
    | none=>b3F k = none := by
  have h := b3_find k
  unfold b3F findBy
  rw [List.find?_toArray]
  cases e:b3 k with
  | some x =>
    rw [e] at h
    obtain ⟨d,tk,h3,h4⟩ := h
    exact ⟨tk,by rw [h3]; simp [h4]⟩
  | none =>
    rw [e] at h
    have h:_ = none := h
    simp [h]
noncomputable def rg16:List Int := [65024,65025,65026,65027,65028,65029,65030,65031,65032,65033,65034,65035,65036,65037,65038,65039]
theorem codes_j {ys:List Value} (h:CarriedAll ys ((rangeInts 65024 1 ((65040:Int) - 65024).toNat).map PyData.int)):IntsAre ys rg16 := IntsAre.ofCarried h
theorem item_at {prog:Program} {w:World} {A:Around} {E:Value -> Shared -> Prop} {s:Shared} {value slice:PySem.Expr} {l:Addr} {vs:List Value} {k:Int} {u:Tok} {x:Value} {Q:Value -> Shared -> Prop}
    (hl:s.heap.IsList l vs.toArray) (h0:0 ≤ k) (hhi:k < 2 ^ 63) (hx:vs[k.toNat]? = some x) (h:Q x s)
    (hs:subscripted slice false (.ref l) (.int k u) = operate [.ref l,.int k u] (getItem (.ref l) (.int k u)) := by with_unfolding_all rfl) :
    wpAny (model prog w) A (subscriptTail value slice (.ref l) (.int k u)) Q E s :=
  tail_any hl.typeIs slot_list_getitem.lookup (wpAny_getItem_list hl h0 hhi (by simpa using hx) h) hs
theorem item_ints {prog:Program} {w:World} {A:Around} {E:Value -> Shared -> Prop} {s:Shared} {value slice:PySem.Expr} {l:Addr} {vs:List Value} {ns:List Int} {k:Int} {u:Tok} {Q:Value -> Shared -> Prop}
    (hl:s.heap.IsList l vs.toArray) (hi:IntsAre vs ns) (h0:0 ≤ k) (h1:k < ns.length) (hn:ns.length < 2 ^ 40) (h:∀ t,Q (.int (ns.getD k.toNat 0) t) s)
    (hs:subscripted slice false (.ref l) (.int k u) = operate [.ref l,.int k u] (getItem (.ref l) (.int k u)) := by with_unfolding_all rfl) :
    wpAny (model prog w) A (subscriptTail value slice (.ref l) (.int k u)) Q E s := by
  have hlen := hi.length
  have hk:k.toNat < vs.length := hlen.symm ▸ (Int.toNat_lt h0).mpr h1
  obtain ⟨n,t,e1,e2⟩ := hi.at k.toNat _ (List.getElem?_eq_getElem hk)
  refine item_at hl h0 (by lia) (List.getElem?_eq_getElem hk) ?_ hs
  rw [e1]
  have := h t
  rwa [List.getD_eq_getElem?_getD,e2] at this
noncomputable def codesL:List Int := [173,847,6150,6155,6156,6157,8203,8204,8205,8288] ++ rg16 ++ [65279]
noncomputable def firstsL:List Int := [119808,119860,119912,120016,120172,120224,120276,120328,120380,120432]
theorem codesL_bd (n:Nat):0 ≤ codesL.getD n 0 ∧ codesL.getD n 0 ≤ 1114111 := by
  have h:(0 :: codesL).all (fun k=>decide (0 ≤ k) && decide (k ≤ 1114111)) = true := by decide +kernel
  exact kmn_any h
theorem firstsL_bd (n:Nat):0 ≤ firstsL.getD n 0 ∧ firstsL.getD n 0 ≤ 120432 := by
  have h:(0 :: firstsL).all (fun k=>decide (0 ≤ k) && decide (k ≤ 120432)) = true := by decide +kernel
  exact kmn_any h
theorem item_codes {prog:Program} {w:World} {A:Around} {E:Value -> Shared -> Prop} {s:Shared} {value slice:PySem.Expr} {l:Addr} {vs:List Value} {k:Int} {u:Tok} {Q:Value -> Shared -> Prop}
    (hl:s.heap.IsList l vs.toArray) (hi:IntsAre vs ([173,847,6150,6155,6156,6157,8203,8204,8205,8288] ++ rg16 ++ [65279])) (h0:0 ≤ k) (h1:k < 27) (h:∀ v t,v = codesL.getD k.toNat 0 -> 0 ≤ v -> v ≤ 1114111 -> Q (.int v t) s)
    (hs:subscripted slice false (.ref l) (.int k u) = operate [.ref l,.int k u] (getItem (.ref l) (.int k u)) := by with_unfolding_all rfl) :
    wpAny (model prog w) A (subscriptTail value slice (.ref l) (.int k u)) Q E s :=
  item_ints hl hi h0 h1 (by decide) (fun t=>h _ t rfl (codesL_bd _).1 (codesL_bd _).2) hs
theorem item_firsts {prog:Program} {w:World} {A:Around} {E:Value -> Shared -> Prop} {s:Shared} {value slice:PySem.Expr} {l:Addr} {vs:List Value} {k:Int} {u:Tok} {Q:Value -> Shared -> Prop}
    (hl:IsTup s.heap l vs.toArray) (hi:IntsAre vs [119808,119860,119912,120016,120172,120224,120276,120328,120380,120432]) (h0:0 ≤ k) (h1:k < 10) (h:∀ v t,v = firstsL.getD k.toNat 0 -> 0 ≤ v -> v ≤ 120432 -> Q (.int v t) s)
    (hs:subscripted slice false (.ref l) (.int k u) = operate [.ref l,.int k u] (getItem (.ref l) (.int k u)) := by with_unfolding_all rfl) :
    wpAny (model prog w) A (subscriptTail value slice (.ref l) (.int k u)) Q E s :=
  item_anyT hl hi h0 h1 (by lia) (fun t=>h _ t rfl (firstsL_bd _).1 (firstsL_bd _).2) hs
theorem item_two {prog:Program} {w:World} {A:Around} {E:Value -> Shared -> Prop} {s:Shared} {value slice:PySem.Expr} {l:Addr} {x y:Value} {k:Int} {u:Tok} {Q:Value -> Shared -> Prop}
    (hl:IsTup s.heap l [x,y].toArray) (h0:0 ≤ k) (h1:k < 2) (hx:k = 0 -> Q x s) (hy:k = 1 -> Q y s)
    (hs:subscripted slice false (.ref l) (.int k u) = operate [.ref l,.int k u] (getItem (.ref l) (.int k u)) := by with_unfolding_all rfl) :
    wpAny (model prog w) A (subscriptTail value slice (.ref l) (.int k u)) Q E s := by
  rcases (show k = 0 ∨ k = 1 by lia) with rfl | rfl
  · exact item_tupleT (j := 0) hl (by decide) (by decide) (by rfl) rfl (hx rfl) hs
  · exact item_tupleT (j := 1) hl (by decide) (by decide) (by rfl) rfl (hy rfl) hs
noncomputable def dressed (d:Int) (c:Nat):Str :=
  if d < 2 then (if d = 0 then Txt.upper ⟨#[c]⟩ else ⟨#[c]⟩)
  else if d < 29 then ⟨#[(codesL.getD (d - 2).toNat 0).toNat]⟩ ++ ⟨#[c]⟩
  else ⟨#[(firstsL.getD (d - 29).toNat 0 + (c:Int) - 97).toNat]⟩
theorem dressed_0 {d:Int} {c:Nat} (h:d = 0):Txt.upper ⟨#[c]⟩ = dressed d c := by unfold dressed; rw [if_pos (by lia),if_pos h]
theorem dressed_1 {d:Int} {c:Nat} (h:d = 1):(⟨#[c]⟩:Str) = dressed d c := by unfold dressed; rw [if_pos (by lia),if_neg (by lia)]
theorem dressed_2 {d:Int} {c:Nat} {v:Int} (h:¬ d < 2) (h':d < 29) (e:v = codesL.getD (d - 2).toNat 0):(⟨#[v.toNat]⟩:Str) ++ ⟨#[c]⟩ = dressed d c := by unfold dressed; rw [if_neg h,if_pos h',e]
theorem dressed_3 {d:Int} {c:Nat} {v:Int} (h:¬ d < 2) (h':¬ d < 29) (e:v = firstsL.getD (d - 29).toNat 0):(⟨#[(v + (c:Int) - 97).toNat]⟩:Str) = dressed d c := by unfold dressed; rw [if_neg h,if_neg h',e]
theorem news_tail {h₀ h:Heap} {L:Addr} {x:Addr × Obj} {news:List (Addr × Obj)} (N:News h₀ L h (x :: news)):News h₀ L h news := fun p hp=>N p (.tail _ hp)
theorem gen_toks {M:Model} {α:Type} {A:Around} {E:Value -> Shared -> Prop} {tr:Sem α} {Q:α -> Shared -> Prop} {h:Heap} {g:Array GenState} {d:Drawn} {o:OsState} {X:Nat} (hX:0 < X) (k:∀ tk,0 < tk -> wpAny M A tr Q E ⟨h,g,d,tk,o⟩):wpAny M A tr Q E ⟨h,g,d,X,o⟩ := k X hX
theorem b3_get {prog:Program} {w:World} {P:Params} {A:Around} {E:Value -> Shared -> Prop} {s:Shared} {k:Int} {t:Tok} {Q:Value -> Shared -> Prop} (X:(KF P).In s.heap) (h1:∀ x tk,b3 k = some x -> Q (.str x tk) { s with toks := s.toks + 1 }) (h2:b3 k = none -> Q .none { s with toks := s.toks + 1 }) :
    wpAny (model prog w) A (call (.builtin "dict.get") [.ref 194,.int k t]) Q E s := by
  refine map_get1 (knd := intKind prog w) (b3_map X) rfl (intKind_is _ _ _ _) ?_
  have := b3F_spec k
  cases e:b3 k with
  | some x =>
    rw [e] at this
    obtain ⟨tk,q⟩ := this
    rw [q]
    exact h1 x tk e
  | none =>
    rw [e] at this
    have q:b3F k = none := this
    rw [q]
    exact h2 e
noncomputable def b3Of (c:Nat):Str := match b3 c with
  | some x=>x
  | none=>Txt.lower ⟨#[c]⟩
theorem b3Of_some {c:Nat} {x:Str} (h:b3 c = some x):b3Of c = x := by unfold b3Of; rw [h]
theorem b3Of_none {c:Nat} (h:b3 c = none):b3Of c = Txt.lower ⟨#[c]⟩ := by unfold b3Of; rw [h]
noncomputable def Stop (P:Prop):Prop := P
theorem Stop.mk {P:Prop} (h:Stop P):P := h
theorem Stop.of {P:Prop} (h:P):Stop P := h
section
variable {M:Model} {A:Around} {E Q:Value -> Shared -> Prop} {s:Shared}
theorem stop_len {a:Addr} (h:Stop (wpAny M A (call (.builtin "len") [.ref a]) Q E s)):wpAny M A (call (.builtin "len") [.ref a]) Q E s := h
theorem stop_sub {v sl:PySem.Expr} {a:Addr} {x:Value} (h:Stop (wpAny M A (subscriptTail v sl (.ref a) x) Q E s)):wpAny M A (subscriptTail v sl (.ref a) x) Q E s := h
theorem stop_call1 {a:Addr} {k:Str} {t:Tok} (h:Stop (wpAny M A (call (.ref a) [.str k t]) Q E s)):wpAny M A (call (.ref a) [.str k t]) Q E s := h
theorem stop_name (x:Str) {env:Env} {p:Pos} (h:Stop (wpAny M A (eval (.Name x p) env) Q E s)):wpAny M A (eval (.Name x p) env) Q E s := h
theorem stop_store (x:Str) {env:Env} {v:Value} {Q:Unit -> Shared -> Prop} (h:Stop (wpAny M A (storeName env x v) Q E s)):wpAny M A (storeName env x v) Q E s := h
theorem stop_ex (x:Str) {env:Env} {p q:Pos} {v:PySem.Expr} {r:List Stmt} {Q:Flow -> Shared -> Prop} (h:Stop (wpAny M A (execs (.Assign [.Name x p] v q :: r) env) Q E s)):wpAny M A (execs (.Assign [.Name x p] v q :: r) env) Q E s := h
end
end Mine
end
section
open PySem PySem.W PyProof.Rows PySem.Spec PySem.Calls
namespace Mine
inductive All2 {α β:Type} (T:α -> β -> Prop):List α -> List β -> Prop
  | nil:All2 T [] []
  | cons {a b as bs} : T a b -> All2 T as bs -> All2 T (a :: as) (b :: bs)
theorem All2.snoc {α β:Type} {T:α -> β -> Prop} {a:α} {b:β} : ∀ {as:List α} {bs:List β},All2 T as bs -> T a b -> All2 T (as ++ [a]) (bs ++ [b]) := fun h k=>by
  induction h with
  | nil=>exact .cons k .nil
  | cons x _ ih=>exact .cons x ih
theorem All2.length {α β:Type} {T:α -> β -> Prop} : ∀ {as:List α} {bs:List β},All2 T as bs -> as.length = bs.length := fun h=>by
  induction h with
  | nil=>rfl
  | cons _ _ ih=>exact congrArg (· + 1) ih
theorem All2.strs {α:Type} {g:α -> Str} : ∀ {as:List α} {ys:List Value},All2 (fun a y=>∃ t,y = .str (g a) t) as ys -> StrsAre ys (as.map g) := fun h=>by
  induction h with
  | nil=>exact .nil
  | cons x _ ih =>
    obtain ⟨t,e⟩ := x
    rw [e]
    exact .cons _ t ih
theorem strs_at {vs:List Value} {xs:List Str} (h:StrsAre vs xs) (i:Nat) (v:Value) (hv:vs[i]? = some v):∃ x t,xs[i]? = some x ∧ v = .str x t := by
  induction h generalizing i with
  | nil=>simp at hv
  | cons x t r ih =>
    cases i with
    | zero=>simp at hv; exact ⟨x,t,rfl,hv.symm⟩
    | succ i=>simp at hv; simpa using ih i hv
theorem sum_len_le:∀ (ys:List Str) (b:Nat),(∀ y ∈ ys,y.length ≤ b) -> (ys.map fun y=>y.length).sum ≤ ys.length * b
  | [],_,_=>by simp
  | y :: r,b,h=>by
    have h1 := h y (.head _)
    have h2 := sum_len_le r b fun z hz=>h z (.tail _ hz)
    rw [List.map_cons,List.sum_cons,List.length_cons,Nat.succ_mul]
    exact Nat.le_trans (Nat.add_le_add h1 h2) (Nat.le_of_eq (Nat.add_comm _ _))
theorem join_empty_len (ys:List Str):(Txt.join (.ofString "") ys).length = (ys.map fun y=>y.length).sum := by
  show (PySem.Builtin.Str.glued _ ys).length = _
  have e:(Str.ofString "").length = 0 := by decide +kernel
  rw [size_glued,e,Nat.mul_zero,Nat.add_zero]
theorem join_b {prog:Program} {w:World} {A:Around} {E:Value -> Shared -> Prop} {s:Shared} {t:Tok} {Q:Value -> Shared -> Prop} {D:Addr} {items:Array Value} {ys:List Str} (b:Nat) (hl:s.heap.IsList D items) (hs:StrsAre items.toList ys) (hb:(ys.map fun y=>y.length).sum ≤ b) (hb':b ≤ 16777216)
    (h:∀ J t' k,J = Txt.join (.ofString "") ys -> J.length ≤ b -> Q (.str J t') { s with toks := k }):wpAny (model prog w) A (call (.builtin "str.join") [.str (.ofString "") t,.ref D]) Q E s := by
  refine join_list hl hs ?_ fun t' k=>h _ t' k rfl (by rw [join_empty_len]; exact hb)
  have e:(Str.ofString "").length = 0 := by decide +kernel
  rw [e,Nat.mul_zero]
  lia
noncomputable def quoteOf (wr x:Str):Str := .ofString "... " ++ x ++ .ofString "=\"" ++ wr ++ .ofString "\""
theorem quoteOf_len {wr x:Str} (hw:wr.length ≤ 8) (hx:x.length ≤ 2):(quoteOf wr x).length ≤ 20 := by
  unfold quoteOf
  simp only [Str.length_append]
  have e1:(Str.ofString "... ").length = 4 := by decide +kernel
  have e2:(Str.ofString "=\"").length = 2 := by decide +kernel
  have e3:(Str.ofString "\"").length = 1 := by decide +kernel
  lia
noncomputable def questOf (wr:Str) (xs:List Str):Str := .ofString "<r" ++ Txt.join (.ofString "") (xs.map (quoteOf wr)) ++ .ofString "...>"
section
variable {prog:Program} {w:World} {A:Around} {h₀:Heap} {L:Addr} {m:Str -> Option Value} {env:Env} {elt:PySem.Expr} {x:Str} {scope:Scope} {cl:List (Str × Addr)} {s:Shared} {S:List (Addr × Obj) -> Prop} {P:Nat -> Value -> Prop} {Fin:List Value -> List (Addr × Obj) -> Prop} {news:List (Addr × Obj)}
theorem comp_gen {α:Type} {n:Nat} (as:List α) (R T:α -> Value -> Prop) (hn:as.length = n) (hP:∀ i v,i < n -> P i v -> ∃ a,as[i]? = some a ∧ R a v)
    (turn:∀ a v I oI C oC D m₂ ys h tk (E':Value -> Shared -> Prop),a ∈ as -> R a v -> LCg.NsObj oC m₂ -> m₂ x = some v -> Fr h₀ L h m -> News h₀ L h ((I,oI) :: (C,oC) :: (D,LCg.lst ys) :: news) -> LCg.Off3 I C D news -> ((@Ne Nat I C) ∧ (@Ne Nat I D) ∧ (@Ne Nat C D)) ->
      wpAny (model prog w) A (eval elt (compEnvC scope cl C env)) (LCg.CompEnd h₀ L m { s with heap := h,toks := tk } I oI C oC D (LCg.lst ys) S (fun y news' => news' = news ∧ T a y)) E' { s with heap := h,toks := tk })
    (fin:∀ ys,All2 T as ys -> Fin ys news):LCg.CompRest prog w A h₀ L m env elt x scope cl s S P Fin n 0 [] news := by
  have key:∀ (j i:Nat) (ys:List Value),i + j = n -> All2 T (as.take i) ys -> LCg.CompRest prog w A h₀ L m env elt x scope cl s S P Fin j i ys news := by
    intro j
    induction j with
    | zero =>
      intro i ys hi hy
      have e:i = as.length := by lia
      subst e
      rw [List.take_length] at hy
      exact LCg.CompRest.zero (fin ys hy)
    | succ j ih =>
      intro i ys hi hy
      refine LCg.CompRest.succ ?_
      intro v I oI C oC D m₂ h tk E' hv hC hx F N off ne
      obtain ⟨a,ha,hR⟩ := hP i v (by lia) hv
      refine wpAny_mono (turn a v I oI C oC D m₂ ys h tk E' (List.mem_of_getElem? ha) hR hC hx F N off ne) (fun y s₂ hq=>?_) fun _ _ e=>e
      obtain ⟨h',tk',nw,e,F',N',off',hS,hn',hy'⟩ := hq
      subst hn'
      refine ⟨h',tk',nw,e,F',N',off',hS,ih (i + 1) _ (by lia) ?_⟩
      rw [List.take_add_one,ha]
      exact hy.snoc hy'
  exact key n 0 [] (by lia) (by simpa using All2.nil)
theorem compT_gen {ct:PySem.Expr} {n:Nat} {b:Int} (q:Nat -> Bool)
    (turn:∀ i t I oI C oC D m₂ ys h tk (E':Value -> Shared -> Prop),i < n -> LCg.NsObj oC m₂ -> m₂ x = some (.int (b + (i:Int)) t) -> Fr h₀ L h m -> News h₀ L h ((I,oI) :: (C,oC) :: (D,LCg.lst ys) :: news) -> LCg.Off3 I C D news -> ((@Ne Nat I C) ∧ (@Ne Nat I D) ∧ (@Ne Nat C D)) ->
      wpAny (model prog w) A (isTrue ct (compEnvC scope cl C env) (eval ct (compEnvC scope cl C env))) (fun ok s' => ok = q i ∧ if ok = true then
        wpAny (model prog w) A (eval elt (compEnvC scope cl C env)) (LCg.CompEnd h₀ L m { s with heap := h,toks := tk } I oI C oC D (LCg.lst ys) S (fun _ news' => news' = news)) E' s'
        else LCg.CompEnd h₀ L m { s with heap := h,toks := tk } I oI C oC D (LCg.lst ys) S (fun _ news' => news' = news) Value.none s') E' { s with heap := h,toks := tk })
    (fin:∀ ys,ys.length = ((List.range n).filter q).length -> Fin ys news):LCt.CompRestT prog w A h₀ L m env ct elt x scope cl s S (fun i v=>∃ t,v = .int (b + (i:Int)) t) Fin n 0 [] news := by
  have key:∀ (j i:Nat) (ys:List Value),i + j = n -> ys.length = ((List.range i).filter q).length -> LCt.CompRestT prog w A h₀ L m env ct elt x scope cl s S (fun i v=>∃ t,v = .int (b + (i:Int)) t) Fin j i ys news := by
    intro j
    induction j with
    | zero =>
      intro i ys hi hy
      have e:i = n := by lia
      subst e
      exact LCt.CompRestT.zero (fin ys hy)
    | succ j ih =>
      intro i ys hi hy
      refine LCt.CompRestT.succ ?_
      intro v I oI C oC D m₂ h tk E' hv hC hx F N off ne
      obtain ⟨t,rfl⟩ := hv
      refine wpAny_mono (turn i t I oI C oC D m₂ ys h tk E' (by lia) hC hx F N off ne) (fun ok s₂ hq=>?_) fun _ _ e=>e
      obtain ⟨hok,hq⟩ := hq
      cases ok with
      | true =>
        rw [if_pos rfl] at hq ⊢
        refine wpAny_mono hq (fun y s₃ h₃=>?_) fun _ _ e=>e
        obtain ⟨h',tk',nw,e,F',N',off',hS,rfl⟩ := h₃
        refine ⟨h',tk',_,e,F',N',off',hS,ih (i + 1) _ (by lia) ?_⟩
        rw [List.range_succ,List.filter_append,List.length_append,List.length_append,hy]
        simp [← hok]
      | false =>
        rw [if_neg Bool.false_ne_true] at hq ⊢
        obtain ⟨h',tk',nw,e,F',N',off',hS,rfl⟩ := hq
        refine ⟨h',tk',_,e,F',N',off',hS,ih (i + 1) _ (by lia) ?_⟩
        rw [List.range_succ,List.filter_append,List.length_append,hy]
        simp [← hok]
  exact key n 0 [] (by lia) (by simp)
end
theorem len_L {prog:Program} {w:World} {A:Around} {E:Value -> Shared -> Prop} {s:Shared} {l:Addr} {vs:List Value} {Q:Value -> Shared -> Prop} (n:Nat) (hl:s.heap.IsList l vs.toArray) (hn:vs.length = n) (hz:n < 2 ^ 40) (h:Q (.int (n:Int) (s.toks + 1)) { s with toks := s.toks + 1 + 1 }) :
    wpAny (model prog w) A (call (.builtin "len") [.ref l]) Q E s := by
  subst hn
  exact call_len_list hl (by rw [List.size_toArray]; lia) (by rw [List.size_toArray]; exact h)
theorem isL {h₀ h:Heap} {L l:Addr} {vs:List Value} {k:Nat} {news:List (Addr × Obj)} (N:News h₀ L h news) (hm:(l,({ cls := .type "list",data := .seq vs.toArray k } : Obj)) ∈ news):h.IsList l vs.toArray := ⟨_,(N _ hm).1,rfl,k,rfl⟩
noncomputable def fallsOf (ns:List Int):Nat := ((List.range (ns.length - 1)).filter fun i=>decide (ns.getD (i + 1) 0 < ns.getD i 0)).length
end Mine
end
section
open PySem PySem.W PyProof.Rows PySem.Spec PySem.Calls
namespace Mine
noncomputable abbrev lc2 (elt i0 i1:PySem.Expr) (x y:Str) (px py:Pos) (scope:Scope) (pos:Pos):PySem.Expr := .ListComp elt [⟨.Name x px,i0,[],0⟩,⟨.Name y py,i1,[],0⟩] scope pos
theorem compTurn_two0 (elt t0 i0 t1 i1:PySem.Expr) (scope:Scope) (pos:Pos) (it acc:Value) (env:Env) :
    compTurn (.ListComp elt [⟨t0,i0,[],0⟩,⟨t1,i1,[],0⟩] scope pos) 0 it acc env = (do
      standAt i0.pos
      match ← pyNext it with
      | none=>pure (.done .next)
      | some v =>
        letOwnedTupleGo t0 it v
        assign t0 env v
        let x ← eval i1 env
        standAt i1.pos
        let x ← foldedSetIterable i1 env x
        let it2 ← holding [x] (pyIter x)
        let _ ← runOwn (.compStart (.ListComp elt [⟨t0,i0,[],0⟩,⟨t1,i1,[],0⟩] scope pos) 1 it2 acc env) env
        again (.compLoop (.ListComp elt [⟨t0,i0,[],0⟩,⟨t1,i1,[],0⟩] scope pos) 0 it acc env)) := by rfl
theorem compTurn_two1 (elt t0 i0 t1 i1:PySem.Expr) (scope:Scope) (pos:Pos) (it acc:Value) (env:Env) :
    compTurn (.ListComp elt [⟨t0,i0,[],0⟩,⟨t1,i1,[],0⟩] scope pos) 1 it acc env = (do
      standAt i1.pos
      match ← pyNext it with
      | none=>pure (.done .next)
      | some v =>
        letOwnedTupleGo t1 it v
        assign t1 env v
        (do let _ ← call (.builtin "list.append") [acc, ← eval elt env])
        again (.compLoop (.ListComp elt [⟨t0,i0,[],0⟩,⟨t1,i1,[],0⟩] scope pos) 1 it acc env)) := by rfl
section
variable {prog:Program} {w:World} {A:Around} {E:Value -> Shared -> Prop} {R:Result -> Shared -> Prop} {s:Shared}
theorem loop1_any {elt t0 t1 i0 i1:PySem.Expr} {scope:Scope} {pos:Pos} {it acc:Value} {env:Env} (I:Nat -> Shared -> Prop)
    (turn:∀ n s,I n s -> wpAny (model prog w) A (pyNext it) (fun r s₁=>match r with
      | none=>R (.ok .next) s₁
      | some v=>wpAny (model prog w) A (assign t1 env v) (fun _ s₂ =>
          wpAny (model prog w) A (eval elt env) (fun x s₄ =>
              wpAny (model prog w) A (call (.builtin "list.append") [acc,x]) (fun _ s₅=>∃ m,m < n ∧ I m s₅) (notedBy (model prog w) A env fun e s' => R (.error e) s') s₄) (notedBy (model prog w) A env fun e s' => R (.error e) s') s₂) (notedBy (model prog w) A env fun e s' => R (.error e) s') s₁) (notedBy (model prog w) A env fun e s' => R (.error e) s') s)
    (n:Nat) (h:I n s) (ht:∀ v,letOwnedTupleGo t1 it v = pure () := by intro _; rfl) :
    codeAny (model prog w) A (.compLoop (.ListComp elt [⟨t0,i0,[],0⟩,⟨t1,i1,[],0⟩] scope pos) 1 it acc env) R s := by
  refine codeAny_loop rfl I (fun n s hI=>?_) n h
  show wpAny _ A ((compTurn (.ListComp elt [⟨t0,i0,[],0⟩,⟨t1,i1,[],0⟩] scope pos) 1 it acc env).onRaise (fun x=>do noteFrame x env; theTreesLotGoes x)) _ _ s
  refine wpAny_noted ?_
  rw [compTurn_two1]
  refine wpAny_bind (wpAny_standAt (wpAny_bind (wpAny_mono (turn n s hI) (fun r s₁ h₁=>?_) fun _ _ h' => h')))
  cases r with
  | none=>exact wpAny_pure h₁
  | some v =>
    refine wpAny_bind (wpAny_of_eq (ht v) ?_)
    refine wpAny_bind (wpAny_mono h₁ (fun _ s₂ h₂=>?_) fun _ _ h' => h')
    exact wpAny_bind (wpAny_bind (wpAny_mono h₂ (fun x s₄ h₄=>wpAny_bind (wpAny_mono h₄ (fun _ s₅ h₅=>wpAny_pure (wpAny_pure ⟨rfl,h₅⟩)) fun _ _ h' => h')) fun _ _ h' => h'))
theorem start1_any {elt t0 t1 i0 i1 scope pos it acc env}
    (h0:codeAny (model prog w) A (.compLoop (.ListComp elt [⟨t0,i0,[],0⟩,⟨t1,i1,[],0⟩] scope pos) 1 it acc env) R s)
    (h:wpAny (model prog w) A (pyIter it) (fun it' s' => codeAny (model prog w) A (.compLoop (.ListComp elt [⟨t0,i0,[],0⟩,⟨t1,i1,[],0⟩] scope pos) 1 it' acc env) R s')
      (notedBy (model prog w) A env fun x s' => R (.error x) s') s) :
    codeAny (model prog w) A (.compStart (.ListComp elt [⟨t0,i0,[],0⟩,⟨t1,i1,[],0⟩] scope pos) 1 it acc env) R s := by
  refine codeAny_of_tree ?_
  show wpAny _ _ ((compStart (.ListComp elt [⟨t0,i0,[],0⟩,⟨t1,i1,[],0⟩] scope pos) 1 it acc env).onRaise (fun x=>do noteFrame x env; standAt theWindowsPlace)) _ _ s
  refine wpAny_notedAt ?_
  unfold compStart
  show wpAny _ _ (ask >>= _) _ _ s
  refine wpAny_bind (wpAny_askSetting (wpAny_ite ?_))
  split
  · first
      | exact wpAny_bind (wpAny_pure (wpAny_pure (And.intro rfl h0)))
      | exact wpAny_pure (And.intro rfl h0)
  · first
      | exact wpAny_bind (wpAny_rule (wpAny_bind (wpAny_standAt (wpAny_bind (wpAny_mono h (fun it' s' h' => wpAny_pure (And.intro rfl h')) fun _ _ x=>x)))))
      | (refine wpAny_bind (wpAny_rule ?_); show wpAny _ _ (standAt i1.pos >>= _) _ _ s; exact wpAny_bind (wpAny_standAt (wpAny_bind (wpAny_mono h (fun it' s' h' => wpAny_pure (And.intro rfl h')) fun _ _ x=>x))))
theorem loop0_any {elt t0 t1 i0 i1:PySem.Expr} {scope:Scope} {pos:Pos} {it acc:Value} {env:Env} (hs:∀ x,foldedSetIterable i1 env x = pure x) (I:Nat -> Shared -> Prop)
    (turn:∀ n s,I n s -> wpAny (model prog w) A (pyNext it) (fun r s₁=>match r with
      | none=>R (.ok .next) s₁
      | some v=>wpAny (model prog w) A (assign t0 env v) (fun _ s₂ =>
          wpAny (model prog w) A (eval i1 env) (fun x s₃=>wpAny (model prog w) A (pyIter x) (fun it2 s₄ =>
              codeAny (model prog w) A (.compStart (.ListComp elt [⟨t0,i0,[],0⟩,⟨t1,i1,[],0⟩] scope pos) 1 it2 acc env) (fun r s₅=>r = .ok .next ∧ ∃ m,m < n ∧ I m s₅) s₄) (notedBy (model prog w) A env fun e s' => R (.error e) s') s₃) (notedBy (model prog w) A env fun e s' => R (.error e) s') s₂) (notedBy (model prog w) A env fun e s' => R (.error e) s') s₁) (notedBy (model prog w) A env fun e s' => R (.error e) s') s)
    (n:Nat) (h:I n s) (ht:∀ v,letOwnedTupleGo t0 it v = pure () := by intro _; rfl) :
    codeAny (model prog w) A (.compLoop (.ListComp elt [⟨t0,i0,[],0⟩,⟨t1,i1,[],0⟩] scope pos) 0 it acc env) R s := by
  refine codeAny_loop rfl I (fun n s hI=>?_) n h
  show wpAny _ A ((compTurn (.ListComp elt [⟨t0,i0,[],0⟩,⟨t1,i1,[],0⟩] scope pos) 0 it acc env).onRaise (fun x=>do noteFrame x env; theTreesLotGoes x)) _ _ s
  refine wpAny_noted ?_
  rw [compTurn_two0]
  refine wpAny_bind (wpAny_standAt (wpAny_bind (wpAny_mono (turn n s hI) (fun r s₁ h₁=>?_) fun _ _ h' => h')))
  cases r with
  | none=>exact wpAny_pure h₁
  | some v =>
    refine wpAny_bind (wpAny_of_eq (ht v) ?_)
    refine wpAny_bind (wpAny_mono h₁ (fun _ s₂ h₂=>?_) fun _ _ h' => h')
    refine wpAny_bind (wpAny_mono h₂ (fun x s₃ h₃=>?_) fun _ _ h' => h')
    refine wpAny_bind (wpAny_standAt (wpAny_bind (wpAny_of_eq (hs x) (wpAny_bind (wpAny_holding (wpAny_mono h₃ (fun it2 s₄ h₄=>?_) fun _ _ h' => h'))))))
    refine wpAny_bind (wpAny_runOwn (codeAny_mono h₄ fun r s₅ h₅=>?_))
    obtain ⟨rfl,h₆⟩ := h₅
    exact wpAny_pure ⟨rfl,h₆⟩
end
section
variable {prog:Program} {w:World} {A:Around} {E:Value -> Shared -> Prop} {R:Result -> Shared -> Prop} {h₀:Heap} {L:Addr} {m:Str -> Option Value} {env:Env}
inductive InA (h₀:Heap) (L:Addr) (m:Str -> Option Value) (s:Shared) (n2:Nat) (St:Nat -> Heap -> Prop) (I C D I2:Addr) (oI:Obj) (x:Str) (vx:Value) (J:Nat -> List Value -> List (Addr × Obj) -> Prop):Nat -> Shared -> Prop
  | mk (h' tk j ys m' oC nw):j ≤ n2 -> St j h' -> Fr h₀ L h' m -> News h₀ L h' ((I,oI) :: (C,oC) :: (D,LCg.lst ys) :: nw) -> LCg.NsObj oC m' -> m' x = some vx -> LCg.Off3 I C D nw -> (∀ p ∈ nw,p.1 ≠ I2) -> J j ys nw -> InA h₀ L m s n2 St I C D I2 oI x vx J (n2 + 1 - j) { s with heap := h',toks := tk }
inductive OutA (h₀:Heap) (L:Addr) (m:Str -> Option Value) (s₁:Shared) (its:Array Value) (ax I:Addr) (J:Nat -> List Value -> List (Addr × Obj) -> Prop):Nat -> Shared -> Prop
  | mk (i h' tk ys m' nw):i ≤ its.size -> h'.IsListIter I ax i -> h'.Ns (I + 2) m' -> Fr h₀ L h' m -> News h₀ L h' ((I + 1,LCg.lst ys) :: nw) -> LCg.Off3 I (I + 2) (I + 1) nw -> J i ys nw -> OutA h₀ L m s₁ its ax I J (its.size - i) { s₁ with heap := h',toks := tk }
theorem inner_run {elt i0 i1:PySem.Expr} {x y:Str} {px py:Pos} {scope:Scope} {cl:List (Str × Addr)} {pos:Pos} {s:Shared} {I2 I C D:Addr} {fp:List Addr} {n2:Nat} {P:Nat -> Value -> Prop} {St:Nat -> Heap -> Prop} {oI oC:Obj} {S:List (Addr × Obj) -> Prop} {J:Nat -> List Value -> List (Addr × Obj) -> Prop} {vx:Value} {ys:List Value} {nw:List (Addr × Obj)} {m₂:Str -> Option Value}
    (W:Walks prog w A I2 fp [I2] n2 P St) (hIo:∀ i h,St i h -> ∃ o,h.get? I2 = some o)
    (hSt:∀ i h h' o nw,St i h -> h.get? I2 = some o -> h'.get? I2 = some o -> (∀ b o,h₀.get? b = some o -> h'.get? b = some o) -> News h₀ L h' nw -> S nw -> St i h')
    (hJ:∀ j ys nw,J j ys nw -> S nw ∧ ys.length ≤ sizeLine)
    (hy:scope.names.lookup y = some .local) (hxy:x ≠ y) (hkind:scope.kind = .function)
    (hst:St 0 s.heap) (F:Fr h₀ L s.heap m) (N:News h₀ L s.heap ((I,oI) :: (C,oC) :: (D,LCg.lst ys) :: nw)) (hC:LCg.NsObj oC m₂) (hm:m₂ x = some vx)
    (off:LCg.Off3 I C D nw) (ne:(@Ne Nat I C) ∧ (@Ne Nat I D) ∧ (@Ne Nat C D)) (off2:∀ p ∈ nw,p.1 ≠ I2) (ne2:(@Ne Nat I I2) ∧ (@Ne Nat C I2) ∧ (@Ne Nat D I2) ∧ (@Ne Nat L I2)) (hI₀:h₀.get? I2 = none) (hJ0:J 0 ys nw)
    (turn:∀ j v oI2 oC m₂ ys nw h tk (E':Value -> Shared -> Prop),P j v -> J j ys nw -> LCg.NsObj oC m₂ -> m₂ x = some vx -> m₂ y = some v -> Fr h₀ L h m -> News h₀ L h ((I,oI) :: (C,oC) :: (D,LCg.lst ys) :: (I2,oI2) :: nw) -> LCg.Off3 I C D ((I2,oI2) :: nw) -> (∀ p ∈ nw,p.1 ≠ I2) ->
      wpAny (model prog w) A (eval elt (compEnvC scope cl C env)) (LCg.CompEnd h₀ L m { s with heap := h,toks := tk } I oI C oC D (LCg.lst ys) (fun _=>True) (fun y' news' => ∃ nw',news' = (I2,oI2) :: nw' ∧ (∀ p ∈ nw',p.1 ≠ I2) ∧ J (j + 1) (ys ++ [y']) nw')) E' { s with heap := h,toks := tk })
    (fin:∀ oC m₂ ys nw h tk,J n2 ys nw -> LCg.NsObj oC m₂ -> m₂ x = some vx -> Fr h₀ L h m -> News h₀ L h ((I,oI) :: (C,oC) :: (D,LCg.lst ys) :: nw) -> LCg.Off3 I C D nw -> R (.ok .next) { s with heap := h,toks := tk }) :
    codeAny (model prog w) A (.compStart (lc2 elt i0 i1 x y px py scope pos) 1 (.ref I2) (.ref D) (compEnvC scope cl C env)) R s := by
  have loop:codeAny (model prog w) A (.compLoop (lc2 elt i0 i1 x y px py scope pos) 1 (.ref I2) (.ref D) (compEnvC scope cl C env)) R s := by
    refine loop1_any (InA h₀ L m s n2 St I C D I2 oI x vx J) ?_ (n2 + 1) (.mk s.heap s.toks 0 ys m₂ oC nw (Nat.zero_le _) hst F N hC hm off off2 hJ0)
    rintro _ _ ⟨h',tk,j,ys,m',oC,nw,hj,hst',F',N',hoC,hm',off',off2',hJ'⟩
    have zC := N' (C,oC) (.tail _ (.head _))
    have offA:∀ p ∈ (I,oI) :: (C,oC) :: (D,LCg.lst ys) :: nw,p.1 ≠ I2 := fun p hp=>by
      rcases List.mem_cons.mp hp with rfl | hp
      · exact ne2.1
      rcases List.mem_cons.mp hp with rfl | hp
      · exact ne2.2.1
      rcases List.mem_cons.mp hp with rfl | hp
      · exact ne2.2.2.1
      · exact off2' p hp
    by_cases hlt:j < n2
    · refine W.item j _ _ _ hlt hst' fun v h₂ tk₂ hPv hst₂ hk₂=>?_
      have F₂:Fr h₀ L h₂ m := LCg.fr_but F' hk₂ ne2.2.2.2 hI₀
      have N₂ := LCg.news_but N' hk₂ offA
      have zC₂ := N₂ (C,oC) (.tail _ (.head _))
      refine wpAny_assign_Name (wpAny_storeName_local (lookup_relabel_local hy) (hoC.ns zC₂.1) (fun h₃ hn₃ hs₃=>?_) (by simp [compEnvC,relabel,hkind]))
      obtain ⟨oC₃,heC,hoC₃⟩ := LCg.ns_obj hn₃
      have off3 := off'.mem
      obtain ⟨oI2,heI⟩ := hIo _ _ hst₂
      have F₃:Fr h₀ L h₃ m := F₂.change hs₃ zC.2.1 zC.2.2
      have N₃:News h₀ L h₃ ((I,oI) :: (C,oC₃) :: (D,LCg.lst ys) :: nw) := fun p hp=>by
        rcases List.mem_cons.mp hp with rfl | hp
        · exact ⟨hs₃.extBut _ _ ne.1 (N₂ _ (.head _)).1,(N₂ _ (.head _)).2⟩
        rcases List.mem_cons.mp hp with rfl | hp
        · exact ⟨heC,zC.2⟩
        · have z := N₂ p (.tail _ (.tail _ hp))
          refine ⟨hs₃.extBut _ _ ?_ z.1,z.2⟩
          rcases List.mem_cons.mp hp with rfl | hp
          · exact Ne.symm ne.2.2
          · exact (off3 p hp).2.1
      have heI₃:h₃.get? I2 = some oI2 := hs₃.extBut _ _ (Ne.symm ne2.2.1) heI
      have hst₃:St (j + 1) h₃ := hSt _ _ _ _ _ hst₂ heI heI₃ F₃.keep (fun p hp=>N₃ p (.tail _ (.tail _ (.tail _ hp)))) (hJ _ _ _ hJ').1
      have N₃':News h₀ L h₃ ((I,oI) :: (C,oC₃) :: (D,LCg.lst ys) :: (I2,oI2) :: nw) := fun p hp=>by
        rcases List.mem_cons.mp hp with rfl | hp
        · exact N₃ _ (.head _)
        rcases List.mem_cons.mp hp with rfl | hp
        · exact N₃ _ (.tail _ (.head _))
        rcases List.mem_cons.mp hp with rfl | hp
        · exact N₃ _ (.tail _ (.tail _ (.head _)))
        rcases List.mem_cons.mp hp with rfl | hp
        · exact ⟨heI₃,Ne.symm ne2.2.2.2,hI₀⟩
        · exact N₃ _ (.tail _ (.tail _ (.tail _ hp)))
      refine wpAny_mono (turn j v oI2 oC₃ _ ys nw h₃ _ _ hPv hJ' hoC₃ (by simp [hxy,hm']) (by simp) F₃ N₃' ⟨⟨Ne.symm ne2.1,Ne.symm ne2.2.1,Ne.symm ne2.2.2.1⟩,off'⟩ off2') (fun y' s₄ h₄=>?_) fun _ _ e=>e
      obtain ⟨h₄,tk₄,news₄,rfl,F₄,N₄,off₄,-,nw',rfl,off2'',hJ''⟩ := h₄
      have zD := (N₄ (D,LCg.lst ys) (.tail _ (.tail _ (.head _))))
      refine append_at (hsz := by show ys.toArray.size ≤ sizeLine; rw [List.size_toArray]; exact (hJ _ _ _ hJ').2) zD.1 fun h₅ hs₅ hD₅=>?_
      have F₅:Fr h₀ L h₅ m := F₄.change hs₅ zD.2.1 zD.2.2
      have off4 := off₄.mem
      have N₅:News h₀ L h₅ ((I,oI) :: (C,oC₃) :: (D,LCg.lst (ys ++ [y'])) :: (I2,oI2) :: nw') := fun p hp=>by
        rcases List.mem_cons.mp hp with rfl | hp
        · exact ⟨hs₅.extBut _ _ ne.2.1 (N₄ _ (.head _)).1,(N₄ _ (.head _)).2⟩
        rcases List.mem_cons.mp hp with rfl | hp
        · exact ⟨hs₅.extBut _ _ ne.2.2 (N₄ _ (.tail _ (.head _))).1,(N₄ _ (.tail _ (.head _))).2⟩
        rcases List.mem_cons.mp hp with rfl | hp
        · exact ⟨hD₅.trans (congrArg some (LCg.lst_snoc ys y')),zD.2⟩
        · have z := N₄ p (.tail _ (.tail _ (.tail _ hp)))
          exact ⟨hs₅.extBut _ _ (off4 p hp).2.2 z.1,z.2⟩
      have zI := N₄ (I2,oI2) (.tail _ (.tail _ (.tail _ (.head _))))
      have zI5 := N₅ (I2,oI2) (.tail _ (.tail _ (.tail _ (.head _))))
      have hst₅:St (j + 1) h₅ := hSt _ _ _ _ _ hst₃ heI₃ zI5.1 F₅.keep (fun p hp=>N₅ p (.tail _ (.tail _ (.tail _ (.tail _ hp))))) (hJ _ _ _ hJ'').1
      refine ⟨n2 + 1 - (j + 1),Nat.sub_succ_lt_self _ _ (Nat.lt_succ_of_lt hlt),.mk h₅ tk₄ (j + 1) (ys ++ [y']) _ oC₃ nw' hlt hst₅ F₅ (fun p hp=>N₅ p ?_) hoC₃ (by simp [hxy,hm']) off₄.2 off2'' hJ''⟩
      rcases List.mem_cons.mp hp with rfl | hp
      · exact .head _
      rcases List.mem_cons.mp hp with rfl | hp
      · exact .tail _ (.head _)
      rcases List.mem_cons.mp hp with rfl | hp
      · exact .tail _ (.tail _ (.head _))
      · exact .tail _ (.tail _ (.tail _ (.tail _ hp)))
    · obtain rfl:j = n2 := Nat.le_antisymm hj (Nat.not_lt.mp hlt)
      refine W.done _ _ _ hst' fun h₂ tk₂ hk₂=>?_
      exact fin oC m' ys nw h₂ tk₂ hJ' hoC hm' (LCg.fr_but F' hk₂ ne2.2.2.2 hI₀) (LCg.news_but N' hk₂ offA) off'
  exact start1_any loop (W.self 0 _ _ _ hst loop)
end
section
variable {prog:Program} {w:World} {A:Around} {E:Value -> Shared -> Prop} {h₀:Heap} {L:Addr} {m:Str -> Option Value} {env:Env}
noncomputable def Turn1 (prog:Program) (w:World) (A:Around) (h₀:Heap) (L:Addr) (m:Str -> Option Value) (env:Env) (elt:PySem.Expr) (x y:Str) (scope:Scope) (cl:List (Str × Addr)) (s₁:Shared) (v:Value) (I:Addr) (oI:Obj) (C D:Addr) (P:Nat -> Value -> Prop) (J:Nat -> List Value -> List (Addr × Obj) -> Prop):Prop :=
  ∀ j u I2 oI2 oC m₂ ys nw h tk (E':Value -> Shared -> Prop),P j u -> J j ys nw -> LCg.NsObj oC m₂ -> m₂ x = some v -> m₂ y = some u -> Fr h₀ L h m -> News h₀ L h ((I,oI) :: (C,oC) :: (D,LCg.lst ys) :: (I2,oI2) :: nw) -> LCg.Off3 I C D ((I2,oI2) :: nw) -> (∀ p ∈ nw,p.1 ≠ I2) -> ((@Ne Nat I C) ∧ (@Ne Nat I D) ∧ (@Ne Nat C D)) ->
    wpAny (model prog w) A (eval elt (compEnvC scope cl C env)) (LCg.CompEnd h₀ L m { s₁ with heap := h,toks := tk } I oI C oC D (LCg.lst ys) (fun _=>True) (fun y' news' => ∃ nw',news' = (I2,oI2) :: nw' ∧ (∀ p ∈ nw',p.1 ≠ I2) ∧ J (j + 1) (ys ++ [y']) nw')) E' { s₁ with heap := h,toks := tk }
inductive In2 (prog:Program) (w:World) (A:Around) (h₀:Heap) (L:Addr) (m:Str -> Option Value) (env:Env) (elt:PySem.Expr) (x y:Str) (scope:Scope) (cl:List (Str × Addr)) (s₁:Shared) (v:Value) (I:Addr) (oI:Obj) (C D:Addr) (ys:List Value) (nw:List (Addr × Obj)) (Jn:List Value -> List (Addr × Obj) -> Prop) (xv:Value) (s₂:Shared):Prop
  | mk (h tk oC m₂ J) (_:s₂ = { s₁ with heap := h,toks := tk }) (_:Fr h₀ L h m) (_:LCg.NsObj oC m₂) (_:m₂ x = some v) (_:News h₀ L h ((I,oI) :: (C,oC) :: (D,LCg.lst ys) :: nw)) (_:J 0 ys nw) (_:((∃ ax its kk,xv = .ref ax ∧ (∀ j ys nw,J j ys nw -> (ax,W.listOf its kk) ∈ nw ∧ ys.length ≤ sizeLine) ∧ Turn1 prog w A h₀ L m env elt x y scope cl s₁ v I oI C D (fun j u=>its[j]? = some u) J ∧ ∀ ys nw,J its.size ys nw -> Jn ys nw) ∨ (∃ r a b t u v' n,xv = .ref r ∧ IsRange h r a b 1 t u v' ∧ Builtin.Range.small a b 1 = true ∧ Builtin.Range.rangeSize a b 1 = ((n:Nat):Int) ∧ (∀ j ys nw,J j ys nw -> ys.length ≤ sizeLine) ∧ Turn1 prog w A h₀ L m env elt x y scope cl s₁ v I oI C D (fun j u=>j < n ∧ ∃ t,u = .int (a + (j:Int)) t) J ∧ ∀ ys nw,J n ys nw -> Jn ys nw)))
noncomputable def Turn2 (prog:Program) (w:World) (A:Around) (h₀:Heap) (L:Addr) (m:Str -> Option Value) (env:Env) (elt i1:PySem.Expr) (x y:Str) (scope:Scope) (cl:List (Str × Addr)) (s₁:Shared) (its:Array Value) (J:Nat -> List Value -> List (Addr × Obj) -> Prop):Prop :=
  ∀ i v I oI C oC D m₂ ys nw h tk (E':Value -> Shared -> Prop),its[i]? = some v -> J i ys nw -> LCg.NsObj oC m₂ -> m₂ x = some v -> Fr h₀ L h m -> News h₀ L h ((I,oI) :: (C,oC) :: (D,LCg.lst ys) :: nw) -> LCg.Off3 I C D nw -> ((@Ne Nat I C) ∧ (@Ne Nat I D) ∧ (@Ne Nat C D)) ->
    wpAny (model prog w) A (eval i1 (compEnvC scope cl C env)) (In2 prog w A h₀ L m env elt x y scope cl s₁ v I oI C D ys nw (J (i + 1))) E' { s₁ with heap := h,toks := tk }
theorem range_walks2 {I:Addr} (hh:A.handled = none) (a:Int) (n:Nat):Walks prog w A I [I] [I] n (fun i v=>i < n ∧ ∃ t,v = .int (a + (i:Int)) t) (fun i h=>IsRangeIter h I (a + (i:Nat) * 1) ((n:Int) - (i:Nat)) 1) :=
  let W:Walks prog w A I [I] [I] n (fun i v=>i < n ∧ ∃ t,v = .int (a + i * 1) t) (fun i h=>IsRangeIter h I (a + (i:Nat) * 1) ((n:Int) - (i:Nat)) 1) := (Walks.range hh I a 1 n).bound
  { sub := W.sub,frame := W.frame,done := W.done,self := W.self,
    item := fun i s Q E hi st hQ=>W.item i s Q E hi st fun v h' tk hP=>hQ v h' tk (by obtain ⟨h1,t,rfl⟩ := hP; exact ⟨h1,t,by rw [Int.mul_one]⟩) }
theorem neI (I k:Nat):I ≠ I + (k + 1) := Nat.ne_of_lt (Nat.lt_succ_of_le (Nat.le_add_right I k))
theorem comp2_core {elt i0 i1:PySem.Expr} {x y:Str} {px py:Pos} {scope:Scope} {cl:List (Str × Addr)} {pos:Pos} {RR:Value -> Addr -> Result -> Shared -> Prop} {ax:Addr} {its:Array Value} {kk:Nat} {news:List (Addr × Obj)} {J:Nat -> List Value -> List (Addr × Obj) -> Prop} {s₁:Shared}
    (hcell:∀ y ∈ scope.names,y.2 ≠ .cell) (hkind:scope.kind = .function) (hx:scope.names.lookup x = some .local) (hy:scope.names.lookup y = some .local) (hxy:x ≠ y) (hs1:∀ C z,foldedSetIterable i1 (compEnvC scope cl C env) z = pure z)
    (hh:A.handled = none) (F:Fr h₀ L s₁.heap m) (N:News h₀ L s₁.heap news) (hJ:J 0 [] news) (hsrc:∀ i ys nw,J i ys nw -> (ax,W.listOf its kk) ∈ nw ∧ ys.length ≤ sizeLine)
    (turn:Turn2 prog w A h₀ L m env elt i1 x y scope cl s₁ its J)
    (fin:∀ D C ys nw h tk m',J its.size ys nw -> @LT.lt Nat _ s₁.heap.objs.size D -> Fr h₀ L h m -> News h₀ L h ((D,LCg.lst ys) :: nw) -> LCg.Off1 D nw -> h.Ns C m' -> C ≠ L -> C ≠ D -> h₀.get? C = none -> (∀ p ∈ nw,p.1 ≠ C) -> RR (.ref D) C (.ok .next) { s₁ with heap := h,toks := tk }) :
    wpAny (model prog w) A (pyIter (.ref ax)) (fun it s₂=>wpAny (model prog w) A (newList []) (fun acc s₃=>wpAny (model prog w) A (newFunctionEnv scope env.globals cl [] env.qual none .none (some env)) (fun cenv s₄ =>
      codeAny (model prog w) A (.compStart (lc2 elt i0 i1 x y px py scope pos) 0 it acc { cenv with scope := relabel scope env }) (RR acc cenv.locals) s₄) E s₃) E s₂) E s₁ := by
  have hmem := N _ (hsrc _ _ _ hJ).1
  have hl:s₁.heap.IsList ax its := ⟨_,hmem.1,rfl,kk,rfl⟩
  have hlt:ax < s₁.heap.objs.size := Heap.lt_size hmem.1
  refine wpAny_pyIter_list hl ?_
  generalize hI:s₁.heap.objs.size = I at *
  generalize hHI:s₁.heap.push { cls := .type "list_iterator",data := .fields #[.ref ax,.int 0 0] } = H₁
  have up₁:∀ b o,s₁.heap.get? b = some o -> H₁.get? b = some o := fun b o e=>hHI ▸ Heap.get?_push_of_some _ e
  have hI₁:H₁.IsListIter I ax 0 := by rw [← hHI, ← hI]; exact ⟨_,Heap.get?_push_size _ rfl,rfl,rfl⟩
  have z₁:H₁.objs.size = I + 1 := by rw [← hHI,Heap.size_push,hI]
  refine wpAny_newObj_type (wpAny_newFunctionEnv hcell (by intro y hy; simp at hy) (fun h₁ hns₁ hsb₁=>?_) hkind)
  dsimp only at hns₁ hsb₁ ⊢
  generalize hH2:H₁.push { cls := .type "list",dict := none,data := .seq ([]:List Value).toArray } = H2 at hns₁ hsb₁ ⊢
  have hC:H2.objs.size = I + 2 := by rw [← hH2,Heap.size_push,z₁]
  rw [hC] at hns₁ hsb₁ ⊢
  have hnew:h₁.get? (I + 1) = some (LCg.lst []) := hsb₁.extBut _ _ ((Nat.succ_ne_self (I + 1)).symm) (Heap.get?_push_of_some _ (by rw [← hH2, ← z₁]; exact Heap.get?_push_size _ rfl))
  rw [z₁]
  have old:∀ b o,s₁.heap.get? b = some o -> h₁.get? b = some o := fun b o e=>by
    have hb:b < I := hI ▸ Heap.lt_size e
    exact hsb₁.extBut b o (Nat.ne_of_lt (Nat.lt_trans hb (by lia))) (Heap.get?_push_of_some _ (hH2 ▸ Heap.get?_push_of_some _ (up₁ b o e)))
  have oldI:∀ o,H₁.get? I = some o -> h₁.get? I = some o := fun o e=>hsb₁.extBut I o (neI I 1) (Heap.get?_push_of_some _ (hH2 ▸ Heap.get?_push_of_some _ e))
  have fresh₀:∀ b,I ≤ b -> h₀.get? b = none := fun b hb=>by
    cases e:h₀.get? b with
    | none=>rfl
    | some o' => exact absurd (Heap.lt_size (F.keep b o' e)) (by rw [hI]; exact Nat.not_lt.mpr hb)
  have hLt:L < I := hI ▸ F.ns.lt
  have hLI:L ≠ I := Nat.ne_of_lt hLt
  have hLD:L ≠ I + 1 := Nat.ne_of_lt (Nat.lt_succ_of_lt hLt)
  have hLC:L ≠ I + 2 := Nat.ne_of_lt (Nat.lt_succ_of_lt (Nat.lt_succ_of_lt hLt))
  have off₀:LCg.Off3 I (I + 2) (I + 1) news := LCg.Off3.of fun p hp=>by
    have q:p.1 < I := hI ▸ Heap.lt_size (N p hp).1
    exact ⟨Nat.ne_of_lt q,Nat.ne_of_lt (Nat.lt_succ_of_lt (Nat.lt_succ_of_lt q)),Nat.ne_of_lt (Nat.lt_succ_of_lt q)⟩
  have loop:∀ tk₁,codeAny (model prog w) A (.compLoop (lc2 elt i0 i1 x y px py scope pos) 0 (.ref I) (.ref (I + 1)) (compEnvC scope cl (I + 2) env)) (RR (.ref (I + 1)) (I + 2)) { s₁ with heap := h₁,toks := tk₁ } := by
    intro tk₁
    refine loop0_any (hs1 (I + 2)) (OutA h₀ L m s₁ its ax I J) ?_ its.size
      (.mk 0 h₁ tk₁ [] _ news (Nat.zero_le _) (let ⟨o,e,r⟩ := hI₁; ⟨o,oldI o e,r⟩) hns₁ (F.keeps old) (fun p hp=>?_) off₀ hJ)
    · rintro _ _ ⟨i,h',tk,ys,m',nw,hi,hit,hn',F',N',off',hJ'⟩
      have off3 := off'.mem
      have hax := N' _ (.tail _ (hsrc _ _ _ hJ').1)
      have hl':h'.IsList ax its := ⟨_,hax.1,rfl,kk,rfl⟩
      by_cases hlt:i < its.size
      · refine wpAny_pyNext_list_item hit hl' (x := its[i]) (by simp [hlt]) fun h₂ hit₂ hs₂=>?_
        have keep₂:∀ b o,b ≠ I -> h'.get? b = some o -> h₂.get? b = some o := fun b o q1 e=>hs₂.extBut b o q1 e
        have hC₂ := hn'.sameBut hs₂ ((neI I 1).symm)
        have F₂:Fr h₀ L h₂ m := ⟨F'.ns.at fun o e=>keep₂ _ o hLI e,fun b o e=>keep₂ b o (fun q=>by rw [q,fresh₀ _ (Nat.le_refl _)] at e; cases e) (F'.keep b o e),F'.above⟩
        refine wpAny_assign_Name (wpAny_storeName_local (lookup_relabel_local hx) hC₂ (fun h₃ hn₃ hs₃=>?_) (by simp [compEnvC,relabel,hkind]))
        obtain ⟨oI,eI,cI,dI⟩ := hit₂
        have eI₃:h₃.get? I = some oI := hs₃.extBut _ _ (neI I 1) eI
        obtain ⟨oC,heC,hoC⟩ := LCg.ns_obj hn₃
        have F₃:Fr h₀ L h₃ m := F₂.change hs₃ (Ne.symm hLC) (fresh₀ (I + 2) (Nat.le_add_right I 2))
        have N₃:News h₀ L h₃ ((I,oI) :: (I + 2,oC) :: (I + 1,LCg.lst ys) :: nw) := fun p hp=>by
          rcases List.mem_cons.mp hp with rfl | hp
          · exact ⟨eI₃,Ne.symm hLI,fresh₀ _ (Nat.le_refl _)⟩
          rcases List.mem_cons.mp hp with rfl | hp
          · exact ⟨heC,Ne.symm hLC,fresh₀ (I + 2) (Nat.le_add_right I 2)⟩
          · have z := N' p hp
            refine ⟨hs₃.extBut _ _ ?_ (keep₂ _ _ ?_ z.1),z.2⟩
            · rcases List.mem_cons.mp hp with rfl | hp
              · exact (Nat.succ_ne_self (I + 1)).symm
              · exact (off3 p hp).2.1
            · rcases List.mem_cons.mp hp with rfl | hp
              · exact Nat.succ_ne_self I
              · exact (off3 p hp).1
        refine wpAny_mono (turn i its[i] I oI (I + 2) oC (I + 1) _ ys nw h₃ _ _ (by simp [hlt]) hJ' hoC (by simp) F₃ N₃ off' ⟨neI I 1,neI I 0,Nat.succ_ne_self (I + 1)⟩) (fun xv s₄ h₄=>?_) fun _ _ e=>e
        obtain ⟨h₄,tk₄,oC₄,m₄,J',rfl,F₄,hoC₄,hm₄,N₄,hJ0,hh4⟩ := h₄
        have endE:∀ {I2:Addr} {ys':List Value} {nw':List (Addr × Obj)} {h₅:Heap} {tk₅:Nat} {oC₅:Obj} {m₅:Str -> Option Value},J (i + 1) ys' nw' -> LCg.NsObj oC₅ m₅ -> Fr h₀ L h₅ m -> News h₀ L h₅ ((I,oI) :: (I + 2,oC₅) :: (I + 1,LCg.lst ys') :: nw') -> LCg.Off3 I (I + 2) (I + 1) nw' -> (Except.ok Flow.next:Result) = .ok .next ∧ ∃ k,k < its.size - i ∧ OutA h₀ L m s₁ its ax I J k { s₁ with heap := h₅,toks := tk₅ } := by
          intro I2 ys' nw' h₅ tk₅ oC₅ m₅ a1 a2 a3 a4 a5
          exact ⟨rfl,its.size - (i + 1),Nat.sub_succ_lt_self _ _ hlt,.mk (i + 1) h₅ tk₅ ys' m₅ nw' hlt ⟨oI,(a4 _ (.head _)).1,cI,dI⟩ (a2.ns (a4 _ (.tail _ (.head _))).1) a3 (fun p hp=>a4 p (.tail _ (.tail _ hp))) a5 a1⟩
        have hsz4:∀ p ∈ (I,oI) :: (I + 2,oC₄) :: (I + 1,LCg.lst ys) :: nw,p.1 ≠ h₄.objs.size := fun p hp=>Nat.ne_of_lt (Heap.lt_size (N₄ p hp).1)
        have hnx := kdx_fresh F₄ (Nat.le_refl h₄.objs.size)
        have ne2:(@Ne Nat I h₄.objs.size) ∧ (@Ne Nat (I + 2) h₄.objs.size) ∧ (@Ne Nat (I + 1) h₄.objs.size) ∧ (@Ne Nat L h₄.objs.size) := ⟨hsz4 _ (.head _),hsz4 _ (.tail _ (.head _)),hsz4 _ (.tail _ (.tail _ (.head _))),fun q=>hnx.1 q.symm⟩
        have o24:∀ p ∈ nw,p.1 ≠ h₄.objs.size := fun p hp=>hsz4 p (.tail _ (.tail _ (.tail _ hp)))
        rcases hh4 with ⟨ax2,its2,kk2,rfl,hsr2,turn1,hend⟩ | ⟨r,a,b,t,u,v',n2,rfl,hr,hsm,hn2,hlen,turn1,hend⟩
        · have hax2 := N₄ _ (.tail _ (.tail _ (.tail _ (hsr2 _ _ _ hJ0).1)))
          have hl2:h₄.IsList ax2 its2 := ⟨_,hax2.1,rfl,kk2,rfl⟩
          have hlt2:ax2 < h₄.objs.size := Heap.lt_size hax2.1
          refine wpAny_pyIter_list hl2 ?_
          have up:∀ b o,h₄.get? b = some o -> (h₄.push { cls := .type "list_iterator",data := .fields #[.ref ax2,.int 0 0] }).get? b = some o := fun b o e=>Heap.get?_push_of_some _ e
          refine inner_run (J := J') (S := LCg.SrcAt h₀ ax2 its2) (Walks.list hh h₄.objs.size ax2 (Nat.ne_of_lt hlt2) its2) (fun i h st=>by obtain ⟨o,e,_⟩ := st.1; exact ⟨o,e⟩) LCg.list_st (fun j ys nw hj=>⟨.inr ⟨_,(hsr2 _ _ _ hj).1,rfl,_,rfl⟩,(hsr2 _ _ _ hj).2⟩) hy hxy hkind ⟨⟨_,Heap.get?_push_size _ rfl,rfl,rfl⟩,hl2.push _⟩ (F₄.keeps up) (N₄.grown up) hoC₄ hm₄ off' ⟨neI I 1,neI I 0,Nat.succ_ne_self (I + 1)⟩ o24 ne2 hnx.2 hJ0 ?_ ?_
          · intro j v oI2 oC m₂ ys nw h tk E' b1 b2 b3 b4 b5 b6 b7 b8 b9
            exact turn1 j v _ oI2 oC m₂ ys nw h tk E' b1 b2 b3 b4 b5 b6 b7 b8 b9 ⟨neI I 1,neI I 0,Nat.succ_ne_self (I + 1)⟩
          · intro oC m₂ ys nw h tk b1 b2 b3 b4 b5 b6
            exact endE (I2 := 0) (hend _ _ b1) b2 b4 b5 b6
        · refine wpAny_pyIter_range hr hsm ?_
          refine inner_run (J := J') (S := fun _=>True) (range_walks2 hh a n2) (fun i h st=>⟨_,st⟩) LCg.range_st (fun j ys nw hj=>⟨trivial,hlen _ _ _ hj⟩) hy hxy hkind (by show IsRangeIter _ _ _ _ _; rw [hn2]; simpa using Heap.get?_push_size _ rfl) (F₄.keeps fun _ _ e=>Heap.get?_push_of_some _ e) (N₄.grown fun _ _ e=>Heap.get?_push_of_some _ e) hoC₄ hm₄ off' ⟨neI I 1,neI I 0,Nat.succ_ne_self (I + 1)⟩ o24 ne2 hnx.2 hJ0 ?_ ?_
          · intro j v oI2 oC m₂ ys nw h tk E' b1 b2 b3 b4 b5 b6 b7 b8 b9
            exact turn1 j v _ oI2 oC m₂ ys nw h tk E' b1 b2 b3 b4 b5 b6 b7 b8 b9 ⟨neI I 1,neI I 0,Nat.succ_ne_self (I + 1)⟩
          · intro oC m₂ ys nw h tk b1 b2 b3 b4 b5 b6
            exact endE (I2 := 0) (hend _ _ b1) b2 b4 b5 b6
      · obtain rfl:i = its.size := Nat.le_antisymm hi (Nat.not_lt.mp hlt)
        refine wpAny_pyNext_list_end hh hit hl' (by simp) fun h₂ hs₂=>?_
        have keep₂:∀ b o,b ≠ I -> h'.get? b = some o -> h₂.get? b = some o := fun b o q1 e=>hs₂ b o q1 e
        have F₂:Fr h₀ L h₂ m := ⟨F'.ns.at fun o e=>keep₂ _ o hLI e,fun b o e=>keep₂ b o (fun q=>by rw [q,fresh₀ _ (Nat.le_refl _)] at e; cases e) (F'.keep b o e),F'.above⟩
        refine fin (I + 1) (I + 2) ys nw h₂ _ m' hJ' (Nat.lt_succ_self I) F₂ (fun p hp=>?_) off'.one (hn'.at fun o e=>hs₂ _ o ((neI I 1).symm) e) (Ne.symm hLC) (Nat.succ_ne_self (I + 1)) (fresh₀ (I + 2) (Nat.le_add_right I 2)) (fun p hp=>(off3 p hp).2.1)
        have z := N' p hp
        refine ⟨?_,z.2⟩
        rcases List.mem_cons.mp hp with rfl | hp
        · exact keep₂ _ _ (Nat.succ_ne_self I) z.1
        · exact keep₂ _ _ (off3 p hp).1 z.1
    · rcases List.mem_cons.mp hp with rfl | hp
      · exact ⟨hnew,Ne.symm hLD,fresh₀ (I + 1) (Nat.le_add_right I 1)⟩
      · exact ⟨old _ _ (N p hp).1,(N p hp).2⟩
  exact codeAny_compStart_list (loop _) (wpAny_pyIter_listiter (let ⟨o,e,r⟩ := hI₁; ⟨o,oldI o e,r⟩) (loop _))
inductive Src2 (prog:Program) (w:World) (A:Around) (h₀:Heap) (L:Addr) (m:Str -> Option Value) (env:Env) (elt i1:PySem.Expr) (x y:Str) (scope:Scope) (cl:List (Str × Addr)) (Fin:Addr -> Heap -> Nat -> List Value -> List (Addr × Obj) -> Shared -> Prop) (xv:Value) (s₁:Shared):Prop
  | mk (ax:Addr) (its:Array Value) (kk:Nat) (news:List (Addr × Obj)) (J:Nat -> List Value -> List (Addr × Obj) -> Prop) (_:xv = .ref ax) (_:A.handled = none) (_:Fr h₀ L s₁.heap m) (_:News h₀ L s₁.heap news) (_:J 0 [] news) (_:(∀ i ys nw,J i ys nw -> (ax,W.listOf its kk) ∈ nw ∧ ys.length ≤ sizeLine)) (_:Turn2 prog w A h₀ L m env elt i1 x y scope cl s₁ its J) (_:∀ D ys nw,J its.size ys nw -> @LT.lt Nat _ s₁.heap.objs.size D -> LCg.Off1 D nw -> ∀ h tk,Fin D h tk ys nw s₁)
noncomputable def Fin2E (h₀:Heap) (L:Addr) (m:Str -> Option Value) (Q:Value -> Shared -> Prop) (D:Addr) (h:Heap) (tk:Nat) (ys:List Value) (nw:List (Addr × Obj)) (s₁:Shared):Prop := Fr h₀ L h m -> News h₀ L h ((D,LCg.lst ys) :: nw) -> Q (.ref D) { s₁ with heap := h,toks := tk }
noncomputable def Fin2A (h₀:Heap) (L:Addr) (m:Str -> Option Value) (z:Str) (Q:Flow -> Shared -> Prop) (D:Addr) (h:Heap) (tk:Nat) (ys:List Value) (nw:List (Addr × Obj)) (s₁:Shared):Prop := Fr h₀ L h (fun u=>if u = z then some (.ref D) else m u) -> News h₀ L h ((D,LCg.lst ys) :: nw) -> Q .next { s₁ with heap := h,toks := tk }
theorem ListComp_2 {s:Shared} {elt i0 i1:PySem.Expr} {x y:Str} {px py:Pos} {scope:Scope} {cl:List (Str × Addr)} {pos:Pos} {Q:Value -> Shared -> Prop} {hF:Heap} (_:Fr h₀ L hF m)
    (hclos:closureFor scope env = pure cl) (hcell:∀ y ∈ scope.names,y.2 ≠ .cell) (hkind:scope.kind = .function)
    (hnames:∀ y ∈ scope.names,y.2 = .local -> scope.names.lookup y.1 = some .local) (hx:scope.names.lookup x = some .local) (hy:scope.names.lookup y = some .local) (hxy:x ≠ y)
    (h:wpAny (model prog w) A (eval i0 env) (Src2 prog w A h₀ L m env elt i1 x y scope cl (Fin2E h₀ L m Q)) E s)
    (hs:∀ x,foldedSetIterable i0 env x = pure x := by intro _; rfl) (hs1:∀ C z,foldedSetIterable i1 (compEnvC scope cl C env) z = pure z := by intro _ _; rfl) :
    wpAny (model prog w) A (eval (lc2 elt i0 i1 x y px py scope pos) env) Q E s := by
  rw [eval_ListComp]
  refine wpAny_comprehension_free (use := none) rfl hs hclos hkind hnames (wpAny_mono h (fun xv s₁ h₁=>?_) fun _ _ e=>e)
  obtain ⟨ax,its,kk,news,J,rfl,hh,F,N,hJ,hsrc,turn,fin⟩ := h₁
  refine comp2_core hcell hkind hx hy hxy hs1 hh F N hJ hsrc turn fun D C ys nw h tk m' hJ' hl₁ F' N' o1 hn hCL hCD hC₀ offC=>?_
  refine ⟨m',hn,fun h'' hs'' => fin D ys nw hJ' hl₁ o1 h'' tk (F'.change hs'' hCL hC₀) fun p hp=>?_⟩
  refine ⟨hs''.extBut _ _ ?_ (N' p hp).1,(N' p hp).2⟩
  rcases List.mem_cons.mp hp with rfl | hp
  · exact Ne.symm hCD
  · exact offC p hp
theorem Assign_ListComp_2 {s:Shared} {elt i0 i1:PySem.Expr} {x y z:Str} {px py pz:Pos} {scope:Scope} {cl:List (Str × Addr)} {pos spos:Pos} {Q:Flow -> Shared -> Prop} {hF:Heap} (_:Fr h₀ L hF m) (hLe:env.locals = L)
    (hsw:swapsWith (lc2 elt i0 i1 x y px py scope pos) (some (.Name z pz)) spos.line env = pure true)
    (hclos:closureFor scope env = pure cl) (hcell:∀ y ∈ scope.names,y.2 ≠ .cell) (hkind:scope.kind = .function)
    (hnames:∀ y ∈ scope.names,y.2 = .local -> scope.names.lookup y.1 = some .local) (hx:scope.names.lookup x = some .local) (hy:scope.names.lookup y = some .local) (hxy:x ≠ y)
    (hz:env.kindOf z = some .local) (hp:(env.scope.kind == .class || (env.scope.kind == .module && env.locals != env.globals)) = false)
    (h:wpAny (model prog w) A (eval i0 env) (Src2 prog w A h₀ L m env elt i1 x y scope cl (Fin2A h₀ L m z Q)) E s)
    (hs:∀ x,foldedSetIterable i0 env x = pure x := by intro _; rfl) (hs1:∀ C z,foldedSetIterable i1 (compEnvC scope cl C env) z = pure z := by intro _ _; rfl) :
    wpAny (model prog w) A (exec (.Assign [.Name z pz] (lc2 elt i0 i1 x y px py scope pos) spos) env) Q E s := by
  subst hLe
  rw [exec_Assign_Name_used _ _ _ _ hsw]
  refine wpAny_bind (wpAny_standAt (wpAny_bind ?_))
  show wpAny _ A (do let _ ← comprehension (lc2 elt i0 i1 x y px py scope pos) scope env _ (newList []) false (eval i0 env) (some (assign (.Name z pz) env))) _ _ s
  refine wpAny_bind (wpAny_mono (wpAny_comprehension_free (use := some (assign (.Name z pz) env)) (Q := fun _ s' => Q .next s') rfl hs hclos hkind hnames
    (wpAny_mono h (fun xv s₁ h₁=>?_) fun _ _ e=>e)) (fun _ s' hq=>wpAny_pure (wpAny_pure hq)) fun _ _ e=>e)
  obtain ⟨ax,its,kk,news,J,rfl,hh,F,N,hJ,hsrc,turn,fin⟩ := h₁
  refine comp2_core hcell hkind hx hy hxy hs1 hh F N hJ hsrc turn fun D C ys nw h tk m' hJ' hl₁ F' N' o1 hn hCL hCD hC₀ offC=>?_
  show wpAny _ A (assign (.Name z pz) env (.ref D)) _ _ _
  refine wpAny_assign_Name (wpAny_storeName_local hz F'.ns (fun h₂ hn₂ hs₂=>?_) hp)
  have hL₀:h₀.get? env.locals = none := Heap.get?_none_of_le F'.above
  have F₂:Fr h₀ env.locals h₂ (fun u=>if u = z then some (.ref D) else m u) := ⟨hn₂,fun b o e=>hs₂.extBut b o (fun q=>by rw [q,hL₀] at e; cases e) (F'.keep b o e),F'.above⟩
  refine ⟨m',hn.sameBut hs₂ hCL,fun h'' hs'' => fin D ys nw hJ' hl₁ o1 h'' _ (F₂.change hs'' hCL hC₀) fun p hp=>?_⟩
  have q:h₂.get? p.1 = some p.2 := hs₂.extBut _ _ (N' p hp).2.1 (N' p hp).1
  refine ⟨hs''.extBut _ _ ?_ q,(N' p hp).2⟩
  rcases List.mem_cons.mp hp with rfl | hp
  · exact Ne.symm hCD
  · exact offC p hp
end
end Mine
end
section
open PySem PySem.W PyProof.Rows PySem.Spec PySem.Calls
namespace Mine
section
variable {prog:Program} {w:World} {A:Around} {E:Value -> Shared -> Prop} {h₀:Heap} {L:Addr} {m:Str -> Option Value} {env:Env}
inductive PEnd (h₀:Heap) (L:Addr) (m:Str -> Option Value) (s₁:Shared) (C:Addr) (oC:Obj) (D:Addr) (ys:List Value) (nw:List (Addr × Obj)) (T:Value -> Prop) (y:Value) (s₂:Shared):Prop
  | mk (h' tk) (_:s₂ = { s₁ with heap := h',toks := tk }) (_:Fr h₀ L h' m) (_:News h₀ L h' ((C,oC) :: (D,LCg.lst ys) :: nw)) (_:T y)
noncomputable def PTurn (prog:Program) (w:World) (A:Around) (h₀:Heap) (L:Addr) (m:Str -> Option Value) (env:Env) (elt:PySem.Expr) (a b:Str) (scope:Scope) (cl:List (Str × Addr)) (s₁:Shared) (Pt:Nat -> Array Value -> Prop) (nw:List (Addr × Obj)) (J:Nat -> List Value -> Prop):Prop :=
  ∀ i v0 v1 C oC D m₂ ys own h tk (E':Value -> Shared -> Prop),Pt i #[v0,v1] -> J i ys -> LCg.NsObj oC m₂ -> m₂ a = some v0 -> m₂ b = some v1 -> Fr h₀ L h m -> News h₀ L h ((C,oC) :: (D,LCg.lst ys) :: (nw ++ own)) -> (∀ p ∈ nw ++ own,p.1 ≠ C ∧ p.1 ≠ D) -> (@Ne Nat C D) ->
    wpAny (model prog w) A (eval elt (compEnvC scope cl C env)) (PEnd h₀ L m { s₁ with heap := h,toks := tk } C oC D ys (nw ++ own) (fun y=>J (i + 1) (ys ++ [y]))) E' { s₁ with heap := h,toks := tk }
noncomputable def ownOf (h₀ h:Heap) (fp:List Addr):List (Addr × Obj) := fp.filterMap fun b=>match h₀.get? b with
  | some _=>none
  | none=>(h.get? b).map fun o=>(b,o)
theorem ownOf_mem {h:Heap} {fp:List Addr} {p:Addr × Obj} (hp:p ∈ ownOf h₀ h fp):p.1 ∈ fp ∧ h₀.get? p.1 = none ∧ h.get? p.1 = some p.2 := by
  obtain ⟨b,hb,e⟩ := List.mem_filterMap.mp hp
  cases e0:h₀.get? b with
  | some o=>rw [e0] at e; cases e
  | none =>
    rw [e0] at e
    cases e1:h.get? b with
    | none=>simp [e1] at e
    | some o =>
      simp only [e1,Option.map_some,Option.some.injEq] at e
      subst e
      exact ⟨hb,e0,e1⟩
theorem mem_ownOf {h:Heap} {fp:List Addr} {b:Addr} {o:Obj} (hb:b ∈ fp) (e0:h₀.get? b = none) (e:h.get? b = some o):(b,o) ∈ ownOf h₀ h fp :=
  List.mem_filterMap.mpr ⟨b,hb,by rw [e0]; simp [e]⟩
inductive PInv (h₀:Heap) (L:Addr) (m:Str -> Option Value) (s₂:Shared) (n:Nat) (J:Nat -> List Value -> Prop) (St:Nat -> Heap -> Prop) (D C:Addr) (nw:List (Addr × Obj)):Nat -> Shared -> Prop
  | mk (h' tk i ys m'):i ≤ n -> J i ys -> St i h' -> Fr h₀ L h' m -> h'.Ns C m' -> News h₀ L h' ((D,LCg.lst ys) :: nw) -> PInv h₀ L m s₂ n J St D C nw (n + 1 - i) { s₂ with heap := h',toks := tk }
theorem pairs_core {elt iter:PySem.Expr} {a b:Str} {pa pb tp:Pos} {kk:Nat} {scope:Scope} {cl:List (Str × Addr)} {pos:Pos} {s₂:Shared} {I:Addr} {fp wr:List Addr} {n:Nat} {Pt:Nat -> Array Value -> Prop} {St:Nat -> Heap -> Prop} {Mid:Nat -> Addr -> Heap -> Prop} {nw:List (Addr × Obj)} {J:Nat -> List Value -> Prop} {RR:Value -> Addr -> Result -> Shared -> Prop}
    (hh:A.handled = none) (W:WalksT prog w A I fp wr n Pt St Mid) (hPt:∀ i vals,Pt i vals -> ∃ v0 v1,vals = #[v0,v1]) (hJ:∀ i ys,J i ys -> ys.length ≤ sizeLine)
    (hwr:∀ b ∈ wr,h₀.get? b = none) (hnw:∀ p ∈ nw,p.1 ∉ wr) (hL:L ∉ fp) (hfp:∀ b ∈ fp,b < s₂.heap.objs.size) (hst:St 0 s₂.heap)
    (hcell:∀ y ∈ scope.names,y.2 ≠ .cell) (hkind:scope.kind = .function) (hxa:scope.names.lookup a = some .local) (hxb:scope.names.lookup b = some .local) (hab:¬ a = b)
    (F:Fr h₀ L s₂.heap m) (N:News h₀ L s₂.heap nw) (hJ0:J 0 [])
    (turn:PTurn prog w A h₀ L m env elt a b scope cl s₂ Pt nw J)
    (hRR:∀ D C h tk m' ys,J n ys -> Fr h₀ L h m -> News h₀ L h ((D,LCg.lst ys) :: nw) -> (∀ p ∈ nw,p.1 < D) -> h.Ns C m' -> h₀.get? C = none -> C ≠ L -> C ≠ D -> (∀ p ∈ nw,p.1 ≠ C) -> RR (.ref D) C (.ok .next) { s₂ with heap := h,toks := tk }) :
    wpAny (model prog w) A (newList []) (fun acc s₃=>wpAny (model prog w) A (newFunctionEnv scope env.globals cl [] env.qual none .none (some env)) (fun cenv s₄ =>
      codeAny (model prog w) A (.compStart (.ListComp elt [⟨.Tuple [.Name a pa,.Name b pb] kk tp,iter,[],0⟩] scope pos) 0 (.ref I) acc { cenv with scope := relabel scope env }) (RR acc cenv.locals) s₄) E s₃) E s₂ := by
  refine wpAny_newObj_type (wpAny_newFunctionEnv hcell (by intro y hy; simp at hy) (fun h₁ hns₁ hsb₁=>?_) hkind)
  dsimp only at hns₁ hsb₁ ⊢
  generalize hH2:s₂.heap.push { cls := .type "list",dict := none,data := .seq ([]:List Value).toArray } = H2 at hns₁ hsb₁ ⊢
  have hC:H2.objs.size = s₂.heap.objs.size + 1 := by rw [← hH2,Heap.size_push]
  have hDC:s₂.heap.objs.size ≠ H2.objs.size := by rw [hC]; exact Nat.ne_of_lt (Nat.lt_succ_self _)
  have below:∀ b,b < s₂.heap.objs.size -> b ≠ H2.objs.size ∧ b ≠ s₂.heap.objs.size := fun b hb=>⟨by rw [hC]; exact Nat.ne_of_lt (Nat.lt_succ_of_lt hb),Nat.ne_of_lt hb⟩
  have old:∀ b o,s₂.heap.get? b = some o -> h₁.get? b = some o := fun b o e=>hsb₁.extBut b o (below b (Heap.lt_size e)).1 (Heap.get?_push_of_some _ (hH2 ▸ Heap.get?_push_of_some _ e))
  have hacc:h₁.get? s₂.heap.objs.size = some (LCg.lst []) := hsb₁.extBut _ _ hDC (Heap.get?_push_of_some _ (hH2 ▸ Heap.get?_push_size _ rfl))
  have fresh:∀ a,s₂.heap.objs.size ≤ a -> s₂.heap.get? a = none := fun a ha=>by
    cases e:s₂.heap.get? a with
    | none=>rfl
    | some o' => exact absurd (Heap.lt_size e) (Nat.not_lt.mpr ha)
  have fresh₀:∀ a,s₂.heap.objs.size ≤ a -> h₀.get? a = none := fun a ha=>by
    cases e:h₀.get? a with
    | none=>rfl
    | some o' => have := F.keep a o' e; rw [fresh a ha] at this; cases this
  have hD₀:h₀.get? s₂.heap.objs.size = none := fresh₀ _ (Nat.le_refl _)
  have hC₀:h₀.get? H2.objs.size = none := fresh₀ _ (by rw [hC]; exact Nat.le_succ _)
  have hLlt:L < s₂.heap.objs.size := F.ns.lt
  have hDL:s₂.heap.objs.size ≠ L := Ne.symm (below L hLlt).2
  have hCL:H2.objs.size ≠ L := Ne.symm (below L hLlt).1
  have hDf:s₂.heap.objs.size ∉ fp := fun hm=>Nat.lt_irrefl _ (hfp _ hm)
  have hCf:H2.objs.size ∉ fp := fun hm=>by have := hfp _ hm; rw [hC] at this; exact Nat.lt_irrefl _ (Nat.lt_of_succ_lt this)
  have hwf := W.sub
  have nlt:∀ p ∈ nw,p.1 < s₂.heap.objs.size := fun p hp=>Heap.lt_size (N p hp).1
  have loop:∀ s₃:Shared,s₃ = { s₂ with heap := h₁,toks := s₂.toks + ([]:List (Str × Value)).length } ->
      codeAny (model prog w) A (.compLoop (.ListComp elt [⟨.Tuple [.Name a pa,.Name b pb] kk tp,iter,[],0⟩] scope pos) 0 (.ref I) (.ref s₂.heap.objs.size) (compEnvC scope cl H2.objs.size env))
        (RR (.ref s₂.heap.objs.size) H2.objs.size) s₃ := by
    rintro s₃ rfl
    refine kcp_loop
      (PInv h₀ L m s₂ n J St s₂.heap.objs.size H2.objs.size nw) ?_ (n + 1)
      (.mk h₁ _ 0 [] _ (Nat.zero_le _) hJ0 (W.frame _ _ _ hst fun b _ o e=>old b o e) (F.keeps old) hns₁ fun p hp=>?_)
    · rintro _ _ ⟨h',tk,i,ys,m',hi,hJi,hst',F',hn',N'⟩
      have nextF:∀ h₂:Heap,(∀ b o,b ∉ wr -> h'.get? b = some o -> h₂.get? b = some o) -> Fr h₀ L h₂ m := fun h₂ hk =>
        ⟨F'.ns.at' fun o e=>hk _ o (fun q=>hL (hwf _ q)) e,fun b o e=>hk b o (fun q=>by rw [hwr b q] at e; cases e) (F'.keep b o e),F'.above⟩
      have offwr:∀ p ∈ (s₂.heap.objs.size,LCg.lst ys) :: nw,p.1 ∉ wr := fun p hp=>by
        rcases List.mem_cons.mp hp with rfl | hp
        · exact fun q=>hDf (hwf _ q)
        · exact hnw p hp
      by_cases hlt:i < n
      · refine W.item i _ _ _ hlt hst' fun T vals h₂ tk₂ hP hTf hT hMd hk₂=>?_
        refine W.go _ kk tp i T _ _ _ hMd fun h₃ hst₃ hk₃=>?_
        obtain ⟨v0,v1,rfl⟩ := hPt i vals hP
        have hT₃:h₃.IsTuple T #[v0,v1] := hT.at fun o e=>hk₃ T o (W.apart i T _ hMd) e
        have up₃:∀ c o,c ∉ wr -> h'.get? c = some o -> h₃.get? c = some o := fun c o hc e=>hk₃ c o hc (hk₂ c o hc e)
        have hCw:H2.objs.size ∉ wr := fun q=>hCf (hwf _ q)
        refine kcp_assign (env := compEnvC scope cl H2.objs.size env) hh hT₃ (lookup_relabel_local hxa) (lookup_relabel_local hxb) (by simp [compEnvC,relabel,hkind]) (hn'.at' fun o e=>up₃ _ o hCw e) fun h₄ tk₄ hn₄ hs₄=>?_
        have up:∀ c o,c ∉ wr -> c ≠ H2.objs.size -> h'.get? c = some o -> h₄.get? c = some o := fun c o h1 h2 e=>hs₄ c o h2 (up₃ c o h1 e)
        have hst₄:St (i + 1) h₄ := W.frame _ _ _ hst₃ fun b hb o e=>hs₄ b o (fun q=>hCf (by have q':b = H2.objs.size := q; rw [← q']; exact hb)) e
        obtain ⟨oC,heC,hoC⟩ := LCg.ns_obj hn₄
        have F₃ := nextF h₃ up₃
        have F₄:Fr h₀ L h₄ m := ⟨F₃.ns.at' fun o e=>hs₄ _ o (Ne.symm hCL) e,fun c o e=>hs₄ c o (fun q=>by have q':c = H2.objs.size := q; rw [q',hC₀] at e; cases e) (F₃.keep c o e),F₃.above⟩
        have N₄:News h₀ L h₄ ((H2.objs.size,oC) :: (s₂.heap.objs.size,LCg.lst ys) :: (nw ++ ownOf h₀ h₄ fp)) := fun q hq=>by
          rcases List.mem_cons.mp hq with rfl | hq
          · exact ⟨heC,hCL,hC₀⟩
          rcases List.mem_cons.mp hq with rfl | hq
          · have z := N' _ (.head _)
            exact ⟨up _ _ (offwr _ (.head _)) hDC z.1,z.2⟩
          rcases List.mem_append.mp hq with hq | hq
          · have z := N' q (.tail _ hq)
            exact ⟨up _ _ (hnw q hq) (below _ (nlt q hq)).1 z.1,z.2⟩
          · obtain ⟨q1,q2,q3⟩ := ownOf_mem hq
            exact ⟨q3,fun e=>hL (e ▸ q1),q2⟩
        have offA:∀ p ∈ nw ++ ownOf h₀ h₄ fp,p.1 ≠ H2.objs.size ∧ p.1 ≠ s₂.heap.objs.size := fun q hq=>by
          rcases List.mem_append.mp hq with hq | hq
          · exact below _ (nlt q hq)
          · exact below _ (hfp _ (ownOf_mem hq).1)
        refine wpAny_mono (turn i v0 v1 H2.objs.size oC s₂.heap.objs.size _ ys (ownOf h₀ h₄ fp) h₄ tk₄ _ hP hJi hoC (by simp [hab]) (by simp) F₄ N₄ offA (Ne.symm hDC)) (fun y s₅ h₅=>?_) fun _ _ e=>e
        obtain ⟨h₅,tk₅,rfl,F₅,N₅,hJ₅⟩ := h₅
        have zC := (N₅ (H2.objs.size,oC) (.head _)).1
        have zD := (N₅ (s₂.heap.objs.size,LCg.lst ys) (.tail _ (.head _))).1
        have hst₅:St (i + 1) h₅ := W.frame _ _ _ hst₄ fun b hb o e=>by
          cases e0:h₀.get? b with
          | some o' =>
            have q1 := F₄.keep b o' e0
            rw [q1] at e
            rw [← Option.some.inj e]
            exact F₅.keep b o' e0
          | none=>exact (N₅ (b,o) (.tail _ (.tail _ (List.mem_append_right _ (mem_ownOf hb e0 e))))).1
        refine append_at (hsz := by show ys.toArray.size ≤ sizeLine; rw [List.size_toArray]; exact hJ _ _ hJi) zD fun h₆ hs₆ hD₆=>?_
        refine ⟨n + 1 - (i + 1),by lia,.mk h₆ tk₅ (i + 1) (ys ++ [y]) _ hlt hJ₅ (W.frame _ _ _ hst₅ fun b hb o e=>hs₆.extBut b o (fun q=>hDf (q ▸ hb)) e) (F₅.change hs₆ hDL hD₀)
          ((hoC.ns zC).sameBut hs₆ (Ne.symm hDC)) fun q hq=>?_⟩
        rcases List.mem_cons.mp hq with rfl | hq
        · exact ⟨hD₆.trans (congrArg some (LCg.lst_snoc ys y)),hDL,hD₀⟩
        · have z := N₅ q (.tail _ (.tail _ (List.mem_append_left _ hq)))
          exact ⟨hs₆.extBut _ _ (below _ (nlt q hq)).2 z.1,z.2⟩
      · obtain rfl:i = n := Nat.le_antisymm hi (Nat.not_lt.mp hlt)
        refine W.done _ _ _ hst' fun h₂ tk₂ hk₂=>?_
        exact hRR _ _ h₂ tk₂ _ ys hJi (nextF h₂ hk₂) (fun p hp=>⟨hk₂ _ _ (offwr p hp) (N' p hp).1,(N' p hp).2⟩) nlt (hn'.at' fun o e=>hk₂ _ o (fun q=>hCf (hwf _ q)) e) hC₀ hCL (Ne.symm hDC) (fun p hp=>(below _ (nlt p hp)).1)
    · rcases List.mem_cons.mp hp with rfl | hp
      · exact ⟨hacc,hDL,hD₀⟩
      · exact ⟨old _ _ (N p hp).1,(N p hp).2⟩
  exact codeAny_compStart_list (loop _ rfl) (W.self 0 _ _ _ (W.frame _ _ _ hst fun b _ o e=>old b o e) (loop _ rfl))
inductive PSrc (prog:Program) (w:World) (A:Around) (h₀:Heap) (L:Addr) (m:Str -> Option Value) (env:Env) (elt:PySem.Expr) (a b:Str) (scope:Scope) (cl:List (Str × Addr)) (Fin:Addr -> Heap -> Nat -> List Value -> List (Addr × Obj) -> Shared -> Prop) (xv:Value) (s₁:Shared):Prop
  | mk (I:Addr) (fp wr:List Addr) (n:Nat) (Pt:Nat -> Array Value -> Prop) (St:Nat -> Heap -> Prop) (Mid:Nat -> Addr -> Heap -> Prop) (nw:List (Addr × Obj)) (J:Nat -> List Value -> Prop) (_:xv = .ref I) (_:A.handled = none) (_:WalksT prog w A I fp wr n Pt St Mid) (_:(∀ i vals,Pt i vals -> ∃ v0 v1,vals = #[v0,v1])) (_:(∀ i ys,J i ys -> ys.length ≤ sizeLine)) (_:(∀ b ∈ wr,h₀.get? b = none)) (_:(∀ p ∈ nw,p.1 ∉ wr)) (_:L ∉ fp) (_:(∀ b ∈ fp,b < s₁.heap.objs.size)) (_:St 0 s₁.heap) (_:Fr h₀ L s₁.heap m) (_:News h₀ L s₁.heap nw) (_:J 0 []) (_:PTurn prog w A h₀ L m env elt a b scope cl s₁ Pt nw J) (_:∀ D h tk ys,J n ys -> (∀ p ∈ nw,p.1 < D) -> Fin D h tk ys nw s₁)
noncomputable def FinPA (h₀:Heap) (L:Addr) (m:Str -> Option Value) (z:Str) (Q:Flow -> Shared -> Prop) (D:Addr) (h:Heap) (tk:Nat) (ys:List Value) (nw:List (Addr × Obj)) (s₁:Shared):Prop := Fr h₀ L h (fun u=>if u = z then some (.ref D) else m u) -> News h₀ L h ((D,LCg.lst ys) :: nw) -> Q .next { s₁ with heap := h,toks := tk }
theorem Assign_ListComp_PT {s:Shared} {elt iter:PySem.Expr} {a b z:Str} {pa pb tp pz:Pos} {kk:Nat} {scope:Scope} {cl:List (Str × Addr)} {pos spos:Pos} {Q:Flow -> Shared -> Prop} {hF:Heap} (_:Fr h₀ L hF m) (hLe:env.locals = L)
    (hsw:swapsWith (.ListComp elt [⟨.Tuple [.Name a pa,.Name b pb] kk tp,iter,[],0⟩] scope pos) (some (.Name z pz)) spos.line env = pure true)
    (hclos:closureFor scope env = pure cl) (hcell:∀ y ∈ scope.names,y.2 ≠ .cell) (hkind:scope.kind = .function)
    (hnames:∀ y ∈ scope.names,y.2 = .local -> scope.names.lookup y.1 = some .local) (hx:scope.names.lookup a = some .local) (hy:scope.names.lookup b = some .local) (hxy:¬ a = b)
    (hz:env.kindOf z = some .local) (hp:(env.scope.kind == .class || (env.scope.kind == .module && env.locals != env.globals)) = false)
    (h:wpAny (model prog w) A (eval iter env) (PSrc prog w A h₀ L m env elt a b scope cl (FinPA h₀ L m z Q)) E s)
    (hs:∀ x,foldedSetIterable iter env x = pure x := by intro _; rfl) :
    wpAny (model prog w) A (exec (.Assign [.Name z pz] (.ListComp elt [⟨.Tuple [.Name a pa,.Name b pb] kk tp,iter,[],0⟩] scope pos) spos) env) Q E s := by
  subst hLe
  rw [exec_Assign_Name_used _ _ _ _ hsw]
  refine wpAny_bind (wpAny_standAt (wpAny_bind ?_))
  show wpAny _ A (do let _ ← comprehension (.ListComp elt [⟨.Tuple [.Name a pa,.Name b pb] kk tp,iter,[],0⟩] scope pos) scope env _ (newList []) false (eval iter env) (some (assign (.Name z pz) env))) _ _ s
  refine wpAny_bind (wpAny_mono (wpAny_comprehension_free (use := some (assign (.Name z pz) env)) (Q := fun _ s' => Q .next s') rfl hs hclos hkind hnames
    (wpAny_mono h (fun xv s₁ h₁=>?_) fun _ _ e=>e)) (fun _ s' hq=>wpAny_pure (wpAny_pure hq)) fun _ _ e=>e)
  obtain ⟨I,fp,wr,n,Pt,St,Mid,nw,J,rfl,hh,W,hPt,hJ,hwr,hnw,hL,hfp,hst,F,N,hJ0,turn,fin⟩ := h₁
  refine W.self 0 _ _ _ hst ?_
  refine pairs_core hh W hPt hJ hwr hnw hL hfp hst hcell hkind hx hy hxy F N hJ0 turn fun D C h tk m' ys hJn F' N' hlt hn hC₀ hCL hCD offC=>?_
  show wpAny _ A (assign (.Name z pz) env (.ref D)) _ _ _
  refine wpAny_assign_Name (wpAny_storeName_local hz F'.ns (fun h₂ hn₂ hs₂=>?_) hp)
  have hL₀:h₀.get? env.locals = none := Heap.get?_none_of_le F'.above
  have F₂:Fr h₀ env.locals h₂ (fun u=>if u = z then some (.ref D) else m u) := ⟨hn₂,fun b o e=>hs₂.extBut b o (fun q=>by rw [q,hL₀] at e; cases e) (F'.keep b o e),F'.above⟩
  refine ⟨m',hn.sameBut hs₂ hCL,fun h'' hs'' => fin D h'' _ ys hJn hlt (F₂.change hs'' hCL hC₀) fun p hp=>?_⟩
  have q:h₂.get? p.1 = some p.2 := hs₂.extBut _ _ (N' p hp).2.1 (N' p hp).1
  refine ⟨hs''.extBut _ _ ?_ q,(N' p hp).2⟩
  rcases List.mem_cons.mp hp with rfl | hp
  · exact Ne.symm hCD
  · exact offC p hp
end
section
variable {prog:Program} {w:World} {A:Around} {E:Value -> Shared -> Prop} {s:Shared}
theorem nextOf_tuple_item {it t:Addr} {i:Nat} {items} {x:Value} {Q:Value -> Shared -> Prop} (hit:s.heap.IsTupleIter it t i)
    (ht:s.heap.IsTuple t items) (hx:items[i]? = some x)
    (hQ:∀ h',h'.IsTupleIter it t (i + 1) -> Heap.SameBut it s.heap h' -> Q x { s with heap := h' }) :
    wpAny (model prog w) A (Builtin.SmallTypes.nextOf (.ref it)) Q E s := by
  obtain ⟨o,ho,hc,hd⟩ := id hit
  obtain ⟨ol,hol,_,nl,hdl⟩ := ht
  unfold Builtin.SmallTypes.nextOf
  refine wpAny_bind (wpAny_callSpecial?_slot (name := Str.ofString "__next__") hit.typeIs F.slot_tuple_iterator_next
    (wpAny_call_entry F.slot_tuple_iterator_next hit.typeIs F.entry_tuple_iterator_next ?_ (F.args_tuple_iterator_next_1 _)))
  show wpAny _ _ (field (.ref it) 0 >>= _) _ _ s
  refine wpAny_bind (wpAny_field ho hd (x := .ref t) rfl ?_)
  show wpAny _ _ (if (Value.ref t == Value.none) = true then _ else _) _ _ s
  rw [if_neg (show ¬ ((Value.ref t == Value.none) = true) from Bool.false_ne_true)]
  show wpAny _ _ (field (.ref it) 1 >>= _) _ _ s
  refine wpAny_bind (wpAny_field ho hd (x := .int i 0) rfl ?_)
  show wpAny _ _ (seqItems? (.ref t) >>= _) _ _ s
  refine wpAny_bind (wpAny_seqItems hol hdl ?_)
  simp only [Int.toNat_natCast,hx]
  refine wpAny_bind (wpAny_setField ho hd (by simp) (wpAny_pure ⟨x,rfl,wpAny_pure (hQ _ ?_ (Heap.SameBut.update ..))⟩))
  exact ⟨_,Heap.get?_update_self _ ho (Obj.isFreed_of_fields (Obj.data_mapFields hd _)),(Obj.cls_mapFields ..).trans hc,by
    rw [Obj.data_mapFields hd]; simp [rawInt]⟩
theorem nextOf_tuple_end {it t:Addr} {i:Nat} {items} {Q:Value -> Shared -> Prop} (hh:A.handled = none)
    (hit:s.heap.IsTupleIter it t i) (ht:s.heap.IsTuple t items) (hx:items[i]? = none)
    (hE:∀ h' e,Heap.ExtBut it s.heap h' -> (∃ o,h'.get? e = some o ∧ o.cls = .type "StopIteration") -> E (.ref e) { s with heap := h' }) :
    wpAny (model prog w) A (Builtin.SmallTypes.nextOf (.ref it)) Q E s := by
  obtain ⟨o,ho,hc,hd⟩ := id hit
  obtain ⟨ol,hol,_,nl,hdl⟩ := ht
  unfold Builtin.SmallTypes.nextOf
  refine wpAny_bind (wpAny_callSpecial?_slot (name := Str.ofString "__next__") hit.typeIs F.slot_tuple_iterator_next
    (wpAny_call_entry F.slot_tuple_iterator_next hit.typeIs F.entry_tuple_iterator_next ?_ (F.args_tuple_iterator_next_1 _)))
  show wpAny _ _ (field (.ref it) 0 >>= _) _ _ s
  refine wpAny_bind (wpAny_field ho hd (x := .ref t) rfl ?_)
  show wpAny _ _ (if (Value.ref t == Value.none) = true then _ else _) _ _ s
  rw [if_neg (show ¬ ((Value.ref t == Value.none) = true) from Bool.false_ne_true)]
  show wpAny _ _ (field (.ref it) 1 >>= _) _ _ s
  refine wpAny_bind (wpAny_field ho hd (x := .int i 0) rfl ?_)
  show wpAny _ _ (seqItems? (.ref t) >>= _) _ _ s
  refine wpAny_bind (wpAny_seqItems hol hdl ?_)
  simp only [Int.toNat_natCast,hx]
  refine wpAny_bind (wpAny_rule (wpAny_bind (wpAny_setField ho hd (by simp) ?_)))
  show wpAny _ _ (newExc (.type "StopIteration") [] >>= _) _ _ _
  refine wpAny_bind ?_
  simp only [newExc,newTuple]
  refine wpAny_bind (wpAny_newObj_type ?_ (by size_fits))
  refine wpAny_bind (m := firstArgMember _ _) (wpAny_of_eq (a := Value.none) (by first | rfl | (simp only [firstArgMember]; rfl)) ?_)
  refine wpAny_newObj_type ?_ (by size_fits)
  refine wpAny_raiseNew_none hh ?_
  exact hE _ _ (((Heap.SameBut.update ..).extBut.push _).push _) ⟨_,Heap.get?_push_size _ rfl,rfl⟩
end
theorem draws_tuple {prog:Program} {w:World} {A:Around} (hh:A.handled = none) (it l:Addr) (hne:l ≠ it) (items:Array Value) :
    Draws prog w A it [it,l] items.size (fun i v=>items[i]? = some v) (fun i h=>h.IsTupleIter it l i ∧ h.IsTuple l items) where
  live := fun _ _ st=>let ⟨o,ho,_⟩ := st.1; ⟨o,ho⟩
  frame := fun _ _ _ st hk=>⟨st.1.at fun o e=>hk it (by simp) o e,st.2.at fun o e=>hk l (by simp) o e⟩
  item := fun i s Q E hi st hQ=>by
    refine nextOf_tuple_item st.1 st.2 (x := items[i]) (by simp [hi]) fun h' hit' hs' => ?_
    exact hQ _ h' s.toks (by simp [hi]) ⟨hit',st.2.extBut hs'.extBut hne⟩ hs'
  done := fun s Q E st hE=>nextOf_tuple_end hh st.1 st.2 (by simp) hE
theorem pure_bool {M:Model} {A:Around} {E:Value -> Shared -> Prop} {Q:Bool -> Shared -> Prop} {s:Shared} {b:Bool} (h0:Q false s) (h1:Q true s):wpAny M A (pure b) Q E s := by
  cases b
  · exact wpAny_pure h0
  · exact wpAny_pure h1
theorem enumerate_newT (l:Addr) (items:Array Value) (n:Nat) (dct:Option Addr) (sl:Array (Option Value)) :
    Meets (Builtin.«enumerate.__new__» ⟨[.type "enumerate",.ref l],[]⟩) (fun _ R s=>s.heap.get? l = some { cls := .type "tuple",dict := dct,data := .seq items n,slots := sl } ∧
      R (.ok (.ret (.ref (s.heap.push { cls := .type "tuple_iterator",data := .fields #[.ref l,.int 0 0] }).objs.size)))
        { s with heap := (s.heap.push { cls := .type "tuple_iterator",data := .fields #[.ref l,.int 0 0] }).push { cls := .type "enumerate",data := .fields #[.none,.bool false,.ref s.heap.objs.size,rawInt 0,.none,.none] } }) :=
  .of_wp fun prog w A R s h=>by
    obtain ⟨hp,g,d,tk,os⟩ := s; obtain ⟨hl,h⟩ := h
    have hsub := sub_enumerate
    have hL:Heap.IsTuple (Shared.heap ⟨hp,g,d,tk,os⟩) l items := ⟨_,hl,rfl,n,rfl⟩
    wp_walk using AutoSeq1.wpAny_loadPart' hl
    refine wpAny_stack_any fun st=>pure_bool ?_ ?_
    · wp_walk using AutoSeq1.wpAny_loadPart' hl,wpAny_pyIter_tuple hL
      exact ⟨_,rfl,h⟩
    · wp_walk using AutoSeq1.wpAny_loadPart' hl,wpAny_pyIter_tuple hL
      exact ⟨_,rfl,h⟩
section
variable {prog:Program} {w:World} {A:Around} {E:Value -> Shared -> Prop} {s:Shared} {h₀:Heap} {L:Addr} {m:Str -> Option Value} {env:Env}
theorem call_enum_tuple {l:Addr} {items:Array Value} {Q:Value -> Shared -> Prop} (hL:s.heap.IsTuple l items)
    (h:∀ h',IsEnum h' (s.heap.objs.size + 1) s.heap.objs.size 0 .none -> h'.IsTupleIter s.heap.objs.size l 0 -> h'.objs.size = s.heap.objs.size + 2 ->
      (∀ b o,s.heap.get? b = some o -> h'.get? b = some o) -> Q (.ref (s.heap.objs.size + 1)) { s with heap := h' }) :
    wpAny (model prog w) A (call (.type "enumerate") [.ref l]) Q E s := by
  obtain ⟨⟨c,dct,dt,sl⟩,hl,hc,n,hd⟩ := hL
  replace hc:c = .type "tuple" := hc
  replace hd:dt = .seq items n := hd
  subst hc hd
  refine callType_new F.called_enumerate (by decide) (F.typeCall_enumerate_1 _) (F.newCall_enumerate_1 _) (fun obj=>F.args_object_init_2 obj _) F.entry_enumerate_new
    (enumerate_newT l items n dct sl) ⟨hl,?_⟩
  have hz:(s.heap.push { cls := .type "tuple_iterator",data := .fields #[.ref l,.int 0 0] }).objs.size = s.heap.objs.size + 1 := Heap.size_push ..
  show _ ∧ _
  rw [hz]
  have he:IsEnum ((s.heap.push { cls := .type "tuple_iterator",data := .fields #[.ref l,.int 0 0] }).push
      { cls := .type "enumerate",data := .fields #[.none,.bool false,.ref s.heap.objs.size,rawInt 0,.none,.none] }) (s.heap.objs.size + 1) s.heap.objs.size 0 .none := by
    have := Heap.get?_push_size (s.heap.push { cls := .type "tuple_iterator",data := .fields #[.ref l,.int 0 0] })
      (o := { cls := .type "enumerate",data := .fields #[.none,.bool false,.ref s.heap.objs.size,rawInt 0,.none,.none] }) rfl
    rw [hz] at this; exact this
  refine ⟨⟨_,he,rfl⟩,h _ he ⟨_,Heap.get?_push_of_some _ (Heap.get?_push_size _ rfl),rfl,rfl⟩ (by rw [Heap.size_push,hz]) fun b o x=>Heap.get?_push_of_some _ (Heap.get?_push_of_some _ x)⟩
theorem psrc_enum {elt:PySem.Expr} {a b:Str} {scope:Scope} {cl:List (Str × Addr)} {Fin:Addr -> Heap -> Nat -> List Value -> List (Addr × Obj) -> Shared -> Prop} {l:Addr} {o:Obj} {items:Array Value} {kk:Nat} {nw:List (Addr × Obj)} (J:Nat -> List Value -> Prop)
    (hh:A.handled = none) (F:Fr h₀ L s.heap m) (N:News h₀ L s.heap nw) (hl:(l,o) ∈ nw) (hc:o.cls = .type "tuple") (hd:o.data = .seq items kk) (hJ:∀ i ys,J i ys -> ys.length ≤ sizeLine) (hJ0:J 0 [])
    (turn:∀ h₁ tk₁,PTurn prog w A h₀ L m env elt a b scope cl { s with heap := h₁,toks := tk₁ } (fun i vals=>∃ t x,items[i]? = some x ∧ vals = #[.int i t,x]) nw J)
    (fin:∀ h₁ tk₁, ∀ D h tk ys,J items.size ys -> (∀ p ∈ nw,p.1 < D) -> Fin D h tk ys nw { s with heap := h₁,toks := tk₁ }) :
    wpAny (model prog w) A (call (.type "enumerate") [.ref l]) (PSrc prog w A h₀ L m env elt a b scope cl Fin) E s := by
  have hm := N _ hl
  have hT:s.heap.IsTuple l items := ⟨_,hm.1,hc,kk,hd⟩
  have hlt:l < s.heap.objs.size := Heap.lt_size hm.1
  refine call_enum_tuple hT fun h' he hit hsz hk=>?_
  have hLlt := F.ns.lt
  have fr := kdx_fresh F (Nat.le_refl s.heap.objs.size)
  have fr1 := kdx_fresh F (Nat.le_succ s.heap.objs.size)
  have D := draws_tuple (prog := prog) (w := w) (A := A.in1) hh s.heap.objs.size l (Nat.ne_of_lt hlt) items
  refine ⟨s.heap.objs.size + 1,_,_,items.size,_,_,_,nw,J,rfl,hh,WalksT.enumerateD D (s.heap.objs.size + 1) (Nat.succ_ne_self _) ?_ (by simp),?_,hJ,?_,?_,?_,?_,⟨⟨_,he⟩,hit,hT.at fun o e=>hk l o e⟩,F.keeps hk,N.grown hk,hJ0,turn _ _,fin _ _⟩
  · simp only [List.mem_cons,List.not_mem_nil,or_false,not_or]
    exact ⟨Nat.succ_ne_self _,Nat.ne_of_gt (Nat.lt_succ_of_lt hlt)⟩
  · rintro i vals ⟨t,x,_,rfl⟩
    exact ⟨_,_,rfl⟩
  · intro b hb
    rcases List.mem_cons.mp hb with rfl | hb
    · exact fr1.2
    · rw [List.mem_singleton.mp hb]; exact fr.2
  · intro p hp hb
    have q:p.1 < s.heap.objs.size := Heap.lt_size (N p hp).1
    rcases List.mem_cons.mp hb with e | hb
    · rw [e] at q; exact absurd q (Nat.not_lt.mpr (Nat.le_succ _))
    · rw [List.mem_singleton.mp hb] at q; exact Nat.lt_irrefl _ q
  · intro hb
    rcases List.mem_cons.mp hb with e | hb
    · rw [e] at hLlt; exact absurd hLlt (Nat.not_lt.mpr (Nat.le_succ _))
    rcases List.mem_cons.mp hb with e | hb
    · rw [e] at hLlt; exact Nat.lt_irrefl _ hLlt
    · exact hm.2.1 (List.mem_singleton.mp hb).symm
  · intro b hb
    show b < h'.objs.size
    rw [hsz]
    rcases List.mem_cons.mp hb with rfl | hb
    · exact Nat.lt_succ_self _
    rcases List.mem_cons.mp hb with rfl | hb
    · exact Nat.lt_succ_of_lt (Nat.lt_succ_self _)
    · rw [List.mem_singleton.mp hb]; exact Nat.lt_succ_of_lt (Nat.lt_succ_of_lt hlt)
theorem psrc_zip {elt:PySem.Expr} {a b:Str} {scope:Scope} {cl:List (Str × Addr)} {Fin:Addr -> Heap -> Nat -> List Value -> List (Addr × Obj) -> Shared -> Prop} {l1 l2:Addr} {xs ys:Array Value} {k1 k2:Nat} {nw:List (Addr × Obj)} (J:Nat -> List Value -> Prop)
    (hh:A.handled = none) (F:Fr h₀ L s.heap m) (N:News h₀ L s.heap nw) (hl1:(l1,W.listOf xs k1) ∈ nw) (hl2:(l2,W.listOf ys k2) ∈ nw) (hJ:∀ i ys,J i ys -> ys.length ≤ sizeLine) (hJ0:J 0 [])
    (turn:∀ h₁ tk₁,PTurn prog w A h₀ L m env elt a b scope cl { s with heap := h₁,toks := tk₁ } (fun i vals=>∃ x y,xs[i]? = some x ∧ ys[i]? = some y ∧ vals = #[x,y]) nw J)
    (fin:∀ h₁ tk₁, ∀ D h tk zs,J (min xs.size ys.size) zs -> (∀ p ∈ nw,p.1 < D) -> Fin D h tk zs nw { s with heap := h₁,toks := tk₁ }) :
    wpAny (model prog w) A (call (.type "zip") [.ref l1,.ref l2]) (PSrc prog w A h₀ L m env elt a b scope cl Fin) E s := by
  have m1 := N _ hl1
  have m2 := N _ hl2
  have L1:s.heap.IsList l1 xs := ⟨_,m1.1,rfl,k1,rfl⟩
  have L2:s.heap.IsList l2 ys := ⟨_,m2.1,rfl,k2,rfl⟩
  have a1:l1 < s.heap.objs.size := Heap.lt_size m1.1
  have a2:l2 < s.heap.objs.size := Heap.lt_size m2.1
  refine call_zip_2 L1 L2 fun h' hz hTI hTO hi1 hi2 hsz hk=>?_
  have hLlt := F.ns.lt
  have fr:∀ j,h₀.get? (s.heap.objs.size + j) = none := fun j=>(kdx_fresh F (Nat.le_add_right _ j)).2
  refine ⟨s.heap.objs.size + 4,_,_,min xs.size ys.size,_,_,_,nw,J,rfl,hh,WalksT.zip2 hh _ _ _ _ _ _ _ (zipApart_new a1 a2) xs ys,?_,hJ,?_,?_,?_,?_,⟨hz,hTI,⟨_,_,hTO⟩,hi1,hi2,Heap.IsList.at L1 (fun o e=>hk _ o e),Heap.IsList.at L2 (fun o e=>hk _ o e)⟩,F.keeps hk,N.grown hk,hJ0,turn _ _,fin _ _⟩
  · rintro i vals ⟨x,y,_,_,rfl⟩
    exact ⟨_,_,rfl⟩
  · intro b hb
    simp only [List.mem_cons,List.not_mem_nil,or_false] at hb
    rcases hb with rfl | rfl | rfl | rfl
    · exact fr 4
    · exact fr 3
    · exact fr 0
    · exact fr 1
  · intro p hp hb
    have q:@LT.lt Nat _ p.1 s.heap.objs.size := Heap.lt_size (N p hp).1
    simp only [List.mem_cons,List.not_mem_nil,or_false] at hb
    rcases hb with e | e | e | e <;> (rw [e] at q; lia)
  · intro hb
    have q:@LT.lt Nat _ L s.heap.objs.size := hLlt
    simp only [List.mem_cons,List.not_mem_nil,or_false] at hb
    rcases hb with e | e | e | e | e | e | e
    · rw [e] at q; lia
    · rw [e] at q; lia
    · rw [e] at q; lia
    · rw [e] at q; lia
    · rw [e] at q; lia
    · exact m1.2.1 e.symm
    · exact m2.2.1 e.symm
  · intro b hb
    show @LT.lt Nat _ b h'.objs.size
    rw [hsz]
    have a1:@LT.lt Nat _ l1 s.heap.objs.size := a1
    have a2:@LT.lt Nat _ l2 s.heap.objs.size := a2
    simp only [List.mem_cons,List.not_mem_nil,or_false] at hb
    rcases hb with rfl | rfl | rfl | rfl | rfl | rfl | rfl <;> lia
end
end Mine
end
section
open PySem PySem.W PyProof.Rows PySem.Spec PySem.Calls
namespace Mine
theorem clampI {x:Int} {n:Nat} (h:0 ≤ x):max 0 (min x (n:Int)) = ((min x.toNat n:Nat):Int) := by
  obtain ⟨i,rfl⟩ := Int.eq_ofNat_of_zero_le h
  rw [Int.toNat_natCast]
  rcases Nat.le_total i n with q | q
  · rw [Nat.min_eq_left q,Int.min_eq_left (Int.ofNat_le.mpr q),Int.max_eq_right h]
  · rw [Nat.min_eq_right q,Int.min_eq_right (Int.ofNat_le.mpr q),Int.max_eq_right (Int.natCast_nonneg n)]
section
variable {prog:Program} {w:World} {A:Around} {E:Value -> Shared -> Prop} {s:Shared} {h₀:Heap} {L l a b:Addr} {m:Str -> Option Value} {news:List (Addr × Obj)} {value slice:PySem.Expr} {vs:List Value} {ns:List Int} {x y:Int} {t u:Tok} {Q:Value -> Shared -> Prop}
theorem isLo {h:Heap} {o:Obj} {k:Nat} (N:News h₀ L h news) (hm:(l,o) ∈ news) (hc:o.cls = .type "list") (hd:o.data = .seq vs.toArray k):h.IsList l vs.toArray := ⟨_,(N _ hm).1,hc,k,hd⟩
theorem pk_upto (F:Fr h₀ L s.heap m) (N:News h₀ L s.heap news) (hl:s.heap.IsList l vs.toArray) (h0:0 ≤ y)
    (h:∀ D h',Fr h₀ L h' m -> News h₀ L h' ((D,PySem.W.listOf (vs.take y.toNat).toArray 0) :: news) -> (∀ p ∈ news,p.1 < D) -> Q (.ref D) { s with heap := h' })
    (hs:subscripted slice false (.ref l) (.ref s.heap.objs.size) = operate [.ref s.heap.objs.size,.ref l] (getItem (.ref l) (.ref s.heap.objs.size))) (ht:∀ r,letTemporaryGo value (.ref l) r = pure ()) (hz:vs.length ≤ sizeLine) :
    wpAny (model prog w) A (subscriptTail value slice (.ref l) (.ref s.heap.objs.size)) Q E { s with heap := s.heap.push { cls := .type "slice",data := .fields #[.none,.int y t,.none] } } := by
  refine kmk_slice F N hl .none (.int _ _) (fun D h' F' N' l1=>h D h' F' ?_ l1) hs ht (by rwa [List.size_toArray])
  have e:sliceBounds none (some y) none vs.toArray.size = (((0:Nat):Int),((min y.toNat vs.toArray.size:Nat):Int),1) := by
    simp only [sliceBounds,Option.getD_none,show (1:Int) > 0 by decide,if_true,if_neg (Int.not_lt.mpr h0)]
    rw [clampI h0]
    rfl
  rw [kmk_pick_nat _ e] at N'
  rw [List.drop_zero,Nat.sub_zero,List.size_toArray,kmk_take_min] at N'
  exact N'
theorem pk_from (F:Fr h₀ L s.heap m) (N:News h₀ L s.heap news) (hl:s.heap.IsList l vs.toArray) (h0:0 ≤ x)
    (h:∀ D h',Fr h₀ L h' m -> News h₀ L h' ((D,PySem.W.listOf (vs.drop x.toNat).toArray 0) :: news) -> (∀ p ∈ news,p.1 < D) -> Q (.ref D) { s with heap := h' })
    (hs:subscripted slice false (.ref l) (.ref s.heap.objs.size) = operate [.ref s.heap.objs.size,.ref l] (getItem (.ref l) (.ref s.heap.objs.size))) (ht:∀ r,letTemporaryGo value (.ref l) r = pure ()) (hz:vs.length ≤ sizeLine) :
    wpAny (model prog w) A (subscriptTail value slice (.ref l) (.ref s.heap.objs.size)) Q E { s with heap := s.heap.push { cls := .type "slice",data := .fields #[.int x t,.none,.none] } } := by
  refine kmk_slice F N hl (.int _ _) .none (fun D h' F' N' l1=>h D h' F' ?_ l1) hs ht (by rwa [List.size_toArray])
  have e:sliceBounds (some x) none none vs.toArray.size = (((min x.toNat vs.toArray.size:Nat):Int),((vs.toArray.size:Nat):Int),1) := by
    simp only [sliceBounds,Option.getD_none,show (1:Int) > 0 by decide,if_true,if_neg (Int.not_lt.mpr h0)]
    rw [clampI h0]
  rw [kmk_pick_nat _ e] at N'
  rw [List.size_toArray,kmk_drop_min,List.take_of_length_le (by rw [List.length_drop]; exact Nat.sub_le_sub_left (Nat.min_le_left _ _) _)] at N'
  exact N'
theorem pk_mod {n:Int} {c:Nat} (hc:0 < c) (h:∀ (k:Int) t' tk,k = Int.fmod n (c:Int) -> 0 ≤ k -> k < c -> Q (.int k t') { s with toks := tk }) :
    wpAny (model prog w) A (binaryOp .Mod (.int n t) (.int (c:Int) u)) Q E s :=
  mod_int (by simp; lia) (h _ _ _ rfl (Int.fmod_nonneg_of_pos _ (Int.natCast_pos.mpr hc)) (Int.fmod_lt_of_pos _ (Int.natCast_pos.mpr hc)))
end
noncomputable def pickG {α:Type} (d:α):List α -> Nat -> List Int -> List α
  | _,_,[]=>[]
  | ns,c,k :: r=>ns.getD (Int.fmod k (c:Int)).toNat d :: pickG d (ns.eraseIdx (Int.fmod k (c:Int)).toNat) (c - 1) r
theorem pickG_cons {α:Type} {d:α} {ns:List α} {c:Nat} {k:Int} {r:List Int} : pickG d ns c (k :: r) = ns.getD (Int.fmod k (c:Int)).toNat d :: pickG d (ns.eraseIdx (Int.fmod k (c:Int)).toNat) (c - 1) r := rfl
theorem pickG_nil {α:Type} {d:α} {ns:List α} {c:Nat} : pickG d ns c [] = [] := rfl
theorem idx_lt {k:Int} {c:Nat} (hc:0 < c):(Int.fmod k (c:Int)).toNat < c :=
  (Int.toNat_lt (Int.fmod_nonneg_of_pos k (Int.natCast_pos.mpr hc))).mpr (Int.fmod_lt_of_pos k (Int.natCast_pos.mpr hc))
theorem pickG_rel {α β:Type} {d:α} {e:β} {R:List α -> List β -> Prop} (h0:R [] []) (hc:∀ {vs ns as bs},R vs ns -> ∀ q,q < ns.length -> R as bs -> R (vs.getD q d :: as) (ns.getD q e :: bs))
    (he:∀ {vs ns},R vs ns -> ∀ q,R (vs.eraseIdx q) (ns.eraseIdx q)) (ks:List Int):∀ {vs:List α} {ns:List β} {c:Nat},R vs ns -> ns.length = c -> ks.length ≤ c -> R (pickG d vs c ks) (pickG e ns c ks) := by
  induction ks with
  | nil=>exact fun _ _ _=>h0
  | cons k r ih =>
    intro vs ns c h hl hk
    have hq := idx_lt (k := k) (Nat.lt_of_lt_of_le (Nat.succ_pos _) hk)
    rw [← hl] at hq
    exact hc h _ (by rw [hl] at hq ⊢; exact hq) (ih (he h _) (by rw [List.length_eraseIdx,if_pos (by rw [← hl]; exact hq),hl]) (Nat.le_pred_of_lt hk))
noncomputable abbrev pickI:List Int -> Nat -> List Int -> List Int := pickG 0
end Mine
end
section
open PySem PySem.W PyProof.Rows PySem.Spec PySem.Calls
namespace Mine
theorem strs_drop:∀ {vs:List Value} {ss:List Str},StrsAre vs ss -> ∀ k:Nat,StrsAre (vs.drop k) (ss.drop k) := fun h k=>by
  induction h generalizing k with
  | nil=>rw [List.drop_nil,List.drop_nil]; exact .nil
  | cons x t r ih=>cases k with
    | zero=>exact .cons x t r
    | succ k=>exact ih k
theorem strs_take:∀ {vs:List Value} {ss:List Str},StrsAre vs ss -> ∀ k:Nat,StrsAre (vs.take k) (ss.take k) := fun h k=>by
  induction h generalizing k with
  | nil=>rw [List.take_nil,List.take_nil]; exact .nil
  | cons x t r ih=>cases k with
    | zero=>exact .nil
    | succ k=>exact .cons x t (ih k)
theorem strs_app:∀ {vs ws:List Value} {ss ts:List Str},StrsAre vs ss -> StrsAre ws ts -> StrsAre (vs ++ ws) (ss ++ ts) := fun g h=>by
  induction g with
  | nil=>exact h
  | cons x t _ ih=>exact .cons x t ih
section
variable {prog:Program} {w:World} {A:Around} {E:Value -> Shared -> Prop} {s:Shared} {h₀:Heap} {L l a b:Addr} {m:Str -> Option Value} {news:List (Addr × Obj)} {value slice:PySem.Expr} {vs:List Value} {xs:List Str} {x y:Int} {t u:Tok} {Q:Value -> Shared -> Prop}
theorem pk_sortS (F:Fr h₀ L s.heap m) (N:News h₀ L s.heap news) (hl:s.heap.IsList l vs.toArray) (hS:StrsAre vs xs) (h64:vs.length < 64)
    (h:∀ (D:Addr) (h':Heap) (vs':List Value) (ss':List Str) (e:Nat),Fr h₀ L h' m -> News h₀ L h' ((D,PySem.W.listOf vs'.toArray e) :: news) -> (∀ p ∈ news,p.1 < D) -> StrsAre vs' ss' -> ss'.Perm xs -> sortedS ss' = true -> Q (.ref D) { s with heap := h' }) :
    wpAny (model prog w) A (call (.builtin "sorted") [.ref l]) Q E s :=
  sorted_N_str F N hl hS h64 fun h' vs' ss' e F' N' a b c=>h _ h' vs' ss' e F' N' (fun p hp=>Nat.lt_succ_of_lt (Heap.lt_size (N p hp).1)) a b c
end
noncomputable abbrev pickS:List Str -> Nat -> List Int -> List Str := pickG .empty
end Mine
end
section
open PySem PySem.W PyProof.Rows PySem.Spec PySem.Calls
namespace Mine
theorem ints_pick {vs:List Value} {ns:List Int} (h:IntsAre vs ns):∀ idx:List Nat, ∃ ms,IntsAre (idx.filterMap (vs.toArray[·]?)) ms
  | []=>⟨[],.nil⟩
  | i :: r=>by
    obtain ⟨ms,hm⟩ := ints_pick h r
    cases e:vs.toArray[i]? with
    | none=>exact ⟨ms,by rw [List.filterMap_cons_none e]; exact hm⟩
    | some v =>
      obtain ⟨n,t,rfl,_⟩ := h.at i v (by simpa using e)
      exact ⟨n :: ms,by rw [List.filterMap_cons_some e]; exact .cons _ _ hm⟩
section
variable {prog:Program} {w:World} {A:Around} {E:Value -> Shared -> Prop} {s:Shared} {h₀:Heap} {L l:Addr} {m:Str -> Option Value} {news:List (Addr × Obj)} {value slice:PySem.Expr} {vs:List Value} {ns:List Int} {x:Int} {t u:Tok} {ops:List Value} {Q:Value -> Shared -> Prop}
theorem step_slice (F:Fr h₀ L s.heap m) (N:News h₀ L s.heap news) (hl:s.heap.IsList l vs.toArray) (hi:IntsAre vs ns) (hz:vs.length ≤ sizeLine)
    (h:∀ D ws ms h',Fr h₀ L h' m -> News h₀ L h' ((D,PySem.W.listOf (List.toArray ws) 0) :: news) -> (∀ p ∈ news,p.1 < D) -> IntsAre ws ms -> Q (.ref D) { s with heap := h' })
    (hs:subscripted slice false (.ref l) (.ref s.heap.objs.size) = operate ops (getItem (.ref l) (.ref s.heap.objs.size))) (ht:∀ r,letTemporaryGo value (.ref l) r = pure ()) :
    wpAny (model prog w) A (subscriptTail value slice (.ref l) (.ref s.heap.objs.size)) Q E { s with heap := s.heap.push { cls := .type "slice",data := .fields #[.int x t,.none,.int 9 u] } } := by
  obtain ⟨ms,hm⟩ := ints_pick hi (sliceRange (sliceBounds (some x) none (some 9) vs.toArray.size).1 (sliceBounds (some x) none (some 9) vs.toArray.size).2.1 (sliceBounds (some x) none (some 9) vs.toArray.size).2.2)
  exact kmk_slice3_lit F N hl (.int _ _) .none (.int _ _) (by decide) rfl (fun D h' F' N' l1=>h D _ ms h' F' N' l1 (by simpa [slicePick] using hm)) hs ht (by rwa [List.size_toArray])
end
theorem bases_at {i:Nat} {x:Value} {t0 t1 t2 t3 t4 t5 t6 t7 t8:Tok} (h:(#[.int 1150 t0,.int 0 t1,.int 20 t2,.int 33 t3,.int 7 t4,.int 11 t5,.int 17 t6,.int 0 t7,.int 5 t8]:Array Value)[i]? = some x):i < 9 ∧ ∃ b t,x = .int b t ∧ 0 ≤ b ∧ b ≤ 1150 := by
  have hi:i < 9 := by
    by_cases h9:i < 9
    · exact h9
    · rw [Array.getElem?_eq_none (by simpa using h9)] at h; cases h
  refine ⟨hi,?_⟩
  have hs:IntsAre [.int 1150 t0,.int 0 t1,.int 20 t2,.int 33 t3,.int 7 t4,.int 11 t5,.int 17 t6,.int 0 t7,.int 5 t8] [1150,0,20,33,7,11,17,0,5] := .cons _ _ (.cons _ _ (.cons _ _ (.cons _ _ (.cons _ _ (.cons _ _ (.cons _ _ (.cons _ _ (.cons _ _ .nil))))))))
  obtain ⟨n,t,e1,e2⟩ := hs.at i x (by simpa using h)
  refine ⟨n,t,e1,?_⟩
  have := List.mem_of_getElem? e2
  simp only [List.mem_cons,List.not_mem_nil,or_false] at this
  rcases this with rfl | rfl | rfl | rfl | rfl | rfl | rfl | rfl | rfl <;> decide
inductive Nine:List Value -> List Int -> Prop
  | mk (c0 c1 c2 c3 c4 c5 c6 c7 c8:Int) (t0 t1 t2 t3 t4 t5 t6 t7 t8:Tok):Nine [.int c0 t0,.int c1 t1,.int c2 t2,.int c3 t3,.int c4 t4,.int c5 t5,.int c6 t6,.int c7 t7,.int c8 t8] [c0,c1,c2,c3,c4,c5,c6,c7,c8]
theorem ic {C:List Value -> List Int -> Prop} {k:Nat} {ys:List Value} {ns:List Int} (h:IntsAre ys ns) (hl:ys.length = k + 1) (f:∀ (c:Int) (t:Tok) (ys:List Value) (ns:List Int),IntsAre ys ns -> ys.length = k -> C (.int c t :: ys) (c :: ns)):C ys ns := by
  cases h with
  | nil=>cases hl
  | cons c t r=>exact f c t _ _ r (Nat.succ.inj hl)
theorem nine {ys:List Value} {ns:List Int} (h:IntsAre ys ns) (hl:ys.length = 9):Nine ys ns := by
  refine ic (C := fun a b=>Nine (a) (b)) h hl fun c0 t0 y0 n0 h0 l0=>?_
  clear h hl
  refine ic (C := fun a b=>Nine (.int c0 t0 :: a) (c0 :: b)) h0 l0 fun c1 t1 y1 n1 h1 l1=>?_
  clear h0 l0
  refine ic (C := fun a b=>Nine (.int c0 t0 :: .int c1 t1 :: a) (c0 :: c1 :: b)) h1 l1 fun c2 t2 y2 n2 h2 l2=>?_
  clear h1 l1
  refine ic (C := fun a b=>Nine (.int c0 t0 :: .int c1 t1 :: .int c2 t2 :: a) (c0 :: c1 :: c2 :: b)) h2 l2 fun c3 t3 y3 n3 h3 l3=>?_
  clear h2 l2
  refine ic (C := fun a b=>Nine (.int c0 t0 :: .int c1 t1 :: .int c2 t2 :: .int c3 t3 :: a) (c0 :: c1 :: c2 :: c3 :: b)) h3 l3 fun c4 t4 y4 n4 h4 l4=>?_
  clear h3 l3
  refine ic (C := fun a b=>Nine (.int c0 t0 :: .int c1 t1 :: .int c2 t2 :: .int c3 t3 :: .int c4 t4 :: a) (c0 :: c1 :: c2 :: c3 :: c4 :: b)) h4 l4 fun c5 t5 y5 n5 h5 l5=>?_
  clear h4 l4
  refine ic (C := fun a b=>Nine (.int c0 t0 :: .int c1 t1 :: .int c2 t2 :: .int c3 t3 :: .int c4 t4 :: .int c5 t5 :: a) (c0 :: c1 :: c2 :: c3 :: c4 :: c5 :: b)) h5 l5 fun c6 t6 y6 n6 h6 l6=>?_
  clear h5 l5
  refine ic (C := fun a b=>Nine (.int c0 t0 :: .int c1 t1 :: .int c2 t2 :: .int c3 t3 :: .int c4 t4 :: .int c5 t5 :: .int c6 t6 :: a) (c0 :: c1 :: c2 :: c3 :: c4 :: c5 :: c6 :: b)) h6 l6 fun c7 t7 y7 n7 h7 l7=>?_
  clear h6 l6
  refine ic (C := fun a b=>Nine (.int c0 t0 :: .int c1 t1 :: .int c2 t2 :: .int c3 t3 :: .int c4 t4 :: .int c5 t5 :: .int c6 t6 :: .int c7 t7 :: a) (c0 :: c1 :: c2 :: c3 :: c4 :: c5 :: c6 :: c7 :: b)) h7 l7 fun c8 t8 y8 n8 h8 l8=>?_
  clear h7 l7
  cases h8 with
  | nil=>exact .mk ..
  | cons=>cases l8
end Mine
end
section
open PySem PySem.W PyProof.Rows PySem.Spec PySem.Calls
namespace Mine
theorem kn_postG {M:Model} {A:Around} {cd:Code} {s s₁:Shared} {cw:ClaimW} {cl:Str -> Option Addr} {mean:ExcName -> Option Value} {args:List WData} {tabs:List (Addr × Addr)} (hT:TabsAt tabs s₁.heap) (hr:∀ a x,cw.raises a x = false)
    (h:codeAny M A cd (fun r s' => (GoodW cw cl mean args { s₁ with heap := ghostOf s₁.heap tabs } r { s' with gens := #[] } ∧ AllBare s'.gens) ∧ GrownAll tabs s'.heap) s):codeAny M A cd (GoodWG cw cl mean args s₁) s :=
  codeAny_mono h fun r s' q=>by
    obtain ⟨⟨⟨hc,hk,hos,_⟩,hg⟩,hgr⟩ := q
    have keep:∀ b o,b ∉ tabs.map (·.2) -> s₁.heap.get? b = some o -> s'.heap.get? b = some o := fun b o hb e=>hk b o (ghost_ne e hb)
    have grown:∀ b o,b ∈ tabs.map (·.2) -> s₁.heap.get? b = some o -> isCodeTable s₁.heap b ∧ o = tabObj #[] ∧ ∃ ps,s'.heap.get? b = some (tabObj ps) := fun b o hb e=>by
      obtain ⟨q,hq,rfl⟩ := List.mem_map.mp hb
      have e2 := (hT q hq).2
      rw [e] at e2
      exact ⟨((hT q hq).1.tab (hT q hq).2).isCodeTable,Option.some.inj e2,hgr.get q hq⟩
    refine ⟨?_,⟨fun b o e=>?_,fun b o e=>?_⟩,hos,hg⟩
    · rcases hc with ⟨v,d,as,r1,r2,r3,r4,r5⟩ | ⟨e,ob,x,_,_,_,r4,_⟩
      · refine .inl ⟨v,d,as,r1,r2,r3,r4,fun q=>⟨(r5 q).1,fun a ha=>?_⟩⟩
        cases q1:s₁.heap.get? a with
        | none=>rfl
        | some o =>
          by_cases hb:a ∈ tabs.map (·.2)
          · obtain ⟨_,_,ps,hP⟩ := grown a o hb q1
            exact absurd ha (readsW_apart hP rfl r3)
          · have e3 := (r5 q).2 a ha
            rw [show (ghostOf s₁.heap tabs).get? a = some o from ghost_ne q1 hb] at e3
            cases e3
      · rw [hr] at r4; cases r4
    · by_cases hb:b ∈ tabs.map (·.2)
      · obtain ⟨ht,rfl,ps,hP⟩ := grown b o hb e
        exact .inr (.inl ⟨ht,rfl,#[],ps,rfl,by rw [Array.empty_append]; exact hP⟩)
      · exact .inl (keep b o hb e)
    · by_cases hb:b ∈ tabs.map (·.2)
      · obtain ⟨_,_,ps,hP⟩ := grown b o hb e
        exact ⟨_,hP⟩
      · exact ⟨o,keep b o hb e⟩
noncomputable def AllGt (x:Nat):List Nat -> Prop
  | []=>True
  | y :: r=>x < y ∧ AllGt x r
noncomputable def AscL:List Nat -> Prop
  | []=>True
  | x :: r=>AllGt x r ∧ AscL r
noncomputable def ChainL:Nat -> List Nat -> Prop
  | _,[]=>True
  | x,[y]=>x < y
  | x,y :: z :: r=>x < y ∧ ChainL y (z :: r)
theorem allGt_le {x y:Nat} (h:x < y):∀ {l:List Nat},AllGt y l -> AllGt x l
  | [],_=>trivial
  | _ :: _,g=>⟨Nat.lt_trans h g.1,allGt_le h g.2⟩
theorem asc_of:∀ {l:List Nat} {x:Nat},ChainL x l -> AscL (x :: l)
  | [],_,_=>⟨trivial,trivial⟩
  | [_],_,h=>⟨⟨h,trivial⟩,trivial,trivial⟩
  | _ :: _ :: _,_,h=>have g := asc_of h.2; ⟨⟨h.1,allGt_le h.1 g.1⟩,g⟩
theorem aL {pXX qXX:Prop} (h:pXX ∧ qXX):pXX := h.1
theorem aR {pXX qXX:Prop} (h:pXX ∧ qXX):qXX := h.2
theorem nG {a b:Nat} (h:b < a := by lks_lit):a ≠ b := Nat.ne_of_gt h
theorem nG1 {a b:Nat} (h:b < a := by lks_lit):a + 1 ≠ b := Nat.ne_of_gt (Nat.lt_succ_of_lt h)
theorem nG2 {a b:Nat} (h:b < a := by lks_lit):a + 1 + 1 ≠ b := Nat.ne_of_gt (Nat.lt_succ_of_lt (Nat.lt_succ_of_lt h))
theorem nL {a b:Nat} (h:a < b := by lks_lit):a ≠ b := Nat.ne_of_lt h
theorem nS {a b:Nat} (h:b ≠ a := by with_reducible assumption):a ≠ b := Ne.symm h
theorem le_p {a b:Nat} (h:a < b := by kpa_ne):a ≤ b := Nat.le_of_lt h
theorem ml1 {α:Type} {a:α} {l r:List α} (h:a ∈ l := by assumption):a ∈ l ++ r := List.mem_append_left _ h
theorem ml2 {α:Type} {a:α} {l r u:List α} (h:a ∈ l := by assumption):a ∈ l ++ r ++ u := List.mem_append_left _ (List.mem_append_left _ h)
theorem off_lt {d e:Addr} {l:List (Addr × Obj)} (g:AllLt d l) (h:d ≤ e):∀ p ∈ l,p.1 ≠ e := fun p hp=>Nat.ne_of_lt (Nat.lt_of_lt_of_le (kst_ltOf g p hp) h)
theorem off_ltA {d e:Addr} {l:List (Addr × Obj)} (g:AllLt d l := by assumption) (h:d ≤ e := by first | exact Nat.le_refl _ | exact le_p | lia):∀ p ∈ l,p.1 ≠ e := off_lt g h
noncomputable def nthL {α:Type} : List α -> Nat -> List α -> List α
  | [],_,r=>r
  | x :: _,0,r=>x :: r
  | _ :: l,n + 1,r=>nthL l n r
noncomputable def dropL {α:Type} : Nat -> List α -> List α
  | 0,l=>l
  | _ + 1,[]=>[]
  | n + 1,_ :: l=>dropL n l
noncomputable def pickL {α:Type} (n:Nat) (l:List α):List Nat -> List α
  | []=>dropL n l
  | i :: is=>nthL l i (pickL n l is)
theorem nthL_mem {α:Type} {p:α} : ∀ (l:List α) (n:Nat) {r:List α},p ∈ nthL l n r -> p ∈ l ∨ p ∈ r
  | [],_,_,h=>.inr h
  | _ :: _,0,_,h=>by
    rcases List.mem_cons.mp h with rfl | h
    · exact .inl (.head _)
    · exact .inr h
  | _ :: l,n + 1,_,h=>(nthL_mem l n h).imp (.tail _) id
theorem dropL_mem {α:Type} {p:α} : ∀ (n:Nat) (l:List α),p ∈ dropL n l -> p ∈ l
  | 0,_,h=>h
  | _ + 1,[],h=>h
  | n + 1,_ :: l,h=>.tail _ (dropL_mem n l h)
theorem pickL_mem {α:Type} {p:α} {n:Nat} {l:List α} : ∀ is:List Nat,p ∈ pickL n l is -> p ∈ l
  | [],h=>dropL_mem n l h
  | i :: is,h=>(nthL_mem l i h).elim id (pickL_mem is)
theorem news_pick {h₀ h:Heap} {L:Addr} {l:List (Addr × Obj)} (n:Nat) (is:List Nat) (N:News h₀ L h l):News h₀ L h (pickL n l is) := fun p hp=>N p (pickL_mem is hp)
noncomputable abbrev Lx1 (L:Nat):Nat := L + 1
noncomputable abbrev Lx2 (L:Nat):Nat := L + 1 + 1
noncomputable abbrev Lx3 (L:Nat):Nat := L + 1 + 1 + 1
noncomputable abbrev Lx4 (L:Nat):Nat := L + 1 + 1 + 1 + 1
noncomputable abbrev Lx5 (L:Nat):Nat := L + 1 + 1 + 1 + 1 + 1
noncomputable abbrev Lx6 (L:Nat):Nat := L + 1 + 1 + 1 + 1 + 1 + 1
noncomputable abbrev Lx7 (L:Nat):Nat := L + 1 + 1 + 1 + 1 + 1 + 1 + 1
theorem room_le {x a c:Nat} (h:x + a < c) (b:Nat) (hb:b ≤ a):x + b < c := Nat.lt_of_le_of_lt (Nat.add_le_add_left hb x) h
theorem lx_lt {L x:Nat} (h:Lx7 L < x):Lx6 L < x ∧ Lx5 L < x ∧ Lx4 L < x ∧ Lx3 L < x ∧ Lx2 L < x ∧ Lx1 L < x ∧ L < x ∧ True := by
  have h6 := Nat.lt_of_succ_lt h
  have h5 := Nat.lt_of_succ_lt h6
  have h4 := Nat.lt_of_succ_lt h5
  have h3 := Nat.lt_of_succ_lt h4
  have h2 := Nat.lt_of_succ_lt h3
  have h1 := Nat.lt_of_succ_lt h2
  exact ⟨h6,h5,h4,h3,h2,h1,Nat.lt_of_succ_lt h1,trivial⟩
theorem all_nil {α:Type} {p:α -> Prop} : ∀ x ∈ ([]:List α),p x := fun _ h=>nomatch h
theorem all_cons {α:Type} {p:α -> Prop} {a:α} {l:List α} (h:p a) (r:∀ x ∈ l,p x):∀ x ∈ a :: l,p x := fun x hx=>by
  cases hx with
  | head=>exact h
  | tail _ hx=>exact r x hx
theorem k_filled_C5:Uses PySem.Challenge.rw_ti0079_01 KF := by
  k_fill
  exact True.intro
noncomputable def rpB (x y z:Str):Bool := decide (x.length + (x.length + 1) * z.length ≤ 16777216) && (!(y == z) && (!(Builtin.Str.occurrences x y 0 x.length 1).isEmpty || decide (Txt.replace x y z = x)))
noncomputable def escOk:List (Str × Str) -> Str -> Str -> Bool
  | [],x,ev=>x == ev
  | (y,z) :: r,x,ev=>rpB x y z && escOk r (Txt.replace x y z) ev
theorem esc_step {y z x ev:Str} {r:List (Str × Str)} (h:escOk ((y,z) :: r) x ev = true):rpB x y z = true ∧ escOk r (Txt.replace x y z) ev = true := Bool.and_eq_true_iff.mp h
theorem rp_len {x y z:Str} (h:rpB x y z = true):x.length + (x.length + 1) * z.length ≤ 16777216 := of_decide_eq_true (Bool.and_eq_true_iff.mp h).1
theorem rp_ne {x y z:Str} (h:rpB x y z = true):(y == z) = false := Bool.not_eq_true' _ |>.mp (Bool.and_eq_true_iff.mp (Bool.and_eq_true_iff.mp h).2).1
theorem rp_same {x y z:Str} (h:rpB x y z = true) (e:(Builtin.Str.occurrences x y 0 x.length 1).isEmpty = true):Txt.replace x y z = x := by
  have h := (Bool.and_eq_true_iff.mp (Bool.and_eq_true_iff.mp h).2).2
  rw [e] at h
  exact of_decide_eq_true h
theorem text_if {prog:Program} {w:World} {p:Program} {loose:List Str} {mean:ExcName -> Option Value} {mg mb:Str -> Option Value} {A:Around} {cn:Str} {cs:Scope} {a:Addr} {ccd:Value} {h₀:Heap} {L:Addr} {m:Str -> Option Value} {news:List (Addr × Obj)} {s:Shared} {Q:Flow -> Shared -> Prop} {E:Value -> Shared -> Prop}
    {x y z:Str} {t:Tok} {k1 k2 k3:Nat} {p1 p2 p3 p4 p5 p6 p7 p8 p9 p10 p11:Pos} (hr:rpB x y z = true) (h0:0 < s.toks)
    (h:∀ mm t' h' tk',mm (.ofString "text") = some (.str (Txt.replace x y z) t') -> 0 < tk' -> Fr h₀ L h' mm -> News h₀ L h' news -> Q .next { s with heap := h',toks := tk' })
    (hm:m (.ofString "text") = some (.str x t)) (F:Fr h₀ L s.heap m) (X:(KF w.params).In h₀) (N:News h₀ L s.heap news) (T:Top p loose mean mg mb h₀) (hk:cs.kind = .function) (hx:(envOf cn cs L a ccd).kindOf (.ofString "text") = some .local) {pl:Sem Bool}
    (he:eval (.Call (.Attribute (.Name (.ofString "text") p5) (.ofString "replace") p6) [.Constant (.str y) k2 p7,.Constant (.str z) k3 p8] [] p9) (envOf cn cs L a ccd) = (do let ov ← eval (.Name (.ofString "text") p5) (envOf cn cs L a ccd); standAt p6.atName; let (f,first) ← holding [ov] (getMethod ov (.ofString "replace") pl); callWith p9 f first (backTo p9 (starEach [.Constant (.str y) k2 p7,.Constant (.str z) k3 p8] (envOf cn cs L a ccd))) [])) :
    wpAny (model prog w) A (exec (.If (.Compare (.Constant (.str y) k1 p1) [.In] [.Name (.ofString "text") p2] p3) [.Assign [.Name (.ofString "text") p4] (.Call (.Attribute (.Name (.ofString "text") p5) (.ofString "replace") p6) [.Constant (.str y) k2 p7,.Constant (.str z) k3 p8] [] p9) p10] [] p11) (envOf cn cs L a ccd)) Q E s := by
  refine wpAny_If (wpAny_isTrue_Compare1 (Constant_str (nameX_L F hm (in_str (wpAny_truthy_bool ?_)) hk hx)))
  cases e:(Builtin.Str.occurrences x y 0 x.length 1).isEmpty with
  | true=>exact wpAny_execs_nil (h m t _ _ (by rw [rp_same hr e]; exact hm) (Nat.succ_pos _) F N)
  | false =>
    refine wpAny_execs_cons (wpAny_Assign_Name ?_)
    refine MethodCall_ (nameX_L F hm (GM.replace ?_) hk hx) he
    refine callWith_method1 (spliced_more (Constant_str (spliced_more (Constant_str (spliced_none ?_)))))
    refine SC.replace (Nat.succ_ne_zero _) (Nat.succ_ne_zero _) (Nat.ne_of_lt (Nat.lt_succ_self _)) (rp_ne hr) (rp_len hr) fun t9 k9=>?_
    refine storeX_L F N (fun h' F' N' => ?_) hk hx
    exact wpAny_execs_nil (h _ t9 h' _ (if_pos rfl) (Nat.succ_pos _) F' N')
end Mine
end
section
open PySem PySem.W PyProof.Rows PySem.Spec PySem.Calls
namespace Mine
theorem foldAll {M:Model} {A:Around} {env:Env} {b:List Stmt} {Q:Flow -> Shared -> Prop} {E:Value -> Shared -> Prop} {s:Shared} {h₀ h:Heap} {L:Addr} {m:Str -> Option Value} (F:Fr h₀ L h m) (k:let A9 := A; let e9 := env; let m9 := m; Fr h₀ L h m9 -> wpAny M A9 (execs b e9) Q E s):wpAny M A (execs b env) Q E s := k F
theorem foldEM {M:Model} {A:Around} {env:Env} {b:List Stmt} {Q:Flow -> Shared -> Prop} {E:Value -> Shared -> Prop} {s:Shared} {h₀ h:Heap} {L:Addr} {m:Str -> Option Value} (F:Fr h₀ L h m) (k:let e9 := env; let m9 := m; Fr h₀ L h m9 -> wpAny M A (execs b e9) Q E s):wpAny M A (execs b env) Q E s := k F
noncomputable def okL (cs:Scope) (x:Str):Bool := decide (cs.kind = .function) && (decide (cs.names.lookup x = some .local) && !(x == ("__debug__" : Str)))
section
variable {M:Model} {A:Around} {E:Value -> Shared -> Prop} {s:Shared} {h₀:Heap} {L a:Addr} {m:Str -> Option Value} {cn:Str} {cs:Scope} {ccd:Value} {cl:List (Str × Addr)} {x:Str} {v:Value}
theorem nameX_E {Q:Value -> Shared -> Prop} {pos:Pos} (h:Q v s) (F:Fr h₀ L s.heap m := by k_asm) (hv:m x = some v := by rfl) (ok:okL cs x = true := by exact Eq.refl true):wpAny M A (eval (.Name x pos) (envX cn cs L a ccd cl)) Q E s :=
  have o := Bool.and_eq_true_iff.mp ok
  have o2 := Bool.and_eq_true_iff.mp o.2
  nameX_L F hv h (of_decide_eq_true o.1) (of_decide_eq_true o2.1) (Bool.not_eq_true' _ |>.mp o2.2)
theorem storeX_A {Q:Unit -> Shared -> Prop} {news:List (Addr × Obj)}
    (k:let m9 := fun y=>if y = x then some v else m y; ∀ h',Fr h₀ L h' m9 -> News h₀ L h' news -> Q () { s with heap := h',toks := s.toks + 1 }) (F:Fr h₀ L s.heap m := by k_asm) (N:News h₀ L s.heap news := by k_asm) (ok:okL cs x = true := by exact Eq.refl true):wpAny M A (storeName (envX cn cs L a ccd cl) x v) Q E s :=
  have o := Bool.and_eq_true_iff.mp ok
  storeX_L F N k (of_decide_eq_true o.1) (of_decide_eq_true (Bool.and_eq_true_iff.mp o.2).1)
end
end Mine
end
local macro_rules | `(tactic| k_room)=>`(tactic| ktr_room)
section
open PySem PySem.W PyProof.Rows PySem.Spec PySem.Calls
namespace Mine
noncomputable def escTab:List (Str × Str) := [(.ofString "&",.ofString "&amp;"),(.ofString "<",.ofString "&lt;"),(.ofString "\"",.ofString "&quot;"),(.ofString "\t", .ofString "&#x9;"), (.ofString "\n", .ofString "&#xA;"), (.ofString "\r", .ofString "&#xD;"), (.ofString ">", .ofString ">")]
noncomputable def escs:List (Str × Str) := [(.ofString "&",.ofString "&amp;"),(.ofString "<",.ofString "&lt;"),(.ofString "\"",.ofString "&quot;"),(.ofString "\t", .ofString "&#x9;"), (.ofString "\n", .ofString "&#xA;"), (.ofString "\r", .ofString "&#xD;")]
theorem c_escape
    (B:Below A₀ base outer h₀) (F:Fr h₀ L s.heap m) (X:(KF w.params).In h₀) (N:News h₀ L s.heap news) (T:Top p loose mean mg mb h₀) (hk:cs.kind = .function) (hd:dp + 12 < recursionLimit) (hu:un + 60 < cLine)
    (v ev:Str) (t:Tok) (hv:(v,ev) ∈ escTab)
    (hret:∀ (t:Tok) (h':Heap) (tk':Nat),Fr h₀ L h' m -> News h₀ L h' news -> Q (.str ev t) { s with heap := h',toks := tk' }) :
    wpAny (model prog w) (ktrTop dp un gd cn cs L a ccd cl outer) (call (.ref 168) [.str v t]) Q E s := by
  have he := List.all_eq_true.mp (show (escTab.all fun q=>escOk escs q.1 q.2) = true by decide +kernel) _ hv
  w_on
  refine wpAny_call ?_
  k_dflt cell_enter
  (rename Fr _ _ _ (fun _=>_)=>F0); refine foldAll F0 ?_; clear F0; intro A9 e9 m9 F0
  walk1
  walk1
  k_fold
  refine gen_toks (Nat.succ_pos _) fun k0 p0=>?_
  (rename Fr _ _ _ (fun _=>_)=>F0)
  (rename News _ _ _ _=>N0)
  (rename Frag.In _ _=>X0)
  (rename Top _ _ _ _ _ _=>T0)
  refine wpAny_execs_cons (text_if (esc_step he).1 p0 (fun m1 t1 h1 k1 e1 p1 F1 N1=>?_) rfl F0 X0 N0 T0 rfl rfl rfl)
  refine wpAny_execs_cons (text_if (esc_step (esc_step he).2).1 p1 (fun m2 t2 h2 k2 e2 p2 F2 N2=>?_) e1 F1 X0 N1 T0 rfl rfl rfl)
  clear F1 N1
  refine wpAny_execs_cons (text_if (esc_step (esc_step (esc_step he).2).2).1 p2 (fun m3 t3 h3 k3 e3 p3 F3 N3=>?_) e2 F2 X0 N2 T0 rfl rfl rfl)
  clear F2 N2
  refine wpAny_execs_cons (text_if (esc_step (esc_step (esc_step (esc_step he).2).2).2).1 p3 (fun m4 t4 h4 k4 e4 p4 F4 N4=>?_) e3 F3 X0 N3 T0 rfl rfl rfl)
  clear F3 N3
  refine wpAny_execs_cons (text_if (esc_step (esc_step (esc_step (esc_step (esc_step he).2).2).2).2).1 p4 (fun m5 t5 h5 k5 e5 p5 F5 N5=>?_) e4 F4 X0 N4 T0 rfl rfl rfl)
  clear F4 N4
  refine wpAny_execs_cons (text_if (esc_step (esc_step (esc_step (esc_step (esc_step (esc_step he).2).2).2).2).2).1 p5 (fun m6 t6 h6 k6 e6 p6 F6 N6=>?_) e5 F5 X0 N5 T0 rfl rfl rfl)
  clear F5 N5
  rw [eq_of_beq (esc_step (esc_step (esc_step (esc_step (esc_step (esc_step he).2).2).2).2).2).2] at e6
  walk1
  walk1
  refine nameX_L F6 e6 ?_ rfl rfl
  dsimp only
  k_steps
  exact hret _ _ _ (by k_asm) (by k_asm)
theorem esc_len {v ev:Str} (hv:(v,ev) ∈ escTab):ev.length ≤ 8 := of_decide_eq_true (List.all_eq_true.mp (show (escTab.all fun q=>decide (q.2.length ≤ 8)) = true by decide +kernel) _ hv)
end Mine
end
section
open PySem PySem.W PyProof.Rows PySem.Spec PySem.Calls
namespace Mine
section
variable {M:Model} {A:Around} {R:GenEnd} {Y:Protocol} {n:Nat} {s₀:Shared} {c:Code} {fs:List Frame} {s:Shared} {env:Env}
  {K:Flow -> Sem PySem.Fin} {H:Value -> Sem PySem.Fin} {gd:Bool -> Bool} {lv:List Value -> List Value}
noncomputable def NoE:Value -> Shared -> Prop := fun _ _=>False
theorem noE_mono {α:Type} {A:Around} {m:Sem α} {Q:α -> Shared -> Prop} {E:Value -> Shared -> Prop} {s:Shared} (h:wpAny M A m Q NoE s):wpAny M A m Q E s := wpAny_mono h (fun _ _ q=>q) fun _ _ e=>e.elim
theorem seg_bindw {α β:Type} {m:Sem α} {f:α -> Sem β} {K:β -> Sem PySem.Fin} (h:wpAny M (A.over c fs) m (fun a s' => Seg M A R Y n s₀ c ((f a).wrap K H gd lv) fs s') NoE s):Seg M A R Y n s₀ c ((m >>= f).wrap K H gd lv) fs s := by
  rw [Sem.bind_eq_wrap',Sem.wrap_wrap]
  exact seg_wrap (noE_mono h)
theorem seg_bind0 {α:Type} {m:Sem α} {f:α -> Sem PySem.Fin} (h:wpAny M (A.over c fs) m (fun a s' => Seg M A R Y n s₀ c (f a) fs s') NoE s):Seg M A R Y n s₀ c (m >>= f) fs s :=
  seg_bind (noE_mono h)
theorem seg_For {target iter:PySem.Expr} {body orelse:List Stmt} {pos:Pos} (hs:∀ x,foldedSetIterable iter env x = pure x)
    (h:wpAny M (A.over c fs) (eval iter env) (fun x s₁=>wpAny M (A.over c fs) (pyIter x) (fun it s₂=>∀ p k l,(∀ m s₁ s',Seg M A R Y m s₁ c (K .next) fs s' -> Seg M A R Y m s₁ c (k (.ok .next)) fs s') ->
      Seg M A R Y n s₀ (.forLoop target it body orelse env) (M.den (.forLoop target it body orelse env)) (.ret k none (gd false) l c p [] :: fs) s₂) NoE s₁) NoE s) :
    Seg M A R Y n s₀ c ((exec (.For target iter body orelse pos) env).wrap K H gd lv) fs s := by
  rw [exec_For]
  refine seg_bindw (wpAny_standAt ?_)
  refine seg_bindw (wpAny_mono h (fun x s₁ h₁=>?_) fun _ _ e=>e)
  refine seg_bindw (wpAny_of_eq (hs x) ?_)
  refine seg_bindw (wpAny_standAt ?_)
  refine seg_bindw (wpAny_holding (wpAny_mono h₁ (fun it s₂ h₂=>?_) fun _ _ e=>e))
  exact seg_call fun p=>h₂ p _ _ (fun m s₁ s' q=>q)
theorem seg_If {test:PySem.Expr} {body orelse:List Stmt} {pos:Pos}
    (h:wpAny M (A.over c fs) (isTrue test env (eval test env)) (fun b s' => if b = true then Seg M A R Y n s₀ c ((execs body env).wrap K H gd lv) fs s' else Seg M A R Y n s₀ c ((execs orelse env).wrap K H gd lv) fs s') NoE s) :
    Seg M A R Y n s₀ c ((exec (.If test body orelse pos) env).wrap K H gd lv) fs s := by
  rw [exec_If]
  refine seg_bindw (wpAny_standAt ?_)
  refine seg_bindw (wpAny_mono h (fun b s₁ h₁=>?_) fun _ _ e=>e)
  cases b with
  | true=>simpa using h₁
  | false=>simpa using h₁
end
section
variable {prog:Program} {w:World} {A:Around} {R:GenEnd} {Y:Protocol} {n:Nat} {s₀:Shared} {fs:List Frame} {s:Shared} {env:Env}
theorem seg_forLoop {target:PySem.Expr} {it:Value} {body orelse:List Stmt}
    (h:wpAny (model prog w) (A.over (.forLoop target it body orelse env) fs) (pyNext it) (fun o s' => match o with
      | none=>Seg (model prog w) A R Y n s₀ (.block orelse env) ((model prog w).den (.block orelse env)) fs s'
      | some v=>wpAny (model prog w) (A.over (.forLoop target it body orelse env) fs) (letOwnedTupleGo target it v) (fun _ s₁=>wpAny (model prog w) (A.over (.forLoop target it body orelse env) fs) (assign target env v) (fun _ s₂ =>
          ∀ K H,(∀ m s₁ s',Seg (model prog w) A R Y m s₁ (.forLoop target it body orelse env) ((model prog w).den (.forLoop target it body orelse env)) fs s' -> Seg (model prog w) A R Y m s₁ (.forLoop target it body orelse env) (K .next) fs s') ->
            Seg (model prog w) A R Y n s₀ (.forLoop target it body orelse env) ((execs body env).wrap K H id id) fs s₂) NoE s₁) NoE s') NoE s) :
    Seg (model prog w) A R Y n s₀ (.forLoop target it body orelse env) ((model prog w).den (.forLoop target it body orelse env)) fs s := by
  show Seg _ A R Y n s₀ _ ((forTurn target it body orelse env).onRaise (fun x=>do noteFrame x env; theTreesLotGoes x)) fs s
  unfold forTurn
  rw [Sem.onRaise_eq_wrap]
  refine seg_bindw (wpAny_standAt ?_)
  refine seg_bindw (wpAny_onRaise (wpAny_mono h (fun o s₁ h₁=>?_) fun _ _ e=>e.elim))
  cases o with
  | none=>exact seg_again (by rfl) h₁
  | some v =>
    refine seg_bindw (wpAny_mono h₁ (fun _ s₂ h₂=>?_) fun _ _ e=>e)
    refine seg_bindw (wpAny_mono h₂ (fun _ s₃ h₃=>?_) fun _ _ e=>e)
    rw [Sem.bind_eq_wrap',Sem.wrap_wrap]
    exact h₃ _ _ (fun m s₁ s' q=>seg_again (by rfl) q)
theorem seg_block_nil (h:∀ p k H g l c,fs = .ret k H g l c p [] :: fs.tail -> Seg (model prog w) A R Y n s₀ c (k (.ok .next)) fs.tail s) (hne:∃ p k H g l c r,fs = .ret k H g l c p [] :: r) :
    Seg (model prog w) A R Y n s₀ (.block [] env) ((model prog w).den (.block [] env)) fs s := by
  obtain ⟨p,k,H,g,l,c,r,rfl⟩ := hne
  exact seg_leaf (.ok .next) (h p k H g l c rfl)
end
end Mine
end
section
open PySem PySem.W PyProof.Rows PySem.Spec PySem.Calls
namespace Mine
theorem f_entry_yf:entryFor table "proto.yield_from" = some Builtin.«proto.yield_from» := entryFor_of_tree (by kernel_rfl)
theorem f_li_close:typeLookup (.type "list_iterator") "close" = pure none := by rw [typeLookup_type,builtinLookup_eq_fast]; kernel_rfl
theorem f_stop_type:typeOf (.type "StopIteration") = pure (.type "type") := by first | rfl | kernel_rfl
theorem den_of {prog:Program} {w:World} {id:String} {args:PySem.Args} {b:Builtin} (hb:entryFor table id = some b):(model prog w).den (.builtin id args) = b args := by
  show (match entryFor table id with | some b=>b args | none=>unsupported ((withoutEnding? id "#data").getD id)) = _
  rw [hb]
theorem slept {M:Model} {A:Around} {E:Value -> Shared -> Prop} {s:Shared} {d:Addr} {o:Obj} {b:Bool} {Q:Unit -> Shared -> Prop} (ho:s.heap.get? d = some o) (hc:o.cls = .type "list_iterator") (h:Q () s) :
    wpAny M A (Builtin.Generator.sleptOver (.ref d) b) Q E s := by
  unfold Builtin.Generator.sleptOver
  refine wpAny_bind (wpAny_load ho ?_)
  rw [hc,if_pos (by decide +kernel)]
  exact wpAny_pure h
theorem ends_value {prog:Program} {w:World} {A:Around} {E:Value -> Shared -> Prop} {s:Shared} {e:Addr} {o:Obj} {Q:Bool -> Shared -> Prop} (ho:s.heap.get? e = some o) (hc:o.cls = .type "StopIteration") (h:Q true s) :
    wpAny (model prog w) A (Builtin.Generator.endsTheTurnAsAValue false (.ref e)) Q E s := by
  have hT:s.TypeIs (.ref e) "StopIteration" := ⟨_,ho,hc⟩
  have f1 := isSubtype_stop
  have f2 := f_stop_type
  unfold Builtin.Generator.endsTheTurnAsAValue Builtin.Generator.isStopAndMetaclass
  repeat (any_goals (first | assumption | wp_step))
section
variable {prog:Program} {w:World} {A:Around} {R:GenEnd} {Y:Protocol} {n:Nat} {s₀:Shared} {fs:List Frame} {s:Shared} {env:Env} {it l:Addr} {i:Nat} {items:Array Value}
theorem seg_yf_item {x:Value} (hit:s.heap.IsListIter it l i) (hl:s.heap.IsList l items) (hx:items[i]? = some x) (hfs:splitAtGen fs = none) (hfg:fs.any Frame.guarded = false)
    (h:∀ h',h'.IsListIter it l (i + 1) -> Heap.SameBut it s.heap h' -> ∀ kap:Resume -> Shared -> Prop,
      (∀ s'',s''.heap.IsListIter it l (i + 1) -> Seg (model prog w) A R Y n s'' (.builtin "proto.yield_from" ⟨[.ref it,.bool false,.none],[]⟩) ((model prog w).den (.builtin "proto.yield_from" ⟨[.ref it,.bool false,.none],[]⟩)) fs s'' -> kap (.send .none) s'') -> Y n s₀ x { s with heap := h' } kap) :
    Seg (model prog w) A R Y (n + 1) s₀ (.builtin "proto.yield_from" ⟨[.ref it,.bool false,.none],[]⟩) ((model prog w).den (.builtin "proto.yield_from" ⟨[.ref it,.bool false,.none],[]⟩)) fs s := by
  have hden := den_of (prog := prog) (w := w) (args := ⟨[.ref it,.bool false,.none],[]⟩) f_entry_yf
  rw [hden]
  unfold Builtin.«proto.yield_from»
  obtain ⟨o,ho,hc,hd⟩ := id hit
  obtain ⟨ol,hol,_,nl,hdl⟩ := hl
  show Seg _ A R Y (n + 1) s₀ _ ((pure Value.none:Sem Value) >>= _) fs s
  refine seg_bind0 (wpAny_pure ?_)
  show Seg _ A R Y (n + 1) s₀ _ ((holding [Value.none] _).attempt >>= _) fs s
  refine seg_bind0 (wpAny_attempt (wpAny_holding ?_))
  show wpAny _ _ (rule "yield-from.next" >>= _) _ _ s
  refine wpAny_bind (wpAny_rule ?_)
  refine wpAny_bind (wpAny_callSpecial?_slot (name := Str.ofString "__next__") hit.typeIs slot_listiter_next (wpAny_call_entry slot_listiter_next hit.typeIs entry_listiter_next ?_ (args_listiter_next _)))
  show wpAny _ _ (field (.ref it) 0 >>= _) _ _ s
  refine wpAny_bind (wpAny_field ho hd (x := .ref l) rfl ?_)
  show wpAny _ _ (if (Value.ref l == Value.none) = true then _ else _) _ _ s
  rw [if_neg (show ¬ ((Value.ref l == Value.none) = true) from Bool.false_ne_true)]
  show wpAny _ _ (field (.ref it) 1 >>= _) _ _ s
  refine wpAny_bind (wpAny_field ho hd (x := .int i 0) rfl ?_)
  show wpAny _ _ (seqItems? (.ref l) >>= _) _ _ s
  refine wpAny_bind (wpAny_seqItems hol hdl ?_)
  simp only [Int.toNat_natCast,hx]
  refine wpAny_bind (wpAny_setField ho hd (by simp) (wpAny_pure ⟨x,rfl,wpAny_pure ?_⟩))
  have hit2:(s.heap.update it fun o=>o.mapFields fun vs=>vs.setIfInBounds 1 (rawInt (((i:Int)) + 1))).IsListIter it l (i + 1) := by
    refine ⟨_,Heap.get?_update_self _ ho (Obj.isFreed_of_fields (Obj.data_mapFields hd _)),(Obj.cls_mapFields ..).trans hc,by
      rw [Obj.data_mapFields hd]; simp [rawInt]⟩
  refine seg_bind0 (wpAny_typeOf hit2.typeIs ?_)
  show Seg _ A R Y (n + 1) s₀ _ (typeLookup (.type "list_iterator") "close" >>= _) fs _
  refine seg_bind0 (wpAny_of_eq f_li_close ?_)
  refine seg_bind0 (wpAny_pure ?_)
  obtain ⟨o2,ho2,hc2,hd2⟩ := id hit2
  refine seg_bind0 (slept ho2 hc2 ?_)
  show Seg _ A R Y (n + 1) s₀ _ (.yield x false [] _) fs _
  refine seg_yield hfs rfl hfg ?_
  refine h _ hit2 (Heap.SameBut.update ..) _ fun s'' hit3 q=>?_
  obtain ⟨o3,ho3,hc3,hd3⟩ := id hit3
  refine seg_bind0 (wpAny_pure ?_)
  refine seg_bind0 (slept ho3 hc3 ?_)
  show Seg _ A R Y n s'' _ ((pure Value.none:Sem Value) >>= _) fs s''
  refine seg_bind0 (wpAny_pure ?_)
  exact seg_again (Code.quiet_builtin _ (by decide +kernel)) q
theorem seg_yf_end (hh:(A.over (.builtin "proto.yield_from" ⟨[.ref it,.bool false,.none],[]⟩) fs).in1.handled = none) (hit:s.heap.IsListIter it l i) (hl:s.heap.IsList l items) (hx:items[i]? = none)
    (h:∀ h',Heap.ExtBut it s.heap h' -> Seg (model prog w) A R Y n s₀ (.builtin "proto.yield_from" ⟨[.ref it,.bool false,.none],[]⟩) (.pure (.done (.ret .none))) fs { s with heap := h' }) :
    Seg (model prog w) A R Y n s₀ (.builtin "proto.yield_from" ⟨[.ref it,.bool false,.none],[]⟩) ((model prog w).den (.builtin "proto.yield_from" ⟨[.ref it,.bool false,.none],[]⟩)) fs s := by
  have hden := den_of (prog := prog) (w := w) (args := ⟨[.ref it,.bool false,.none],[]⟩) f_entry_yf
  rw [hden]
  unfold Builtin.«proto.yield_from»
  obtain ⟨o,ho,hc,hd⟩ := id hit
  obtain ⟨ol,hol,_,nl,hdl⟩ := hl
  show Seg _ A R Y n s₀ _ ((pure Value.none:Sem Value) >>= _) fs s
  refine seg_bind0 (wpAny_pure ?_)
  show Seg _ A R Y n s₀ _ ((holding [Value.none] _).attempt >>= _) fs s
  refine seg_bind0 (wpAny_attempt (wpAny_holding ?_))
  show wpAny _ _ (rule "yield-from.next" >>= _) _ _ s
  refine wpAny_bind (wpAny_rule ?_)
  refine wpAny_bind (wpAny_callSpecial?_slot (name := Str.ofString "__next__") hit.typeIs slot_listiter_next (wpAny_call_entry slot_listiter_next hit.typeIs entry_listiter_next ?_ (args_listiter_next _)))
  show wpAny _ _ (field (.ref it) 0 >>= _) _ _ s
  refine wpAny_bind (wpAny_field ho hd (x := .ref l) rfl ?_)
  show wpAny _ _ (if (Value.ref l == Value.none) = true then _ else _) _ _ s
  rw [if_neg (show ¬ ((Value.ref l == Value.none) = true) from Bool.false_ne_true)]
  show wpAny _ _ (field (.ref it) 1 >>= _) _ _ s
  refine wpAny_bind (wpAny_field ho hd (x := .int i 0) rfl ?_)
  show wpAny _ _ (seqItems? (.ref l) >>= _) _ _ s
  refine wpAny_bind (wpAny_seqItems hol hdl ?_)
  simp only [Int.toNat_natCast,hx]
  refine wpAny_bind (wpAny_rule (wpAny_bind (wpAny_setField ho hd (by simp) ?_)))
  show wpAny _ _ (newExc (.type "StopIteration") [] >>= _) _ _ _
  refine wpAny_bind ?_
  simp only [newExc,newTuple]
  refine wpAny_bind (wpAny_newObj_type ?_ (by size_fits))
  refine wpAny_bind (m := firstArgMember _ _) (wpAny_of_eq (a := Value.none) (by first | rfl | (simp only [firstArgMember]; rfl)) ?_)
  refine wpAny_newObj_type ?_ (by size_fits)
  refine wpAny_raiseNew_none hh ?_
  refine seg_bind0 (ends_value (Heap.get?_push_size _ rfl) rfl ?_)
  show Seg _ A R Y n s₀ _ (rule "yield-from.value" >>= _) fs _
  refine seg_bind0 (wpAny_rule ?_)
  refine seg_bind0 (wpAny_field (x := Value.none) (Heap.get?_push_size _ rfl) rfl (by first | rfl | simp) ?_)
  exact h _ (((Heap.SameBut.update ..).extBut.push _).push _)
theorem seg_Expr_YieldFrom {c:Code} {K:Flow -> Sem PySem.Fin} {H:Value -> Sem PySem.Fin} {gd:Bool -> Bool} {lv:List Value -> List Value} {e:PySem.Expr} {yp pos:Pos} (hi:interactive env = false)
    (h:wpAny (model prog w) (A.over c fs) (eval e env) (fun v s₁=>∃ its,v = .ref l ∧ s₁.heap.IsList l its ∧ ∀ h',h'.IsListIter s₁.heap.objs.size l 0 -> (∀ b o,s₁.heap.get? b = some o -> h'.get? b = some o) -> ∀ p k lv',
      (∀ m s₁ s',Seg (model prog w) A R Y m s₁ c (K .next) fs s' -> Seg (model prog w) A R Y m s₁ c (k (.ok (.ret .none))) fs s') ->
      Seg (model prog w) A R Y n s₀ (.builtin "proto.yield_from" ⟨[.ref s₁.heap.objs.size,.bool false,.none],[]⟩) ((model prog w).den (.builtin "proto.yield_from" ⟨[.ref s₁.heap.objs.size,.bool false,.none],[]⟩)) (.ret k none (gd false) lv' c p [] :: fs) { s₁ with heap := h' }) NoE s) :
    Seg (model prog w) A R Y n s₀ c ((exec (.Expr (.YieldFrom e yp) pos) env).wrap K H gd lv) fs s := by
  rw [exec_Expr env _ pos hi rfl]
  refine seg_bindw (wpAny_standAt ?_)
  rw [arm_eval_YieldFrom]
  rw [Sem.bind_eq_wrap',Sem.bind_eq_wrap',Sem.wrap_wrap,Sem.wrap_wrap]
  refine seg_wrap (wpAny_mono h (fun v s₁ h₁=>?_) fun _ _ e=>e.elim)
  obtain ⟨its,rfl,hl,h₁⟩ := h₁
  refine seg_bindw (wpAny_standAt ?_)
  unfold yieldFrom
  refine seg_bindw (wpAny_typeOf hl.typeIs ?_)
  rw [if_neg (by decide +kernel)]
  refine seg_bindw (wpAny_holding (wpAny_pyIter_list hl ?_))
  refine seg_call fun p=>h₁ _ ⟨_,Heap.get?_push_size _ rfl,rfl,rfl⟩ (fun b o q=>Heap.get?_push_of_some _ q) p _ _ (fun m s₁ s' q=>q)
end
end Mine
end
section
open PySem PySem.W PyProof.Rows PySem.Spec PySem.Calls
namespace Mine
noncomputable abbrev nsName:PySem.Expr := .Name (Str.ofString "namespaces") ⟨43,15,43,25⟩
theorem itB_eq:fB (mth 1) = [.For (.Name (Str.ofString "namespaces") ⟨42,12,42,22⟩) (.Call (.Name (Str.ofString "_reversed") ⟨42,26,42,35⟩) [.Name (Str.ofString "ns_stack") ⟨42,36,42,44⟩] [] ⟨42,26,42,45⟩)
    [.If nsName [.Expr (.YieldFrom (.Name (Str.ofString "namespaces") ⟨44,27,44,37⟩) ⟨44,16,44,37⟩) ⟨44,16,44,37⟩] [] ⟨43,12,44,37⟩] [] ⟨42,8,44,37⟩] := by with_unfolding_all rfl
noncomputable def itEnv (C a:Addr) (cd:Value):Env := envOf (Str.ofString "C14NWriterTarget._iter_namespaces") (fS (mth 1)) C a cd
theorem fr0 {h:Heap} {C:Addr} {m:Str -> Option Value} (hn:h.Ns C m):Fr {} C h m := ⟨hn,fun b o e=>by simp [Heap.get?] at e,Nat.zero_le _⟩
section
variable {prog:Program} {w:World} {A:Around} {E:Value -> Shared -> Prop} {s:Shared} {C a S l1 l2 X:Addr} {cd:Value} {m:Str -> Option Value}
theorem it_rev {items:Array Value} {Q:Value -> Shared -> Prop} (hn:s.heap.Ns C m) (hm:m (Str.ofString "ns_stack") = some (.ref S)) (hr:m (Str.ofString "_reversed") = some (.type "reversed")) (hl:s.heap.IsList S items)
    (h:Q (.ref s.heap.objs.size) { s with heap := s.heap.push (revObj S ((items.size:Int) - 1)) }) :
    wpAny (model prog w) A (eval (.Call (.Name (Str.ofString "_reversed") ⟨42,26,42,35⟩) [.Name (Str.ofString "ns_stack") ⟨42,36,42,44⟩] [] ⟨42,26,42,45⟩) (itEnv C a cd)) Q E s := by
  refine wpAny_Call_NameR ?_
  unfold itEnv
  refine ld (fr0 hn) hr ?_ (by with_unfolding_all rfl) (by with_unfolding_all rfl)
  refine PyProof.Rows.callWith_type1 (rest := []) ?_
  refine spliced_more (ld (fr0 hn) hm (spliced_none ?_) (by with_unfolding_all rfl) (by with_unfolding_all rfl))
  exact call_reversed_list hl h
structure Lists (S l1 l2 X:Addr) (h:Heap):Prop where
  st:h.IsList S #[.ref l1,.ref l2]
  a1:h.IsList l1 #[.ref X]
  a2:h.IsList l2 #[]
theorem Lists.but {h h':Heap} {b:Addr} (x:Lists S l1 l2 X h) (hs:Heap.ExtBut b h h') (n0:S ≠ b) (n1:l1 ≠ b) (n2:l2 ≠ b):Lists S l1 l2 X h' := ⟨x.st.extBut hs n0,x.a1.extBut hs n1,x.a2.extBut hs n2⟩
theorem Lists.keeps {h h':Heap} (x:Lists S l1 l2 X h) (hk:∀ b o,h.get? b = some o -> h'.get? b = some o):Lists S l1 l2 X h' := ⟨x.st.at (hk _),x.a1.at (hk _),x.a2.at (hk _)⟩
theorem Lists.push {h:Heap} (x:Lists S l1 l2 X h) (o:Obj):Lists S l1 l2 X (h.push o) := x.keeps fun _ _ e=>Heap.get?_push_of_some _ e
theorem ns_ne_list {h:Heap} {l:Addr} {its:Array Value} (hn:h.Ns C m) (hl:h.IsList l its):l ≠ C := by
  rintro rfl
  obtain ⟨o,es,ep,e,hd,_⟩ := hn
  obtain ⟨o',e',_,n,hd'⟩ := hl
  rw [e] at e'
  cases e'
  rw [hd] at hd'
  cases hd'
theorem list_lt {h:Heap} {l:Addr} {its:Array Value} (hl:h.IsList l its):l < h.objs.size := let ⟨_,e,_⟩ := hl; Heap.lt_size e
noncomputable def Mid (C S l1 l2 X N₀:Addr) (h:Heap):Prop := h.IsRevIter N₀ S (-1) ∧ h.IsListIter (N₀ + 1) l1 1 ∧ (∃ m,h.Ns C m) ∧ Lists S l1 l2 X h
noncomputable def ItY (C S l1 l2 X N₀:Addr):Protocol := fun _ s₀ v s₁ kap=>v = .ref X ∧ (∃ h₁ tk,s₁ = { s₀ with heap := h₁,toks := tk } ∧ (∀ b o,b ≠ C -> s₀.heap.get? b = some o -> h₁.get? b = some o) ∧ Mid C S l1 l2 X N₀ h₁) ∧
  ∀ s'',Mid C S l1 l2 X N₀ s''.heap -> kap (.send .none) s''
noncomputable def ItP (C N₀:Addr):Nat -> Shared -> Shared -> Prop := fun n s₀ s₁=>n = 0 ∧ ∃ h₁ tk,s₁ = { s₀ with heap := h₁,toks := tk } ∧ ∀ b o,b ≠ C -> b ≠ N₀ -> b ≠ N₀ + 1 -> s₀.heap.get? b = some o -> h₁.get? b = some o
noncomputable abbrev ItR (C N₀:Addr):GenEnd := fun n s₀ r s₁=>r = .ok (.ret .none) ∧ ItP C N₀ n s₀ s₁
theorem it_seg (hh:A.handled = none) (hn:s.heap.Ns C m) (hm:m (Str.ofString "ns_stack") = some (.ref S)) (hr:m (Str.ofString "_reversed") = some (.type "reversed")) (hx:Lists S l1 l2 X s.heap) :
    Seg (model prog w) A (ItR C s.heap.objs.size) (ItY C S l1 l2 X s.heap.objs.size) 1 s (.func (fB (mth 1)) (itEnv C a cd)) ((model prog w).den (.func (fB (mth 1)) (itEnv C a cd))) [] s := by
  have c0 := hn.lt
  have c1 := list_lt hx.st
  have c2 := list_lt hx.a1
  have c3 := list_lt hx.a2
  have d1 := ns_ne_list hn hx.st
  have d2 := ns_ne_list hn hx.a1
  have d3 := ns_ne_list hn hx.a2
  generalize hN:s.heap.objs.size = N₀ at *
  refine seg_func ?_
  rw [itB_eq]
  refine seg_execs_cons ?_
  refine seg_For (fun _=>rfl) (it_rev hn hm hr hx.st (wpAny_pyIter_revIter (i := 1) ⟨_,Heap.get?_push_size _ rfl,rfl,rfl⟩ ?_))
  rw [hN]
  intro p k l hk
  have hn1 := hn.push (revObj S (((#[Value.ref l1,Value.ref l2]:Array Value).size:Int) - 1))
  have hx1 := hx.push (revObj S (((#[Value.ref l1,Value.ref l2]:Array Value).size:Int) - 1))
  refine seg_forLoop (wpAny_pyNext_rev_item (i := 1) (x := .ref l2) ⟨_,hN ▸ Heap.get?_push_size _ rfl,rfl,rfl⟩ hx1.st rfl fun h1 hit1 hs1=>?_)
  refine wpAny_pure (wpAny_assign_Name (wpAny_storeName_local (by with_unfolding_all rfl) (hn1.extBut hs1.extBut (Nat.ne_of_lt c0)) (fun h2 hn2 hs2=>?_) (by with_unfolding_all rfl)))
  have hx2 := (hx1.but hs1.extBut (Nat.ne_of_lt c1) (Nat.ne_of_lt c2) (Nat.ne_of_lt c3)).but hs2.extBut d1 d2 d3
  intro K H hK
  refine seg_execs_cons (seg_If (wpAny_isTrue_value (ld (fr0 hn2) (by with_unfolding_all rfl) (wpAny_truthy_list hx2.a2 (by decide) ?_) (by with_unfolding_all rfl) (by with_unfolding_all rfl))))
  rw [if_neg (by decide)]
  refine seg_execs_nil (seg_execs_nil (hK _ _ _ ?_))
  have hN2:N₀ ≠ C := (Nat.ne_of_lt c0).symm
  have z1:h1.objs.size = N₀ + 1 := by rw [hs1.1]; show (s.heap.push _).objs.size = _; rw [Heap.size_push,hN]
  have z2:h2.objs.size = N₀ + 1 := by rw [hs2.1]; exact z1
  have hit2:h2.IsRevIter N₀ S 0 := (show h1.IsRevIter N₀ S 0 from hit1).at fun o e=>hs2.extBut _ _ hN2 e
  refine seg_forLoop (wpAny_pyNext_rev_item (i := 0) (x := .ref l1) hit2 hx2.st rfl fun h3 hit3 hs3=>?_)
  refine wpAny_pure (wpAny_assign_Name (wpAny_storeName_local (by with_unfolding_all rfl) (hn2.extBut hs3.extBut (Nat.ne_of_lt c0)) (fun h4 hn4 hs4=>?_) (by with_unfolding_all rfl)))
  have hx4 := (hx2.but hs3.extBut (Nat.ne_of_lt c1) (Nat.ne_of_lt c2) (Nat.ne_of_lt c3)).but hs4.extBut d1 d2 d3
  have z3:h3.objs.size = N₀ + 1 := by rw [hs3.1]; exact z2
  have z4:h4.objs.size = N₀ + 1 := by rw [hs4.1]; exact z3
  have hit4:h4.IsRevIter N₀ S (-1) := (show h3.IsRevIter N₀ S (-1) from hit3).at fun o e=>hs4.extBut _ _ hN2 e
  intro K2 H2 hK2
  refine seg_execs_cons (seg_If (wpAny_isTrue_value (ld (fr0 hn4) (by with_unfolding_all rfl) (wpAny_truthy_list hx4.a1 (show ((1:Nat):Int) < 2 ^ 63 by decide) ?_) (by with_unfolding_all rfl) (by with_unfolding_all rfl))))
  rw [if_pos (show (!(#[Value.ref X]:Array Value).isEmpty) = true from rfl)]
  refine seg_execs_cons (seg_Expr_YieldFrom (by with_unfolding_all rfl) (ld (fr0 hn4) (by with_unfolding_all rfl) ⟨_,rfl,hx4.a1,fun h5 hI hk5 p5 k5 lv5 hk6=>?_⟩ (by with_unfolding_all rfl) (by with_unfolding_all rfl)))
  have z4':({ heap := h4,gens := s.gens,drawn := s.drawn,toks := s.toks,os := s.os } : Shared).heap.objs.size = N₀ + 1 := z4
  simp only [z4] at hI ⊢
  have hx5 := hx4.keeps hk5
  refine seg_yf_item hI hx5.a1 rfl (by rfl) (by rfl) fun h6 hI6 hs6 kap hkap=>?_
  have c1':S ≠ N₀ + 1 := Nat.ne_of_lt (Nat.lt_succ_of_lt c1)
  have c2':l1 ≠ N₀ + 1 := Nat.ne_of_lt (Nat.lt_succ_of_lt c2)
  have c3':l2 ≠ N₀ + 1 := Nat.ne_of_lt (Nat.lt_succ_of_lt c3)
  have hC':C ≠ N₀ + 1 := Nat.ne_of_lt (Nat.lt_succ_of_lt c0)
  have hN':N₀ ≠ N₀ + 1 := Nat.ne_of_lt (Nat.lt_succ_self _)
  refine ⟨rfl,⟨h6,_,rfl,fun b o hb e=>?_,(hit4.at fun o e=>hk5 _ _ e).at fun o e=>hs6.extBut _ _ hN' e,hI6,⟨_,(hn4.keeps hk5).extBut hs6.extBut hC'⟩,hx5.but hs6.extBut c1' c2' c3'⟩,fun s'' hmid=>hkap s'' hmid.2.1 ?_⟩
  · have hb1:b < N₀ := hN ▸ Heap.lt_size e
    have e1 := hs1.extBut b o (Nat.ne_of_lt hb1) (Heap.get?_push_of_some _ e)
    have e2 := hs2.extBut b o hb e1
    have e3 := hs3.extBut b o (Nat.ne_of_lt hb1) e2
    have e4 := hs4.extBut b o hb e3
    exact hs6.extBut b o (Nat.ne_of_lt (Nat.lt_succ_of_lt hb1)) (hk5 b o e4)
  · obtain ⟨q1,q2,⟨m',q3⟩,q4⟩ := hmid
    refine seg_yf_end hh q2 q4.a1 rfl fun h7 hs7=>?_
    refine seg_leaf (.ok (.ret .none)) (hk6 _ _ _ ?_)
    refine seg_execs_nil (seg_execs_nil (hK2 _ _ _ ?_))
    refine seg_forLoop (wpAny_pyNext_rev_end hh (q1.at fun o e=>hs7 _ _ hN' e) fun h8 hs8=>?_)
    refine seg_block_nil (fun p9 k9 H9 g9 l9 c9 e9=>?_) ⟨_,_,_,_,_,_,_,rfl⟩
    cases e9
    refine hk _ _ _ (seg_execs_nil ?_)
    refine seg_end (.ok (.ret .none)) ⟨rfl,rfl,h8,_,rfl,fun b o n1 n2 n3 e=>hs8 b o n2 (hs7 b o n3 e)⟩
end
end Mine
end
section
open PySem PySem.W PyProof.Rows PySem.Spec PySem.Calls
namespace Mine
section
variable {prog:Program} {w:World} {A:Around} {E:Value -> Shared -> Prop} {s:Shared} {C a S l1 l2 X G N₀:Addr} {g:Nat} {cd:Value} {m:Str -> Option Value} {gs:GenState}
theorem gen_first {Q:Option Value -> Shared -> Prop} (hh:A.handled = none) (hl:s.heap.NoLimit) (hroom:A.depth < recursionLimit) (hg:s.heap.IsGen G g) (hgs:s.gens[g]? = some (.fresh (.func (fB (mth 1)) (itEnv C a cd))))
    (hn:s.heap.Ns C m) (hm:m (Str.ofString "ns_stack") = some (.ref S)) (hr:m (Str.ofString "_reversed") = some (.type "reversed")) (hx:Lists S l1 l2 X s.heap)
    (h:∀ h₁ tk gs' ga,(∀ b o,b ≠ C -> s.heap.get? b = some o -> h₁.get? b = some o) -> Mid C S l1 l2 X s.heap.objs.size h₁ -> ga[g]? = some gs' -> (∀ j y,ga[j]? = some y -> j ≠ g -> s.gens[j]? = some y) ->
      (∀ s'',Mid C S l1 l2 X s.heap.objs.size s''.heap -> gs'.Goes (model prog w) A.in1 (ItR C s.heap.objs.size) (ItY C S l1 l2 X s.heap.objs.size) 0 (.send .none) s'') -> Q (some (.ref X)) { s with heap := h₁,toks := tk,gens := ga }) :
    wpAny (model prog w) A (pyNext (.ref G)) Q E s := by
  refine wpAny_pyNext_gen (n := 1) (P := ItP C s.heap.objs.size) (Y := ItY C S l1 l2 X s.heap.objs.size) hh hl hroom hg hgs ⟨rfl,?_⟩ (fun v s₁ gs' hy=>?_) (fun s₁ hp h' hk=>?_)
  · exact it_seg (s := s.setGen g .running) hh hn hm hr hx
  · obtain ⟨rfl,⟨h₁,tk,rfl,hk,hmid⟩,hgo⟩ := hy
    refine h h₁ tk gs' _ hk hmid ?_ (fun j y hj hne=>?_) fun s'' q=>hgo s'' q
    rotate_left
    · simpa [Shared.setGen,Array.getElem?_setIfInBounds,Ne.symm hne] using hj
    have hlt:g < s.gens.size := by
      rw [Array.getElem?_eq_some_iff] at hgs
      exact hgs.1
    simp [Shared.setGen,hlt]
  · exact absurd hp.1 (by decide)
theorem gen_second {gs':GenState} {Q:Option Value -> Shared -> Prop} (hh:A.handled = none) (hl:s.heap.NoLimit) (hroom:A.depth < recursionLimit) (hg:s.heap.IsGen G g) (hgs:s.gens[g]? = some gs') (hmid:Mid C S l1 l2 X N₀ s.heap)
    (hgo:∀ s'',Mid C S l1 l2 X N₀ s''.heap -> gs'.Goes (model prog w) A.in1 (ItR C N₀) (ItY C S l1 l2 X N₀) 0 (.send .none) s'')
    (h:∀ h₁ tk ga,(∀ b o,b ≠ C -> b ≠ N₀ -> b ≠ N₀ + 1 -> s.heap.get? b = some o -> h₁.get? b = some o) -> (∀ j y,ga[j]? = some y -> y = .finished ∨ (j ≠ g ∧ s.gens[j]? = some y)) -> Q none { s with heap := h₁,toks := tk,gens := ga }) :
    wpAny (model prog w) A (pyNext (.ref G)) Q E s := by
  refine wpAny_pyNext_gen (n := 0) (P := ItP C N₀) (Y := ItY C S l1 l2 X N₀) hh hl hroom hg hgs (hgo _ hmid) (fun v s₁ gs' hy=>?_) (fun s₁ hp h' hk=>?_)
  · exact (hy.2.2 { s with heap := s.heap } hmid).elim
  · obtain ⟨_,h₁,tk,rfl,hk2⟩ := hp
    refine h h' tk _ (fun b o n1 n2 n3 e=>hk _ _ (hk2 b o n1 n2 n3 e)) fun j y hj=>?_
    by_cases hne:j = g
    · subst hne
      left
      by_cases hlt:j < s.gens.size
      · simp [Shared.setGen,hlt] at hj
        exact hj.symm
      · simp [Shared.setGen,hlt] at hj
    · exact .inr ⟨hne,by simpa [Shared.setGen,Array.getElem?_setIfInBounds,Ne.symm hne] using hj⟩
noncomputable def IsGenObj (o:Obj) (g:Nat):Prop := ∃ nm qn,o.cls = .type "generator" ∧ o.data = .fields #[.int g 0,nm,qn] ∧ o.slots = #[]
noncomputable def itArgs (self:Value) (S:Addr):List (Str × Value) := [(Str.ofString "self",self),(Str.ofString "ns_stack",.ref S),(Str.ofString "_reversed",.type "reversed")]
noncomputable def itFd:FuncData := fnOf (Str.ofString "_iter_namespaces") (Str.ofString "C14NWriterTarget._iter_namespaces") (fA (mth 1)) (fB (mth 1)) (fS (mth 1)) (.ref 68) .none .none (.str (Str.ofString "cpy313.xml.etree.ElementTree") 289) none (.ref 74) .none
theorem it_obj {P:Params} : (KF P).lookup 75 = some ⟨.type "function",none,.func itFd,#[]⟩ := by with_unfolding_all rfl
theorem it_binds {P:Params} {self:Value} (X:(KF P).In s.heap):BindsTo s itFd ⟨[self,.ref S],[]⟩ (itArgs self S) :=
  binds_K (o := ⟨.type "tuple",none,.seq #[.type "reversed"] 0,#[]⟩) (T := 68) X rfl (by with_unfolding_all rfl) rfl (by with_unfolding_all rfl) (by with_unfolding_all rfl)
theorem gen_call {h₀:Heap} {L:Addr} {m:Str -> Option Value} {news:List (Addr × Obj)} {self:Value} {Q:Value -> Shared -> Prop} (F:Fr h₀ L s.heap m) (N:News h₀ L s.heap news) (Y:(KF w.params).In h₀) (T:h₀.NoLimit) (hroom:A.depth < recursionLimit)
    (h:∀ (G C:Addr) oG oC h' tk,Fr h₀ L h' m -> News h₀ L h' ((G,oG) :: (C,oC) :: news) -> (∀ p ∈ news,p.1 < C) -> C < G -> LCg.NsObj oC (fun y=>(itArgs self S).reverse.lookup y) -> IsGenObj oG s.gens.size ->
      Q (.ref G) { s with heap := h',toks := tk,gens := s.gens.push (.fresh (.func (fB (mth 1)) (itEnv C 75 (.ref 74)))) }) :
    wpAny (model prog w) A (call (.ref 75) [self,.ref S]) Q E s := by
  have X:(KF w.params).In s.heap := Frag.In.keeps Y F.keep
  refine wpAny_call (codeAny_call_generator (fd := itFd) (body := fB (mth 1)) hroom (X 75 _ it_obj) rfl (by with_unfolding_all rfl) (by with_unfolding_all rfl) rfl (codeRec_of X (by with_unfolding_all rfl)) (it_binds X _ _ _ _ ?_))
  refine wpAny_newFunctionEnv (by decide +kernel) (locs (by with_unfolding_all rfl)) (fun h₁ hn₁ hs₁=>⟨?_,?_⟩) (by with_unfolding_all rfl)
  · exact (T.keeps F.keep).fresh _ hs₁
  · have old:∀ b o,s.heap.get? b = some o -> h₁.get? b = some o := fun b o e=>hs₁.extBut b o (Nat.ne_of_lt (Heap.lt_size e)) (Heap.get?_push_of_some _ e)
    obtain ⟨oC,e1,e2⟩ := LCg.ns_obj hn₁
    have z1:h₁.objs.size = s.heap.objs.size + 1 := by rw [hs₁.1]; show (s.heap.push _).objs.size = _; rw [Heap.size_push]
    have new:∀ b,s.heap.objs.size ≤ b -> h₀.get? b = none := fun b hb=>by
      cases e:h₀.get? b with
      | none=>rfl
      | some o' => exact absurd (Heap.lt_size (F.keep b o' e)) (Nat.not_lt.mpr hb)
    have hLt:L < s.heap.objs.size := F.ns.lt
    refine h h₁.objs.size s.heap.objs.size { cls := .type "generator",data := .fields #[.int (s.gens.size:Int) 0,.str itFd.name (s.toks + (itArgs self S).length),.str itFd.qualname (s.toks + (itArgs self S).length + 1)] } oC _ _ (F.keeps fun b o e=>Heap.get?_push_of_some _ (old b o e)) (fun p hp=>?_) (fun p hp=>Heap.lt_size (N p hp).1) (by rw [z1]; exact Nat.lt_succ_self _) e2 ?_
    rotate_left
    · exact ⟨_,_,rfl,rfl,rfl⟩
    rcases List.mem_cons.mp hp with rfl | hp
    · exact ⟨Heap.get?_push_size _ rfl,by show h₁.objs.size ≠ L; rw [z1]; exact (Nat.ne_of_lt (Nat.lt_succ_of_lt hLt)).symm,new _ (by show _ ≤ h₁.objs.size; rw [z1]; exact Nat.le_succ _)⟩
    · rcases List.mem_cons.mp hp with rfl | hp
      · exact ⟨Heap.get?_push_of_some _ e1,(Nat.ne_of_lt hLt).symm,new _ (Nat.le_refl _)⟩
      · exact ⟨Heap.get?_push_of_some _ (old _ _ (N p hp).1),(N p hp).2⟩
end
end Mine
end
section
open PySem PySem.W PyProof.Rows PySem.Spec PySem.Calls
namespace Mine
noncomputable def LsIn (S l1 l2 X:Addr) (news:List (Addr × Obj)):Prop := (∃ k,(S,W.listOf #[.ref l1,.ref l2] k) ∈ news) ∧ (∃ k,(l1,W.listOf #[.ref X] k) ∈ news) ∧ ∃ k,(l2,W.listOf #[] k) ∈ news
theorem LsIn.lists {S l1 l2 X L:Addr} {h₀ h:Heap} {news:List (Addr × Obj)} (x:LsIn S l1 l2 X news) (N:News h₀ L h news):Lists S l1 l2 X h :=
  let ⟨⟨k1,a⟩,⟨k2,b⟩,⟨k3,c⟩⟩ := x
  ⟨⟨_,(N _ a).1,rfl,k1,rfl⟩,⟨_,(N _ b).1,rfl,k2,rfl⟩,⟨_,(N _ c).1,rfl,k3,rfl⟩⟩
theorem IsGenObj.gen {o:Obj} {g:Nat} {h:Heap} {G:Addr} (x:IsGenObj o g) (e:h.get? G = some o):h.IsGen G g := let ⟨nm,qn,a,b,c⟩ := x; ⟨o,nm,qn,e,a,b,c⟩
theorem owned_any {M:Model} {A:Around} {E:Value -> Shared -> Prop} {s:Shared} {target:PySem.Expr} {G:Addr} {v:Value} {o:Obj} {nm:String} {Q:Unit -> Shared -> Prop} (ho:s.heap.get? G = some o) (hc:o.cls = .type nm) (hn : ["enumerate", "zip", "dict_itemiterator", "dict_reverseitemiterator", "odict_iterator", "itertools.zip_longest", "itertools.pairwise"].contains nm = false) (h:Q () s) :
    wpAny M A (letOwnedTupleGo target (.ref G) v) Q E s := by
  unfold letOwnedTupleGo
  have key:wpAny M A (do
      let (.ref r,.ref a) := (Value.ref G,v) | return
      let o ← load r
      match o.cls,o.data with
      | .type n,.fields vs =>
        if ["enumerate", "zip", "dict_itemiterator", "dict_reverseitemiterator", "odict_iterator", "itertools.zip_longest", "itertools.pairwise"].contains n && vs[0]? == some (rawInt a) then
          rule "for.unpacks-the-owned-tuple"
          updateField r 0 .none
      | _,_=>pure ()) Q E s := by
    cases v with
    | ref x =>
      refine wpAny_bind (wpAny_load ho ?_)
      rw [hc]
      cases o.data with
      | fields vs =>
        show wpAny M A (if _ then _ else pure ()) Q E s
        rw [hn,Bool.false_and,if_neg Bool.false_ne_true]
        exact wpAny_pure h
      | _=>exact wpAny_pure h
    | _=>exact wpAny_pure h
  cases target <;> first | exact key | exact wpAny_pure h
structure Own (h:Heap) (G C R:Addr) (oG oC oR oI:Obj):Prop where
  eG:h.get? G = some oG
  eC:h.get? C = some oC
  eR:h.get? R = some oR
  eI:h.get? (R + 1) = some oI
inductive GenPost (h₀:Heap) (L:Addr) (s':Shared) (own:List (Addr × Obj)) (C R S l1 l2 X:Addr) (Q:Flow -> Shared -> Prop) (f:Flow) (s₄:Shared):Prop
  | mk (_:f = .next) (h₄ tk₄ m₄ news₄) (_:s₄ = { s' with heap := h₄,toks := tk₄ }) (_:Fr h₀ L h₄ m₄) (_:News h₀ L h₄ (own ++ news₄)) (_:(∀ p ∈ news₄,p.1 ≠ C ∧ p.1 ≠ R ∧ p.1 ≠ R + 1)) (_:LsIn S l1 l2 X news₄) (_:∀ h₅ tk₅ ga₅,AllBare ga₅ -> Fr h₀ L h₅ m₄ -> News h₀ L h₅ news₄ -> Q .next { s' with heap := h₅,toks := tk₅,gens := ga₅ })
section
variable {prog:Program} {w:World} {A:Around} {E:Value -> Shared -> Prop} {s:Shared} {env:Env} {h₀:Heap} {L:Addr} {Q:Flow -> Shared -> Prop}
inductive GenLoop (prog:Program) (w:World) (A:Around) (h₀:Heap) (L:Addr) (env:Env) (target:PySem.Expr) (body:List Stmt) (Q:Flow -> Shared -> Prop) (xv:Value) (s₁:Shared):Prop
  | mk (G C oG oC S l1 l2 X cd a m₁ m₀ news g) (_:xv = .ref G) (_:Fr h₀ L s₁.heap m₁) (_:News h₀ L s₁.heap ((G,oG) :: (C,oC) :: news)) (_:(∀ p ∈ news,p.1 < C)) (_:C < G) (_:LCg.NsObj oC m₀) (_:m₀ (Str.ofString "ns_stack") = some (.ref S)) (_:m₀ (Str.ofString "_reversed") = some (.type "reversed")) (_:IsGenObj oG g) (_:s₁.gens[g]? = some (.fresh (.func (fB (mth 1)) (itEnv C a cd)))) (_:LsIn S l1 l2 X news) (_:(∀ (j:Nat) y,s₁.gens[j]? = some y -> j ≠ g -> y.bare = true)) (_:∀ R oC' oR oI h tk ga,Fr h₀ L h m₁ -> News h₀ L h ((G,oG) :: (C,oC') :: (R,oR) :: (R + 1,oI) :: news) -> G < R -> wpAny (model prog w) A (assign target env (.ref X)) (fun _ s₃=>wpAny (model prog w) A (execs body env) (GenPost h₀ L { s₁ with heap := h,toks := tk,gens := ga } [(G,oG),(C,oC'),(R,oR),(R + 1,oI)] C R S l1 l2 X Q) NoE s₃) NoE { s₁ with heap := h,toks := tk,gens := ga })
inductive GInv (prog:Program) (w:World) (A:Around) (h₀:Heap) (L:Addr) (Q:Flow -> Shared -> Prop) (s₁:Shared) (G C S l1 l2 X:Addr) (oG:Obj) (g:Nat):Nat -> Shared -> Prop
  | a:GInv prog w A h₀ L Q s₁ G C S l1 l2 X oG g 1 s₁
  | b (R h₄ tk₄ m₄ news₄ ga gs') (_:Fr h₀ L h₄ m₄) (_:h₄.get? G = some oG) (_:Mid C S l1 l2 X R h₄) (_:(h₀.get? C = none ∧ h₀.get? R = none ∧ h₀.get? (R + 1) = none)) (_:(C ≠ L ∧ R ≠ L ∧ R + 1 ≠ L)) (_:News h₀ L h₄ news₄) (_:(∀ p ∈ news₄,p.1 ≠ C ∧ p.1 ≠ R ∧ p.1 ≠ R + 1)) (_:ga[g]? = some gs') (_:(∀ (j:Nat) y,ga[j]? = some y -> j ≠ g -> y.bare = true)) (_:(∀ s'',Mid C S l1 l2 X R s''.heap -> gs'.Goes (model prog w) A.in1 (ItR C R) (ItY C S l1 l2 X R) 0 (.send .none) s'')) (_:∀ h₅ tk₅ ga₅,AllBare ga₅ -> Fr h₀ L h₅ m₄ -> News h₀ L h₅ news₄ -> Q .next { s₁ with heap := h₅,toks := tk₅,gens := ga₅ }):GInv prog w A h₀ L Q s₁ G C S l1 l2 X oG g 0 { s₁ with heap := h₄,toks := tk₄,gens := ga }
theorem For_gen {target iter:PySem.Expr} {body:List Stmt} {pos:Pos} (hs:∀ x,foldedSetIterable iter env x = pure x) (hh:A.handled = none) (hroom:A.depth < recursionLimit) (T:h₀.NoLimit)
    (h:wpAny (model prog w) A (eval iter env) (fun xv s₁=>GenLoop prog w A h₀ L env target body Q xv s₁) E s) :
    wpAny (model prog w) A (exec (.For target iter body [] pos) env) Q E s := by
  refine wpAny_For (wpAny_mono h (fun xv s₁ h₁=>?_) fun _ _ e=>e) hs
  obtain ⟨G,C,oG,oC,S,l1,l2,X,cd,a,m₁,m₀,news,g,rfl,F,N,hlt,hCG,hC,hm,hr,hG,hgs,hL,hbare,turn⟩ := h₁
  have eG := (N (G,oG) (.head _)).1
  have eC := (N (C,oC) (.tail _ (.head _))).1
  refine wpAny_pyIter_gen (hG.gen eG) ?_
  refine codeAny_forLoop_any (GInv prog w A h₀ L Q s₁ G C S l1 l2 X oG g) ?_ 1 .a
  rintro _ _ (_ | ⟨R,h₄,tk₄,m₄,news₄,ga,gs',F₄,eG₄,hmid,⟨n1,n2,n3⟩,⟨q1,q2,q3⟩,N₄,off₄,hga,hba,hgo,fin⟩)
  · refine gen_first hh (T.keeps F.keep) hroom (hG.gen eG) hgs (hC.ns eC) hm hr (hL.lists (news_tail (news_tail N))) fun h₁ tk gs' ga hk hmid hga hold hgo=>?_
    have hNG := (N (G,oG) (.head _)).2
    have hNC := (N (C,oC) (.tail _ (.head _))).2
    have Lt:L < s₁.heap.objs.size := F.ns.lt
    have new:∀ b,s₁.heap.objs.size ≤ b -> h₀.get? b = none := fun b hb=>by
      cases e:h₀.get? b with
      | none=>rfl
      | some o' => exact absurd (Heap.lt_size (F.keep b o' e)) (Nat.not_lt.mpr hb)
    have hGR := Heap.lt_size eG
    obtain ⟨oR,eR,cR,dR⟩ := id hmid.1
    obtain ⟨oI,eI,cI,dI⟩ := id hmid.2.1
    obtain ⟨m',hnC⟩ := hmid.2.2.1
    obtain ⟨oC',eC',hC'⟩ := LCg.ns_obj hnC
    generalize hR:s₁.heap.objs.size = R at *
    have F1:Fr h₀ L h₁ m₁ := ⟨F.ns.at fun o e=>hk _ o (Ne.symm hNC.1) e,fun b o e=>hk b o (fun q=>by rw [q,hNC.2] at e; cases e) (F.keep b o e),F.above⟩
    have N1:News h₀ L h₁ ((G,oG) :: (C,oC') :: (R,oR) :: (R + 1,oI) :: news) := fun p hp=>by
      rcases List.mem_cons.mp hp with rfl | hp
      · exact ⟨hk _ _ (Nat.ne_of_gt hCG) eG,hNG⟩
      · rcases List.mem_cons.mp hp with rfl | hp
        · exact ⟨eC',hNC⟩
        · rcases List.mem_cons.mp hp with rfl | hp
          · exact ⟨eR,(Nat.ne_of_lt Lt).symm,new _ (Nat.le_refl _)⟩
          · rcases List.mem_cons.mp hp with rfl | hp
            · exact ⟨eI,(Nat.ne_of_lt (Nat.lt_succ_of_lt Lt)).symm,new _ (Nat.le_succ _)⟩
            · have z := N p (.tail _ (.tail _ hp))
              exact ⟨hk _ _ (Nat.ne_of_lt (hlt p hp)) z.1,z.2⟩
    refine owned_any (N1 _ (.head _)).1 hG.choose_spec.choose_spec.1 (by decide +kernel) ?_
    refine wpAny_mono (turn R oC' oR oI h₁ tk ga F1 N1 hGR) (fun _ s₃ h₃=>wpAny_mono h₃ (fun f s₄ h₄=>?_) fun _ _ e=>e.elim) fun _ _ e=>e.elim
    obtain ⟨rfl,h₄,tk₄,m₄,news₄,rfl,F₄,N₄,off₄,hL₄,fin⟩ := h₄
    have e1 := (N₄ (G,oG) (.head _)).1
    have e2 := N₄ (C,oC') (.tail _ (.head _))
    have e3 := N₄ (R,oR) (.tail _ (.tail _ (.head _)))
    have e4 := N₄ (R + 1,oI) (.tail _ (.tail _ (.tail _ (.head _))))
    have N₅:News h₀ L h₄ news₄ := fun p hp=>N₄ p (.tail _ (.tail _ (.tail _ (.tail _ hp))))
    exact ⟨0,by decide,.b R h₄ tk₄ m₄ news₄ ga gs' F₄ e1 ⟨⟨oR,e3.1,cR,dR⟩,⟨oI,e4.1,cI,dI⟩,⟨_,hC'.ns e2.1⟩,hL₄.lists N₅⟩ ⟨e2.2.2,e3.2.2,e4.2.2⟩ ⟨e2.2.1,e3.2.1,e4.2.1⟩ N₅ off₄ hga (fun j y hj hne=>hbare j y (hold j y hj hne) hne) hgo fin⟩
  · refine gen_second hh (T.keeps F₄.keep) hroom (hG.gen eG₄) hga hmid hgo fun h₁ tk ga₁ hk hfin=>?_
    refine wpAny_execs_nil ?_
    have hab:AllBare ga₁ := fun y hy=>by
      obtain ⟨j,hj,rfl⟩ := Array.getElem_of_mem hy
      rcases hfin j _ (Array.getElem?_eq_getElem hj) with e | ⟨hne,e⟩
      · rw [e]; rfl
      · exact hba j _ e hne
    refine fin h₁ tk ga₁ hab ?_ ?_
    · exact ⟨F₄.ns.at fun o e=>hk _ o q1.symm q2.symm q3.symm e,fun b o e=>hk b o (fun q=>by rw [q,n1] at e; cases e) (fun q=>by rw [q,n2] at e; cases e) (fun q=>by rw [q,n3] at e; cases e) (F₄.keep b o e),F₄.above⟩
    · exact fun p hp=>⟨hk _ _ (off₄ p hp).1 (off₄ p hp).2.1 (off₄ p hp).2.2 (N₄ p hp).1,(N₄ p hp).2⟩
end
end Mine
end
section
open PySem PySem.W PyProof.Rows PySem.Spec PySem.Calls
namespace Mine
section
variable {prog:Program} {w:World} {A:Around} {E:Value -> Shared -> Prop} {s:Shared} {env:Env} {h₀:Heap} {L:Addr} {Q:Flow -> Shared -> Prop}
noncomputable def ListTurn (prog:Program) (w:World) (A:Around) (h₀:Heap) (L:Addr) (env:Env) (target:PySem.Expr) (body:List Stmt) (Q:Flow -> Shared -> Prop) (s₁:Shared) (vs:Array Value) (J:Nat -> (Str -> Option Value) -> List (Addr × Obj) -> Prop):Prop :=
  ∀ i y m nw I oI h tk,vs[i]? = some y -> J i m nw -> Fr h₀ L h m -> News h₀ L h ((I,oI) :: nw) -> (∀ p ∈ nw,p.1 ≠ I) -> oI.cls = .type "list_iterator" ->
    wpAny (model prog w) A (assign target env y) (fun _ s₃=>wpAny (model prog w) A (execs body env) (UnrPost h₀ L { s₁ with heap := h,toks := tk } I oI (J (i + 1)) Q) NoE s₃) NoE { s₁ with heap := h,toks := tk }
inductive LoopI (h₀:Heap) (L:Addr) (s₁:Shared) (N:Nat) (IT:Heap -> Nat -> Prop) (J:Nat -> (Str -> Option Value) -> List (Addr × Obj) -> Prop) (I:Addr):Nat -> Shared -> Prop
  | mk (i h tk m nw):i ≤ N -> IT h i -> J i m nw -> Fr h₀ L h m -> News h₀ L h nw -> (∀ p ∈ nw,p.1 ≠ I) -> LoopI h₀ L s₁ N IT J I (N - i) { s₁ with heap := h,toks := tk }
inductive ListLoop (prog:Program) (w:World) (A:Around) (h₀:Heap) (L:Addr) (env:Env) (target:PySem.Expr) (body:List Stmt) (Q:Flow -> Shared -> Prop) (xv:Value) (s₁:Shared):Prop
  | it (D vs c m₀ news J) (_:xv = .ref D) (_:Fr h₀ L s₁.heap m₀) (_:News h₀ L s₁.heap news) (_:J 0 m₀ news) (_:(∀ i m nw,J i m nw -> (D,W.listOf vs c) ∈ nw)) (_:ListTurn prog w A h₀ L env target body Q s₁ vs J) (_:∀ m nw h tk,J vs.size m nw -> Fr h₀ L h m -> News h₀ L h nw -> Q .next { s₁ with heap := h,toks := tk })
theorem For_listT {target iter:PySem.Expr} {body:List Stmt} {pos:Pos} {m:Str -> Option Value} (_F₀:Fr h₀ L s.heap m) (hs:∀ x,foldedSetIterable iter env x = pure x) (hh:A.handled = none)
    (h:wpAny (model prog w) A (eval iter env) (ListLoop prog w A h₀ L env target body Q) E s) :
    wpAny (model prog w) A (exec (.For target iter body [] pos) env) Q E s := by
  refine wpAny_For (wpAny_mono h (fun xv s₁ h₁=>?_) fun _ _ e=>e) hs
  obtain ⟨D,vs,c,m₀,news,J,rfl,F,N,hJ,hsrc,turn,fin⟩ := h₁
  have hD := N _ (hsrc _ _ _ hJ)
  refine wpAny_pyIter_list ⟨_,hD.1,rfl,c,rfl⟩ ?_
  have hI:∀ p ∈ news,p.1 ≠ s₁.heap.objs.size := fun p hp=>Nat.ne_of_lt (Heap.lt_size (N p hp).1)
  have hn := kdx_fresh F (Nat.le_refl s₁.heap.objs.size)
  generalize hII:s₁.heap.objs.size = I at *
  have F₁:Fr h₀ L (s₁.heap.push { cls := .type "list_iterator",data := .fields #[.ref D,.int 0 0] }) m₀ := F.push _
  refine codeAny_forLoop_any (LoopI h₀ L s₁ vs.size (fun h i=>h.IsListIter I D i) J I) ?_ vs.size
    (.mk 0 _ s₁.toks m₀ news (Nat.zero_le _) ⟨_,by rw [← hII]; exact Heap.get?_push_size _ rfl,rfl,rfl⟩ hJ F₁ (N.grown fun b o q=>Heap.get?_push_of_some _ q) hI)
  rintro _ _ ⟨i,h',tk,m,nw,hi,hit,hJ',F',N',off⟩
  have hD' := N' _ (hsrc _ _ _ hJ')
  have hl':h'.IsList D vs := ⟨_,hD'.1,rfl,c,rfl⟩
  by_cases hlt:i < vs.size
  · refine wpAny_pyNext_list_item hit hl' (x := vs[i]) (by simp [hlt]) fun h₂ hit₂ hs₂=>?_
    refine owned_any hit₂.choose_spec.1 hit₂.choose_spec.2.1 (by decide +kernel) ?_
    obtain ⟨oI,eI,cI,dI⟩ := hit₂
    have F₂:Fr h₀ L h₂ m := kas_fr F' hs₂ hn.1 hn.2
    have N₂:News h₀ L h₂ ((I,oI) :: nw) := fun p hp=>by
      rcases List.mem_cons.mp hp with rfl | hp
      · exact ⟨eI,hn⟩
      · exact kas_news N' hs₂ off p hp
    refine wpAny_mono (turn i vs[i] m nw I oI h₂ tk (by simp [hlt]) hJ' F₂ N₂ off cI) (fun _ s₃ h₃=>wpAny_mono h₃ (fun f s₄ h₄=>?_) fun _ _ e=>e.elim) fun _ _ e=>e.elim
    have fin':UnrEnd h₀ L { s₁ with heap := h₂,toks := tk } I oI (J (i + 1)) s₄ -> ∃ k,k < vs.size - i ∧ LoopI h₀ L s₁ vs.size (fun h i=>h.IsListIter I D i) J I k s₄ := by
      rintro ⟨h₃,tk₃,m₃,nw₃,rfl,F₃,N₃,off₃,hJ₃⟩
      exact ⟨vs.size - (i + 1),Nat.sub_succ_lt_self _ _ hlt,.mk (i + 1) h₃ tk₃ m₃ nw₃ hlt ⟨oI,(N₃ (I,oI) (.head _)).1,cI,dI⟩ hJ₃ F₃ (fun p hp=>N₃ p (.tail _ hp)) off₃⟩
    cases f with
    | ret v=>exact h₄
    | brk=>exact h₄
    | next=>exact fin' h₄
    | cont=>exact fin' h₄
  · have hi:i = vs.size := by lia
    subst hi
    refine wpAny_pyNext_list_end hh hit hl' (by simp) fun h₂ hs₂=>?_
    refine wpAny_execs_nil ?_
    refine fin m nw h₂ tk hJ' ⟨F'.ns.at fun o e=>hs₂ _ o (fun q=>hn.1 q.symm) e,fun b o e=>hs₂ b o (fun q=>by rw [q,hn.2] at e; cases e) (F'.keep b o e),F'.above⟩ fun p hp=>⟨hs₂ _ _ (off p hp) (N' p hp).1,(N' p hp).2⟩
noncomputable def bind5 (m₀:Str -> Option Value) (v1 v2 v3 v4 v5:Option Value):Str -> Option Value := fun y =>
  if y = Str.ofString "uri" then v5 else if y = Str.ofString "attr_name" then v4 else if y = Str.ofString "attr_qname" then v3 else if y = Str.ofString "v" then v2 else if y = Str.ofString "k" then v1 else m₀ y
theorem bind5_id (m₀:Str -> Option Value):m₀ = bind5 m₀ (m₀ (Str.ofString "k")) (m₀ (Str.ofString "v")) (m₀ (Str.ofString "attr_qname")) (m₀ (Str.ofString "attr_name")) (m₀ (Str.ofString "uri")) := by
  funext y
  unfold bind5
  repeat' split
  all_goals first | rfl | (subst_vars; rfl)
theorem bind5_again (m₀:Str -> Option Value) (v1 v2 v3 v4 v5 a1 a2 a3 a4 a5:Option Value) :
    (fun y=>if y = Str.ofString "uri" then a5 else if y = Str.ofString "attr_name" then a4 else if y = Str.ofString "attr_qname" then a3 else if y = Str.ofString "v" then a2 else if y = Str.ofString "k" then a1 else bind5 m₀ v1 v2 v3 v4 v5 y) = bind5 m₀ a1 a2 a3 a4 a5 := by
  funext y
  unfold bind5
  repeat' split
  all_goals rfl
end
theorem off_tup {h₀ h:Heap} {L a:Addr} {o:Obj} {own all:List (Addr × Obj)} (N:News h₀ L h all) (ha:(a,o) ∈ all) (hc:o.cls ≠ .type "tuple") (hs:∀ p ∈ own,p ∈ all) (ht:∀ p ∈ own,p.2.cls = .type "tuple"):∀ p ∈ own,p.1 ≠ a := by
  intro p hp e
  have h1 := (N _ ha).1
  have h2 := (N _ (hs p hp)).1
  rw [e] at h2
  rw [h1] at h2
  have h3:o = p.2 := Option.some.inj h2
  exact hc (h3 ▸ ht p hp)
end Mine
end
local macro_rules | `(tactic| walk_at "UnrEnd")=>`(tactic| (k_here; refine Mine.Stop.mk ?_))
local macro_rules | `(tactic| walk_at "binaryOp Mod int int")=>`(tactic| (k_here; refine Mine.Stop.mk ?_))
local macro_rules | `(tactic| walk_at "call builtin:list.append")=>`(tactic| (k_here; refine Mine.Stop.mk ?_))
local macro_rules | `(tactic| walk_at "call builtin:sorted")=>`(tactic| (k_here; refine Mine.Stop.mk ?_))
local macro_rules | `(tactic| walk_at "exec For Name Name cons nil")=>`(tactic| (k_here; refine Mine.Stop.mk ?_))
local macro_rules | `(tactic| walk_at "exec For")=>`(tactic| (k_here; refine Mine.Stop.mk ?_))
local macro_rules | `(tactic| walk_at "eval ListComp")=>`(tactic| (k_here; refine Mine.Stop.mk ?_))
local macro_rules | `(tactic| walk_at "call builtin:str.join")=>`(tactic| (k_here; refine Mine.Stop.mk ?_))
local macro_rules | `(tactic| walk_at "eval DictComp")=>`(tactic| (k_here; refine Mine.Stop.mk ?_))
local macro_rules | `(tactic| walk_at "call builtin:dict.get")=>`(tactic| (k_here; refine Mine.Stop.mk ?_))
local macro_rules | `(tactic| lks_lit)=>`(tactic| with_reducible first | assumption | (apply Mine.aL; (iterate 27 (try (first | assumption | apply Mine.aR))); done) | ((iterate 27 (try (first | assumption | apply Mine.aR))); done))
local macro_rules | `(tactic| kpa_ne)=>`(tactic| lks_lit)
local macro_rules | `(tactic| k_ne)=>`(tactic| (refine PySem.W.neN ?_; (try dsimp only); first | with_reducible assumption | exact Mine.nS | exact Mine.nG2 | exact Mine.nG1 | exact Mine.nG | exact Mine.nL | fail))
section
local macro_rules | `(tactic| walk_at "eval Name")=>`(tactic| (k_here; k_dflt (refine Mine.nameX_E ?_); k_whole))
local macro_rules | `(tactic| walk_at "storeName")=>`(tactic| (k_here; k_dflt (refine Mine.storeX_A ?_); k_whole; intro m9 h' F' N'; (try k_sweep)))
local macro_rules | `(tactic| walk_at "execs cons")=>`(tactic| (k_here; k_fold))
section
open PySem PySem.W PyProof.Rows PySem.Spec PySem.Calls
namespace Mine
noncomputable abbrev pickV:List Value -> Nat -> List Int -> List Value := pickG .none
noncomputable def bindP (m₀:Str -> Option Value) (v1 v2 v3:Option Value):Str -> Option Value := fun y =>
  if y = Str.ofString "stock" then v3 else if y = Str.ofString "place" then v2 else if y = Str.ofString "number" then v1 else m₀ y
theorem bindP_id (m₀:Str -> Option Value) {x:Value} (h:m₀ (Str.ofString "stock") = some x):m₀ = bindP m₀ (m₀ (Str.ofString "number")) (m₀ (Str.ofString "place")) (some x) := by
  funext y
  unfold bindP
  repeat' split
  all_goals first | rfl | (subst_vars; first | rfl | assumption)
theorem bindP_again (m₀:Str -> Option Value) (v1 v2 v3 a1 a2 a3:Option Value) :
    (fun y=>if y = Str.ofString "stock" then a3 else if y = Str.ofString "place" then a2 else if y = Str.ofString "number" then a1 else bindP m₀ v1 v2 v3 y) = bindP m₀ a1 a2 a3 := by
  funext y
  unfold bindP
  repeat' split
  all_goals rfl
structure PJ (ks:List Int) (vs:List Value) (n:Nat) (pk:Addr) (news:List (Addr × Obj)) (i:Nat) (tl:List (Addr × Obj)) (st:Addr) (os:Obj) (sv:List Value) (items:List Value):Prop where
  sub:∀ p ∈ news,p ∈ tl
  mem:(st,os) ∈ tl
  cls:os.cls = .type "list"
  dat:∃ k,os.data = .seq sv.toArray k
  len:sv.length + i = n
  num:items.length = i
  eq:pickV vs n ks = items ++ pickV sv sv.length (ks.drop i)
  off:∀ p ∈ tl,p.1 ≠ pk
section
variable {prog:Program} {w:World} {A:Around} {s₁:Shared} {env:Env} {h₀:Heap} {L:Addr} {Q:Flow -> Shared -> Prop} {target:PySem.Expr} {body:List Stmt}
inductive PX (ks:List Int) (vs:List Value) (n:Nat) (pk:Addr) (news:List (Addr × Obj)) (m₀:Str -> Option Value) (i:Nat) (m:Str -> Option Value) (nw:List (Addr × Obj)):Prop
  | mk (tl st os sv items v1 v2) (_:m = bindP m₀ v1 v2 (some (.ref st))) (_:nw = (pk,PySem.W.listOf (List.toArray items) items.length) :: tl) (_:PJ ks vs n pk news i tl st os sv items)
theorem ListLoop.pk {ls ln pk:Addr} {vs ws:List Value} {ks:List Int} {n kk kn:Nat} {m₀:Str -> Option Value} {news:List (Addr × Obj)}
    (F:Fr h₀ L s₁.heap m₀) (N:News h₀ L s₁.heap ((pk,PySem.W.listOf #[] 0) :: news)) (hst:m₀ (Str.ofString "stock") = some (.ref ls)) (l:∀ p ∈ news,p.1 < pk)
    (hls:(ls,({ cls := .type "list",data := .seq vs.toArray kk } : Obj)) ∈ news) (hvs:vs.length = n) (hw:IntsAre ws ks) (hkn:ks.length < n) (hln:(ln,({ cls := .type "list",data := .seq ws.toArray kn } : Obj)) ∈ news)
    (turn:∀ i k t tl st os sv items v1 v2 I oI h tk,ks[i]? = some k -> PJ ks vs n pk news i tl st os sv items -> 0 < sv.length -> Fr h₀ L h (bindP m₀ v1 v2 (some (.ref st))) -> News h₀ L h ((I,oI) :: (pk,PySem.W.listOf (List.toArray items) items.length) :: tl) ->
      (@Ne Nat pk I) -> (∀ p ∈ tl,p.1 ≠ I) ->
      wpAny (model prog w) A (assign target env (.int k t)) (fun _ s₃=>wpAny (model prog w) A (execs body env) (UnrPost h₀ L { s₁ with heap := h,toks := tk } I oI (PX ks vs n pk news m₀ (i + 1)) Q) NoE s₃) NoE { s₁ with heap := h,toks := tk })
    (fin:∀ tl v1 v2 st h tk,(∀ p ∈ news,p ∈ tl) -> Fr h₀ L h (bindP m₀ v1 v2 (some (.ref st))) -> News h₀ L h ((pk,PySem.W.listOf (List.toArray (pickV vs n ks)) ks.length) :: tl) -> Q .next { s₁ with heap := h,toks := tk }) :
    ListLoop prog w A h₀ L env target body Q (.ref ln) s₁ := by
  have hl := hw.length
  refine ⟨ln,ws.toArray,kn,m₀,_,PX ks vs n pk news m₀,rfl,F,N,⟨news,ls,_,vs,[],_,_,bindP_id _ hst,rfl,⟨fun _ h=>h,hls,rfl,⟨kk,rfl⟩,hvs,rfl,by rw [hvs]; rfl,fun p hp=>Nat.ne_of_lt (l p hp)⟩⟩,?_,?_,?_⟩
  · rintro i m nw ⟨tl,st,os,sv,items,v1,v2,rfl,rfl,hp⟩
    exact .tail _ (hp.sub _ hln)
  · rintro i y m nw I oI h tk hy ⟨tl,st,os,sv,items,v1,v2,rfl,rfl,hp⟩ F' N' off cI
    obtain ⟨k,t,rfl,hk⟩ := hw.at i y (by simpa using hy)
    have hi:i < ks.length := (List.getElem?_eq_some_iff.mp hk).1
    have := hp.len
    exact turn i k t tl st os sv items v1 v2 I oI h tk hk hp (Nat.pos_of_lt_add_left (Nat.lt_of_lt_of_eq (Nat.lt_trans hi hkn) this.symm)) F' N' (off (pk,_) (.head _)) fun p hp=>off p (.tail _ hp)
  · rintro m nw h tk ⟨tl,st,os,sv,items,v1,v2,rfl,rfl,hp⟩ F' N'
    have he := hp.eq
    rw [List.drop_of_length_le (by rw [List.size_toArray,hl]; exact Nat.le_refl _),pickV,pickG_nil,List.append_nil] at he
    have hn := hp.num
    rw [List.size_toArray,hl, ← he] at hn
    rw [← he,hn] at N'
    exact fin tl v1 v2 st h tk hp.sub F' N'
end
theorem PJ.next {ks:List Int} {vs:List Value} {n:Nat} {pk:Addr} {news:List (Addr × Obj)} {i:Nat} {tl:List (Addr × Obj)} {st:Addr} {os:Obj} {sv items:List Value} {k q:Int} {D:Addr} {x:Value} {c:Nat}
    (hp:PJ ks vs n pk news i tl st os sv items) (hk:ks[i]? = some k) (hq:q = Int.fmod k (sv.length:Int)) (hx:sv[q.toNat]? = some x) (hD:@LT.lt Nat _ pk D) :
    PJ ks vs n pk news (i + 1) ((D,PySem.W.listOf (List.toArray (sv.eraseIdx q.toNat)) c) :: tl) D (PySem.W.listOf (List.toArray (sv.eraseIdx q.toNat)) c) (sv.eraseIdx q.toNat) (items ++ [x]) := by
  have hlt:q.toNat < sv.length := (List.getElem?_eq_some_iff.mp hx).1
  have hlen:(sv.eraseIdx q.toNat).length = sv.length - 1 := by rw [List.length_eraseIdx,if_pos hlt]
  have := hp.len
  refine ⟨fun p h=>.tail _ (hp.sub p h),.head _,rfl,⟨c,rfl⟩,by rw [hlen,Nat.add_comm i 1, ← Nat.add_assoc,Nat.sub_add_cancel (Nat.lt_of_le_of_lt (Nat.zero_le _) hlt)]; exact hp.len,by rw [List.length_append,hp.num]; rfl,?_,fun p h=>?_⟩
  · have hd:ks.drop i = k :: ks.drop (i + 1) := by
      obtain ⟨hi,e⟩ := List.getElem?_eq_some_iff.mp hk
      rw [List.drop_eq_getElem_cons hi,e]
    rw [hp.eq,hd,pickV,pickG_cons, ← hq,hlen,List.getD_eq_getElem?_getD,hx,List.append_assoc]
    rfl
  · rcases List.mem_cons.mp h with rfl | h
    · exact Nat.ne_of_gt hD
    · exact hp.off p h
theorem pk_sub {I c d e f:Addr × Obj} {tl:List (Addr × Obj)} : ∀ p ∈ I :: e :: f :: tl,p ∈ f :: c :: d :: I :: e :: tl := by
  intro p hp
  rcases List.mem_cons.mp hp with rfl | hp
  · exact .tail _ (.tail _ (.tail _ (.head _)))
  · rcases List.mem_cons.mp hp with rfl | hp
    · exact .tail _ (.tail _ (.tail _ (.tail _ (.head _))))
    · rcases List.mem_cons.mp hp with rfl | hp
      · exact .head _
      · exact .tail _ (.tail _ (.tail _ (.tail _ (.tail _ hp))))
theorem pk_addV {prog:Program} {w:World} {A:Around} {E:Value -> Shared -> Prop} {s:Shared} {h₀:Heap} {L a b:Addr} {m:Str -> Option Value} {news:List (Addr × Obj)} {vs:List Value} {k k':Nat} {Q:Value -> Shared -> Prop}
    (F:Fr h₀ L s.heap m) (N:News h₀ L s.heap news) (ha:s.heap.IsList a (vs.take k).toArray) (hb:s.heap.IsList b (vs.drop k').toArray) (e:k' = k + 1) (hk:k < vs.length) (hz:vs.length ≤ 1000)
    (h:∀ D h',Fr h₀ L h' m -> News h₀ L h' ((D,PySem.W.listOf (List.toArray (vs.eraseIdx k)) 0) :: news) -> (∀ p ∈ news,p.1 < D) -> Q (.ref D) { s with heap := h' }) :
    wpAny (model prog w) A (binaryOp .Add (.ref a) (.ref b)) Q E s := by
  subst e
  refine kmk_add_lit F N ha hb (List.eraseIdx_eq_take_drop_succ vs k).symm h ?_
  simp only [List.length_take,List.length_drop,sizeLine_eq]
  exact Nat.le_trans (Nat.add_le_add (Nat.le_trans (Nat.min_le_right _ _) hz) (Nat.le_trans (Nat.sub_le _ _) hz)) (by decide)
theorem PJ.isL {ks:List Int} {vs:List Value} {n:Nat} {pk:Addr} {news:List (Addr × Obj)} {i:Nat} {tl:List (Addr × Obj)} {st:Addr} {os:Obj} {sv items:List Value} (hp:PJ ks vs n pk news i tl st os sv items) {h₀ h:Heap} {L:Addr} {all:List (Addr × Obj)} (N:News h₀ L h all) (hs:(st,os) ∈ all):h.IsList st sv.toArray :=
  have ⟨k,hk⟩ := hp.dat
  ⟨_,(N _ hs).1,hp.cls,k,hk⟩
local macro_rules | `(tactic| walk_at "call builtin:len")=>`(tactic| (k_here; refine Stop.mk ?_))
local macro_rules | `(tactic| walk_at "subscriptTail")=>`(tactic| (k_here; refine Stop.mk ?_))
local macro_rules | `(tactic| walk_at "binaryOp Add ref ref")=>`(tactic| (k_here; refine Stop.mk ?_))
theorem c_pickV
    (B:Below A₀ base outer h₀) (F:Fr h₀ L s.heap m) (X:(KF w.params).In h₀) (N:News h₀ L s.heap news) (T:Top p loose mean mg mb h₀) (hk:cs.kind = .function) (hd:dp + 12 < recursionLimit) (hu:un + 60 < cLine)
    {T':List Value -> Prop} (ls ln:Addr) (vs:List Value) (n kk kn:Nat) (hls:(ls,({ cls := .type "list",data := .seq vs.toArray kk } : Obj)) ∈ news) (hvs:vs.length = n)
    (ws:List Value) (ks:List Int) (hw:IntsAre ws ks) (hkn:ks.length < n) (hn:n ≤ 60) (hln:(ln,({ cls := .type "list",data := .seq ws.toArray kn } : Obj)) ∈ news)
    (hsort:∀ {A:Around} {Q E:Value -> Shared -> Prop} {s:Shared} {h₀:Heap} {L l:Addr} {m:Str -> Option Value} {news:List (Addr × Obj)},Fr h₀ L s.heap m -> News h₀ L s.heap news -> s.heap.IsList l (pickV vs n ks).toArray ->
      (∀ (D:Addr) (h':Heap) (ws:List Value) (c:Nat),Fr h₀ L h' m -> News h₀ L h' ((D,PySem.W.listOf ws.toArray c) :: news) -> (∀ p ∈ news,p.1 < D) -> T' ws -> Q (.ref D) { s with heap := h' }) ->
      wpAny (model prog w) A (call (.builtin "sorted") [.ref l]) Q E s)
    (hret:∀ (D:Addr) (ws:List Value) (c:Nat) (h':Heap) (tk':Nat),T' ws -> Fr h₀ L h' m -> News h₀ L h' ((D,PySem.W.listOf ws.toArray c) :: news) -> (∀ p ∈ news,p.1 < D) -> Q (.ref D) { s with heap := h',toks := tk' }) :
    wpAny (model prog w) (ktrTop dp un gd cn cs L a ccd cl outer) (call (.ref 253) [.ref ls,.ref ln]) Q E s := by
  w_on
  refine wpAny_call ?_
  k_dflt cell_enter
  (rename Fr _ _ _ (fun _=>_)=>F0); refine foldAll F0 ?_; clear F0; intro A9 e9 m9 F0
  k_steps
  refine Stop.of ?_
  (rename Fr _ _ _ _=>F9)
  refine For_listT F9 (fun _=>by with_unfolding_all rfl) rfl ?_
  k_steps
  (rename Fr _ _ _ _=>F8)
  (rename News _ _ _ _=>N8)
  (rename (∀ p ∈ news,p.1 < _)=>l8)
  refine ListLoop.pk F8 N8 rfl l8 hls hvs hw hkn hln ?turn ?fin
  case turn =>
    clear F8 N8 l8
    intro i k t tl st os sv items v1 v2 I oI h tk hk hp h0 F7 N7 neI offI
    have hs60:sv.length ≤ 60 := Nat.le_trans (Nat.le.intro hp.len) hn
    k_steps
    refine Stop.of ?_
    (rename News _ _ _ _=>N6)
    refine len_L _ (hp.isL N6 (.tail _ (.tail _ hp.mem))) rfl (Nat.lt_of_le_of_lt hs60 (by decide)) ?_
    k_steps
    refine Stop.of ?_
    refine pk_mod h0 fun q t9 tk9 q9 q0 q1=>?_
    k_steps
    refine Stop.of ?_
    have hq:q.toNat < sv.length := (Int.toNat_lt q0).mpr q1
    have hx := List.getElem?_eq_getElem hq
    (rename News _ _ _ _=>N5)
    refine item_at (hp.isL N5 (.tail _ (.tail _ hp.mem))) q0 (Int.lt_trans q1 (Int.lt_of_le_of_lt (Int.ofNat_le.mpr hs60) (by decide))) hx ?_
    k_steps
    refine Stop.of ?_
    refine append_K (by k_asm) N5 (.tail (Ne.symm neI) (.head hp.off)) (fun h4 F4 N4=>?_) (by rw [List.size_toArray,sizeLine_eq,hp.num]; have hl := hp.len; lia)
    rw [List.push_toArray] at N4
    k_steps
    refine Stop.of ?_
    refine pk_upto (vs := sv) F4 N4 (hp.isL N4 (.tail _ (.tail _ hp.mem))) q0 (fun D1 h5 F5 N5 l5=>?_) (by with_unfolding_all rfl) (by kmk_pure) (by rw [sizeLine_eq]; exact Nat.le_trans hs60 (by decide))
    k_steps
    refine Stop.of ?_
    refine pk_from (vs := sv) F5 N5 (hp.isL N5 (.tail _ (.tail _ (.tail _ hp.mem)))) (Int.le_add_one q0) (fun D3 h6 F6 N6 l6=>?_) (by with_unfolding_all rfl) (by kmk_pure) (by rw [sizeLine_eq]; exact Nat.le_trans hs60 (by decide))
    k_steps
    refine Stop.of ?_
    refine pk_addV F6 N6 (N6.isList (.tail _ (.head _))) (N6.isList (.head _)) (Int.toNat_add q0 (by decide)) hq (Nat.le_trans hs60 (by decide)) (fun D4 h8 F8 N8 l8=>?_)
    k_steps
    refine Stop.of ?_
    (rename Fr _ _ _ _=>F7)
    (rename News _ _ _ _=>N7)
    refine UnrEnd.intro F7 N7 ((_,PySem.W.listOf (List.toArray (items ++ [sv[q.toNat]])) (items ++ [sv[q.toNat]]).length) :: (D4,PySem.W.listOf (List.toArray (sv.eraseIdx q.toNat)) 0) :: tl) ?_ ?_ ⟨_,D4,_,_,items ++ [sv[q.toNat]],_,_,bindP_again _ _ _ _ _ _ _,rfl,hp.next hk q9 hx (l8 _ (.tail _ (.tail _ (.tail _ (.head _)))))⟩
    · rw [List.length_append]
      exact pk_sub
    · intro p hp
      rcases List.mem_cons.mp hp with rfl | hp
      · exact neI
      · rcases List.mem_cons.mp hp with rfl | hp
        · exact Nat.ne_of_gt (l8 _ (.tail _ (.tail _ (.head _))))
        · exact offI p hp
  case fin =>
    intro tl v1 v2 st h tk hsub F7 N7
    k_steps
    refine Stop.of ?_
    refine hsort (by k_asm) N7 (N7.isList (.head _)) fun D2 h2 ws2 c2 F2 N2 l2 t2=>?_
    k_steps
    exact hret _ _ _ _ _ t2 (by k_asm) (fun p hp=>(by assumption:News h₀ L _ _) p (by rcases List.mem_cons.mp hp with rfl | hp; exact .head _; exact .tail _ (.tail _ (hsub p hp)))) fun p hp=>l2 p (.tail _ (hsub p hp))
theorem pickV_len:∀ {ks:List Int} {vs:List Value} {c:Nat},(pickV vs c ks).length = ks.length
  | [],_,_=>rfl
  | _ :: ks,_,_=>congrArg (· + 1) (pickV_len (ks := ks))
theorem pickV_I {ks:List Int} {vs:List Value} {ns:List Int} {c:Nat} : IntsAre vs ns -> ns.length = c -> ks.length ≤ c -> IntsAre (pickV vs c ks) (pickI ns c ks) :=
  pickG_rel .nil (fun h q hq r=>by
    have hv := h.length ▸ hq
    obtain ⟨n,t,e1,e2⟩ := h.at q _ (List.getElem?_eq_getElem hv)
    rw [List.getD_eq_getElem?_getD,List.getElem?_eq_getElem hv,List.getD_eq_getElem?_getD,e2,e1]
    exact .cons _ _ r) (fun h q=>by
    rw [List.eraseIdx_eq_take_drop_succ,List.eraseIdx_eq_take_drop_succ]
    exact (h.take q).append (h.drop (q + 1))) ks
theorem pickV_S {ks:List Int} {vs:List Value} {ns:List Str} {c:Nat} : StrsAre vs ns -> ns.length = c -> ks.length ≤ c -> StrsAre (pickV vs c ks) (pickS ns c ks) :=
  pickG_rel .nil (fun h q hq r=>by
    have hv := h.length ▸ hq
    obtain ⟨n,t,e1,e2⟩ := strs_at h q _ (List.getElem?_eq_getElem hv)
    rw [List.getD_eq_getElem?_getD,List.getElem?_eq_getElem hv,List.getD_eq_getElem?_getD,e1,e2]
    exact .cons _ _ r) (fun h q=>by
    rw [List.eraseIdx_eq_take_drop_succ,List.eraseIdx_eq_take_drop_succ]
    exact strs_app (strs_take h q) (strs_drop h (q + 1))) ks
section
theorem c_pickI (B:Below A₀ base outer h₀) (F:Fr h₀ L s.heap m) (X:(KF w.params).In h₀) (N:News h₀ L s.heap news) (T:Top p loose mean mg mb h₀) (hk:cs.kind = .function) (hd:dp + 12 < recursionLimit) (hu:un + 60 < cLine)
    (ls ln:Addr) (vs:List Value) (ns:List Int) (kk kn:Nat) (hls:(ls,({ cls := .type "list",data := .seq vs.toArray kk } : Obj)) ∈ news) (hvs:IntsAre vs ns) (hns:ns.length = 38 + 1)
    (ws:List Value) (ks:List Int) (hw:IntsAre ws ks) (hk3:ks.length = 2 ∨ ks.length = 3 ∨ ks.length = 5) (hln:(ln,({ cls := .type "list",data := .seq ws.toArray kn } : Obj)) ∈ news)
    (hret:∀ (D:Addr) (ws:List Value) (zs:List Int) (c:Nat) (h':Heap) (tk':Nat),IntsAre ws zs -> zs.Perm (pickI ns 39 ks) -> zs.Pairwise (· ≤ ·) -> Fr h₀ L h' m -> News h₀ L h' ((D,PySem.W.listOf ws.toArray c) :: news) -> (∀ p ∈ news,p.1 < D) -> Q (.ref D) { s with heap := h',toks := tk' }) :
    wpAny (model prog w) (ktrTop dp un gd cn cs L a ccd cl outer) (call (.ref 253) [.ref ls,.ref ln]) Q E s := by
  have h5:ks.length ≤ 5 := by lia
  have hp := pickV_I hvs hns (Nat.le_trans h5 (by decide):ks.length ≤ 39)
  exact c_pickV (T' := fun ws=>∃ zs,IntsAre ws zs ∧ zs.Perm (pickI ns 39 ks) ∧ zs.Pairwise (· ≤ ·)) B F X N T hk hd hu ls ln vs 39 kk kn hls (hvs.length.trans hns) ws ks hw (Nat.lt_of_le_of_lt h5 (by decide)) (by decide) hln
    (fun F N hl h=>kso_sorted F N hl hp (by rw [← hp.length,pickV_len]; exact Nat.lt_of_le_of_lt h5 (by decide)) fun D vs' ns' c h' F' N' l i' _ p' o' _=>h D h' vs' c F' N' l ⟨ns',i',p',o'⟩)
    fun D ws c h' tk' ⟨zs,i',p',o'⟩ F' N' l=>hret D ws zs c h' tk' i' p' o' F' N' l
theorem c_pickS (B:Below A₀ base outer h₀) (F:Fr h₀ L s.heap m) (X:(KF w.params).In h₀) (N:News h₀ L s.heap news) (T:Top p loose mean mg mb h₀) (hk:cs.kind = .function) (hd:dp + 12 < recursionLimit) (hu:un + 60 < cLine)
    (ls ln:Addr) (vs:List Value) (ns:List Str) (kk kn:Nat) (hls:(ls,({ cls := .type "list",data := .seq vs.toArray kk } : Obj)) ∈ news) (hvs:StrsAre vs ns) (hns:ns.length = 25 + 1)
    (ws:List Value) (ks:List Int) (hw:IntsAre ws ks) (hk3:ks.length = 2 ∨ ks.length = 3) (hln:(ln,({ cls := .type "list",data := .seq ws.toArray kn } : Obj)) ∈ news)
    (hret:∀ (D:Addr) (ws:List Value) (zs:List Str) (c:Nat) (h':Heap) (tk':Nat),StrsAre ws zs -> zs.Perm (pickS ns 26 ks) -> sortedS zs = true -> Fr h₀ L h' m -> News h₀ L h' ((D,PySem.W.listOf ws.toArray c) :: news) -> (∀ p ∈ news,p.1 < D) -> Q (.ref D) { s with heap := h',toks := tk' }) :
    wpAny (model prog w) (ktrTop dp un gd cn cs L a ccd cl outer) (call (.ref 253) [.ref ls,.ref ln]) Q E s := by
  have h5:ks.length ≤ 3 := by lia
  have hp := pickV_S hvs hns (Nat.le_trans h5 (by decide):ks.length ≤ 26)
  exact c_pickV (T' := fun ws=>∃ zs,StrsAre ws zs ∧ zs.Perm (pickS ns 26 ks) ∧ sortedS zs = true) B F X N T hk hd hu ls ln vs 26 kk kn hls (hvs.length.trans hns) ws ks hw (Nat.lt_of_le_of_lt h5 (by decide)) (by decide) hln
    (fun F N hl h=>pk_sortS F N hl hp (by rw [pickV_len]; exact Nat.lt_of_le_of_lt h5 (by decide)) fun D h' vs' ss' e F' N' l i' p' o' => h D h' vs' e F' N' l ⟨ss',i',p',o'⟩)
    fun D ws c h' tk' ⟨zs,i',p',o'⟩ F' N' l=>hret D ws zs c h' tk' i' p' o' F' N' l
end
end Mine
end
section
open PySem PySem.W PyProof.Rows PySem.Spec PySem.Calls
namespace Mine
inductive IntCs:List PySem.Expr -> List Int -> Prop
  | nil:IntCs [] []
  | cons {k:Int} {u:Nat} {q:Pos} {r:List PySem.Expr} {ks:List Int} : IntCs r ks -> IntCs (.Constant (.int k) u q :: r) (k :: ks)
theorem spliced_ints {M:Model} {A:Around} {E:Value -> Shared -> Prop} {env:Env} {pos:Pos} {es:List PySem.Expr} {ks:List Int} (h:IntCs es ks):∀ {Q:List Value -> Shared -> Prop} {s:Shared},(∀ vs tk,IntsAre vs ks -> Q vs { s with toks := tk }) -> wpAny M A (spliced (backTo pos (starEach es env))) Q E s := by
  induction h with
  | nil=>exact fun k=>spliced_none (k [] _ .nil)
  | cons _ ih=>exact fun k=>spliced_more (wpAny_Constant_int (ih fun vs tk hI=>k _ tk (.cons _ _ hI)))
theorem spliced_cs {M:Model} {A:Around} {E:Value -> Shared -> Prop} {env:Env} {pos:Pos} {a b c:PySem.Expr} {es:List PySem.Expr} {ks:List Int} {Q:List Value -> Shared -> Prop} {s:Shared} (k:∀ vs tk,IntsAre vs ks -> Q vs { s with toks := tk }) (h:IntCs (a :: b :: c :: es) ks := by ((repeat (apply IntCs.cons)); exact IntCs.nil)):wpAny M A (spliced (backTo pos (starEach (a :: b :: c :: es) env))) Q E s := spliced_ints h k
local macro_rules | `(tactic| walk_at "spliced")=>`(tactic| (k_here; k_dflt (refine spliced_cs ?_); intro vs9 tk9 hI9))
local macro_rules | `(tactic| walk_at "call builtin:str.upper")=>`(tactic| (k_here; refine Stop.mk ?_))
theorem add_cs {prog:Program} {w:World} {A:Around} {E:Value -> Shared -> Prop} {s:Shared} {h₀:Heap} {L a b:Addr} {m:Str -> Option Value} {news:List (Addr × Obj)} {vs ws:List Value} {ns:List Int} {Q:Value -> Shared -> Prop}
    (h:∀ D us h',Fr h₀ L h' m -> News h₀ L h' ((D,W.listOf (List.toArray us) 0) :: news) -> (∀ p ∈ news,p.1 < D) -> IntsAre us (ns ++ rg16) -> Q (.ref D) { s with heap := h' })
    (hq:CarriedAll ws ((rangeInts 65024 1 ((65040:Int) - 65024).toNat).map PyData.int) := by assumption) (F:Fr h₀ L s.heap m := by k_asm) (N:News h₀ L s.heap news := by k_asm) (ha:s.heap.IsList a vs.toArray := by kmk_list) (hb:s.heap.IsList b ws.toArray := by kmk_list) (hi:IntsAre vs ns := by first | with_reducible assumption | l_ints) (hz:ns.length + rg16.length ≤ sizeLine := by exact Nat.le_of_ble_eq_true rfl):wpAny (model prog w) A (binaryOp .Add (.ref a) (.ref b)) Q E s := kmk_add_ints F N ha hb hi (codes_j hq) h hz
theorem stop_cq {M:Model} {A:Around} {E:Value -> Shared -> Prop} {s:Shared} {a b:Addr} {ws:List Value} {Q:Value -> Shared -> Prop} (h:Stop (wpAny M A (binaryOp .Add (.ref a) (.ref b)) Q E s)) (_:CarriedAll ws ((rangeInts 65024 1 ((65040:Int) - 65024).toNat).map PyData.int) := by assumption) (_:s.heap.IsList b ws.toArray := by kmk_list):wpAny M A (binaryOp .Add (.ref a) (.ref b)) Q E s := h
local macro_rules | `(tactic| walk_at "binaryOp Add ref ref")=>`(tactic| (k_here; refine stop_cq ?_))
local macro_rules | `(tactic| walk_at "subscriptTail")=>`(tactic| (k_here; refine Stop.mk ?_))
theorem c_dressed
    (B:Below A₀ base outer h₀) (F:Fr h₀ L s.heap m) (X:(KF w.params).In h₀) (N:News h₀ L s.heap news) (T:Top p loose mean mg mb h₀) (hk:cs.kind = .function) (hd:dp + 1 < recursionLimit) (hu:un + 8 < cLine)
    (d:Int) (c:Nat) (t t2:Tok) (hd0:0 ≤ d) (hd1:d < 39) (hc0:97 ≤ c) (hc1:c < 123) (hret:∀ (t:Tok) (h':Heap) (tk':Nat),Fr h₀ L h' m -> News h₀ L h' news -> Q (.str (dressed d c) t) { s with heap := h',toks := tk' }) :
    wpAny (model prog w) (ktrTop dp un gd cn cs L a ccd cl outer) (call (.ref 246) [.int d t,.str ⟨#[c]⟩ t2]) Q E s := by
  w_on
  refine wpAny_call ?_
  k_dflt cell_enter
  (rename Fr _ _ _ (fun _=>_)=>F0); refine foldAll F0 ?_; clear F0; intro A9 e9 m9 F0
  k_steps
  · refine Stop.of ?_
    refine SCL.upper (show (1:Nat) ≤ 5592405 by decide) ?_
    intro hl9
    k_steps
    refine Stop.of ?_
    k_dflt (refine item_two (by first | k_asm | kun_tup) (by lia) (by lia) (fun e9=>?_) (fun e9=>?_))
    · k_steps
      exact dressed_0 (d := d) (by lia) ▸ hret _ _ _ (by k_asm) (by first | k_asm | (refine' cb_drop ?cbN ?cbS; (case cbN=>k_asm); (case cbS=>kcj_all)))
    · k_steps
      exact dressed_1 (d := d) (by lia) ▸ hret _ _ _ (by k_asm) (by first | k_asm | (refine' cb_drop ?cbN ?cbS; (case cbN=>k_asm); (case cbS=>kcj_all)))
  · refine Stop.of ?_
    k_dflt (refine add_cs ?_)
    intro D' ws' h' F' N' l1 hI'
    (rename CarriedAll _ _=>hq9); clear hq9; (rename NewPlain _ _ _ _=>hq8); clear hq8; (rename MadeMark=>hq7); clear hq7; (try k_lt l1); k_sweep
    k_steps
    refine Stop.of ?_
    k_dflt (refine item_codes (News.isList (by k_asm) (by k_mem)) (by assumption) (by lia) (by lia) (fun v9 t9 e9 lo9 hi9=>?_))
    k_steps
    exact dressed_2 (d := d) (by lia) (by lia) (by assumption) ▸ hret _ _ _ (by k_asm) (by first | k_asm | (refine' cb_drop ?cbN ?cbS; (case cbN=>k_asm); (case cbS=>kcj_all)))
  · refine Stop.of ?_
    k_dflt (refine item_firsts (by first | k_asm | kun_tup) (by first | with_reducible assumption | l_ints) (by lia) (by lia) (fun v9 t9 e9 lo9 hi9=>?_))
    k_steps
    exact dressed_3 (d := d) (by lia) (by lia) (by assumption) ▸ hret _ _ _ (by k_asm) (by first | k_asm | (refine' cb_drop ?cbN ?cbS; (case cbN=>k_asm); (case cbS=>kcj_all)))
end Mine
end
section
open PySem PySem.W PyProof.Rows PySem.Spec PySem.Calls
namespace Mine
noncomputable def Kp (P:Prop):Prop := P
noncomputable def MS (many size:Int):Prop := (many = 2 ∧ size = 3) ∨ (many = 3 ∧ size = 3) ∨ (many = 5 ∧ size = 2)
theorem MS.bounds {many size:Int} (h:MS many size):2 ≤ many ∧ many ≤ 5 ∧ 2 ≤ size ∧ size ≤ 3 := by rcases h with ⟨rfl,rfl⟩ | ⟨rfl,rfl⟩ | ⟨rfl,rfl⟩ <;> decide
noncomputable abbrev pairI (x y:Int) (t u:Tok):Obj := { cls := .type "tuple",data := .seq #[.int x t,.int y u] }
section
variable {prog:Program} {w:World} {A:Around} {E:Value -> Shared -> Prop} {s:Shared} {h₀:Heap} {L l:Addr} {m:Str -> Option Value} {news:List (Addr × Obj)} {value slice:PySem.Expr} {k:Int} {u:Tok} {Q:Value -> Shared -> Prop}
theorem ms_item {a b c B0:Nat} {t1 t2 t3 t4 t5 t6:Tok} {oT:Obj} {nT:Nat} (N:News h₀ L s.heap news) (hl:(l,oT) ∈ news) (hcT:oT.cls = .type "tuple") (hdT:oT.data = .seq #[.ref a,.ref b,.ref c] nT)
    (ha:(a,pairI 2 3 t1 t2) ∈ news) (hb:(b,pairI 3 3 t3 t4) ∈ news) (hc:(c,pairI 5 2 t5 t6) ∈ news) (hB:@LT.lt Nat _ B0 a ∧ @LT.lt Nat _ B0 b ∧ @LT.lt Nat _ B0 c) (h0:0 ≤ k) (h3:k < 3)
    (h:∀ (r:Nat) many size t u,News h₀ L s.heap ((r,pairI many size t u) :: news) -> MS many size -> @LT.lt Nat _ B0 r -> Q (.ref r) s)
    (hs:subscripted slice false (.ref l) (.int k u) = operate [.ref l,.int k u] (getItem (.ref l) (.int k u)) := by with_unfolding_all rfl) :
    wpAny (model prog w) A (subscriptTail value slice (.ref l) (.int k u)) Q E s := by
  have hT:IsTup s.heap l [.ref a,.ref b,.ref c].toArray := ⟨_,(N _ hl).1,hcT,nT,hdT⟩
  have cons:∀ (r:Nat) o,(r,o) ∈ news -> News h₀ L s.heap ((r,o) :: news) := fun r o hr q hq=>by
    rcases List.mem_cons.mp hq with rfl | hq
    · exact N _ hr
    · exact N _ hq
  rcases (show k = 0 ∨ k = 1 ∨ k = 2 by lia) with rfl | rfl | rfl
  · exact item_tupleT (j := 0) hT (by decide) (by decide) (by rfl) rfl (h a 2 3 t1 t2 (cons _ _ ha) (.inl ⟨rfl,rfl⟩) hB.1) hs
  · exact item_tupleT (j := 1) hT (by decide) (by decide) (by rfl) rfl (h b 3 3 t3 t4 (cons _ _ hb) (.inr (.inl ⟨rfl,rfl⟩)) hB.2.1) hs
  · exact item_tupleT (j := 2) hT (by decide) (by decide) (by rfl) rfl (h c 5 2 t5 t6 (cons _ _ hc) (.inr (.inr ⟨rfl,rfl⟩)) hB.2.2) hs
noncomputable def escV (k:Int):Str := (escTab.getD k.toNat (.ofString "&",.ofString "&amp;")).1
noncomputable def escW (k:Int):Str := (escTab.getD k.toNat (.ofString "&",.ofString "&amp;")).2
theorem esc_all7:∀ n,n < 7 -> (escV (n:Nat),escW (n:Nat)) ∈ escTab := by decide +kernel
theorem esc_in {k:Int} (h0:0 ≤ k) (h7:k < 7):(escV k,escW k) ∈ escTab := by
  obtain ⟨n,rfl⟩ := Int.eq_ofNat_of_zero_le h0
  exact esc_all7 n (Int.ofNat_lt.mp h7)
theorem seven {k:Int} (h0:0 ≤ k) (h7:k < 7):k = 0 ∨ k = 1 ∨ k = 2 ∨ k = 3 ∨ k = 4 ∨ k = 5 ∨ k = 6 := by
  obtain ⟨n,rfl⟩ := Int.eq_ofNat_of_zero_le h0
  exact (by decide:∀ n:Nat,n < 7 -> ((n:Int) = 0 ∨ (n:Int) = 1 ∨ (n:Int) = 2 ∨ (n:Int) = 3 ∨ (n:Int) = 4 ∨ (n:Int) = 5 ∨ (n:Int) = 6)) n (Int.ofNat_lt.mp h7)
theorem esc_tup {xs:List Value} {oT:Obj} {nT:Nat} (N:News h₀ L s.heap news) (hl:(l,oT) ∈ news) (hcT:oT.cls = .type "tuple") (hdT:oT.data = .seq xs.toArray nT) (hx:StrsAre xs (escTab.map (·.2))) (h0:0 ≤ k) (h7:k < 7) (h:∀ t ev,Kp ((escV k,ev) ∈ escTab) -> Q (.str ev t) s)
    (hs:subscripted slice false (.ref l) (.int k u) = operate [.ref l,.int k u] (getItem (.ref l) (.int k u)) := by with_unfolding_all rfl) :
    wpAny (model prog w) A (subscriptTail value slice (.ref l) (.int k u)) Q E s := by
  have hT:IsTup s.heap l xs.toArray := ⟨_,(N _ hl).1,hcT,nT,hdT⟩
  have hlen:xs.length = 7 := hx.length
  have hk:k.toNat < xs.length := hlen.symm ▸ (Int.toNat_lt h0).mpr h7
  obtain ⟨x,t,e1,e2⟩ := strs_at hx k.toNat _ (List.getElem?_eq_getElem hk)
  have e3:x = escW k := by
    unfold escW
    rw [List.getD_eq_getElem?_getD]
    rw [List.getElem?_map] at e1
    cases e4:escTab[k.toNat]? with
    | none=>rw [e4] at e1; cases e1
    | some q=>rw [e4] at e1; exact (Option.some.inj e1).symm
  subst e3
  have h' := h t _ (esc_in h0 h7)
  refine item_tupleT (j := k.toNat) hT (by lia) (by lia) ?_ (by rw [List.getElem?_eq_getElem hk,e2]) h' hs
  rw [hlen]
  rcases (seven h0 h7) with rfl | rfl | rfl | rfl | rfl | rfl | rfl <;> rfl
theorem esc_str {t:Tok} (h0:0 ≤ k) (h7:k < 7) (h:∀ t tk,Q (.str (escV k) t) { s with toks := tk })
    (hs:subscripted slice false (.str (.ofString "&<\"\t\n\r>") t) (.int k u) = operate [.str (.ofString "&<\"\t\n\r>") t, .int k u] (getItem (.str (.ofString "&<\"\t\n\r>") t) (.int k u)) := by with_unfolding_all rfl) :
    wpAny (model prog w) A (subscriptTail value slice (.str (.ofString "&<\"\t\n\r>") t) (.int k u)) Q E s := by
  rcases (seven h0 h7) with rfl | rfl | rfl | rfl | rfl | rfl | rfl
  · exact tail_any (typeIs_str _ _ _) F.slot_str_getitem.lookup (getItem_str (c := 38) (by decide) (by decide +kernel) (h _ _)) hs
  · exact tail_any (typeIs_str _ _ _) F.slot_str_getitem.lookup (getItem_str (c := 60) (by decide) (by decide +kernel) (h _ _)) hs
  · exact tail_any (typeIs_str _ _ _) F.slot_str_getitem.lookup (getItem_str (c := 34) (by decide) (by decide +kernel) (h _ _)) hs
  · exact tail_any (typeIs_str _ _ _) F.slot_str_getitem.lookup (getItem_str (c := 9) (by decide) (by decide +kernel) (h _ _)) hs
  · exact tail_any (typeIs_str _ _ _) F.slot_str_getitem.lookup (getItem_str (c := 10) (by decide) (by decide +kernel) (h _ _)) hs
  · exact tail_any (typeIs_str _ _ _) F.slot_str_getitem.lookup (getItem_str (c := 13) (by decide) (by decide +kernel) (h _ _)) hs
  · exact tail_any (typeIs_str _ _ _) F.slot_str_getitem.lookup (getItem_str (c := 62) (by decide) (by decide +kernel) (h _ _)) hs
theorem cut_slice {vs:List Value} {ns:List Int} {x y:Int} {t u:Tok} (F:Fr h₀ L s.heap m) (N:News h₀ L s.heap news) (hl:s.heap.IsList l vs.toArray) (hi:IntsAre vs ns) (h0:0 ≤ x) (hxy:x ≤ y) (hy:y ≤ ns.length) (hz:ns.length ≤ 100)
    (h:∀ D ws ks h',Fr h₀ L h' m -> News h₀ L h' ((D,PySem.W.listOf (List.toArray ws) 0) :: news) -> (∀ p ∈ news,p.1 < D) -> IntsAre ws ks -> (ks.length:Int) = y - x -> Q (.ref D) { s with heap := h' })
    (hs:subscripted slice false (.ref l) (.ref s.heap.objs.size) = operate [.ref s.heap.objs.size,.ref l] (getItem (.ref l) (.ref s.heap.objs.size))) (ht:∀ r,letTemporaryGo value (.ref l) r = pure ()) :
    wpAny (model prog w) A (subscriptTail value slice (.ref l) (.ref s.heap.objs.size)) Q E { s with heap := s.heap.push { cls := .type "slice",data := .fields #[.int x t,.int y u,.none] } } := by
  have hlen := hi.length
  refine kmk_slice F N hl (.int _ _) (.int _ _) (fun D h' F' N' l1=>?_) hs ht (by rw [List.size_toArray,hlen,sizeLine_eq]; lia)
  have hd:0 ≤ y := Int.le_trans h0 hxy
  have hb:y.toNat ≤ ns.length := Int.toNat_le.mpr hy
  have hc:x.toNat ≤ y.toNat := Int.toNat_le_toNat hxy
  have e:sliceBounds (some x) (some y) none vs.toArray.size = (((x.toNat:Nat):Int),((y.toNat:Nat):Int),1) := by
    simp only [sliceBounds,Option.getD_none,show (1:Int) > 0 by decide,if_true,if_neg (Int.not_lt.mpr h0),if_neg (Int.not_lt.mpr hd),List.size_toArray]
    rw [clampI h0,clampI hd,hlen,Nat.min_eq_left (Nat.le_trans hc hb),Nat.min_eq_left hb]
  rw [kmk_pick_nat _ e] at N'
  refine h D _ ((ns.drop x.toNat).take (y.toNat - x.toNat)) h' F' N' l1 ((hi.drop _).take _) ?_
  rw [List.length_take,List.length_drop,Nat.min_eq_left (Nat.sub_le_sub_right hb _),Int.ofNat_sub hc,Int.toNat_of_nonneg h0,Int.toNat_of_nonneg hd]
end
section
variable {prog:Program} {w:World} {A:Around} {E:Value -> Shared -> Prop} {s:Shared} {h₀:Heap} {L:Addr} {m:Str -> Option Value} {news:List (Addr × Obj)} {Q:Value -> Shared -> Prop}
theorem list_rangeL {r:Addr} {b:Int} {t u v:Tok} {n:Nat} (hh:A.handled = none) (F:Fr h₀ L s.heap m) (N:News h₀ L s.heap news)
    (hr:IsRange s.heap r 0 b 1 t u v) (hsmall:Builtin.Range.small 0 b 1 = true) (hn:Builtin.Range.rangeSize 0 b 1 = (n:Int)) (hlen:n ≤ 2 ^ 24)
    (h:∀ (D:Addr) (ys:List Value) c h' tk,Fr h₀ L h' m -> News h₀ L h' ((D,PySem.W.listOf (List.toArray ys) c) :: news) -> (∀ p ∈ news,p.1 < D) -> IntsAre ys (rangeInts 0 1 n) -> Q (.ref D) { s with heap := h',toks := tk }) :
    wpAny (model prog w) A (call (.type "list") [.ref r]) Q E s := by
  refine call_list_range hh hr hsmall hn hlen fun h' tk acc' c' hk hS' hacc=>?_
  have fr := kdx_fresh F (Nat.le_refl s.heap.objs.size)
  refine h _ acc'.toList c' h' tk (F.keeps hk) (fun p hp=>?_) (fun p hp=>Heap.lt_size (N p hp).1) (IntsAre.ofCarried (carriedAll_of_get _ _ (by simp [hacc.1,rangeInts_length]) fun j v hv=>?_))
  · rcases List.mem_cons.mp hp with rfl | hp
    · exact ⟨by simpa using hS',fr⟩
    · exact ⟨hk _ _ (N p hp).1,(N p hp).2⟩
  · have hv':acc'[j]? = some v := by simpa using hv
    obtain ⟨tk,rfl⟩ := hacc.2 j v hv'
    have hj:j < n := by
      have := (Array.getElem?_eq_some_iff.mp hv').1
      rw [hacc.1] at this; exact this
    exact ⟨.int (0 + (j:Nat) * 1),by simp [rangeInts_get hj],.int _ _⟩
end
noncomputable def keepL {α:Type} : List Bool -> List α -> List α
  | [],l=>l
  | b :: m,l=>match l with
    | []=>[]
    | x :: l=>match b with
      | true=>x :: keepL m l
      | false=>keepL m l
theorem keepL_mem {α:Type} {x:α} (m:List Bool):∀ (l:List α),x ∈ keepL m l -> x ∈ l := by
  induction m with
  | nil=>exact fun _ h=>h
  | cons b m ih =>
    intro l h
    cases l with
    | nil=>exact h
    | cons y l=>cases b with
      | true=>cases h with
        | head=>exact .head _
        | tail _ h=>exact .tail _ (ih l h)
      | false=>exact .tail _ (ih l h)
theorem news_keep {h₀ h:Heap} {L:Addr} {l:List (Addr × Obj)} (m:List Bool) (N:News h₀ L h l):News h₀ L h (keepL m l) := fun p hp=>N p (keepL_mem m l hp)
noncomputable def letter (i:Nat):Str := ⟨#[(97 + (0 + (i:Int))).toNat]⟩
noncomputable def cOf (b:Str):Nat := b.cps.getD 0 0
noncomputable def drs (d:Int) (b:Str):Str := dressed d (cOf b)
end Mine
end
section
open PySem PySem.W PyProof.Rows PySem.Spec PySem.Calls
namespace Mine
theorem nodup_eraseIdx {α:Type} : ∀ {l:List α} (i:Nat) (h:i < l.length),l.Nodup -> l[i] ∉ l.eraseIdx i := fun {l} => by
  induction l with
  | nil=>exact fun i h=>absurd h (Nat.not_lt_zero i)
  | cons a l ih =>
    intro i h hn
    have hn := List.nodup_cons.mp hn
    cases i with
    | zero=>exact hn.1
    | succ i =>
      have h':i < l.length := Nat.lt_of_succ_lt_succ h
      intro q
      rcases List.mem_cons.mp q with e | q
      · exact hn.1 (e ▸ List.getElem_mem h')
      · exact ih i h' hn.2 q
theorem pick_spec {α:Type} {d:α} (ks:List Int):∀ (ns:List α) (c:Nat),ns.length = c -> ks.length ≤ c -> (pickG d ns c ks).length = ks.length ∧ (∀ x ∈ pickG d ns c ks,x ∈ ns) ∧ (ns.Nodup -> (pickG d ns c ks).Nodup) := by
  induction ks with
  | nil=>exact fun _ _ _ _=>⟨rfl,fun _ h=>(nomatch h),fun _=>List.nodup_nil⟩
  | cons k r ih =>
    intro ns c hc hk
    have hlt := idx_lt (k := k) (Nat.lt_of_lt_of_le (Nat.succ_pos _) hk)
    have hlt':(Int.fmod k (c:Int)).toNat < ns.length := by rw [hc]; exact hlt
    obtain ⟨h1,h2,h3⟩ := ih (ns.eraseIdx (Int.fmod k (c:Int)).toNat) (c - 1) (by rw [List.length_eraseIdx,if_pos hlt',hc]) (Nat.le_pred_of_lt hk)
    rw [pickG_cons,List.getD_eq_getElem?_getD,List.getElem?_eq_getElem hlt']
    refine ⟨congrArg (· + 1) h1,fun x hx=>?_,fun hn=>?_⟩
    · cases hx with
      | head=>exact List.getElem_mem hlt'
      | tail _ hx=>exact List.mem_of_mem_eraseIdx (h2 x hx)
    · exact List.nodup_cons.mpr ⟨fun q=>nodup_eraseIdx _ hlt' hn (h2 _ q),h3 (hn.sublist (List.eraseIdx_sublist _ _))⟩
structure Dresses (zd:List Int) (many:Int):Prop where
  len:(zd.length:Int) = many
  mem:∀ d ∈ zd,0 ≤ d ∧ d < 39
  up:zd.Pairwise (· < ·)
theorem range39_nodup:(rangeInts 0 1 39).Nodup := by decide +kernel
theorem range39_mem:∀ d ∈ rangeInts 0 1 39,0 ≤ d ∧ d < 39 := by decide +kernel
theorem pairwise_strict {l:List Int} (h1:l.Pairwise (· ≤ ·)) (h2:l.Nodup):l.Pairwise (· < ·) := by
  have := h1.and h2
  exact this.imp fun h=>by lia
theorem dresses_of {zd ks:List Int} {many:Int} (hp:zd.Perm (pickI (rangeInts 0 1 39) 39 ks)) (ho:zd.Pairwise (· ≤ ·)) (hk:(ks.length:Int) = many) (hm:many ≤ 5):Dresses zd many := by
  obtain ⟨h1,h2,h3⟩ := pick_spec ks (rangeInts 0 1 39) 39 (by decide) (by lia)
  refine ⟨by rw [hp.length_eq,h1,hk],fun d hd=>range39_mem d (h2 d (hp.mem_iff.mp hd)),pairwise_strict ho (hp.nodup_iff.mpr (h3 range39_nodup))⟩
noncomputable def let26:List Str := (List.range 26).map letter
theorem let26_nodup:let26.Nodup := by decide +kernel
theorem let26_mem {b:Str} (h:b ∈ let26):∃ c:Nat,97 ≤ c ∧ c < 123 ∧ b = ⟨#[c]⟩ := by
  obtain ⟨i,hi,rfl⟩ := List.mem_map.mp h
  have := List.mem_range.mp hi
  exact ⟨97 + i,by lia,by lia,by
    unfold letter
    rw [show ((97:Int) + (0 + (i:Int))).toNat = 97 + i by lia]⟩
structure Letters (ze:List Str) (size:Int):Prop where
  len:(ze.length:Int) = size
  mem:∀ b ∈ ze, ∃ c:Nat,97 ≤ c ∧ c < 123 ∧ b = ⟨#[c]⟩
  nd:ze.Nodup
  up:sortedS ze = true
theorem letters_of {ze:List Str} {ks:List Int} {size:Int} (hp:ze.Perm (pickS ((List.range 26).map letter) 26 ks)) (ho:sortedS ze = true) (hk:(ks.length:Int) = size) (hm:size ≤ 5):Letters ze size := by
  obtain ⟨h1,h2,h3⟩ := pick_spec ks ((List.range 26).map letter) 26 (by decide) (by lia)
  exact ⟨by rw [hp.length_eq,h1,hk],fun d hd=>let26_mem (h2 d (hp.mem_iff.mp hd)),hp.nodup_iff.mpr (h3 let26_nodup),ho⟩
noncomputable def rowsOf (zd:List Int) (ze:List Str):List Str := zd.flatMap fun a=>ze.map (drs a)
theorem rowsOf_len {zd:List Int} {ze:List Str} : (rowsOf zd ze).length = zd.length * ze.length := by
  unfold rowsOf
  rw [List.length_flatMap]
  have e:(zd.map fun a=>(ze.map (drs a)).length) = zd.map fun _=>ze.length := by
    apply List.map_congr_left
    intro a _
    rw [List.length_map]
  rw [e,List.map_const',List.sum_replicate_nat]
theorem Kp.mk {P:Prop} (h:P):Kp P := h
theorem Kp.of {P:Prop} (h:Kp P):P := h
theorem news_lt_of {h₀ h:Heap} {L D:Addr} {l:List (Addr × Obj)} (N:News h₀ L h l) (hD:@LT.lt Nat _ h.objs.size D):∀ p ∈ l,p.1 < D := fun p hp=>Nat.lt_trans (Heap.lt_size (N p hp).1) hD
theorem rows_count {zd:List Int} {ze:List Str} {many size:Int} (D:Dresses zd many) (E:Letters ze size) (M:MS many size):(rowsOf zd ze).length = 6 ∨ (rowsOf zd ze).length = 9 ∨ (rowsOf zd ze).length = 10 := by
  have h1 := D.len
  have h2 := E.len
  rw [rowsOf_len]
  rcases M with ⟨rfl,rfl⟩ | ⟨rfl,rfl⟩ | ⟨rfl,rfl⟩
  · rw [show zd.length = 2 by lia,show ze.length = 3 by lia]; exact .inl rfl
  · rw [show zd.length = 3 by lia,show ze.length = 3 by lia]; exact .inr (.inl rfl)
  · rw [show zd.length = 5 by lia,show ze.length = 2 by lia]; exact .inr (.inr rfl)
section
variable {prog:Program} {w:World} {A:Around} {E:Value -> Shared -> Prop} {s:Shared} {h₀:Heap} {L l a b:Addr} {m:Str -> Option Value} {news:List (Addr × Obj)} {value slice:PySem.Expr} {vs ws:List Value} {u:Tok} {ops:List Value} {Q:Value -> Shared -> Prop}
theorem la_add (F:Fr h₀ L s.heap m) (N:News h₀ L s.heap news) (ha:s.heap.IsList a vs.toArray) (hb:s.heap.IsList b ws.toArray) (hz:vs.length + ws.length ≤ 1000)
    (h:∀ D h',Fr h₀ L h' m -> News h₀ L h' ((D,PySem.W.listOf (vs ++ ws).toArray 0) :: news) -> (∀ p ∈ news,p.1 < D) -> Q (.ref D) { s with heap := h' }) :
    wpAny (model prog w) A (binaryOp .Add (.ref a) (.ref b)) Q E s :=
  kmk_add_lit F N ha hb rfl (fun D h' F' N' l1=>h D h' F' N' l1) (by show vs.length + ws.length ≤ _; rw [sizeLine_eq]; lia)
theorem rev_slice (F:Fr h₀ L s.heap m) (N:News h₀ L s.heap news) (hl:s.heap.IsList l vs.toArray) (hz:vs.length ≤ 1000)
    (h:∀ D h',Fr h₀ L h' m -> News h₀ L h' ((D,PySem.W.listOf vs.reverse.toArray 0) :: news) -> (∀ p ∈ news,p.1 < D) -> Q (.ref D) { s with heap := h' })
    (hs:subscripted slice false (.ref l) (.ref s.heap.objs.size) = operate ops (getItem (.ref l) (.ref s.heap.objs.size))) (ht:∀ r,letTemporaryGo value (.ref l) r = pure ()) :
    wpAny (model prog w) A (subscriptTail value slice (.ref l) (.ref s.heap.objs.size)) Q E { s with heap := s.heap.push { cls := .type "slice",data := .fields #[.none,.none,.int (-1) u] } } :=
  kmk_slice3_lit F N hl .none .none (.int _ _) (by decide) (by rw [krv_pick]) (fun D h' F' N' l1=>h D h' F' N' l1) hs ht (by rw [List.size_toArray,sizeLine_eq]; lia)
end
theorem strs_rev:∀ {vs:List Value} {xs:List Str},StrsAre vs xs -> StrsAre vs.reverse xs.reverse := fun h=>by
  induction h with
  | nil=>exact .nil
  | cons x t r ih =>
    rw [List.reverse_cons,List.reverse_cons]
    exact strs_app ih (.cons _ _ .nil)
end Mine
end
section
open PySem PySem.W PyProof.Rows PySem.Spec PySem.Calls
namespace Mine
theorem off_of {C R:Addr} {news:List (Addr × Obj)} (h:AllLt C news) (h2:C < R):∀ p ∈ news,p.1 ≠ C ∧ p.1 ≠ R ∧ p.1 ≠ R + 1 := fun p hp =>
  have q := kst_ltOf h p hp
  ⟨Nat.ne_of_lt q,Nat.ne_of_lt (Nat.lt_trans q h2),Nat.ne_of_lt (Nat.lt_succ_of_lt (Nat.lt_trans q h2))⟩
structure WD (es:List DictEntry) (wq da S ns ps:Addr):Prop where
  w:getL (Str.ofString "_write") es = some (some (.ref wq))
  da:getL (Str.ofString "_data") es = some (some (.ref da))
  ea:getL (Str.ofString "_exclude_attrs") es = some (some .none)
  et:getL (Str.ofString "_exclude_tags") es = some (some .none)
  rp:getL (Str.ofString "_rewrite_prefixes") es = some (some (.bool false))
  qt:getL (Str.ofString "_qname_aware_tags") es = some (some .none)
  fq:getL (Str.ofString "_find_qname_aware_attrs") es = some (some .none)
  ds:getL (Str.ofString "_declared_ns_stack") es = some (some (.ref S))
  ns:getL (Str.ofString "_ns_stack") es = some (some (.ref ns))
  ps:getL (Str.ofString "_preserve_space") es = some (some (.ref ps))
  it:getL (Str.ofString "_iter_namespaces") es = some none
  st:getL (Str.ofString "_start") es = some none
  qn:getL (Str.ofString "_qname") es = some none
  se:(getL (Str.ofString "_root_seen") es).isSome = true
  len:es.length ≤ 900
local macro_rules | `(tactic| k_get)=>`(tactic| with_reducible assumption)
local macro_rules | `(tactic| walk_at "call builtin:set.add")=>`(tactic| (k_here; refine Stop.mk ?_))
theorem off_l0 {e:Addr} {l:List (Addr × Obj)} (g:AllLt e l := by assumption):∀ p ∈ l,p.1 ≠ e := fun p hp=>Nat.ne_of_lt (kst_ltOf g p hp)
local macro_rules | `(tactic| k_all)=>`(tactic| exact off_l0)
local macro_rules | `(tactic| walk_at "call ref")=>`(tactic| (k_here; refine Stop.mk ?_))
theorem c_qnameC
    (B:Below A₀ base outer h₀) (F:Fr h₀ L s.heap m) (X:(KF w.params).In h₀) {x d S l1 l2 X1 wq da ns ps:Addr} {es:List DictEntry} {kS kl kz kd:Nat} {ku kx:Tok} (N:News h₀ L s.heap ((x,instObj 150 d) :: (d,dictOf es kd) :: (S,W.listOf #[.ref l1,.ref l2] kS) :: (l1,W.listOf #[.ref X1] kl) :: (l2,W.listOf #[] kz) :: (X1,({ cls := .type "tuple",data := .seq #[.str (Str.ofString "http://www.w3.org/XML/1998/namespace") ku,.str (Str.ofString "xml") kx] } : Obj)) :: news)) (T:Top p loose mean mg mb h₀) (hk:cs.kind = .function) (hd:dp + 12 < recursionLimit) (hu:un + 60 < cLine)
    (HW:WD es wq da S ns ps) (n:Str) (t:Tok) (hn:n.length ≤ 4) (hq:(Txt.slice n none (some 1) == Str.ofString "{") = false) (hgb:AllBare s.gens)
    (hret:∀ (T:Addr) (t1 t2 t3:Tok) (h':Heap) (tk':Nat) (ga:Array GenState),AllBare ga -> AllLt T news -> Fr h₀ L h' m -> News h₀ L h' ((T,({ cls := .type "tuple",data := .seq #[.str n t1,.str n t2,.str (Str.ofString "") t3] } : Obj)) :: (x,instObj 150 d) :: (d,dictOf es kd) :: (S,W.listOf #[.ref l1,.ref l2] kS) :: (l1,W.listOf #[.ref X1] kl) :: (l2,W.listOf #[] kz) :: (X1,({ cls := .type "tuple",data := .seq #[.str (Str.ofString "http://www.w3.org/XML/1998/namespace") ku,.str (Str.ofString "xml") kx] } : Obj)) :: news) -> Q (.ref T) { s with heap := h',toks := tk',gens := ga }) :
    codeAny (model prog w) (ktrTop dp un gd cn cs L a ccd cl outer) (.call (.ref 90) ⟨[.ref x,.str n t],[]⟩) (fun r s' => match r with | .ok (.ret v)=>Q v s' | .ok _=>False | .error e=>E e s') s := by
  have w1 := HW.ds
  have w2 := HW.ns
  have w3 := HW.rp
  have w4 := HW.it
  clear HW
  w_on
  k_dflt (refine' code_def ?k1 ?k2 ?k3 ?k4 ?k5 ?kA ?kF ?kK ?k6 ?k7 ?k8 ?k9 ?kB ?_ ?c2 ?c3 ?c4 ?c5; (case kA | kF=>exact rfl); (case kK=>assumption); (case k1 | k2=>k_asm); (case k3 | k4 | k5=>k_asm); (case k6 | k7=>k_is); (case k8=>ktr_room); (case k9=>exact binds_K (by k_in) rfl (by k_is) rfl rfl rfl); (case c5=>decide); (case kB=>exact locs rfl); (case c2 | c3 | c4=>exact rfl); k_whole; intro g' L' h' FG' F' N' B' X' T'; (try dsimp only); (try k_lift B'); (try k_fold))
  (rename Fr _ _ _ (fun _=>_)=>F0); refine foldEM F0 ?_; clear F0; intro e9 m9 F0
  k_steps
  refine Stop.of ?_
  rename (_ < _ ∧ _)=>lc
  have lA := lc.2.2.2.2.2.2.2
  refine For_gen (h₀ := g') (L := L') (fun _=>rfl) rfl (by ktr_room) (Top.nolimit T') ?_
  k_steps
  refine Stop.of ?_
  refine gen_call (by k_asm) (by k_asm) X' (Top.nolimit T') (by ktr_room) ?_
  intro G9 C9 oG9 oC9 h9 tk9 F9 N9 l9 l10 hC9 hG9
  refine ⟨G9,C9,oG9,oC9,S,l1,l2,X1,_,_,_,_,_,_,rfl,F9,N9,l9,l10,hC9,rfl,rfl,hG9,Array.getElem?_push_size ..,?_,?_,?_⟩
  · exact ⟨⟨kS,by k_mem⟩,⟨kl,by k_mem⟩,⟨kz,by k_mem⟩⟩
  · intro j y hj hne
    have hlt:j < s.gens.size := by
      have h1 := (Array.getElem?_eq_some_iff.mp hj).1
      rw [Array.size_push] at h1
      exact Nat.lt_of_le_of_ne (Nat.le_of_lt_succ h1) hne
    rw [Array.getElem?_push_lt hlt] at hj
    exact hgb y (Option.some.inj hj ▸ Array.getElem_mem hlt)
  intro R oC' oR oI h8 tk8 ga8 F8 N8 hGR
  k_lt l9
  have l11 := ltN l10
  have l12 := ltN hGR
  have l13 := ltN (Nat.lt_trans (Nat.lt_trans l9.1 l10) hGR)
  k_steps
  refine Stop.of ?_
  k_dflt (refine' kse_add (knd := PySem.strKind _ _) ?F ?N ?U ?d ?z (strKind_is _ _ _ _) rfl ?_; (case F | N=>k_asm); (case U=>k_updF); (case d=>k_asm); (case z=>decide))
  intro h' o' F' N' hs'
  (try dsimp only at N')
  k_steps
  rename News _ _ _ _=>N7
  refine ⟨rfl,_,_,_,_,rfl,by k_asm,N7,off_of (show AllLt C9 _ from l9) (Nat.lt_trans l11 l12),⟨⟨kS,by k_mem⟩,⟨kl,by k_mem⟩,⟨kz,by k_mem⟩⟩,?_⟩
  intro h5 tk5 ga5 hb5 F5 N5
  k_steps
  rename (_ ∧ _)=>lz
  exact hret _ _ _ _ _ _ _ hb5 lz.2.2.2.2.2.2.2.2 (by k_asm) (by first | k_asm | (refine' cb_drop ?cbN ?cbS; (case cbN=>k_asm); (case cbS=>kcj_all)) | (rename News _ _ _ _=>N9; exact fun p hp=>N9 p (by rcases List.mem_cons.mp hp with rfl | hp; exact .head _; exact .tail _ (.tail _ (.tail _ hp)))))
end Mine
end
section
open PySem PySem.W PyProof.Rows PySem.Spec PySem.Calls
namespace Mine
theorem f_lk_append:typeLookup (.type "list") "append" = pure (some (.builtin "list.append")) := by rw [typeLookup_type,builtinLookup_eq_fast]; kernel_rfl
theorem f_ty_append:typeOf (.builtin "list.append") = pure (.type "method_descriptor") := by kernel_rfl
theorem f_slot_md_get:Slot "method_descriptor" "__get__" "method_descriptor.__get__" :=
  .of (owner := "method_descriptor") (n := "__get__") (by rw [typeLookup_type,builtinLookup_eq_fast]; kernel_rfl) (by decide +kernel) (by decide +kernel) (by decide +kernel)
    (by first | exact .inl (by decide +kernel) | exact .inr (by decide +kernel)) (by rw [isSubtype_type]; kernel_rfl)
theorem f_md_set:typeLookup (.type "method_descriptor") "__set__" = pure none := by rw [typeLookup_type,builtinLookup_eq_fast]; kernel_rfl
theorem f_md_del:typeLookup (.type "method_descriptor") "__delete__" = pure none := by rw [typeLookup_type,builtinLookup_eq_fast]; kernel_rfl
theorem f_entry_md_get:entryFor table "method_descriptor.__get__" = some Builtin.«method_descriptor.__get__» := entryFor_of_tree (by kernel_rfl)
theorem f_args_md_get (a b c:Value):argsOk "method_descriptor.__get__" ⟨[a,b,c],[]⟩ := by unfold argsOk; kernel_rfl
theorem f_owner_append:(".".intercalate ("list.append".cutAt '.').dropLast) = "list" := by
  have e0 : "list.append".cutAt '.' = ["list", "append"] := by first | rfl | decide +kernel
  rw [e0]; decide +kernel
theorem f_sub_append:isSubtype (.type "list") (.type (".".intercalate ("list.append".cutAt '.').dropLast)) = pure true := by
  rw [f_owner_append,isSubtype_type]; kernel_rfl
section
variable {prog:Program} {w:World} {A:Around} {E:Value -> Shared -> Prop} {h:Heap} {g:Array GenState} {d:Drawn} {t:Nat} {os:OsState} {a:Addr} {o:Obj}
theorem md_get_list {R:Result -> Shared -> Prop} (hx:h.get? a = some o) (hc:o.cls = .type "list") (hq:R (.ok (.ret (.ref h.objs.size))) ⟨h.push { cls := .type "builtin_function_or_method",data := .fields #[.builtin "list.append",.ref a] },g,d,t,os⟩) :
    codeAny (model prog w) A (.call (.builtin "method_descriptor.__get__") ⟨[.builtin "list.append",.ref a,.type "list"],[]⟩) R ⟨h,g,d,t,os⟩ := by
  have hT:(⟨h,g,d,t,os⟩:Shared).TypeIs (.ref a) "list" := ⟨_,hx,hc⟩
  have f8 := f_sub_append
  have hT5:(⟨h,g,d,t,os⟩:Shared).TypeIs (.builtin "list.append") "method_descriptor" := f_ty_append
  refine codeAny_call_builtin f_slot_md_get.plain f_entry_md_get (f_slot_md_get.check _ _ _ _ _ _ _ _ hT5 (f_args_md_get _ _ _) ?_)
  repeat (any_goals (first | assumption | wp_step))
theorem append_entry {tk:Tok} {its:Array Value} {n:Nat} {Q:Fin -> Shared -> Prop} (hx:h.get? a = some (W.listOf its n)) (hq:Q (.done (.ret (.ref h.objs.size))) ⟨h.push { cls := .type "builtin_function_or_method",data := .fields #[.builtin "list.append",.ref a] },g,d,t,os⟩) :
    wpAny (model prog w) A (Builtin.«object.__getattribute__» ⟨[.ref a,.str "append" tk],[]⟩) Q E ⟨h,g,d,t,os⟩ := by
  have hT:(⟨h,g,d,t,os⟩:Shared).TypeIs (.ref a) "list" := ⟨_,hx,rfl⟩
  have hT5:(⟨h,g,d,t,os⟩:Shared).TypeIs (.builtin "list.append") "method_descriptor" := f_ty_append
  have f4 := f_lk_append
  have f5 := f_ty_append
  have f6 := f_slot_md_get.lookup
  have f7 := f_md_set
  have f8 := f_md_del
  repeat (any_goals (first | assumption | wp_step))
  refine md_get_list hx rfl ?_
  repeat (any_goals (first | assumption | wp_step))
theorem append_call {tk:Tok} {its:Array Value} {n:Nat} {R:Result -> Shared -> Prop} (hx:h.get? a = some (W.listOf its n)) (hq:R (.ok (.ret (.ref h.objs.size))) ⟨h.push { cls := .type "builtin_function_or_method",data := .fields #[.builtin "list.append",.ref a] },g,d,t,os⟩) :
    codeAny (model prog w) A (.call (.builtin "list.__getattribute__") ⟨[.ref a,.str "append" tk],[]⟩) R ⟨h,g,d,t,os⟩ :=
  codeAny_call_builtin F.slot_list_getattribute.plain F.entry_list_ga (F.slot_list_getattribute.check _ _ _ _ _ _ _ _ (show (⟨h,g,d,t,os⟩:Shared).TypeIs (.ref a) "list" from ⟨_,hx,rfl⟩) (F.args_list_getattribute_2 _ _) (append_entry hx hq))
theorem append_by {tk:Tok} {its:Array Value} {n:Nat} {Q:Value -> Shared -> Prop} (hx:h.get? a = some (W.listOf its n)) (hq:Q (.ref h.objs.size) ⟨h.push { cls := .type "builtin_function_or_method",data := .fields #[.builtin "list.append",.ref a] },g,d,t,os⟩) :
    wpAny (model prog w) A (getAttrBy (.ref a) (.str "append" tk) true true) Q E ⟨h,g,d,t,os⟩ := by
  have hT:(⟨h,g,d,t,os⟩:Shared).TypeIs (.ref a) "list" := ⟨_,hx,rfl⟩
  have f2 := F.slot_list_getattribute.lookup
  have f3 := F.slot_list_getattribute.bind (.ref a)
  repeat (any_goals (first | assumption | wp_step))
  refine append_call hx ?_
  repeat (any_goals (first | assumption | wp_step))
theorem append_attr {its:Array Value} {n:Nat} {Q:Value -> Shared -> Prop} (hx:h.get? a = some (W.listOf its n)) (hq:Q (.ref h.objs.size) ⟨h.push { cls := .type "builtin_function_or_method",data := .fields #[.builtin "list.append",.ref a] },g,d,t + 1,os⟩) :
    wpAny (model prog w) A (getAttr (.ref a) "append" true) Q E ⟨h,g,d,t,os⟩ := by
  unfold getAttr
  refine wpAny_bind (wpAny_mkText (append_by hx hq))
end
end Mine
end
section
open PySem PySem.W PyProof.Rows PySem.Spec PySem.Calls
namespace Mine
theorem f_sub_lm:isSubtype (.type "list") (.type "module") = pure false := by rw [isSubtype_type]; kernel_rfl
theorem f_sub_lt:isSubtype (.type "list") (.type "type") = pure false := by rw [isSubtype_type]; kernel_rfl
section
variable {prog:Program} {w:World} {A:Around} {E:Value -> Shared -> Prop} {s:Shared} {q l:Addr} {its:Array Value} {n:Nat} {x:Value}
noncomputable def boundObj (l:Addr):Obj := { cls := .type "builtin_function_or_method",data := .fields #[.builtin "list.append",.ref l] }
theorem bound_check (hl:s.heap.get? l = some (W.listOf its n)) {Q:Unit -> Shared -> Prop} (h:Q () s):wpAny (model prog w) A (checkBoundCall "list.append" ⟨[.ref l,x],[]⟩) Q E s := by
  have hT:s.TypeIs (.ref l) "list" := ⟨_,hl,rfl⟩
  have f1 := f_sub_lm
  have f2 := f_sub_lt
  unfold checkBoundCall
  repeat (any_goals (first | assumption | wp_step))
theorem bound_call {R:Result -> Shared -> Prop} (hq:s.heap.get? q = some (boundObj l)) (hl:s.heap.get? l = some (W.listOf its n))
    (h:codeAny (model prog w) A (.builtin "list.append" ⟨[.ref l,x],[]⟩) R s):codeAny (model prog w) A (.call (.ref q) ⟨[x],[]⟩) R s := by
  refine codeAny_of_tree ?_
  show wpAny _ _ (callAny (.ref q) _) _ _ _
  unfold callAny
  refine wpAny_bind (wpAny_load hq ?_)
  show wpAny _ _ (checkBoundCall "list.append" ⟨[.ref l,x],[]⟩ >>= fun _=>again (.builtin "list.append" ⟨[.ref l,x],[]⟩)) _ _ _
  refine wpAny_bind (bound_check hl ?_)
  exact wpAny_pure ⟨Code.quiet_builtin _ (by decide +kernel),h⟩
theorem bound_append {Q:Value -> Shared -> Prop} (hq:s.heap.get? q = some (boundObj l)) (hl:s.heap.get? l = some (W.listOf its n)) (hsz:its.size ≤ sizeLine)
    (h:∀ h',Heap.SameBut l s.heap h' -> h'.get? l = some (W.listOf (its.push x) (n + 1)) -> Q .none { s with heap := h' }) :
    wpAny (model prog w) A (call (.ref q) [x]) Q E s := by
  refine wpAny_call (bound_call hq hl (codeAny_builtin entry_list_append ?_))
  show wpAny _ _ (updateSeq l (·.push x) >>= fun _=>ret .none) _ _ s
  refine wpAny_bind ?_
  refine wpAny_updateSeq hl rfl (wpAny_pure (h _ (Heap.SameBut.update ..) ?_))
  rw [Heap.get?_update_self _ hl (by rw [mapSeq_push]; rfl),mapSeq_push]
end
end Mine
end
section
open PySem PySem.W PyProof.Rows PySem.Spec PySem.Calls
namespace Mine
section
variable {prog:Program} {w:World} {A:Around} {E:Value -> Shared -> Prop} {s:Shared} {h₀:Heap} {L q l:Addr} {m:Str -> Option Value} {news news':List (Addr × Obj)} {its:Array Value} {n:Nat} {x:Value}
theorem append_attr_N {Q:Value -> Shared -> Prop} (F:Fr h₀ L s.heap m) (N:News h₀ L s.heap news) (hl:(l,W.listOf its n) ∈ news)
    (h:∀ q h' tk,Fr h₀ L h' m -> News h₀ L h' ((q,boundObj l) :: news) -> (∀ p ∈ news,p.1 < q) -> Q (.ref q) { s with heap := h',toks := tk }) :
    wpAny (model prog w) A (getAttr (.ref l) "append" true) Q E s := by
  obtain ⟨hp,g,d,t,os⟩ := s
  refine append_attr (N _ hl).1 (h _ _ _ (F.push _) (News.push F N _ rfl) fun p hp=>Heap.lt_size (N p hp).1)
theorem bound_append_N {Q:Value -> Shared -> Prop} (F:Fr h₀ L s.heap m) (N:News h₀ L s.heap news) (hq:(q,boundObj l) ∈ news) (U:Upd l (W.listOf its n) (W.listOf (its.push x) (n + 1)) news news') (hsz:its.size ≤ sizeLine)
    (h:∀ h',Fr h₀ L h' m -> News h₀ L h' news' -> Q .none { s with heap := h' }):wpAny (model prog w) A (call (.ref q) [x]) Q E s := by
  have hq' := (N _ hq).1
  obtain ⟨pre,post,rfl,rfl,a,b⟩ := U.split
  have hm := N (l,W.listOf its n) (List.mem_append_right _ (.head _))
  exact bound_append hq' hm.1 hsz fun h' hs ho=>h h' (F.change hs hm.2.1 hm.2.2) (N.setIn a b hs ho)
theorem append_N {vs:List Value} {Q:Value -> Shared -> Prop} (F:Fr h₀ L s.heap m) (N:News h₀ L s.heap news) (U:Upd l (W.listOf vs.toArray n) (W.listOf (vs ++ [x]).toArray (n + 1)) news news') (hsz:vs.length ≤ sizeLine)
    (h:∀ h',Fr h₀ L h' m -> News h₀ L h' news' -> Q .none { s with heap := h' }):wpAny (model prog w) A (call (.builtin "list.append") [.ref l,x]) Q E s := by
  obtain ⟨pre,post,rfl,rfl,a,b⟩ := U.split
  have hm := N (l,W.listOf vs.toArray n) (List.mem_append_right _ (.head _))
  refine append_at (hsz := by simpa using hsz) hm.1 fun h' hs ho=>h h' (F.change hs hm.2.1 hm.2.2) (N.setIn a b hs ?_)
  rw [ho]
  simp [W.listOf]
end
end Mine
end
section
open PySem PySem.W PyProof.Rows PySem.Spec PySem.Calls
namespace Mine
noncomputable def nsRows:List (String × Nat × String) := [("http://www.w3.org/XML/1998/namespace",329, "xml"),("http://www.w3.org/1999/xhtml",331, "html"),("http://www.w3.org/1999/02/22-rdf-syntax-ns#",333, "rdf"),("http://schemas.xmlsoap.org/wsdl/",335, "wsdl"),("http://www.w3.org/2001/XMLSchema",337, "xs"),("http://www.w3.org/2001/XMLSchema-\x69nstance", 339, "xsi"), ("http://purl.org/dc/elements/1.1/", 341, "dc")]
noncomputable def nsEnt (P:Params) (r:String × Nat × String):DictEntry := ⟨PyData.keyHash P (.ofString r.1),.str (.ofString r.1) r.2.1,.str (.ofString r.2.2) (r.2.1 + 1)⟩
noncomputable def nsKvs:List (Str × Value) := nsRows.map fun r=>(.ofString r.1,.str (.ofString r.2.2) (r.2.1 + 1))
theorem ns_pairs {prog:Program} {w:World} {P:Params} : ∀ l:List (String × Nat × String),Pairs (PySem.strKind prog w) (l.map (nsEnt P)) (l.map fun r=>((Str.ofString r.1,Value.str (.ofString r.2.2) (r.2.1 + 1)):Str × Value))
  | []=>.nil
  | _ :: r=>.cons (strKind_is _ _ _ _) rfl (ns_pairs r)
theorem ns_keys {prog:Program} {w:World} : PySem.KeysOf (PySem.strKind prog w) (nsRows.map (nsEnt w.params)).toArray := fun e he=>by
  have he:e ∈ nsRows.map (nsEnt w.params) := by simpa using he
  obtain ⟨r,_,rfl⟩ := List.mem_map.mp he
  exact ⟨_,strKind_is _ _ _ _,rfl⟩
theorem ns_dict {prog:Program} {w:World} {h:Heap} (X:(KF w.params).In h):h.DictAt (PySem.strKind prog w) 44 nsKvs 7 :=
  ⟨_,(nsRows.map (nsEnt w.params)).toArray,X 44 _ (by with_unfolding_all rfl),⟨rfl,rfl,rfl⟩,rfl,ns_keys,ns_pairs _,by decide +kernel⟩
section
variable {prog:Program} {w:World} {A:Around} {E:Value -> Shared -> Prop} {s:Shared} {h₀:Heap} {L V:Addr} {m:Str -> Option Value} {news:List (Addr × Obj)}
theorem ns_getMethod {pl:Sem Bool} {Q:Value × List Value -> Shared -> Prop} (X:(KF w.params).In s.heap) (h:Q (.builtin "dict.items",[.ref 44]) s):wpAny (model prog w) A (getMethod (.ref 44) "items" pl) Q E s :=
  have hD := (ns_dict (prog := prog) X).dictOf
  getMethod_builtin hD.typeIs PySem.F.plainAttrs_dict PySem.F.slot_dict_items PySem.F.type_dict_items hD.mapOf.noDict h
theorem ns_items {Q:Value -> Shared -> Prop} (X:(KF w.params).In s.heap) (F:Fr h₀ L s.heap m) (N:News h₀ L s.heap news)
    (h:∀ (D:Addr) h',Fr h₀ L h' m -> News h₀ L h' ((D, { cls := .type "dict_items",data := .fields #[.ref 44] }) :: news) -> (∀ q ∈ news,q.1 < D) -> Q (.ref D) { s with heap := h' }) :
    wpAny (model prog w) A (call (.builtin "dict.items") [.ref 44]) Q E s :=
  have hD := (ns_dict (prog := prog) X).dictOf
  call_meetsIn PySem.F.slot_dict_items hD.typeIs PySem.F.entry_dict_items (PySem.F.args_dict_items_1 _) (meets_dict_items (PySem.strKind prog w) 44 rfl) ⟨⟨_,hD⟩,h _ _ (F.push _) (News.push F N _ rfl) fun q hq=>Heap.lt_size (N q hq).1⟩
theorem ns_list {Q:Value -> Shared -> Prop} (hh:A.handled = none) (X:(KF w.params).In s.heap) (F:Fr h₀ L s.heap m) (N:News h₀ L s.heap news) (hV:(V,({ cls := .type "dict_items",data := .fields #[.ref 44] } : Obj)) ∈ news)
    (h:∀ (D:Addr) h' tk,Fr h₀ L h' m -> News h₀ L h' news -> (∀ q ∈ news,q.1 < D) -> Q (.ref D) { s with heap := h',toks := tk }) :
    wpAny (model prog w) A (call (.type "list") [.ref V]) Q E s := by
  refine kdx_call (knd := PySem.strKind prog w) (d := 44) hh ⟨_,(N _ hV).1,rfl,rfl⟩ (ns_dict X) (by decide +kernel) fun h' tk acc c as hk _ _ _ _=>?_
  exact h _ h' tk (F.keeps hk) (N.grown hk) fun q hq=>Heap.lt_size (N q hq).1
end
end Mine
end
section
open PySem PySem.W PyProof.Rows PySem.Spec PySem.Calls
namespace Mine
section
variable {prog:Program} {w:World} {A:Around} {E:Value -> Shared -> Prop} {s:Shared} {h₀:Heap} {L:Addr} {m:Str -> Option Value} {env:Env}
noncomputable def DTurn (prog:Program) (w:World) (A:Around) (h₀:Heap) (L:Addr) (m:Str -> Option Value) (env:Env) (vx:PySem.Expr) (x:Str) (scope:Scope) (cl:List (Str × Addr)) (s₁:Shared) (its:Array Value) (J:Nat -> List (Str × Value) -> List (Addr × Obj) -> Prop):Prop :=
  ∀ i y t I oI C oC D oD m₂ kvs nw h tk ga,its[i]? = some (.str y t) -> AllBare ga -> J i kvs nw -> LCg.NsObj oC m₂ -> m₂ x = some (.str y t) -> Fr h₀ L h m -> News h₀ L h ((I,oI) :: (C,oC) :: (D,oD) :: nw) -> LCg.Off3 I C D nw -> ((@Ne Nat I C) ∧ (@Ne Nat I D) ∧ (@Ne Nat C D)) ->
    wpAny (model prog w) A (eval vx (compEnvC scope cl C env)) (fun v s₃=>∃ h' tk' ga' nw',s₃ = { s₁ with heap := h',toks := tk',gens := ga' } ∧ Fr h₀ L h' m ∧ News h₀ L h' ((I,oI) :: (C,oC) :: (D,oD) :: nw') ∧ LCg.Off3 I C D nw' ∧ AllBare ga' ∧ J (i + 1) (stored kvs y v) nw') NoE { s₁ with heap := h,toks := tk,gens := ga }
inductive DInv (prog:Program) (w:World) (h₀:Heap) (L:Addr) (m:Str -> Option Value) (s₁:Shared) (its:Array Value) (ax I:Addr) (J:Nat -> List (Str × Value) -> List (Addr × Obj) -> Prop):Nat -> Shared -> Prop
  | mk (i h' tk ga kvs m' oD nw):i ≤ its.size -> h'.IsListIter I ax i -> h'.Ns (I + 2) m' -> Obj.IsDictOf (PySem.strKind prog w) oD kvs -> Fr h₀ L h' m -> News h₀ L h' ((I + 1,oD) :: nw) -> LCg.Off3 I (I + 2) (I + 1) nw -> J i kvs nw -> kvs.length ≤ i -> AllBare ga -> DInv prog w h₀ L m s₁ its ax I J (its.size - i) { s₁ with heap := h',toks := tk,gens := ga }
theorem dcomp_core {vx iter:PySem.Expr} {x:Str} {px pk:Pos} {scope:Scope} {cl:List (Str × Addr)} {pos:Pos} {RR:Value -> Addr -> Result -> Shared -> Prop} {ax:Addr} {its:Array Value} {kk:Nat} {news:List (Addr × Obj)} {J:Nat -> List (Str × Value) -> List (Addr × Obj) -> Prop} {s₁:Shared}
    (hcell:∀ y ∈ scope.names,y.2 ≠ .cell) (hkind:scope.kind = .function) (hx:scope.names.lookup x = some .local) (hd:(x == ("__debug__" : Str)) = false)
    (hh:A.handled = none) (F:Fr h₀ L s₁.heap m) (N:News h₀ L s₁.heap news) (hJ:J 0 [] news) (hgb:AllBare s₁.gens) (hsz:its.size ≤ sizeLine) (hsrc:∀ i kvs nw,J i kvs nw -> (ax,W.listOf its kk) ∈ nw) (hstr:∀ (i:Nat) (v:Value),its[i]? = some v -> ∃ y t,v = Value.str y t)
    (turn:DTurn prog w A h₀ L m env vx x scope cl s₁ its J)
    (fin:∀ D C oD kvs nw h tk ga m',AllBare ga -> J its.size kvs nw -> @LT.lt Nat _ s₁.heap.objs.size D -> Obj.IsDictOf (PySem.strKind prog w) oD kvs -> Fr h₀ L h m -> News h₀ L h ((D,oD) :: nw) -> LCg.Off1 D nw -> h.Ns C m' -> C ≠ L -> C ≠ D -> h₀.get? C = none -> (∀ p ∈ nw,p.1 ≠ C) -> RR (.ref D) C (.ok .next) { s₁ with heap := h,toks := tk,gens := ga }) :
    wpAny (model prog w) A (pyIter (.ref ax)) (fun it s₂=>wpAny (model prog w) A newDict (fun acc s₃=>wpAny (model prog w) A (newFunctionEnv scope env.globals cl [] env.qual none .none (some env)) (fun cenv s₄ =>
      codeAny (model prog w) A (.compStart (.DictComp (.Name x pk) vx [⟨.Name x px,iter,[],0⟩] scope pos) 0 it acc { cenv with scope := relabel scope env }) (RR acc cenv.locals) s₄) E s₃) E s₂) E s₁ := by
  have hmem := N _ (hsrc _ _ _ hJ)
  have hl:s₁.heap.IsList ax its := ⟨_,hmem.1,rfl,kk,rfl⟩
  have hlt:ax < s₁.heap.objs.size := Heap.lt_size hmem.1
  refine wpAny_pyIter_list hl ?_
  generalize hI:s₁.heap.objs.size = I at *
  generalize hHI:s₁.heap.push { cls := .type "list_iterator",data := .fields #[.ref ax,.int 0 0] } = H₁
  have up₁:∀ b o,s₁.heap.get? b = some o -> H₁.get? b = some o := fun b o e=>hHI ▸ Heap.get?_push_of_some _ e
  have hI₁:H₁.IsListIter I ax 0 := by rw [← hHI, ← hI]; exact ⟨_,Heap.get?_push_size _ rfl,rfl,rfl⟩
  have z₁:H₁.objs.size = I + 1 := by rw [← hHI,Heap.size_push,hI]
  refine wpAny_newObj_type (wpAny_newFunctionEnv hcell (by intro y hy; simp at hy) (fun h₁ hns₁ hsb₁=>?_) hkind)
  dsimp only at hns₁ hsb₁ ⊢
  have hnew:(H₁.push { cls := .type "dict",dict := none,data := .dict #[] }).DictOf (PySem.strKind prog w) H₁.objs.size [] := Heap.DictOf.new H₁
  generalize hH2:H₁.push { cls := .type "dict",dict := none,data := .dict #[] } = H2 at hns₁ hsb₁ hnew ⊢
  have hC:H2.objs.size = I + 2 := by rw [← hH2,Heap.size_push,z₁]
  rw [hC] at hns₁ hsb₁ ⊢
  rw [z₁] at hnew ⊢
  have old:∀ b o,s₁.heap.get? b = some o -> h₁.get? b = some o := fun b o e=>by
    have hb:b < I := hI ▸ Heap.lt_size e
    exact hsb₁.extBut b o (Nat.ne_of_lt (Nat.lt_trans hb (by lia))) (Heap.get?_push_of_some _ (hH2 ▸ Heap.get?_push_of_some _ (up₁ b o e)))
  have oldI:∀ o,H₁.get? I = some o -> h₁.get? I = some o := fun o e=>hsb₁.extBut I o (show @Ne Nat I (I + 2) by lia) (Heap.get?_push_of_some _ (hH2 ▸ Heap.get?_push_of_some _ e))
  have hD₁:h₁.DictOf (PySem.strKind prog w) (I + 1) [] := hnew.at fun o e=>hsb₁.extBut _ _ (show @Ne Nat (I + 1) (I + 2) by lia) (Heap.get?_push_of_some _ e)
  have fresh₀:∀ b,I ≤ b -> h₀.get? b = none := fun b hb=>by
    cases e:h₀.get? b with
    | none=>rfl
    | some o' => exact absurd (Heap.lt_size (F.keep b o' e)) (by rw [hI]; exact Nat.not_lt.mpr hb)
  have hLt:L < I := hI ▸ F.ns.lt
  have hLI:L ≠ I := Nat.ne_of_lt hLt
  have hLD:L ≠ I + 1 := Nat.ne_of_lt (Nat.lt_succ_of_lt hLt)
  have hLC:L ≠ I + 2 := Nat.ne_of_lt (Nat.lt_succ_of_lt (Nat.lt_succ_of_lt hLt))
  have off₀:LCg.Off3 I (I + 2) (I + 1) news := LCg.Off3.of fun p hp=>by
    have q:p.1 < I := hI ▸ Heap.lt_size (N p hp).1
    exact ⟨Nat.ne_of_lt q,Nat.ne_of_lt (Nat.lt_succ_of_lt (Nat.lt_succ_of_lt q)),Nat.ne_of_lt (Nat.lt_succ_of_lt q)⟩
  obtain ⟨oD₁,eD₁,dD₁⟩ := Heap.dictOf_iff.mp hD₁
  have loop:∀ tk₁,codeAny (model prog w) A (.compLoop (.DictComp (.Name x pk) vx [⟨.Name x px,iter,[],0⟩] scope pos) 0 (.ref I) (.ref (I + 1)) (compEnvC scope cl (I + 2) env)) (RR (.ref (I + 1)) (I + 2)) { s₁ with heap := h₁,toks := tk₁ } := by
    intro tk₁
    refine codeAny_compLoop_testsD (DInv prog w h₀ L m s₁ its ax I J) ?_ its.size
      (.mk 0 h₁ tk₁ s₁.gens [] _ oD₁ news (Nat.zero_le _) (let ⟨o,e,r⟩ := hI₁; ⟨o,oldI o e,r⟩) hns₁ dD₁ (F.keeps old) (fun p hp=>?_) off₀ hJ (Nat.le_refl _) hgb)
    · rintro _ _ ⟨i,h',tk,ga,kvs,m',oD,nw,hi,hit,hn',dD,F',N',off',hJ',hk',hga'⟩
      have off3 := off'.mem
      have hax := N' _ (.tail _ (hsrc _ _ _ hJ'))
      have hl':h'.IsList ax its := ⟨_,hax.1,rfl,kk,rfl⟩
      by_cases hlt:i < its.size
      · obtain ⟨y,t,ey⟩ := hstr i its[i] (by simp [hlt])
        refine wpAny_pyNext_list_item hit hl' (x := .str y t) (by rw [← ey]; simp [hlt]) fun h₂ hit₂ hs₂=>?_
        refine wpAny_assign_Name (wpAny_storeName_local (lookup_relabel_local hx) (hn'.at' fun o e=>hs₂.extBut _ o (show @Ne Nat (I + 2) (I) by lia) e) (fun h₃ hn₃ hs₃=>?_) (by simp [compEnvC,relabel,hkind]))
        refine wpAny_tests_nil ?_
        simp only [if_true]
        refine wpAny_Name (wpAny_loadName_local (by simp [compEnvC,relabel,hkind]) (lookup_relabel_local hx) hn₃ (v := .str y t) (by simp) ?_) hd
        obtain ⟨oI,eI,rI⟩ := hit₂
        have eI₃ := hs₃.extBut I oI (show @Ne Nat (I) (I + 2) by lia) eI
        obtain ⟨oC,eC,hoC⟩ := LCg.ns_obj hn₃
        have keep₃:∀ b o,b ≠ I -> b ≠ I + 2 -> h'.get? b = some o -> h₃.get? b = some o := fun b o q1 q2 e=>hs₃.extBut b o q2 (hs₂.extBut b o q1 e)
        have F₃:Fr h₀ L h₃ m := ⟨F'.ns.at fun o e=>keep₃ _ o hLI hLC e,fun b o e=>keep₃ b o (fun q=>by rw [q,fresh₀ _ (Nat.le_refl _)] at e; cases e) (fun q=>by rw [q,fresh₀ (I + 2) (by lia)] at e; cases e) (F'.keep b o e),F'.above⟩
        have N₃:News h₀ L h₃ ((I,oI) :: (I + 2,oC) :: (I + 1,oD) :: nw) := fun p hp=>by
          rcases List.mem_cons.mp hp with rfl | hp
          · exact ⟨eI₃,Ne.symm hLI,fresh₀ _ (Nat.le_refl _)⟩
          · rcases List.mem_cons.mp hp with rfl | hp
            · exact ⟨eC,Ne.symm hLC,fresh₀ (I + 2) (by lia)⟩
            · have z := N' p hp
              refine ⟨?_,z.2⟩
              rcases List.mem_cons.mp hp with rfl | hp
              · exact keep₃ _ _ (show @Ne Nat (I + 1) (I) by lia) (show @Ne Nat (I + 1) (I + 2) by lia) z.1
              · exact keep₃ _ _ (off3 p hp).1 (off3 p hp).2.1 z.1
        refine wpAny_mono (turn i y t I oI (I + 2) oC (I + 1) oD _ kvs nw h₃ _ ga (by rw [← ey]; simp [hlt]) hga' hJ' hoC (by simp) F₃ N₃ off' ⟨by lia,by lia,by lia⟩) (fun v s₄ h₄=>?_) fun _ _ e=>e.elim
        obtain ⟨h₄,tk₄,ga₄,nw₄,rfl,F₄,N₄,off₄,hga₄,hJ₄⟩ := h₄
        have q1 := N₄ (I,oI) (.head _)
        have q2 := N₄ (I + 2,oC) (.tail _ (.head _))
        have q3 := N₄ (I + 1,oD) (.tail _ (.tail _ (.head _)))
        refine wpAny_dictSet_pairs (hsz := by lia) (strKind_is prog w y t) (Heap.dictOf_iff.mpr ⟨oD,q3.1,dD⟩) fun h₆ hl₆ hs₆=>?_
        obtain ⟨oD₆,eD₆,dD₆⟩ := Heap.dictOf_iff.mp hl₆
        have off4 := off₄.mem
        have hst := stored_length_le kvs y v
        refine ⟨its.size - (i + 1),Nat.sub_succ_lt_self _ _ hlt,.mk (i + 1) h₆ _ ga₄ (stored kvs y v) _ oD₆ nw₄ hlt ⟨oI,hs₆.extBut _ _ (show @Ne Nat (I) (I + 1) by lia) q1.1,rI⟩ ((hoC.ns q2.1).sameBut hs₆ (show @Ne Nat (I + 2) (I + 1) by lia)) dD₆ (F₄.change hs₆ (Ne.symm hLD) q3.2.2) (fun p hp=>?_) off₄ hJ₄ (by lia) hga₄⟩
        rcases List.mem_cons.mp hp with rfl | hp
        · exact ⟨eD₆,q3.2⟩
        · have z := N₄ p (.tail _ (.tail _ (.tail _ hp)))
          exact ⟨hs₆.extBut _ _ (off4 p hp).2.2 z.1,z.2⟩
      · obtain rfl:i = its.size := Nat.le_antisymm hi (Nat.not_lt.mp hlt)
        refine wpAny_pyNext_list_end hh hit hl' (by simp) fun h₂ hs₂=>?_
        have keep₂:∀ b o,b ≠ I -> h'.get? b = some o -> h₂.get? b = some o := fun b o q1 e=>hs₂ b o q1 e
        have F₂:Fr h₀ L h₂ m := ⟨F'.ns.at fun o e=>keep₂ _ o hLI e,fun b o e=>keep₂ b o (fun q=>by rw [q,fresh₀ _ (Nat.le_refl _)] at e; cases e) (F'.keep b o e),F'.above⟩
        refine fin (I + 1) (I + 2) oD kvs nw h₂ _ ga m' hga' hJ' (Nat.lt_succ_self I) dD F₂ (fun p hp=>?_) off'.one (hn'.at fun o e=>hs₂ _ o (show @Ne Nat (I + 2) (I) by lia) e) (Ne.symm hLC) (show @Ne Nat (I + 2) (I + 1) by lia) (fresh₀ (I + 2) (by lia)) (fun p hp=>(off3 p hp).2.1)
        have z := N' p hp
        refine ⟨?_,z.2⟩
        rcases List.mem_cons.mp hp with rfl | hp
        · exact keep₂ _ _ (show @Ne Nat (I + 1) (I) by lia) z.1
        · exact keep₂ _ _ (off3 p hp).1 z.1
    · rcases List.mem_cons.mp hp with rfl | hp
      · exact ⟨eD₁,Ne.symm hLD,fresh₀ (I + 1) (by lia)⟩
      · exact ⟨old _ _ (N p hp).1,(N p hp).2⟩
  refine codeAny_compStart_dict (loop _) ?_
  exact wpAny_pyIter_listiter (let ⟨o,e,r⟩ := hI₁; ⟨o,oldI o e,r⟩) (loop _)
inductive DSrcG (prog:Program) (w:World) (A:Around) (h₀:Heap) (L:Addr) (m:Str -> Option Value) (env:Env) (vx:PySem.Expr) (x:Str) (scope:Scope) (cl:List (Str × Addr)) (Fin:Addr -> Heap -> Nat -> Array GenState -> List (Addr × Obj) -> Shared -> Prop) (xv:Value) (s₁:Shared):Prop
  | mk (ax:Addr) (its:Array Value) (kk:Nat) (news:List (Addr × Obj)) (J:Nat -> List (Str × Value) -> List (Addr × Obj) -> Prop) (_:xv = .ref ax) (_:A.handled = none) (_:Fr h₀ L s₁.heap m) (_:News h₀ L s₁.heap news) (_:J 0 [] news) (_:AllBare s₁.gens) (_:its.size ≤ sizeLine) (_:(∀ i kvs nw,J i kvs nw -> (ax,W.listOf its kk) ∈ nw)) (_:(∀ (i:Nat) (v:Value),its[i]? = some v -> ∃ y t,v = Value.str y t)) (_:DTurn prog w A h₀ L m env vx x scope cl s₁ its J) (_:∀ D oD kvs nw,J its.size kvs nw -> @LT.lt Nat _ s₁.heap.objs.size D -> Obj.IsDictOf (PySem.strKind prog w) oD kvs -> LCg.Off1 D nw -> ∀ h tk ga,AllBare ga -> Fin D h tk ga ((D,oD) :: nw) s₁)
noncomputable def FinDE (h₀:Heap) (L:Addr) (m:Str -> Option Value) (Q:Value -> Shared -> Prop) (D:Addr) (h:Heap) (tk:Nat) (ga:Array GenState) (nw:List (Addr × Obj)) (s₁:Shared):Prop := Fr h₀ L h m -> News h₀ L h nw -> Q (.ref D) { s₁ with heap := h,toks := tk,gens := ga }
noncomputable def FinDA (h₀:Heap) (L:Addr) (m:Str -> Option Value) (y:Str) (Q:Flow -> Shared -> Prop) (D:Addr) (h:Heap) (tk:Nat) (ga:Array GenState) (nw:List (Addr × Obj)) (s₁:Shared):Prop := Fr h₀ L h (fun z=>if z = y then some (.ref D) else m z) -> News h₀ L h nw -> Q .next { s₁ with heap := h,toks := tk,gens := ga }
theorem DictComp_J {vx iter:PySem.Expr} {x:Str} {px pk:Pos} {scope:Scope} {cl:List (Str × Addr)} {pos:Pos} {Q:Value -> Shared -> Prop} {hF:Heap} (_:Fr h₀ L hF m)
    (hclos:closureFor scope env = pure cl) (hcell:∀ y ∈ scope.names,y.2 ≠ .cell) (hkind:scope.kind = .function)
    (hnames:∀ y ∈ scope.names,y.2 = .local -> scope.names.lookup y.1 = some .local) (hx:scope.names.lookup x = some .local) (hd:(x == ("__debug__" : Str)) = false)
    (h:wpAny (model prog w) A (eval iter env) (DSrcG prog w A h₀ L m env vx x scope cl (FinDE h₀ L m Q)) E s)
    (hs:∀ x,foldedSetIterable iter env x = pure x := by intro _; rfl) :
    wpAny (model prog w) A (eval (.DictComp (.Name x pk) vx [⟨.Name x px,iter,[],0⟩] scope pos) env) Q E s := by
  rw [arm_eval_DictComp]
  refine wpAny_comprehension_free (use := none) rfl hs hclos hkind hnames (wpAny_mono h (fun xv s₁ h₁=>?_) fun _ _ e=>e)
  obtain ⟨ax,its,kk,news,J,rfl,hh,F,N,hJ,hgb,hsz,hsrc,hstr,turn,fin⟩ := h₁
  refine dcomp_core hcell hkind hx hd hh F N hJ hgb hsz hsrc hstr turn fun D C oD kvs nw h tk ga m' hga' hJ' hl₁ dD F' N' o1 hn hCL hCD hC₀ offC=>?_
  refine ⟨m',hn,fun h'' hs'' => fin D oD kvs nw hJ' hl₁ dD o1 h'' tk ga hga' (F'.change hs'' hCL hC₀) fun p hp=>?_⟩
  refine ⟨hs''.extBut _ _ ?_ (N' p hp).1,(N' p hp).2⟩
  rcases List.mem_cons.mp hp with rfl | hp
  · exact Ne.symm hCD
  · exact offC p hp
theorem Assign_DictComp_J {vx iter:PySem.Expr} {x y:Str} {px pk py:Pos} {scope:Scope} {cl:List (Str × Addr)} {pos spos:Pos} {Q:Flow -> Shared -> Prop} {hF:Heap} (_:Fr h₀ L hF m) (hLe:env.locals = L)
    (hsw:swapsWith (.DictComp (.Name x pk) vx [⟨.Name x px,iter,[],0⟩] scope pos) (some (.Name y py)) spos.line env = pure true)
    (hclos:closureFor scope env = pure cl) (hcell:∀ y ∈ scope.names,y.2 ≠ .cell) (hkind:scope.kind = .function)
    (hnames:∀ y ∈ scope.names,y.2 = .local -> scope.names.lookup y.1 = some .local) (hx:scope.names.lookup x = some .local) (hd:(x == ("__debug__" : Str)) = false)
    (hy:env.kindOf y = some .local) (hp:(env.scope.kind == .class || (env.scope.kind == .module && env.locals != env.globals)) = false)
    (h:wpAny (model prog w) A (eval iter env) (DSrcG prog w A h₀ L m env vx x scope cl (FinDA h₀ L m y Q)) E s)
    (hs:∀ x,foldedSetIterable iter env x = pure x := by intro _; rfl) :
    wpAny (model prog w) A (exec (.Assign [.Name y py] (.DictComp (.Name x pk) vx [⟨.Name x px,iter,[],0⟩] scope pos) spos) env) Q E s := by
  subst hLe
  rw [exec_Assign_Name_used _ _ _ _ hsw]
  refine wpAny_bind (wpAny_standAt (wpAny_bind ?_))
  show wpAny _ A (do let _ ← comprehension (.DictComp (.Name x pk) vx [⟨.Name x px,iter,[],0⟩] scope pos) scope env _ newDict false (eval iter env) (some (assign (.Name y py) env))) _ _ s
  refine wpAny_bind (wpAny_mono (wpAny_comprehension_free (use := some (assign (.Name y py) env)) (Q := fun _ s' => Q .next s') rfl hs hclos hkind hnames
    (wpAny_mono h (fun xv s₁ h₁=>?_) fun _ _ e=>e)) (fun _ s' hq=>wpAny_pure (wpAny_pure hq)) fun _ _ e=>e)
  obtain ⟨ax,its,kk,news,J,rfl,hh,F,N,hJ,hgb,hsz,hsrc,hstr,turn,fin⟩ := h₁
  refine dcomp_core hcell hkind hx hd hh F N hJ hgb hsz hsrc hstr turn fun D C oD kvs nw h tk ga m' hga' hJ' hl₁ dD F' N' o1 hn hCL hCD hC₀ offC=>?_
  show wpAny _ A (assign (.Name y py) env (.ref D)) _ _ _
  refine wpAny_assign_Name (wpAny_storeName_local hy F'.ns (fun h₂ hn₂ hs₂=>?_) hp)
  have hL₀:h₀.get? env.locals = none := Heap.get?_none_of_le F'.above
  have F₂:Fr h₀ env.locals h₂ (fun z=>if z = y then some (.ref D) else m z) := ⟨hn₂,fun b o e=>hs₂.extBut b o (fun q=>by rw [q,hL₀] at e; cases e) (F'.keep b o e),F'.above⟩
  refine ⟨m',hn.sameBut hs₂ hCL,fun h'' hs'' => fin D oD kvs nw hJ' hl₁ dD o1 h'' _ ga hga' (F₂.change hs'' hCL hC₀) fun p hp=>?_⟩
  have z:h₂.get? p.1 = some p.2 := hs₂.extBut _ _ (N' p hp).2.1 (N' p hp).1
  refine ⟨hs''.extBut _ _ ?_ z,(N' p hp).2⟩
  rcases List.mem_cons.mp hp with rfl | hp
  · exact Ne.symm hCD
  · exact offC p hp
end
end Mine
end
section
open PySem PySem.W PyProof.Rows PySem.Spec PySem.Calls
namespace Mine
section
variable {prog:Program} {w:World} {A:Around} {E:Value -> Shared -> Prop} {s:Shared}
/-- a set of texts whose table is marked as one that the world orders,once it holds an element. -/
noncomputable def PSet (prog:Program) (w:World) (h:Heap) (a:Addr) (S:Str -> Bool) (n:Nat):Prop :=
  ∃ o es ep t,h.get? a = some o ∧ o.ExactSet ∧ o.data = .set es ep t ∧ ElemsOf (PySem.strKind prog w) es.toList ∧ (∀ k,S k = true ↔ ∃ e ∈ es.toList,(PySem.strKind prog w).is k e.2 = true) ∧ es.size < scanBound ∧ t.fits es.size = true ∧ es.size = n ∧ (es.size = 0 ∨ t.plain = false)
theorem laid_plain {mask finger moves:Nat} {led plain:Bool} {hs:Array Int} {t:SetTable} {o:Array Nat} (h:SetTable.laid mask finger moves led plain hs = some (t,o)):t.plain = plain := by
  unfold SetTable.laid at h
  cases e:SetTable.layClean mask hs with
  | none=>rw [e] at h; cases h
  | some ow =>
    rw [e] at h
    simp only [Option.bind_eq_bind,Option.bind_some,Option.pure_def,Option.some.injEq,Prod.mk.injEq] at h
    rw [← h.1]
theorem relayAll_plain {t:SetTable} {es:Array (Int × Value)} {n:Nat} (h:t.plain = false):(relayAll t es n).2.1.plain = false := by
  unfold relayAll
  split
  · rename_i t' order e
    dsimp only
    split
    · exact (laid_plain e).trans h
    · rfl
  · rfl
theorem pset_store {h:Heap} {a:Addr} {o:Obj} {es:Array (Int × Value)} {ep:Nat} {t:SetTable} (ho:h.get? a = some o) (hex:o.ExactSet) (hd:o.data = .set es ep t)
    {es':Array (Int × Value)} {t':SetTable} {S':Str -> Bool} (hel:ElemsOf (PySem.strKind prog w) es'.toList) (hmem:∀ k,S' k = true ↔ ∃ e ∈ es'.toList,(PySem.strKind prog w).is k e.2 = true) (hb:es'.size < scanBound) (hf:t'.fits es'.size = true) (hp:t'.plain = false) :
    (h.update a (Obj.putSet es' t')).get? a = some { o with data := .set es' (ep + 1) t' } ∧ PSet prog w (h.update a (Obj.putSet es' t')) a S' es'.size := by
  have hg := (SetOf_store (knd := PySem.strKind prog w) ho hex hd hel hmem hb hf).1
  exact ⟨hg,_,es',ep + 1,t',hg,hex,rfl,hel,hmem,hb,hf,rfl,.inr hp⟩
theorem padd {a:Addr} {S:Str -> Bool} {n:Nat} {k:Str} {tk:Tok} {Q:Bool -> Shared -> Prop} (hS:PSet prog w s.heap a S n) (hroom:n + 1 < scanBound)
    (h:∀ h',Heap.SameBut a s.heap h' -> PSet prog w h' a (fun k' => S k' || decide (k' = k)) (if S k then n else n + 1) -> Q (!S k) { s with heap := h' }) :
    wpAny (model prog w) A (setAddHashed a (.str k tk) ((PySem.strKind prog w).hash k)) Q E s := by
  obtain ⟨o,es,ep,t,ho,hex,hd,hel,hmem,hb,hf,hn,hpl⟩ := hS
  have hkey := strKind_is prog w k tk
  have hsc:(Value.str k tk).scannable = true := rfl
  have hb1:es.size + 1 < scanBound := by rw [hn]; exact hroom
  unfold setAddHashed setAddHashedIn
  refine wpAny_holding (wpAny_bind (wpAny_setState_of ho hd hf ?_))
  dsimp only
  rw [byScan_of hsc hb hel]
  simp only [↓reduceIte]
  unfold setAddByScan
  refine wpAny_bind (wpAny_bind (wpAny_rule (wpAny_bind (wpAny_setScan_of hkey ho hd hf hel ?_))))
  cases hr:List.findIdx? (fun e=>(PySem.strKind prog w).is k e.2) es.toList with
  | some j =>
    dsimp only
    obtain ⟨hj,hpj,_⟩ := List.findIdx?_eq_some_iff_getElem.mp hr
    have hSk:S k = true := (hmem k).mpr ⟨es.toList[j],List.getElem_mem hj,hpj⟩
    refine wpAny_pure (wpAny_pure ?_)
    have := h s.heap (Heap.SameBut.refl a s.heap) ⟨o,es,ep,t,ho,hex,hd,hel,fun k' => by
      rw [Bool.or_eq_true,decide_eq_true_eq, ← hmem k']
      exact ⟨fun hk=>hk.elim id (fun e=>e ▸ hSk),.inl⟩,hb,hf,by rw [hSk]; exact hn,hpl⟩
    rw [hSk] at this
    exact this
  | none =>
    dsimp only
    have hSk:S k = false := by
      cases hk:S k with
      | false=>rfl
      | true=>obtain ⟨e,he,hp⟩ := (hmem k).mp hk; have := List.findIdx?_eq_none_iff.mp hr e he; rw [hp] at this; exact Bool.noConfusion this
    have hperm := layNew_perm t es ((PySem.strKind prog w).hash k) (.str k tk)
    have hfits := layNew_fits t es ((PySem.strKind prog w).hash k) (.str k tk)
    generalize hL:layNew t es ((PySem.strKind prog w).hash k) (.str k tk) = Ly at hperm hfits ⊢
    obtain ⟨es1,t1,wasDummy,gave⟩ := Ly
    dsimp only at hperm hfits ⊢
    rw [Array.toList_push] at hperm
    have hel1:ElemsOf (PySem.strKind prog w) es1.toList := (hel.push hkey hsc).perm hperm
    have hmem1:∀ k',(S k' || decide (k' = k)) = true ↔ ∃ e ∈ es1.toList,(PySem.strKind prog w).is k' e.2 = true := mem_push_iff hkey hmem hperm
    have hsz1:es1.size = n + 1 := by rw [← Array.length_toList,hperm.length_eq,List.length_append,Array.length_toList,hn]; rfl
    have hb1':es1.size < scanBound := by rw [hsz1]; exact hroom
    have hgo:∀ (b:Bool) {s₁:Shared} {Q':Unit -> Shared -> Prop},Q' () s₁ -> wpAny (model prog w) A (match b with | true=>rule "set.scan.the-table-gave-way" | false=>pure ()) Q' E s₁ :=
      fun b s₁ Q' hq=>by cases b <;> first | exact wpAny_pure hq | exact wpAny_rule hq
    have fin:∀ (t2:SetTable),t2.fits es1.size = true -> t2.plain = false ->
        wpAny (model prog w) A (do
          storeSet a es1 t2
          if (!wasDummy && t2.tooFull) = true then do
              (match (relayAll t2 es1 (SetTable.grown es1.size)).2.2 with | true=>rule "set.scan.the-table-gave-way" | false=>pure ())
              storeSet a (relayAll t2 es1 (SetTable.grown es1.size)).1 (relayAll t2 es1 (SetTable.grown es1.size)).2.1
              pure (some true)
            else pure (some true)) (fun r s' => r = some true ∧ Q true s') E s := by
      intro t2 hf2 hp2
      refine wpAny_bind (wpAny_storeSet_of ho hd ?_ (fits_of_scanBound hb1'))
      obtain ⟨ho1,hS1⟩ := pset_store (prog := prog) (w := w) ho hex hd hel1 hmem1 hb1' hf2 hp2
      have hsb1 := Heap.SameBut.update s.heap a (Obj.putSet es1 t2)
      split
      · have hp := relayAll_perm t2 es1 (SetTable.grown es1.size)
        have hfr := relayAll_fits t2 es1 (SetTable.grown es1.size)
        have hpr := relayAll_plain (es := es1) (n := SetTable.grown es1.size) hp2
        generalize hRl:relayAll t2 es1 (SetTable.grown es1.size) = Rl at hp hfr hpr ⊢
        obtain ⟨es2,t3,gave2⟩ := Rl
        dsimp only at hp hfr hpr ⊢
        have hel2:ElemsOf (PySem.strKind prog w) es2.toList := hel1.perm hp
        have hmem2:∀ k',(S k' || decide (k' = k)) = true ↔ ∃ e ∈ es2.toList,(PySem.strKind prog w).is k' e.2 = true := fun k' => (hmem1 k').trans ⟨fun ⟨e,he,q⟩=>⟨e,hp.mem_iff.mpr he,q⟩,fun ⟨e,he,q⟩=>⟨e,hp.mem_iff.mp he,q⟩⟩
        have hsz:es2.size = es1.size := by rw [← Array.length_toList,hp.length_eq,Array.length_toList]
        have hb2:es2.size < scanBound := by rw [hsz]; exact hb1'
        refine wpAny_bind (hgo _ ?_)
        refine wpAny_bind (wpAny_storeSet_of ho1 rfl ?_ (fits_of_scanBound hb2))
        obtain ⟨_,hS2⟩ := pset_store (prog := prog) (w := w) ho1 hex rfl hel2 hmem2 hb2 hfr hpr
        have := h _ (hsb1.trans (Heap.SameBut.update _ a _)) (by rw [hSk]; rw [hsz,hsz1] at hS2; exact hS2)
        rw [hSk] at this
        exact wpAny_pure ⟨rfl,this⟩
      · have := h _ hsb1 (by rw [hSk]; rw [hsz1] at hS1; exact hS1)
        rw [hSk] at this
        exact wpAny_pure ⟨rfl,this⟩
    refine wpAny_bind (hgo _ ?_)
    split
    · refine wpAny_bind ?_
      rw [hashByValue_scannable 8 hsc]
      refine wpAny_pure ?_
      refine wpAny_mono (fin _ (SetTable.fits_plain_off hfits) rfl) (fun r s' hr=>?_) fun _ _ e=>e
      obtain ⟨rfl,q⟩ := hr
      exact wpAny_pure q
    · rename_i hp1
      refine wpAny_bind (wpAny_pure ?_)
      simp only [↓reduceIte]
      refine wpAny_mono (fin _ hfits (by simpa using hp1)) (fun r s' hr=>?_) fun _ _ e=>e
      obtain ⟨rfl,q⟩ := hr
      exact wpAny_pure q
end
end Mine
end
section
open PySem PySem.W PyProof.Rows PySem.Spec PySem.Calls
namespace Mine
theorem strKey {prog:Program} {w:World} {k:Str} {v:Value} (h:(PySem.strKind prog w).is k v = true):∃ t,v = .str k t := by
  cases v <;> simp [PySem.strKind,Value.isStrOf] at h
  subst h
  exact ⟨_,rfl⟩
theorem one16:∀ i,i < 16 -> ((List.range 16).filterMap fun j=>(((Array.replicate 16 (none:Option Nat)).setIfInBounds i (some 0))[j]?.getD none).map (j, ·)) = [(i,0)] := by decide +kernel
theorem one32:∀ i,i < 32 -> ((List.range 32).filterMap fun j=>(((Array.replicate 32 (none:Option Nat)).setIfInBounds i (some 0))[j]?.getD none).map (j, ·)) = [(i,0)] := by decide +kernel
theorem free_succ {M f i p:Nat} {owner:Array (Option Nat)} : SetTable.layClean.free M owner (f + 1) i p = (match (List.range (SetTable.runEnd M i + 1 - i)).find? fun k=>(owner.getD (i + k) (some 0)).isNone with
    | some k=>some (i + k)
    | none=>let (i,p) := SetTable.leap M i p; SetTable.layClean.free M owner f i p) := rfl
theorem laid_one {M:Nat} {f mv:Nat} {led pl:Bool} {h:Int} (hM:M = 15 ∨ M = 31):∃ t,SetTable.laid M f mv led pl #[h] = some (t,#[0]) ∧ t.fits 1 = true ∧ t.plain = pl := by
  have hb:SetTable.bits h % (M + 1) < M + 1 := Nat.mod_lt _ (Nat.succ_pos _)
  have hfree:SetTable.layClean.free M (Array.replicate (M + 1) (none:Option Nat)) (SetTable.turns M) (SetTable.bits h % (M + 1)) (SetTable.bits h) = some (SetTable.bits h % (M + 1)) := by
    unfold SetTable.turns
    have e:M + 15 = (M + 14) + 1 := rfl
    rw [e,free_succ]
    have hr:∃ r,SetTable.runEnd M (SetTable.bits h % (M + 1)) + 1 - SetTable.bits h % (M + 1) = r + 1 := by
      unfold SetTable.runEnd
      split
      · exact ⟨9,by lia⟩
      · exact ⟨0,by lia⟩
    obtain ⟨r,hr⟩ := hr
    rw [hr,List.range_succ_eq_map,List.find?_cons]
    have:((Array.replicate (M + 1) (none:Option Nat)).getD (SetTable.bits h % (M + 1) + 0) (some 0)).isNone = true := by
      simp [Array.getD,hb]
    rw [this]
    simp
  unfold SetTable.laid SetTable.layClean
  simp only [List.foldl_cons,Array.size,hfree]
  rcases hM with rfl | rfl
  · have hb':SetTable.bits h % 16 < 16 := hb
    simp [hfree,one16 _ hb',SetTable.fits,SetTable.fill]
  · have hb':SetTable.bits h % 32 < 32 := hb
    simp [hfree,one32 _ hb',SetTable.fits,SetTable.fill]
section
variable {prog:Program} {w:World} {A:Around} {E:Value -> Shared -> Prop} {s:Shared}
theorem arr_one {α:Type} : ∀ {es:Array α},es.size = 1 -> ∃ e,es = #[e]
  | ⟨[e]⟩,_=>⟨e,rfl⟩
theorem proom {a:Addr} {S:Str -> Bool} {more:Nat} {Q:Unit -> Shared -> Prop} (hS:PSet prog w s.heap a S 1) (hm:more = 6 ∨ more = 9 ∨ more = 10)
    (h:∀ h',Heap.SameBut a s.heap h' -> PSet prog w h' a S 1 -> Q () { s with heap := h' }):wpAny (model prog w) A (setRoomFor a more) Q E s := by
  have hS0 := hS
  obtain ⟨o,es,ep,t,ho,hex,hd,hel,hmem,hb,hf,hn,hpl⟩ := hS
  have hpl':t.plain = false := hpl.resolve_left (by lia)
  unfold setRoomFor
  refine wpAny_bind (wpAny_setState_of ho hd hf ?_)
  dsimp only
  have hp1:t.place.size = 1 := by
    simp only [SetTable.fits,Bool.and_eq_true,beq_iff_eq,decide_eq_true_eq] at hf
    lia
  cases hr:t.roomFor more with
  | none =>
    dsimp only
    exact wpAny_pure (h s.heap (Heap.SameBut.refl a s.heap) hS0)
  | some wanted =>
    have hw:wanted = (1 + more) * 2 := by
      unfold SetTable.roomFor at hr
      split at hr
      · rw [hp1] at hr; exact (Option.some.inj hr).symm
      · cases hr
    dsimp only
    unfold setRelay
    refine wpAny_bind (wpAny_setState_of ho hd hf ?_)
    dsimp only
    have hsz:SetTable.sizeAbove wanted = 16 ∨ SetTable.sizeAbove wanted = 32 := by
      rw [hw]
      rcases hm with rfl | rfl | rfl
      · exact .inl (by decide)
      · exact .inr (by decide)
      · exact .inr (by decide)
    rw [if_neg (by rw [sizeLine_eq]; rcases hsz with e | e <;> rw [e] <;> decide)]
    obtain ⟨e0,rfl⟩ := arr_one hn
    obtain ⟨t',h1,h2,h3⟩ := laid_one (M := SetTable.sizeAbove wanted - 1) (f := t.finger) (mv := t.movedTo (SetTable.sizeAbove wanted - 1)) (led := t.led) (pl := t.plain) (h := e0.1) (by rcases hsz with e | e <;> rw [e] <;> decide)
    have hrl:t.relaid ((#[e0]:Array (Int × Value)).map (·.1)) wanted = some (t',#[0]) := by simpa [SetTable.relaid] using h1
    rw [hrl]
    refine wpAny_bind (wpAny_of_eq (a := (#[e0],t')) rfl ?_)
    dsimp only
    refine wpAny_storeSet_of ho hd ?_ (by rw [sizeLine_eq]; show 1 ≤ 16777216; decide)
    obtain ⟨_,hS2⟩ := pset_store (prog := prog) (w := w) ho hex hd hel hmem hb (t' := t') h2 (h3.trans hpl')
    exact h _ (Heap.SameBut.update ..) hS2
end
end Mine
end
section
open PySem PySem.W PyProof.Rows PySem.Spec PySem.Calls
namespace Mine
theorem f_dict_set:isSubtype (.type "dict") (.type "set") = pure false := by rw [isSubtype_type]; kernel_rfl
theorem f_dict_frozenset:isSubtype (.type "dict") (.type "frozenset") = pure false := by rw [isSubtype_type]; kernel_rfl
section
variable {prog:Program} {w:World} {A:Around} {E:Value -> Shared -> Prop} {s:Shared} {a d I:Addr} {kvs:List (Str × Value)} {ep:Nat} {S:Str -> Bool}
theorem PSet.at {h h':Heap} {n:Nat} (x:PSet prog w h a S n) (e:∀ o,h.get? a = some o -> h'.get? a = some o):PSet prog w h' a S n := by obtain ⟨o,es,ep,t,ho,r⟩ := x; exact ⟨o,es,ep,t,e _ ho,r⟩
theorem PSet.congr {h:Heap} {S':Str -> Bool} {n n':Nat} (x:PSet prog w h a S n) (e:∀ k,S k = S' k) (en:n = n'):PSet prog w h a S' n' := by
  have:S = S' := funext e
  subst this; subst en; exact x
theorem dictAt_at {h h':Heap} (x:h.DictAt (PySem.strKind prog w) d kvs ep) (e:∀ o,h.get? d = some o -> h'.get? d = some o):h'.DictAt (PySem.strKind prog w) d kvs ep := by obtain ⟨o,es,ho,r⟩ := x; exact ⟨o,es,e _ ho,r⟩
noncomputable def upTo (S:Str -> Bool) (kvs:List (Str × Value)) (i:Nat) (k:Str):Bool := S k || decide (k ∈ (kvs.take i).map (·.1))
theorem upTo_succ {i:Nat} {k:Str} {v:Value} (h:kvs[i]? = some (k,v)) (k':Str):(upTo S kvs i k' || decide (k' = k)) = upTo S kvs (i + 1) k' := by
  unfold upTo
  rw [List.take_add_one,h]
  simp [List.map_append,Bool.or_assoc]
theorem upd_loop (hh:A.handled = none) (haI:a ≠ I) (had:a ≠ d) (hdI:d ≠ I) (hb:kvs.length ≤ 20) {R:Result -> Shared -> Prop} : ∀ (k i n:Nat) (s:Shared),kvs.length - i = k -> i ≤ kvs.length -> s.heap.IsKeyIter I d i kvs.length ep -> s.heap.DictAt (PySem.strKind prog w) d kvs ep ->
    PSet prog w s.heap a (upTo S kvs i) n -> 1 ≤ n -> n ≤ 1 + i ->
    (∀ h' tk n',(∀ b o,b ≠ a -> b ≠ I -> s.heap.get? b = some o -> h'.get? b = some o) -> PSet prog w h' a (upTo S kvs kvs.length) n' -> 1 ≤ n' -> n' ≤ 1 + kvs.length -> R (.ok (.ret .none)) { s with heap := h',toks := tk }) ->
    codeAny (model prog w) A (.builtin "set.update.loop" ⟨[.ref a,.ref I],[]⟩) R s := by
  intro k
  induction k with
  | zero =>
    intro i n s hk hi hit hd hS h1 hn hR
    obtain rfl:i = kvs.length := Nat.le_antisymm hi (Nat.sub_eq_zero_iff_le.mp hk)
    refine codeAny_builtin F.entry_set_update_loop ?_
    rw [Around.under_plainId F.plain_set_update_loop _]
    show wpAny _ A.in1 (pyNext (.ref I) >>= _) _ _ s
    refine wpAny_bind (wpAny_pyNext_dict_end (knd := PySem.strKind prog w) hh hit hd (by simp) fun h' hs' => ?_)
    show wpAny _ A.in1 (ret Value.none) _ _ _
    exact wpAny_pure (hR h' _ n (fun b o _ q e=>hs' b o q e) (hS.at fun o e=>hs' _ _ haI e) h1 hn)
  | succ k ih =>
    intro i n s hk hi hit hd hS h1 hn hR
    have hlt:i < kvs.length := Nat.lt_of_sub_pos (Nat.lt_of_lt_of_eq (Nat.succ_pos k) hk.symm)
    obtain ⟨key,v,hx⟩:∃ key v,kvs[i]? = some (key,v) := ⟨kvs[i].1,kvs[i].2,List.getElem?_eq_getElem hlt⟩
    refine codeAny_builtin F.entry_set_update_loop ?_
    rw [Around.under_plainId F.plain_set_update_loop _]
    show wpAny _ A.in1 (pyNext (.ref I) >>= _) _ _ s
    refine wpAny_bind (wpAny_pyNext_dict_item (knd := PySem.strKind prog w) hit hd hx fun kv h' hkey hit' hs' => ?_)
    obtain ⟨t,rfl⟩ := strKey hkey
    show wpAny _ A.in1 (holding [Value.str key t] (setAdd a (.str key t)) >>= _) _ _ _
    refine wpAny_bind (wpAny_holding ?_)
    unfold setAdd
    refine wpAny_holding ?_
    refine wpAny_bind ((PySem.strKind prog w).pyHash (k := key) (strKind_is _ _ _ _) ?_)
    refine padd (s := { s with heap := h',toks := s.toks + 1 }) (hS.at fun o e=>hs'.extBut _ _ haI e) (Nat.lt_of_le_of_lt (Nat.succ_le_succ (Nat.le_trans hn (Nat.add_le_add_left (Nat.le_trans (Nat.le_of_lt hlt) hb) 1))) (by decide)) fun h2 hs2 hS2=>?_
    refine wpAny_pure ⟨plainId_quiet F.plain_set_update_loop _,ih (i + 1) _ _ (congrArg Nat.pred hk) hlt (hit'.extBut hs2.extBut haI.symm) (dictAt_at hd fun o e=>hs2.extBut _ _ had.symm (hs'.extBut _ _ hdI e)) (hS2.congr (upTo_succ hx) rfl) (by split <;> first | exact h1 | exact Nat.le_succ_of_le h1) (by split <;> first | exact Nat.succ_le_succ hn | exact Nat.le_succ_of_le hn) fun h3 tk3 n3 hk3 hS3 a3 b3=>?_⟩
    exact hR h3 tk3 n3 (fun b o q1 q2 e=>hk3 b o q1 q2 (hs2.extBut b o q1 (hs'.extBut b o q2 e))) hS3 a3 b3
theorem pairs_at {es:List DictEntry} {kvs:List (Str × Value)} (h:Pairs (PySem.strKind prog w) es kvs):∀ (i:Nat) (e:DictEntry),es[i]? = some e -> ∃ k v,kvs[i]? = some (k,v) ∧ (PySem.strKind prog w).is k e.key = true := by
  induction h with
  | nil=>intro i e he; simp at he
  | @cons e0 kv es kvs hk hv r ih =>
    intro i e he
    cases i with
    | zero =>
      simp at he
      subst he
      exact ⟨kv.1,kv.2,rfl,hk⟩
    | succ i=>simpa using ih i e (by simpa using he)
theorem pairs_len {es:List DictEntry} {kvs:List (Str × Value)} (h:Pairs (PySem.strKind prog w) es kvs):es.length = kvs.length := by
  induction h with
  | nil=>rfl
  | cons _ _ _ ih=>rw [List.length_cons,List.length_cons,ih]
inductive SInv (prog:Program) (w:World) (s:Shared) (n:Nat) (a:Addr) (S:Str -> Bool) (kvs:List (Str × Value)) (rest:List Nat) (s':Shared):Prop
  | mk (i h' tk n') (_:rest = List.range' i (n - i)) (_:i ≤ n) (_:s' = { s with heap := h',toks := tk }) (_:∀ b o,b ≠ a -> s.heap.get? b = some o -> h'.get? b = some o) (_:PSet prog w h' a (upTo S kvs i) n') (_:1 ≤ n') (_:n' ≤ 1 + i)
theorem pstar {Q:Unit -> Shared -> Prop} (hh:A.handled = none) (hS:PSet prog w s.heap a S 1) (hd:s.heap.DictOf (PySem.strKind prog w) d kvs) (had:a ≠ d) (lo:(d == sysModules) = false) (hm:kvs.length = 6 ∨ kvs.length = 9 ∨ kvs.length = 10)
    (h:∀ h' tk n',(∀ b o,b ≠ a -> s.heap.get? b = some o -> h'.get? b = some o) -> PSet prog w h' a (upTo S kvs kvs.length) n' -> 1 ≤ n' -> n' ≤ 1 + kvs.length -> Q () { s with heap := h',toks := tk }) :
    wpAny (model prog w) A (setDisplayStar a (.ref d)) Q E s := by
  have hT:s.TypeIs (.ref d) "dict" := hd.typeIs
  have h0:∀ k,S k = upTo S kvs 0 k := fun k=>by simp [upTo]
  unfold setDisplayStar
  dsimp only
  refine wpAny_bind (wpAny_isInstance hT f_dict_set ?_)
  rw [if_neg Bool.false_ne_true]
  refine wpAny_bind (wpAny_isInstance hT f_dict_frozenset ?_)
  refine wpAny_bind (wpAny_askSetting ?_)
  obtain ⟨od,es,ep,hod,hex,hdd,hk,hp,hnd⟩ := id hd
  have hda:s.heap.DictAt (PySem.strKind prog w) d kvs ep := ⟨od,es,hod,hex,hdd,hk,hp,hnd⟩
  have hlen:es.size = kvs.length := by rw [← pairs_len hp,Array.length_toList]
  have hadlt:a < s.heap.objs.size := let ⟨_,_,_,_,e,_⟩ := hS; Heap.lt_size e
  have h20:kvs.length ≤ 20 := by rcases hm with h | h | h <;> rw [h] <;> decide
  have hddlt:d < s.heap.objs.size := Heap.lt_size hod
  cases hb:(model prog w).w.params.followText "set-display-star-reads-storage" with
  | true =>
    rw [if_pos rfl]
    dsimp only
    refine wpAny_bind (wpAny_pyIter_dict (knd := PySem.strKind prog w) lo hda ?_)
    refine wpAny_bind (wpAny_runValue ?_)
    refine upd_loop (kvs := kvs) (ep := ep) (S := S) hh (Nat.ne_of_lt hadlt) had (Nat.ne_of_lt hddlt) h20 kvs.length 0 1 _ (Nat.sub_zero _) (Nat.zero_le _) ⟨_,Heap.get?_push_size _ rfl,rfl,rfl⟩ (dictAt_at hda fun o e=>Heap.get?_push_of_some _ e) ((hS.at fun o e=>Heap.get?_push_of_some _ e).congr h0 rfl) (Nat.le_refl 1) (Nat.le_refl 1) fun h' tk n' hk' hS' a1 b1=>?_
    exact wpAny_pure (h h' tk n' (fun b o q e=>hk' b o q (Nat.ne_of_lt (Heap.lt_size e)) (Heap.get?_push_of_some _ e)) hS' a1 b1)
  | false =>
    rw [if_neg Bool.false_ne_true]
    dsimp only
    rw [if_neg Bool.false_ne_true]
    refine wpAny_bind (wpAny_typeOf hT ?_)
    rw [if_pos (by decide +kernel)]
    refine wpAny_bind (wpAny_rule ?_)
    rw [if_neg (by rw [lo]; exact Bool.false_ne_true)]
    refine wpAny_bind (wpAny_dictEpoch hod hdd ?_)
    refine wpAny_bind (wpAny_dictEntries hod hdd ?_)
    refine wpAny_bind (proom hS (by rw [hlen]; exact hm) fun h1 hs1 hS1=>?_)
    refine wpAny_bind ?_
    rw [Std.Legacy.Range.forIn_eq_forIn_range']
    have hsz:([:es.size]:Std.Legacy.Range).size = es.size := by simp [Std.Legacy.Range.size]
    show wpAny _ _ (forIn (List.range' 0 ([:es.size]:Std.Legacy.Range).size 1) _ _) _ _ _
    rw [hsz]
    refine wpAny_forIn_list _ (fun rest _ s' => SInv prog w s es.size a S kvs rest s') _ (fun x rest u s' hI=>?_) (fun u s' hI=>?_) _ _ ⟨0,h1,s.toks,1,by simp,Nat.zero_le _,rfl,fun b o q e=>hs1.extBut b o q e,hS1.congr h0 rfl,Nat.le_refl 1,Nat.le_refl 1⟩
    · obtain ⟨i,h',tk,n',hr,hi,rfl,hk',hS',a1,b1⟩ := hI
      have hlt:i < es.size := by
        rcases Nat.lt_or_ge i es.size with q | q
        · exact q
        · rw [Nat.sub_eq_zero_of_le q] at hr; simp at hr
      obtain ⟨r,hr2⟩:∃ r,es.size - i = r + 1 := ⟨es.size - i - 1,(Nat.sub_add_cancel (Nat.sub_pos_of_lt hlt)).symm⟩
      rw [hr2,List.range'_succ] at hr
      obtain ⟨rfl,rfl⟩ := List.cons.inj hr
      obtain ⟨key,v,hx,hkey⟩ := pairs_at hp x es[x] (by rw [Array.getElem?_toList]; exact Array.getElem?_eq_getElem hlt)
      obtain ⟨t,ht⟩ := strKey hkey
      obtain ⟨k2,hk2,hh2⟩ := hk es[x] (Array.getElem_mem hlt)
      have hkk:k2 = key := by
        obtain ⟨t2,ht2⟩ := strKey hk2
        rw [ht] at ht2
        exact (Value.str.inj ht2).1.symm
      refine wpAny_bind (wpAny_dictEntries (hk' _ _ had.symm hod) hdd ?_)
      rw [Array.getElem?_eq_getElem hlt]
      dsimp only
      refine wpAny_bind (wpAny_holding (wpAny_bind ?_))
      rw [hh2,ht,hkk]
      refine padd hS' (Nat.lt_of_le_of_lt (Nat.succ_le_succ (Nat.le_trans b1 (Nat.add_le_add_left (Nat.le_trans (Nat.le_of_lt hlt) (hlen ▸ h20)) 1))) (by decide)) fun h2 hs2 hS2=>wpAny_pure ?_
      refine wpAny_bind (wpAny_dictEpoch (hs2.extBut _ _ had.symm (hk' _ _ had.symm hod)) hdd ?_)
      rw [if_neg (by simp)]
      refine wpAny_pure ⟨x + 1,h2,tk,_,by rw [show es.size - (x + 1) = r from congrArg Nat.pred hr2],hlt,rfl,fun b o q e=>hs2.extBut b o q (hk' b o q e),hS2.congr (upTo_succ hx) rfl,?_,?_⟩
      · split <;> first | exact a1 | exact Nat.le_succ_of_le a1
      · split <;> first | exact Nat.succ_le_succ b1 | exact Nat.le_succ_of_le b1
    · obtain ⟨i,h',tk,n',hr,hi,rfl,hk',hS',a1,b1⟩ := hI
      have hin:i = es.size := by
        rcases Nat.lt_or_ge i es.size with q | q
        · obtain ⟨r,hr2⟩:∃ r,es.size - i = r + 1 := ⟨es.size - i - 1,(Nat.sub_add_cancel (Nat.sub_pos_of_lt q)).symm⟩
          rw [hr2,List.range'_succ] at hr
          cases hr
        · exact Nat.le_antisymm hi q
      subst hin
      refine wpAny_pure (h h' tk n' hk' ?_ a1 (hlen ▸ b1))
      rw [← hlen]
      exact hS'
end
end Mine
end
section
open PySem PySem.W PyProof.Rows PySem.Spec PySem.Calls
namespace Mine
noncomputable def PSetO (prog:Program) (w:World) (o:Obj) (S:Str -> Bool) (n:Nat):Prop :=
  ∃ es ep t,o.ExactSet ∧ o.data = .set es ep t ∧ ElemsOf (PySem.strKind prog w) es.toList ∧ (∀ k,S k = true ↔ ∃ e ∈ es.toList,(PySem.strKind prog w).is k e.2 = true) ∧ es.size < scanBound ∧ t.fits es.size = true ∧ es.size = n ∧ (es.size = 0 ∨ t.plain = false)
theorem PSet.obj {prog:Program} {w:World} {h:Heap} {a:Addr} {S:Str -> Bool} {n:Nat} (x:PSet prog w h a S n):∃ o,h.get? a = some o ∧ PSetO prog w o S n := by obtain ⟨o,es,ep,t,e,r⟩ := x; exact ⟨o,e,es,ep,t,r⟩
theorem PSetO.set {prog:Program} {w:World} {h:Heap} {a:Addr} {o:Obj} {S:Str -> Bool} {n:Nat} (x:PSetO prog w o S n) (e:h.get? a = some o):PSet prog w h a S n := by obtain ⟨es,ep,t,r⟩ := x; exact ⟨o,es,ep,t,e,r⟩
section
variable {prog:Program} {w:World} {A:Around} {E:Value -> Shared -> Prop} {s:Shared} {h₀:Heap} {L:Addr} {m:Str -> Option Value} {news:List (Addr × Obj)} {env:Env}
theorem pset_new {Q:Value -> Shared -> Prop}
    (h:∀ led:Bool,PSet prog w (s.heap.push { cls := .type "set",dict := none,data := .set #[] 0 (.fresh 0 0 led) }) s.heap.objs.size (fun _=>false) 0 ->
      Q (.ref s.heap.objs.size) { s with heap := s.heap.push { cls := .type "set",dict := none,data := .set #[] 0 (.fresh 0 0 led) } }) :
    wpAny (model prog w) A (newSet (.type "set")) Q E s :=
  wpAny_newSet_of (knd := PySem.strKind prog w) fun led _=>h led ⟨_,#[],0,_,Heap.get?_push_size _ rfl,⟨rfl,rfl,rfl⟩,rfl,fun e he=>by simp at he,fun k=>by simp,by decide,by rfl,rfl,.inl rfl⟩
theorem pset_display {K:Frag} {x1 x2:PySem.Expr} {p2 pos:Pos} {g:Str} {t:Tok} {d:Addr} {kvs:List (Str × Value)} {od:Obj} {Q:Value -> Shared -> Prop} (hh:A.handled = none) (F:Fr h₀ L s.heap m) (N:News h₀ L s.heap news) (X:K.In h₀) (hc:kdsCode K env.code = true) (hpl:kdsPlain x1 = true)
    (hmem:(d,od) ∈ news) (hd:Obj.IsDictOf (PySem.strKind prog w) od kvs) (lo:(d == sysModules) = false) (hm:kvs.length = 6 ∨ kvs.length = 9 ∨ kvs.length = 10)
    (e1:∀ h' tk (Q':Value -> Shared -> Prop),Fr h₀ L h' m -> Q' (.str g t) { s with heap := h',toks := tk } -> wpAny (model prog w) A (eval x1 env) Q' E { s with heap := h',toks := tk })
    (e2:∀ h' tk (Q':Value -> Shared -> Prop),Fr h₀ L h' m -> Q' (.ref d) { s with heap := h',toks := tk } -> wpAny (model prog w) A (eval x2 env) Q' E { s with heap := h',toks := tk })
    (h:∀ D oD h' tk n',Fr h₀ L h' m -> News h₀ L h' ((D,oD) :: news) -> (∀ p ∈ news,p.1 < D) -> PSetO prog w oD (upTo (fun k=>decide (k = g)) kvs kvs.length) n' -> 1 ≤ n' -> n' ≤ 1 + kvs.length -> Q (.ref D) { s with heap := h',toks := tk }) :
    wpAny (model prog w) A (eval (.Set [x1,.Starred x2 p2] 0 pos) env) Q E s := by
  rw [arm_eval_Set]
  refine wpAny_bind (wpAny_standAt ?_)
  refine wpAny_bind (kds_main (X.keeps F.keep) hc fun b=>?_)
  have hse:starEach [x1,.Starred x2 p2] env = [(false,eval x1 env),(true,eval x2 env)] := by
    cases x1 <;> first | rfl | (simp [kdsPlain] at hpl)
  rw [hse]
  unfold setDisplay
  dsimp only [List.map]
  have hroad:displayRoad 0 [x1,.Starred x2 p2] = .oneByOne := rfl
  rw [hroad,if_neg (by decide)]
  have Lt:L < s.heap.objs.size := F.ns.lt
  refine wpAny_bind (pset_new fun led hS=>?_)
  dsimp only
  generalize hD:s.heap.objs.size = D at *
  generalize hH:s.heap.push { cls := .type "set",dict := none,data := .set #[] 0 (.fresh 0 0 led) } = H at *
  have up:∀ b o,s.heap.get? b = some o -> H.get? b = some o := fun b o e=>hH ▸ Heap.get?_push_of_some _ e
  have new:h₀.get? D = none := by
    cases e:h₀.get? D with
    | none=>rfl
    | some o' => exact absurd (Heap.lt_size (F.keep _ _ e)) (by rw [hD]; exact Nat.lt_irrefl _)
  have lt:∀ p ∈ news,p.1 < D := fun p hp=>hD ▸ Heap.lt_size (N p hp).1
  have hDd:D ≠ d := (Nat.ne_of_lt (lt _ hmem)).symm
  have F1:Fr h₀ L H m := F.keeps up
  refine wpAny_bind (wpAny_holding ?_)
  refine wpAny_bind (m := evalAll [eval x1 env >>= fun v=>standAt pos >>= fun _=>pure v]) ?_
  unfold evalAll
  refine wpAny_bind (wpAny_bind (e1 H s.toks _ F1 (wpAny_bind (wpAny_standAt (wpAny_pure ?_)))))
  unfold evalAll
  refine wpAny_bind (wpAny_holding (wpAny_pure (wpAny_pure ?_)))
  refine wpAny_bind (wpAny_holding ?_)
  refine wpAny_bind ?_
  rw [List.forIn_cons]
  refine wpAny_bind (wpAny_bind ?_)
  unfold setAdd
  refine wpAny_holding (wpAny_bind ((PySem.strKind prog w).pyHash (k := g) (strKind_is _ _ _ _) ?_))
  refine padd (s := { s with heap := H,toks := s.toks + 1 }) hS (by decide) fun h2 hs2 hS2=>wpAny_pure ?_
  dsimp only
  rw [List.forIn_nil]
  refine wpAny_pure ?_
  rw [if_neg (by decide)]
  refine wpAny_pure ?_
  refine wpAny_bind (m := forIn [((true,eval x2 env >>= fun v=>standAt pos >>= fun _=>pure v):Bool × Sem Value)] PUnit.unit _) ?_
  rw [List.forIn_cons]
  have F2:Fr h₀ L h2 m := F1.change hs2 (Nat.ne_of_lt Lt).symm new
  refine wpAny_bind (wpAny_bind (wpAny_bind (e2 h2 (s.toks + 1) _ F2 (wpAny_bind (wpAny_standAt (wpAny_pure ?_))))))
  dsimp only
  rw [if_pos rfl]
  refine wpAny_bind (wpAny_holding ?_)
  have hdd:h2.DictOf (PySem.strKind prog w) d kvs := Heap.dictOf_iff.mpr ⟨od,hs2.extBut _ _ hDd.symm (up _ _ (N _ hmem).1),hd⟩
  have hS2':PSet prog w h2 D (fun k=>decide (k = g)) 1 := hS2.congr (fun k=>by simp) (by simp)
  refine pstar (s := { s with heap := h2,toks := s.toks + 1 }) hh hS2' hdd hDd lo hm fun h3 tk3 n3 hk3 hS3 a3 b3=>?_
  refine wpAny_pure ?_
  dsimp only
  rw [List.forIn_nil]
  refine wpAny_pure (wpAny_pure (wpAny_pure ?_))
  obtain ⟨oD,eD,rD⟩ := hS3.obj
  have keep:∀ b o,b ≠ D -> s.heap.get? b = some o -> h3.get? b = some o := fun b o q e=>hk3 b o q (hs2.extBut b o q (up b o e))
  refine h D oD h3 tk3 n3 ?_ (fun p hp=>?_) lt rD a3 b3
  · exact ⟨F.ns.at fun o e=>keep _ o (Nat.ne_of_lt Lt) e,fun b o e=>keep b o (fun q=>by rw [q,new] at e; cases e) (F.keep b o e),F.above⟩
  · rcases List.mem_cons.mp hp with rfl | hp
    · exact ⟨eD,(Nat.ne_of_lt Lt).symm,new⟩
    · exact ⟨keep _ _ (Nat.ne_of_lt (lt p hp)) (N p hp).1,(N p hp).2⟩
end
end Mine
end
section
open PySem PySem.W PyProof.Rows PySem.Spec PySem.Calls
namespace Mine
theorem f_entry_set_iter:entryFor table "set.__iter__" = some Builtin.«frozenset.__iter__» :=
  entryFor_alias (id' := "frozenset.__iter__") (by kernel_rfl) (by first | rfl | decide +kernel | (unfold String.splitOn; simp +decide [String.splitOnAux])) (by decide +kernel) (by kernel_rfl)
theorem f_owner_si:Manifest.owners.lookup (String.ofList ['r', 'o', 't', 'a', 'r', 'e', 't', 'i', '_', 't', 'e', 's'].reverse) = some Manifest.sig_set_iterator := by kernel_rfl
theorem f_slot_si_next:Slot "set_iterator" "__next__" "set_iterator.__next__" :=
  .of (owner := "set_iterator") (n := "__next__") (by rw [typeLookup_type,builtinLookup_eq_fast]; kernel_rfl) (by decide +kernel) (by decide +kernel) (by decide +kernel)
    (by first | exact .inl (by decide +kernel) | exact .inr (by decide +kernel)) (by rw [isSubtype_type]; kernel_rfl)
theorem f_entry_si_next:entryFor table "set_iterator.__next__" = some Builtin.«set_iterator.__next__» := entryFor_of_tree (by kernel_rfl)
theorem f_args_si_next (a:Value):argsOk "set_iterator.__next__" ⟨[a],[]⟩ := by
  unfold argsOk; rw [signature?_of (id := "set_iterator.__next__") (n := ['_', '_', 't', 'x', 'e', 'n', '_', '_']) (o := ['r', 'o', 't', 'a', 'r', 'e', 't', 'i', '_', 't', 'e', 's']) (by kernel_rfl) f_owner_si]; kernel_rfl
theorem f_slot_si_iter:Slot "set_iterator" "__iter__" "set_iterator.__iter__" :=
  .of (owner := "set_iterator") (n := "__iter__") (by rw [typeLookup_type,builtinLookup_eq_fast]; kernel_rfl) (by decide +kernel) (by decide +kernel) (by decide +kernel)
    (by first | exact .inl (by decide +kernel) | exact .inr (by decide +kernel)) (by rw [isSubtype_type]; kernel_rfl)
theorem f_args_si_iter (a:Value):argsOk "set_iterator.__iter__" ⟨[a],[]⟩ := by
  unfold argsOk; rw [signature?_of (id := "set_iterator.__iter__") (n := ['_', '_', 'r', 'e', 't', 'i', '_', '_']) (o := ['r', 'o', 't', 'a', 'r', 'e', 't', 'i', '_', 't', 'e', 's']) (by kernel_rfl) f_owner_si]; kernel_rfl
theorem f_entry_si_iter:entryFor table "set_iterator.__iter__" = some Builtin.«dict_keyiterator.__iter__» :=
  entryFor_alias (id' := "dict_keyiterator.__iter__") (by kernel_rfl) (by first | rfl | decide +kernel | (unfold String.splitOn; simp +decide [String.splitOnAux])) (by decide +kernel) (by kernel_rfl)
theorem wpAny_choose {M:Model} {A:Around} {E:Value -> Shared -> Prop} {s:Shared} {src:Source} {n:Nat} {Q:Nat -> Shared -> Prop} (hn:n ≠ 0) (h:∀ i,i < n -> ∀ dr,Q i { s with drawn := dr }):wpAny M A (choose src n) Q E s :=
  fun _ _ _=>⟨hn,h _ (Nat.mod_lt _ (Nat.pos_of_ne_zero hn)) _⟩
theorem perm_pick {α:Type} : ∀ {xs:List α} {i:Nat} {x:α},xs[i]? = some x -> (x :: xs.eraseIdx i).Perm xs
  | [],_,_,h=>by simp at h
  | y :: r,0,x,h=>by simp at h; subst h; exact List.Perm.refl _
  | y :: r,i + 1,x,h=>by
    have := perm_pick (xs := r) (i := i) (x := x) (by simpa using h)
    rw [List.eraseIdx_cons_succ]
    exact (List.Perm.swap y x _).trans (this.cons y)
theorem draw_succ {α:Type} {n:Nat} {x:α} {r:List α} : drawOrder (n + 1) (x :: r) = (do
    let i ← choose .order (x :: r).length
    match (x :: r)[i]? with
    | some y=>return y :: (← drawOrder n ((x :: r).eraseIdx i))
    | none=>unsupported "internal:drawOrder") := rfl
theorem pick_succ {α:Type} {next:Nat -> Nat} {f k:Nat} {left:List α} {out:Array α} : pickOrder.go next (f + 1) k left out = (match left[next k % left.length]? with
    | some x=>pickOrder.go next f (k + 1) (left.eraseIdx (next k % left.length)) (out.push x)
    | none=>out) := rfl
theorem wpAny_drawOrder {M:Model} {A:Around} {E:Value -> Shared -> Prop} {α:Type} : ∀ (n:Nat) (xs:List α) (s:Shared) (Q:List α -> Shared -> Prop),xs.length = n -> (∀ ys dr,ys.Perm xs -> Q ys { s with drawn := dr }) -> wpAny M A (drawOrder n xs) Q E s := by
  intro n
  induction n with
  | zero =>
    intro xs s Q hn h
    obtain rfl:xs = [] := List.length_eq_zero_iff.mp hn
    exact (wpAny_pure (h [] s.drawn (List.Perm.refl _)):wpAny M A (pure []) Q E s)
  | succ n ih =>
    intro xs s Q hn h
    obtain ⟨x,r,rfl⟩:∃ x r,xs = x :: r := by
      cases xs with
      | nil=>simp at hn
      | cons x r=>exact ⟨x,r,rfl⟩
    rw [draw_succ]
    refine wpAny_bind (wpAny_choose (by simp) fun i hi dr=>?_)
    obtain ⟨y,hy⟩:∃ y,(x :: r)[i]? = some y := ⟨_,List.getElem?_eq_getElem hi⟩
    rw [hy]
    dsimp only
    refine wpAny_bind (ih _ _ _ (by rw [List.length_eraseIdx,if_pos hi,hn]; rfl) fun ys dr2 hp=>wpAny_pure ?_)
    exact h _ dr2 ((hp.cons y).trans (perm_pick hy))
theorem pick_go {α:Type} (next:Nat -> Nat):∀ (f k:Nat) (left:List α) (out:Array α),left.length ≤ f -> (pickOrder.go next f k left out).toList.Perm (out.toList ++ left)
  | 0,k,left,out,h=>by
    obtain rfl:left = [] := List.length_eq_zero_iff.mp (by lia)
    rw [List.append_nil]
    exact List.Perm.refl _
  | f + 1,k,left,out,h=>by
    rw [pick_succ]
    cases e:left[next k % left.length]? with
    | none =>
      have:left = [] := by
        cases left with
        | nil=>rfl
        | cons y r =>
          have := List.getElem?_eq_none_iff.mp e
          have h2 := Nat.mod_lt (next k) (show 0 < (y :: r).length by simp)
          lia
      subst this
      simp
    | some x =>
      dsimp only
      have hlt:next k % left.length < left.length := by
        rcases Nat.lt_or_ge (next k % left.length) left.length with q | q
        · exact q
        · rw [List.getElem?_eq_none_iff.mpr q] at e; cases e
      have := pick_go next f (k + 1) (left.eraseIdx (next k % left.length)) (out.push x) (by rw [List.length_eraseIdx,if_pos hlt]; exact Nat.sub_le_of_le_add h)
      refine this.trans ?_
      rw [Array.toList_push,List.append_assoc]
      exact List.Perm.append_left _ (perm_pick e)
theorem pickOrder_perm {α:Type} (next:Nat -> Nat) (xs:Array α):(pickOrder next xs).toList.Perm xs.toList := by
  have := pick_go next xs.size 0 xs.toList #[] (by simp)
  simpa [pickOrder] using this
theorem elems_strs {prog:Program} {w:World} : ∀ (l:List (Int × Value)),ElemsOf (PySem.strKind prog w) l -> ∃ ks,StrsAre (l.map (·.2)) ks ∧ ks.length = l.length ∧ ∀ k,k ∈ ks ↔ ∃ e ∈ l,(PySem.strKind prog w).is k e.2 = true
  | [],_=>⟨[],.nil,rfl,fun k=>by simp⟩
  | e :: r,h=>by
    obtain ⟨ks,a,b,c⟩ := elems_strs r h.tail
    obtain ⟨⟨k,hk,_⟩,_⟩ := h.head
    obtain ⟨t,ht⟩ := strKey hk
    refine ⟨k :: ks,by rw [List.map_cons,ht]; exact .cons k t a,by simp [b],fun k' => ?_⟩
    rw [List.mem_cons,c k']
    constructor
    · rintro (rfl | ⟨e',he,q⟩)
      · exact ⟨e,.head _,hk⟩
      · exact ⟨e',.tail _ he,q⟩
    · rintro ⟨e',he,q⟩
      rcases List.mem_cons.mp he with rfl | he
      · left
        obtain ⟨t2,ht2⟩ := strKey q
        rw [ht] at ht2
        exact (Value.str.inj ht2).1.symm
      · exact .inr ⟨e',he,q⟩
end Mine
end
section
open PySem PySem.W PyProof.Rows PySem.Spec PySem.Calls
namespace Mine
noncomputable abbrev siObj (first:Value) (i:Nat) (a:Addr) (n ep:Nat):Obj := { cls := .type "set_iterator",dict := none,data := .fields #[first,rawInt i,.ref a,rawInt n,rawInt ep],slots := #[] }
section
variable {prog:Program} {w:World} {A:Around} {E:Value -> Shared -> Prop} {s:Shared} {I a P:Addr} {i n ep:Nat} {o:Obj} {es:Array (Int × Value)} {t:SetTable}
theorem si_type {first:Value} (hI:s.heap.get? I = some (siObj first i a n ep)):s.TypeIs (.ref I) "set_iterator" := ⟨_,hI,rfl⟩
theorem si_next_T {e:Int × Value} {Q:Option Value -> Shared -> Prop} (hbt:w.params.followText "set-order" = true) (hI:s.heap.get? I = some (siObj (rawInt 0) i a n ep)) (ho:s.heap.get? a = some o) (hd:o.data = .set es ep t) (hf:t.fits es.size = true) (hn:es.size = n)
    (hx:(pickOrder (w.params.setOrder a ep) es)[i]? = some e)
    (h:∀ h',h'.get? I = some (siObj (rawInt 0) (i + 1) a n ep) -> Heap.SameBut I s.heap h' -> Q (some e.2) { s with heap := h' }):wpAny (model prog w) A (pyNext (.ref I)) Q E s := by
  unfold pyNext
  refine wpAny_bind (wpAny_attempt (wpAny_callSpecial?_slot (name := Str.ofString "__next__") (si_type hI) f_slot_si_next (wpAny_call_entry f_slot_si_next (si_type hI) f_entry_si_next ?_ (f_args_si_next _))))
  unfold Builtin.«set_iterator.__next__»
  refine wpAny_bind (wpAny_of_eq (a := (Value.ref I,[])) rfl ?_)
  dsimp only
  refine wpAny_bind (wpAny_fieldsOf hI rfl ?_)
  dsimp only [rawInt]
  refine wpAny_bind (wpAny_setEntries_of ho hd hf ?_)
  rw [if_neg (by rw [hn]; simp)]
  unfold setNext
  refine wpAny_bind (wpAny_bind (wpAny_setState_of ho hd hf ?_))
  dsimp only
  refine wpAny_bind (m := setsByText) (show wpAny _ _ (ask >>= fun x=>pure (x.params.followText "set-order")) _ _ _ from wpAny_bind (wpAny_askSetting (wpAny_pure ?_)))
  dsimp only
  rw [if_pos (show (model prog w).w.params.followText "set-order" = true from hbt),if_neg (by simp)]
  unfold setWalk
  refine wpAny_bind (wpAny_bind (wpAny_setState_of ho hd hf ?_))
  dsimp only
  refine wpAny_bind (m := setsByText) (show wpAny _ _ (ask >>= fun x=>pure (x.params.followText "set-order")) _ _ _ from wpAny_bind (wpAny_askSetting (wpAny_pure ?_)))
  rw [if_pos (show (model prog w).w.params.followText "set-order" = true from hbt)]
  refine wpAny_bind (wpAny_askSetting (wpAny_pure ?_))
  have hx':(pickOrder ((model prog w).w.params.setOrder a ep) es)[(i:Int).toNat]? = some e := by rw [Int.toNat_natCast]; exact hx
  rw [hx']
  refine wpAny_pure ?_
  dsimp only [Option.map]
  refine wpAny_bind (wpAny_setField_rec hI (by simp) fun h1 e1 hs1=>?_)
  refine wpAny_bind (wpAny_setField_rec e1 (by simp) fun h2 e2 hs2=>wpAny_pure ⟨_,rfl,wpAny_pure ?_⟩)
  exact h h2 (by simpa [siObj,rawInt] using e2) (hs1.trans hs2)
theorem si_end_T {Q:Option Value -> Shared -> Prop} (hh:A.handled = none) (hbt:w.params.followText "set-order" = true) (hI:s.heap.get? I = some (siObj (rawInt 0) i a n ep)) (ho:s.heap.get? a = some o) (hd:o.data = .set es ep t) (hf:t.fits es.size = true) (hn:es.size = n)
    (hx:(pickOrder (w.params.setOrder a ep) es)[i]? = none)
    (h:∀ h',(∀ b o,b ≠ I -> s.heap.get? b = some o -> h'.get? b = some o) -> Q none { s with heap := h' }):wpAny (model prog w) A (pyNext (.ref I)) Q E s := by
  unfold pyNext
  refine wpAny_bind (wpAny_attempt (wpAny_callSpecial?_slot (name := Str.ofString "__next__") (si_type hI) f_slot_si_next (wpAny_call_entry f_slot_si_next (si_type hI) f_entry_si_next ?_ (f_args_si_next _))))
  unfold Builtin.«set_iterator.__next__»
  refine wpAny_bind (wpAny_of_eq (a := (Value.ref I,[])) rfl ?_)
  dsimp only
  refine wpAny_bind (wpAny_fieldsOf hI rfl ?_)
  dsimp only [rawInt]
  refine wpAny_bind (wpAny_setEntries_of ho hd hf ?_)
  rw [if_neg (by rw [hn]; simp)]
  unfold setNext
  refine wpAny_bind (wpAny_bind (wpAny_setState_of ho hd hf ?_))
  dsimp only
  refine wpAny_bind (m := setsByText) (show wpAny _ _ (ask >>= fun x=>pure (x.params.followText "set-order")) _ _ _ from wpAny_bind (wpAny_askSetting (wpAny_pure ?_)))
  dsimp only
  rw [if_pos (show (model prog w).w.params.followText "set-order" = true from hbt),if_neg (by simp)]
  unfold setWalk
  refine wpAny_bind (wpAny_bind (wpAny_setState_of ho hd hf ?_))
  dsimp only
  refine wpAny_bind (m := setsByText) (show wpAny _ _ (ask >>= fun x=>pure (x.params.followText "set-order")) _ _ _ from wpAny_bind (wpAny_askSetting (wpAny_pure ?_)))
  rw [if_pos (show (model prog w).w.params.followText "set-order" = true from hbt)]
  refine wpAny_bind (wpAny_askSetting (wpAny_pure ?_))
  have hx':(pickOrder ((model prog w).w.params.setOrder a ep) es)[(i:Int).toNat]? = none := by rw [Int.toNat_natCast]; exact hx
  rw [hx']
  refine wpAny_pure ?_
  dsimp only [Option.map]
  refine wpAny_bind (wpAny_setField_rec hI (by simp) fun h1 e1 hs1=>?_)
  refine wpAny_bind ?_
  simp only [newExc,newTuple]
  refine wpAny_bind (wpAny_newObj_type ?_ (by size_fits))
  refine wpAny_bind (m := firstArgMember _ _) (wpAny_of_eq (a := Value.none) (by first | rfl | (simp only [firstArgMember]; rfl)) ?_)
  refine wpAny_newObj_type ?_ (by size_fits)
  refine wpAny_raiseNew_none hh ?_
  refine wpAny_bind (wpAny_isInstance (T := "StopIteration") (b := true) ⟨_,Heap.get?_push_size _ rfl,rfl⟩ isSubtype_stop ?_)
  exact wpAny_pure (h _ fun b o q e=>Heap.get?_push_of_some _ (Heap.get?_push_of_some _ (hs1.extBut b o q e)))
theorem si_next_D {e:Int × Value} {ps:List Nat} {c:Nat} {j:Nat} {Q:Option Value -> Shared -> Prop} (hI:s.heap.get? I = some (siObj (.ref P) i a n ep)) (hP:s.heap.get? P = some { cls := .type "tuple",data := .seq (ps.map fun (i:Nat)=>rawInt i).toArray c }) (ho:s.heap.get? a = some o) (hd:o.data = .set es ep t) (hf:t.fits es.size = true) (hn:es.size = n)
    (hj:ps[i]? = some j) (hx:es[j]? = some e)
    (h:∀ h',h'.get? I = some (siObj (.ref P) (i + 1) a n ep) -> Heap.SameBut I s.heap h' -> Q (some e.2) { s with heap := h' }):wpAny (model prog w) A (pyNext (.ref I)) Q E s := by
  unfold pyNext
  refine wpAny_bind (wpAny_attempt (wpAny_callSpecial?_slot (name := Str.ofString "__next__") (si_type hI) f_slot_si_next (wpAny_call_entry f_slot_si_next (si_type hI) f_entry_si_next ?_ (f_args_si_next _))))
  unfold Builtin.«set_iterator.__next__»
  refine wpAny_bind (wpAny_of_eq (a := (Value.ref I,[])) rfl ?_)
  dsimp only
  refine wpAny_bind (wpAny_fieldsOf hI rfl ?_)
  dsimp only [rawInt]
  refine wpAny_bind (wpAny_setEntries_of ho hd hf ?_)
  rw [if_neg (by rw [hn]; simp)]
  refine wpAny_bind (wpAny_seqItems hP rfl ?_)
  dsimp only
  have hpi:(ps.map fun (i:Nat)=>rawInt i).toArray[(i:Int).toNat]? = some (Value.int j 0) := by rw [Int.toNat_natCast]; simp [hj,rawInt]
  rw [hpi]
  dsimp only
  unfold setNextDrawn
  refine wpAny_bind (wpAny_bind (wpAny_setState_of ho hd hf ?_))
  dsimp only
  rw [if_neg (by simp)]
  rw [show es[((j:Nat):Int).toNat]? = some e by rw [Int.toNat_natCast]; exact hx]
  refine wpAny_pure ?_
  refine wpAny_bind (wpAny_setField_rec hI (by simp) fun h1 e1 hs1=>wpAny_pure ⟨_,rfl,wpAny_pure ?_⟩)
  exact h h1 (by simpa [siObj,rawInt] using e1) hs1
theorem si_end_D {ps:List Nat} {c:Nat} {Q:Option Value -> Shared -> Prop} (hh:A.handled = none) (hI:s.heap.get? I = some (siObj (.ref P) i a n ep)) (hP:s.heap.get? P = some { cls := .type "tuple",data := .seq (ps.map fun (i:Nat)=>rawInt i).toArray c }) (ho:s.heap.get? a = some o) (hd:o.data = .set es ep t) (hf:t.fits es.size = true) (hn:es.size = n)
    (hj:ps[i]? = none)
    (h:∀ h',(∀ b o,b ≠ I -> s.heap.get? b = some o -> h'.get? b = some o) -> Q none { s with heap := h' }):wpAny (model prog w) A (pyNext (.ref I)) Q E s := by
  unfold pyNext
  refine wpAny_bind (wpAny_attempt (wpAny_callSpecial?_slot (name := Str.ofString "__next__") (si_type hI) f_slot_si_next (wpAny_call_entry f_slot_si_next (si_type hI) f_entry_si_next ?_ (f_args_si_next _))))
  unfold Builtin.«set_iterator.__next__»
  refine wpAny_bind (wpAny_of_eq (a := (Value.ref I,[])) rfl ?_)
  dsimp only
  refine wpAny_bind (wpAny_fieldsOf hI rfl ?_)
  dsimp only [rawInt]
  refine wpAny_bind (wpAny_setEntries_of ho hd hf ?_)
  rw [if_neg (by rw [hn]; simp)]
  refine wpAny_bind (wpAny_seqItems hP rfl ?_)
  dsimp only
  have hpi:(ps.map fun (i:Nat)=>rawInt i).toArray[(i:Int).toNat]? = none := by rw [Int.toNat_natCast]; simp [hj]
  rw [hpi]
  dsimp only
  refine wpAny_bind (wpAny_setField_rec hI (by simp) fun h1 e1 hs1=>?_)
  refine wpAny_bind (wpAny_setField_rec e1 (by simp) fun h2 e2 hs2=>?_)
  refine wpAny_bind ?_
  simp only [newExc,newTuple]
  refine wpAny_bind (wpAny_newObj_type ?_ (by size_fits))
  refine wpAny_bind (m := firstArgMember _ _) (wpAny_of_eq (a := Value.none) (by first | rfl | (simp only [firstArgMember]; rfl)) ?_)
  refine wpAny_newObj_type ?_ (by size_fits)
  refine wpAny_raiseNew_none hh ?_
  refine wpAny_bind (wpAny_isInstance (T := "StopIteration") (b := true) ⟨_,Heap.get?_push_size _ rfl,rfl⟩ isSubtype_stop ?_)
  exact wpAny_pure (h _ fun b o q e=>Heap.get?_push_of_some _ (Heap.get?_push_of_some _ (hs2.extBut b o q (hs1.extBut b o q e))))
end
end Mine
end
section
open PySem PySem.W PyProof.Rows PySem.Spec PySem.Calls
namespace Mine
theorem filterMap_at {α β:Type} {f:α -> Option β} : ∀ {ps:List α},(∀ j ∈ ps, ∃ z,f j = some z) -> ∀ i:Nat,(ps.filterMap f)[i]? = (ps[i]?).bind f
  | [],_,i=>by simp
  | p :: r,h,i=>by
    obtain ⟨z,hz⟩ := h p (.head _)
    rw [List.filterMap_cons,hz]
    cases i with
    | zero=>simp [hz]
    | succ i=>simpa using filterMap_at (ps := r) (fun j hj=>h j (.tail _ hj)) i
theorem range_filterMap {α:Type} (es:Array α):((List.range es.size).filterMap fun j=>es[j]?) = es.toList := by
  apply List.ext_getElem?
  intro i
  rw [filterMap_at (fun j hj=>⟨es[j]'(List.mem_range.mp hj),Array.getElem?_eq_getElem _⟩)]
  rcases Nat.lt_or_ge i es.size with q | q
  · rw [List.getElem?_range q]; simp
  · rw [List.getElem?_eq_none (by simpa using q)]; simp [q]
section
variable {prog:Program} {w:World} {A:Around} {E:Value -> Shared -> Prop} {s:Shared} {I a P:Addr} {n ep:Nat} {o:Obj} {es:Array (Int × Value)} {t:SetTable}
theorem ifT {α:Type} {M:Model} {c:Bool} {x y:Sem α} {Q:α -> Shared -> Prop} (hc:c = true) (h:wpAny M A x Q E s):wpAny M A (if c = true then x else y) Q E s := by rw [if_pos hc]; exact h
theorem ifF {α:Type} {M:Model} {c:Bool} {x y:Sem α} {Q:α -> Shared -> Prop} (hc:c = false) (h:wpAny M A y Q E s):wpAny M A (if c = true then x else y) Q E s := by rw [if_neg (by rw [hc]; exact Bool.false_ne_true)]; exact h
theorem si_walks_T (hbt:w.params.followText "set-order" = true) (hh:A.handled = none) (hIa:I ≠ a) (hd:o.data = .set es ep t) (hf:t.fits es.size = true) (hn:es.size = n) :
    Walks prog w A I [I,a] [I] n (fun i v=>((pickOrder (w.params.setOrder a ep) es)[i]?).map (·.2) = some v) (fun i h=>h.get? I = some (siObj (rawInt 0) i a n ep) ∧ h.get? a = some o) where
  sub := fun b hb=>by simp at hb; simp [hb]
  frame := fun _ _ _ st hk=>⟨hk I (by simp) _ st.1,hk a (by simp) _ st.2⟩
  item := fun i s Q E hi st hQ=>by
    have hsz:(pickOrder (w.params.setOrder a ep) es).size = n := by rw [← Array.length_toList,(pickOrder_perm _ es).length_eq,Array.length_toList,hn]
    have hx:(pickOrder (w.params.setOrder a ep) es)[i]? = some (pickOrder (w.params.setOrder a ep) es)[i] := Array.getElem?_eq_getElem (hsz.symm ▸ hi)
    refine si_next_T hbt st.1 st.2 hd hf hn hx fun h' h1 hs=>?_
    exact hQ _ h' s.toks (by rw [hx]; rfl) ⟨h1,hs.extBut _ _ hIa.symm st.2⟩ fun b o hb e=>hs.extBut b o (by simpa using hb) e
  done := fun s Q E st hQ=>by
    have hsz:(pickOrder (w.params.setOrder a ep) es).size = n := by rw [← Array.length_toList,(pickOrder_perm _ es).length_eq,Array.length_toList,hn]
    refine si_end_T hh hbt st.1 st.2 hd hf hn (Array.getElem?_eq_none (Nat.le_of_eq hsz)) fun h' hk=>?_
    exact hQ h' s.toks fun b o hb e=>hk b o (by simpa using hb) e
  self := fun i s Q E st hQ=>by
    refine wpAny_pyIter_slot (si_type st.1) f_slot_si_iter (wpAny_call_entry f_slot_si_iter (si_type st.1) f_entry_si_iter ?_ (f_args_si_iter _))
    show wpAny _ _ (ret (.ref I)) _ _ s
    exact wpAny_pure ⟨_,rfl, "set_iterator",_,si_type st.1,f_slot_si_next.lookup,hQ⟩
noncomputable def tupNat (ps:List Nat):Obj := { cls := .type "tuple",data := .seq (ps.map fun (i:Nat)=>rawInt i).toArray }
theorem si_walks_D {ps:List Nat} (hh:A.handled = none) (hIa:I ≠ a) (hIP:I ≠ P) (hd:o.data = .set es ep t) (hf:t.fits es.size = true) (hn:es.size = n) (hps:ps.Perm (List.range n)) :
    Walks prog w A I [I,a,P] [I] n (fun i v=>((ps[i]?).bind fun j=>(es[j]?).map (·.2)) = some v) (fun i h=>h.get? I = some (siObj (.ref P) i a n ep) ∧ h.get? a = some o ∧ h.get? P = some (tupNat ps)) where
  sub := fun b hb=>by simp at hb; simp [hb]
  frame := fun _ _ _ st hk=>⟨hk I (by simp) _ st.1,hk a (by simp) _ st.2.1,hk P (by simp) _ st.2.2⟩
  item := fun i s Q E hi st hQ=>by
    have hsz:ps.length = n := by rw [hps.length_eq,List.length_range]
    have hx:ps[i]? = some ps[i] := List.getElem?_eq_getElem (hsz.symm ▸ hi)
    have hlt:ps[i] < es.size := by
      have := hps.mem_iff.mp (List.getElem_mem (l := ps) (n := i) (hsz.symm ▸ hi))
      rw [hn]; exact List.mem_range.mp this
    refine si_next_D st.1 st.2.2 st.2.1 hd hf hn hx (Array.getElem?_eq_getElem hlt) fun h' h1 hs=>?_
    exact hQ _ h' s.toks (by rw [hx]; simp [hlt]) ⟨h1,hs.extBut _ _ hIa.symm st.2.1,hs.extBut _ _ hIP.symm st.2.2⟩ fun b o hb e=>hs.extBut b o (by simpa using hb) e
  done := fun s Q E st hQ=>by
    have hsz:ps.length = n := by rw [hps.length_eq,List.length_range]
    refine si_end_D hh st.1 st.2.2 st.2.1 hd hf hn (List.getElem?_eq_none (Nat.le_of_eq hsz)) fun h' hk=>?_
    exact hQ h' s.toks fun b o hb e=>hk b o (by simpa using hb) e
  self := fun i s Q E st hQ=>by
    refine wpAny_pyIter_slot (si_type st.1) f_slot_si_iter (wpAny_call_entry f_slot_si_iter (si_type st.1) f_entry_si_iter ?_ (f_args_si_iter _))
    show wpAny _ _ (ret (.ref I)) _ _ s
    exact wpAny_pure ⟨_,rfl, "set_iterator",_,si_type st.1,f_slot_si_next.lookup,hQ⟩
theorem pyIter_set {S:Str -> Bool} {Q:Value -> Shared -> Prop} (hS:PSet prog w s.heap a S n) (h2:2 ≤ n)
    (h:∀ (zs:List (Int × Value)) (I:Addr) (fp:List Addr) (St:Nat -> Heap -> Prop) h' dr tk,zs.length = n -> (∃ ks,StrsAre (zs.map (·.2)) ks ∧ ks.length = n ∧ ∀ k,k ∈ ks ↔ S k = true) ->
      (∀ A':Around,A'.handled = none -> Walks prog w A' I fp [I] n (fun i v=>(zs[i]?).map (·.2) = some v) St) -> St 0 h' -> (∀ b ∈ fp,b < h'.objs.size) -> s.heap.objs.size ≤ I -> (∀ b ∈ fp,b = a ∨ s.heap.objs.size ≤ b) -> (∀ b o,s.heap.get? b = some o -> h'.get? b = some o) ->
      Q (.ref I) { s with heap := h',drawn := dr,toks := tk }):wpAny (model prog w) A (pyIter (.ref a)) Q E s := by
  obtain ⟨o,es,ep,t,ho,hex,hd,hel,hmem,hbs,hf,hn,hpl⟩ := hS
  subst hn
  have hpl':t.plain = false := hpl.resolve_left (by omega)
  have hT:s.TypeIs (.ref a) "set" := ⟨o,ho,hex.1⟩
  have halt:a < s.heap.objs.size := Heap.lt_size ho
  have facts:∀ zs:List (Int × Value),zs.Perm es.toList -> ∃ ks,StrsAre (zs.map (·.2)) ks ∧ ks.length = es.size ∧ ∀ k,k ∈ ks ↔ S k = true := fun zs hp=>by
    obtain ⟨ks,q1,q2,q3⟩ := elems_strs zs (hel.perm hp)
    refine ⟨ks,q1,by rw [q2,hp.length_eq,Array.length_toList],fun k=>?_⟩
    rw [q3,hmem]
    exact ⟨fun ⟨e,he,q⟩=>⟨e,hp.mem_iff.mp he,q⟩,fun ⟨e,he,q⟩=>⟨e,hp.mem_iff.mpr he,q⟩⟩
  refine wpAny_pyIter_slot hT F.slot_set_iter (wpAny_call_entry F.slot_set_iter hT f_entry_set_iter ?_ (F.args_set_iter_1 _))
  unfold Builtin.«frozenset.__iter__»
  refine wpAny_bind (wpAny_of_eq (a := a) rfl ?_)
  refine wpAny_bind (m := Builtin.Frozenset.sizeOf a) (show wpAny _ _ (setEntries a >>= fun x=>pure x.size) _ _ _ from wpAny_bind (wpAny_setEntries_of ho hd hf (wpAny_pure ?_)))
  unfold setDrawn
  refine wpAny_bind (wpAny_bind (wpAny_setState_of ho hd hf ?_))
  dsimp only
  refine wpAny_bind (m := setsByText) (show wpAny _ _ (ask >>= fun x=>pure (x.params.followText "set-order")) _ _ _ from wpAny_bind (wpAny_askSetting (wpAny_pure ?_)))
  refine wpAny_pure ?_
  have hdr:∀ b:Bool,(!b && (!t.plain && decide (es.size > 1))) = !b := fun b=>by
    rw [hpl',decide_eq_true (by omega)]; simp
  cases hb:(model prog w).w.params.followText "set-order" with
  | true =>
    have hbt:w.params.followText "set-order" = true := hb
    refine ifF (hdr true) ?_
    refine wpAny_bind (wpAny_pure ?_)
    refine wpAny_bind (wpAny_setEpoch_of ho hd hf ?_)
    refine wpAny_bind ?_
    simp only [newFields]
    refine wpAny_newObj_type ?_ (by size_fits)
    refine wpAny_pure ⟨_,rfl, "set_iterator",_,⟨_,Heap.get?_push_size _ rfl,rfl⟩,f_slot_si_next.lookup,?_⟩
    have hp := pickOrder_perm (w.params.setOrder a ep) es
    refine h (pickOrder (w.params.setOrder a ep) es).toList s.heap.objs.size [s.heap.objs.size,a] (fun i h=>h.get? s.heap.objs.size = some (siObj (rawInt 0) i a es.size ep) ∧ h.get? a = some o) _ s.drawn s.toks (by rw [hp.length_eq,Array.length_toList]) (facts _ hp)
      (fun A' hA=>?_) ⟨Heap.get?_push_size _ rfl,Heap.get?_push_of_some _ ho⟩ (fun b hbm=>?_) (Nat.le_refl _) (fun b hbm=>?_) fun b o' e=>Heap.get?_push_of_some _ e
    · have W := si_walks_T (prog := prog) (A := A') (I := s.heap.objs.size) (a := a) (n := es.size) (ep := ep) hbt hA (Nat.ne_of_gt halt) hd hf rfl
      refine { sub := W.sub,frame := W.frame,done := W.done,self := W.self,item := fun i s Q E hi st hQ=>W.item i s Q E hi st fun v h' tk hP=>hQ v h' tk (by rw [Array.getElem?_toList]; exact hP) }
    · rw [Heap.size_push]
      simp only [List.mem_cons,List.not_mem_nil,or_false] at hbm
      rcases hbm with rfl | rfl
      · exact Nat.lt_succ_self _
      · exact Nat.lt_succ_of_lt halt
    · simp only [List.mem_cons,List.not_mem_nil,or_false] at hbm
      rcases hbm with rfl | rfl
      · exact .inr (Nat.le_refl _)
      · exact .inl rfl
  | false =>
    refine ifT (hdr false) ?_
    refine wpAny_bind (wpAny_drawOrder _ _ _ _ (by rw [List.length_range]) fun ps dr hps=>?_)
    refine wpAny_bind ?_
    simp only [newTuple]
    have hpl:ps.length = es.size := by rw [hps.length_eq,List.length_range]
    refine wpAny_newObj_type ?_ (by show (ps.map fun (i:Nat)=>rawInt i).toArray.size ≤ sizeLine; rw [List.size_toArray,List.length_map,hpl]; exact fits_of_scanBound hbs)
    generalize hP:s.heap.objs.size = P at *
    generalize hH:s.heap.push (tupNat ps) = H
    have eP:H.get? P = some (tupNat ps) := by rw [← hH, ← hP]; exact Heap.get?_push_size _ rfl
    have zH:H.objs.size = P + 1 := by rw [← hH,Heap.size_push,hP]
    have ho':H.get? a = some o := hH ▸ Heap.get?_push_of_some _ ho
    show wpAny _ _ _ _ _ { s with heap := s.heap.push (tupNat ps),drawn := dr }
    rw [hH]
    refine wpAny_bind (wpAny_setEpoch_of ho' hd hf ?_)
    refine wpAny_bind ?_
    simp only [newFields]
    refine wpAny_newObj_type ?_ (by size_fits)
    refine wpAny_pure ⟨_,rfl, "set_iterator",_,⟨_,Heap.get?_push_size _ rfl,rfl⟩,f_slot_si_next.lookup,?_⟩
    have hall:∀ j ∈ ps, ∃ z,es[j]? = some z := fun j hj=>⟨es[j]'(List.mem_range.mp (hps.mem_iff.mp hj)),Array.getElem?_eq_getElem _⟩
    obtain ⟨zs,hzs,hzp⟩:∃ zs:List (Int × Value),(∀ i:Nat,zs[i]? = (ps[i]?).bind fun j=>es[j]?) ∧ zs.Perm es.toList := by
      refine ⟨ps.filterMap fun j=>es[j]?,fun i=>?_,?_⟩
      · exact filterMap_at hall i
      · refine (hps.filterMap _).trans ?_
        rw [range_filterMap]
    have zI:H.objs.size = P + 1 := zH
    have Pne:P + 1 ≠ P := Nat.succ_ne_self _
    have halt':a < P := halt
    refine h zs H.objs.size [H.objs.size,a,P] (fun i h=>h.get? H.objs.size = some (siObj (.ref P) i a es.size ep) ∧ h.get? a = some o ∧ h.get? P = some (tupNat ps)) _ dr s.toks (by rw [hzp.length_eq,Array.length_toList]) (facts _ hzp)
      (fun A' hA=>?_) ⟨Heap.get?_push_size _ rfl,Heap.get?_push_of_some _ ho',Heap.get?_push_of_some _ eP⟩ (fun b hbm=>?_) (by rw [zH]; exact Nat.le_succ _) (fun b hbm=>?_) fun b o' e=>Heap.get?_push_of_some _ (hH ▸ Heap.get?_push_of_some _ e)
    · have W := si_walks_D (prog := prog) (w := w) (A := A') (I := H.objs.size) (a := a) (P := P) (n := es.size) (ep := ep) (o := o) (es := es) (t := t) (ps := ps) hA (by rw [zH]; exact Nat.ne_of_gt (Nat.lt_succ_of_lt halt')) (by rw [zH]; exact Pne) hd hf rfl hps
      refine { sub := W.sub,frame := W.frame,done := W.done,self := W.self,item := fun i s Q E hi st hQ=>W.item i s Q E hi st fun v h' tk hP' => hQ v h' tk ?_ }
      rw [hzs i]
      cases e:ps[i]? with
      | none=>rw [e] at hP'; simpa using hP'
      | some j=>rw [e] at hP'; simpa using hP'
    · rw [Heap.size_push]
      simp only [List.mem_cons,List.not_mem_nil,or_false] at hbm
      rcases hbm with rfl | rfl | rfl
      · exact Nat.lt_succ_self _
      · rw [zH]; exact Nat.lt_succ_of_lt (Nat.lt_succ_of_lt halt')
      · rw [zH]; exact Nat.lt_succ_of_lt (Nat.lt_succ_self _)
    · simp only [List.mem_cons,List.not_mem_nil,or_false] at hbm
      rcases hbm with rfl | rfl | rfl
      · exact .inr (by rw [zH]; exact Nat.le_succ _)
      · exact .inl rfl
      · exact .inr (Nat.le_refl _)
end
end Mine
end
section
open PySem PySem.W PyProof.Rows PySem.Spec PySem.Calls
namespace Mine
theorem vals_of_all {vs:List Value} {zs:List (Int × Value)} (h1:vs.length = zs.length) (h2:∀ (j:Nat) (v:Value),vs[j]? = some v -> (zs[j]?).map (fun z:Int × Value=>z.2) = some v):vs = zs.map (·.2) := by
  apply List.ext_getElem?
  intro i
  rw [List.getElem?_map]
  cases e:vs[i]? with
  | none =>
    have := List.getElem?_eq_none_iff.mp e
    rw [List.getElem?_eq_none (by lia)]
    rfl
  | some v=>exact (h2 i v e).symm
section
variable {prog:Program} {w:World} {A:Around} {E:Value -> Shared -> Prop} {s:Shared} {a:Addr} {n:Nat} {S:Str -> Bool}
theorem collect_set {Q:List Value -> Shared -> Prop} (hh:A.handled = none) (hS:PSet prog w s.heap a S n) (h2:2 ≤ n) (hb:n ≤ 20)
    (hQ:∀ h' dr tk vs ks,StrsAre vs ks -> ks.length = n -> (∀ k,k ∈ ks ↔ S k = true) -> (∀ b o,s.heap.get? b = some o -> h'.get? b = some o) -> Q vs { s with heap := h',drawn := dr,toks := tk }) :
    wpAny (model prog w) A (collect (.ref a)) Q E s := by
  have hTy:∀ h:Heap,(∃ o,h.get? a = some o ∧ o.cls = .type "set") -> ∀ s':Shared,s'.heap = h -> s'.TypeIs (.ref a) "set" := fun h ⟨o,e,c⟩ s' q=>⟨o,by rw [q]; exact e,c⟩
  obtain ⟨o,es,ep,t,ho,hex,r⟩ := id hS
  have halt:a < s.heap.objs.size := Heap.lt_size ho
  unfold collect
  refine wpAny_bind (wpAny_runValue (codeAny_builtin F.entry_proto_collect ?_))
  rw [Around.under_plainId F.plain_proto_collect _]
  show wpAny _ A.in1 (newList [] >>= fun l=>again (.builtin "list.__iadd__" ⟨[l,.ref a],[]⟩)) _ _ s
  refine wpAny_bind (wpAny_newObj_type ?_)
  refine wpAny_pure ⟨plainId_quiet F.plain_list_iadd _,codeAny_builtin F.entry_list_iadd ?_⟩
  rw [Around.under_plainId F.plain_list_iadd _]
  show wpAny _ A.in1 (Builtin.List.listExtendWith (.ref s.heap.objs.size) (.ref a) (.ref s.heap.objs.size)) _ _ _
  generalize hH:s.heap.push { cls := .type "list",data := .seq ([]:List Value).toArray } = H
  have ho1:H.get? a = some o := hH ▸ Heap.get?_push_of_some _ ho
  have hT1:({ s with heap := H } : Shared).TypeIs (.ref a) "set" := ⟨o,ho1,hex.1⟩
  have hHs:H.objs.size = s.heap.objs.size + 1 := by rw [← hH,Heap.size_push]
  unfold Builtin.List.listExtendWith
  refine wpAny_bind (wpAny_typeOf (s := { s with heap := H }) hT1 ?_)
  have h1:Builtin.List.listSameRef (.ref s.heap.objs.size) (.ref a) = false := by
    show (s.heap.objs.size == a) = false
    exact beq_false_of_ne (Nat.ne_of_gt halt)
  have h3:(Value.type "set" == Value.type "list") = false := by decide
  have h4:(Value.type "set" == Value.type "tuple") = false := by decide
  simp only [h1,h3,h4,Bool.or_false,Bool.false_eq_true,if_false]
  refine wpAny_bind (pyIter_set (s := { s with heap := H }) (hS.at fun o e=>hH ▸ Heap.get?_push_of_some _ e) h2 fun zs I fp St h' dr tk hz hks W hst hfp hI hfpa hk=>?_)
  have ho2:h'.get? a = some o := hk _ _ ho1
  have hT2:({ s with heap := h',drawn := dr,toks := tk } : Shared).TypeIs (.ref a) "set" := ⟨o,ho2,hex.1⟩
  refine wpAny_bind (wpAny_holding ?_)
  unfold Builtin.List.listLengthHint
  refine wpAny_bind (wpAny_specialOf hT2 F.slot_set_len.lookup ?_)
  wp_delta
  refine wpAny_bind (wpAny_isInstance (b := true) hT2 (by rw [isSubtype_type]; kernel_rfl) ?_)
  show wpAny _ A.in1 (typeOf (Value.ref a) >>= _) _ _ _
  refine wpAny_bind (wpAny_typeOf hT2 ?_)
  refine wpAny_pure ?_
  have hSf:s.heap.objs.size ∉ fp := fun hm=>by
    rcases hfpa _ hm with e | e
    · exact absurd e (Nat.ne_of_gt halt)
    · have e':H.objs.size ≤ s.heap.objs.size := e
      rw [hHs] at e'
      exact absurd e' (Nat.not_le.mpr (Nat.lt_succ_self _))
  have hSl:h'.get? s.heap.objs.size = some { cls := .type "list",data := .seq ([]:List Value).toArray } := hk _ _ (hH ▸ Heap.get?_push_size _ rfl)
  refine ifT (by decide) ?_
  refine wpAny_bind (wpAny_rule ?_)
  refine wpAny_bind ?_
  show wpAny _ A.in1 (updateSeq s.heap.objs.size (·.push .none) >>= fun _=>updateSeq s.heap.objs.size (·.pop)) _ _ _
  refine wpAny_bind (wpAny_updateSeq hSl rfl ?_)
  have hS₂ := Heap.get?_update_self (Obj.mapSeq (·.push Value.none)) hSl rfl
  refine wpAny_updateSeq hS₂ rfl ?_
  have hS₃ := Heap.get?_update_self (Obj.mapSeq (·.pop)) hS₂ rfl
  have oth:∀ b o,b ≠ s.heap.objs.size -> h'.get? b = some o -> ((h'.update s.heap.objs.size (Obj.mapSeq (·.push Value.none))).update s.heap.objs.size (Obj.mapSeq (·.pop))).get? b = some o :=
    fun b o hb e=>(Heap.get?_update_other _ _ (Ne.symm hb)).trans ((Heap.get?_update_other _ _ (Ne.symm hb)).trans e)
  refine wpAny_pure ⟨plainId_quiet F.plain_extend_loop _,codeAny_extend_loopS (W A.in1 hh).toS (by rw [sizeLine_eq]; lia) _ hSf _ n 0 _ _ _ rfl (Nat.zero_le _) ((W A.in1 hh).frame 0 _ _ hst fun b hb o e=>oth b o (fun h=>hSf (h ▸ hb)) e) hS₃ (ItemsOf.nil _) fun s' acc' c' hm hS' hacc=>?_⟩
  show wpAny _ A (load s.heap.objs.size >>= _) _ _ s'
  refine wpAny_bind (wpAny_load hS' ?_)
  refine wpAny_pure ?_
  obtain ⟨ks,q1,q2,q3⟩ := hks
  have hv:acc'.toList = zs.map (·.2) := vals_of_all (by rw [Array.length_toList,hacc.1,hz]) fun j v hj=>hacc.2 j v (by rw [← Array.getElem?_toList]; exact hj)
  obtain ⟨hp',ga',dr',tk',os'⟩ := s'
  have g1:ga' = s.gens := hm.gens
  have g2:dr' = dr := hm.drawn
  have g3:os' = s.os := hm.os
  subst g1 g2 g3
  refine hQ hp' dr' tk' acc'.toList ks (hv ▸ q1) q2 q3 fun b ob e=>hm.heap b ob (fun hb=>?_) (oth b ob (Nat.ne_of_lt (Heap.lt_size e)) (hk _ _ (hH ▸ Heap.get?_push_of_some _ e)))
  have hlt := Heap.lt_size e
  rcases List.mem_cons.mp hb with h | h
  · exact absurd hlt (h ▸ Nat.lt_irrefl _)
  · rw [List.mem_singleton.mp h] at hlt
    have hI':H.objs.size ≤ I := hI
    rw [hHs] at hI'
    exact absurd hlt (Nat.not_lt.mpr (Nat.le_of_succ_le hI'))
end
end Mine
end
section
open PySem PySem.W PyProof.Rows PySem.Spec PySem.Calls
namespace Mine
open MeetsSeq MeetsSeq2 MeetsSeq3
open AutoSeq1 (wpAny_loadPart')
theorem lt_loop_end (l b:Addr) (x y:Str) (t u:Tok) (n n2:Nat):Meets (Builtin.«list.__eq__.loop» ⟨[.ref l,.ref b,rawInt 1,rawInt 0],[]⟩)
    (fun _ R s=>s.heap.get? l = some (W.listOf #[.str x t] n) ∧ s.heap.get? b = some (W.listOf #[.str y u] n2) ∧ ∀ r,R (.ok (.ret (.bool r))) s) := by
  intro prog w A R s h
  obtain ⟨hp,g,d,tk,os⟩ := s
  obtain ⟨hl,hb,h⟩ := h
  wp_walk using wpAny_loadPart' hl,wpAny_loadPart' hb
  exact h _
theorem lt_loop1 (l b:Addr) (x y:Str) (t u:Tok) (n n2:Nat):Meets (Builtin.«list.__eq__.loop» ⟨[.ref l,.ref b,rawInt 0,rawInt 0],[]⟩)
    (fun _ R s=>s.heap.get? l = some (W.listOf #[.str x t] n) ∧ s.heap.get? b = some (W.listOf #[.str y u] n2) ∧ ∀ r tk,R (.ok (.ret (.bool r))) { s with toks := tk }) := by
  intro prog w A R s h
  obtain ⟨hl,hb,h⟩ := h
  unfold Builtin.«list.__eq__.loop»
  show wpAny _ _ (Builtin.List.listItems (.ref l) >>= _) _ _ _
  refine wpAny_bind (listItems_at hl rfl ?_)
  refine wpAny_bind (listItems_at hb rfl ?_)
  show wpAny _ _ (eqBool (.str x t) (.str y u) >>= _) _ _ _
  refine wpAny_bind (wpAny_eqBool_str ?_)
  cases hxy:decide (x = y) with
  | true =>
    rw [if_pos rfl]
    exact wpAny_pure ⟨plainId_quiet plain_eq_loop _,codeAny_builtin entry_eq_loop (by
      rw [Around.under_plainId plain_eq_loop _]
      exact lt_loop_end l b x y t u n n2 prog w A R _ ⟨hl,hb,fun r=>h r s.toks⟩)⟩
  | false =>
    rw [if_neg Bool.false_ne_true]
    refine wpAny_bind (listItems_at hl rfl ?_)
    refine wpAny_bind (listItems_at hb rfl ?_)
    show wpAny _ _ (richCompare .Lt (.str x t) (.str y u) >>= _) _ _ _
    refine wpAny_bind (m := compareOp .Lt (.str x t) (.str y u)) (PyProof.Rows.lt_str (wpAny_pure ?_))
    exact h _ s.toks
theorem list_lt1 (l b:Addr) (x y:Str) (t u:Tok) (n n2:Nat):Meets (Builtin.«list.__lt__» ⟨[.ref l,.ref b],[]⟩)
    (fun _ R s=>s.heap.get? l = some (W.listOf #[.str x t] n) ∧ s.heap.get? b = some (W.listOf #[.str y u] n2) ∧ ∀ r tk,R (.ok (.ret (.bool r))) { s with toks := tk }) := by
  intro prog w A R s h
  obtain ⟨hp,g,d,tk,os⟩ := s
  obtain ⟨hl,hb,h⟩ := h
  have f3 := AutoSeq1.sub_list_list
  wp_walk using wpAny_loadPart' hl,wpAny_loadPart' hb
  exact ⟨plainId_quiet plain_eq_loop _,codeAny_builtin entry_eq_loop (by
    rw [Around.under_plainId plain_eq_loop _]
    exact lt_loop1 l b x y t u n n2 prog w A R _ ⟨hl,hb,fun r tk=>h r tk⟩)⟩
section
variable {prog:Program} {w:World} {A:Around} {E:Value -> Shared -> Prop} {s:Shared}
theorem key_lt1 {l b:Addr} {x y:Str} {t u:Tok} {n n2:Nat} {Q:Bool -> Shared -> Prop} (hu:A.units < cLine) (hl:s.heap.get? l = some (W.listOf #[.str x t] n)) (hb:s.heap.get? b = some (W.listOf #[.str y u] n2)) (h:∀ r tk,Q r { s with toks := tk }) :
    wpAny (model prog w) A (keyLt' oneType' (.ref l) (.ref b)) Q E s := by
  rw [keyLt'_oneType,oneLt'_eq]
  simp only [if_true]
  refine wpAny_bind (wpAny_cRoomFor hu ?_)
  refine wpAny_bind (wpAny_callSpecialIfBound?_slot (name := "__lt__") ⟨_,hl,rfl⟩ F.slot_list_lt (call_meets F.slot_list_lt ⟨_,hl,rfl⟩ F.entry_list_lt (F.args_list_lt_2 _ _) (list_lt1 l b x y t u n n2) ⟨hl,hb,fun r tk=>?_⟩))
  exact wpAny_truthy_bool (h r tk)
end
noncomputable def Good {α:Type} (n:Nat) (R:α -> Prop):KasT α -> Prop
  | .ret a=>R a
  | .ask i j k=>i < n ∧ j < n ∧ ∀ b,Good n R (k b)
theorem Good.mono {α:Type} {n:Nat} {R R':α -> Prop} (h:∀ a,R a -> R' a):∀ {t:KasT α},Good n R t -> Good n R' t
  | .ret a,q=>h a q
  | .ask _ _ _,q=>⟨q.1,q.2.1,fun b=>Good.mono h (q.2.2 b)⟩
theorem Good.bind {α β:Type} {n:Nat} {R:α -> Prop} {R':β -> Prop} {f:α -> KasT β} (hf:∀ a,R a -> Good n R' (f a)):∀ {t:KasT α},Good n R t -> Good n R' (t.bind f)
  | .ret a,q=>hf a q
  | .ask _ _ _,q=>⟨q.1,q.2.1,fun b=>Good.bind hf (q.2.2 b)⟩
theorem Good.wp {α:Type} {n:Nat} {R:α -> Prop} {cmp:Nat -> Nat -> (Bool -> Shared -> Prop) -> Shared -> Prop} {I:Shared -> Prop}
    (hc:∀ i j s (C:Bool -> Shared -> Prop),i < n -> j < n -> I s -> (∀ b s',I s' -> C b s') -> cmp i j C s):∀ {t:KasT α},Good n R t -> ∀ s,I s -> t.kasWp cmp (fun a s' => R a ∧ I s') s
  | .ret a,q,s,hI=>⟨q,hI⟩
  | .ask i j k,q,s,hI=>hc i j s _ q.1 q.2.1 hI fun b s' hI' => Good.wp hc (q.2.2 b) s' hI'
noncomputable def Pm (n:Nat) (p:Array Nat):Prop := p.Perm (List.range n).toArray
theorem Pm.lt {n:Nat} {p:Array Nat} (h:Pm n p) (h2:2 ≤ n) (k:Nat):p.getD k 0 < n := by
  by_cases hk:k < p.size
  · have e:p.getD k 0 = p[k] := by simp [Array.getD,hk]
    rw [e]
    have hm:p[k] ∈ p.toList := Array.getElem_mem_toList hk
    have := (Array.perm_iff_toList_perm.mp h).mem_iff.mp hm
    simpa using this
  · have e:p.getD k 0 = 0 := by simp [Array.getD,hk]
    omega
theorem Pm.rev {n:Nat} {p:Array Nat} (h:Pm n p) (i j:Nat):Pm n (kas_rev p i j) := (mirror_perm _ _ _ _).trans h
theorem good_asc {n:Nat} {p:Array Nat} (hp:Pm n p) (h2:2 ≤ n):∀ f k,Good n (fun _=>True) (kas_asc p f k)
  | 0,_=>trivial
  | f + 1,k=>⟨hp.lt h2 _,hp.lt h2 _,fun b=>by
    cases b
    · exact good_asc hp h2 f (k + 1)
    · exact trivial⟩
theorem good_desc {n:Nat} (h2:2 ≤ n):∀ f p k q,Pm n p -> Good n (fun r:Array Nat × Nat × Nat=>Pm n r.1) (kas_desc f p k q)
  | 0,p,k,q,hp=>hp
  | f + 1,p,k,q,hp=>⟨hp.lt h2 _,hp.lt h2 _,fun b=>by
    cases b
    · exact ⟨hp.lt h2 _,hp.lt h2 _,fun d=>by
        cases d
        · exact good_desc h2 f p _ _ hp
        · exact hp⟩
    · show Good n _ (if q > 0 then _ else _)
      split
      · exact good_desc h2 f _ _ _ (hp.rev _ _)
      · exact good_desc h2 f p _ _ hp⟩
theorem good_tail3 {n k nrem:Nat} {p:Array Nat} (h2:2 ≤ n) (hp:Pm n p):Good n (fun r:Nat × Array Nat=>Pm n r.2) (kas_tail3 k nrem p) := by
  unfold kas_tail3
  refine Good.bind (R := fun _=>True) (fun m _=>?_) (good_asc (hp.rev 0 k) h2 _ _)
  exact hp.rev 0 k
theorem good_descPart {n k nrem:Nat} {p:Array Nat} (h2:2 ≤ n) (hp:Pm n p):Good n (fun r:Nat × Array Nat=>Pm n r.2) (kas_descPart k nrem p) := by
  refine Good.bind (R := fun r:Array Nat × Nat × Nat=>Pm n r.1) (fun r hr=>?_) (good_desc h2 _ _ _ _ hp)
  split
  · exact good_tail3 h2 (hr.rev _ _)
  · exact good_tail3 h2 hr
theorem good_count {n nrem:Nat} {p:Array Nat} (h2:2 ≤ n) (hp:Pm n p):Good n (fun r:Nat × Array Nat=>Pm n r.2) (kas_count nrem p) := by
  refine Good.bind (R := fun _=>True) (fun r _=>?_) (good_asc hp h2 _ _)
  split
  · exact hp
  · split
    · exact ⟨hp.lt h2 _,hp.lt h2 _,fun b=>by
        cases b
        · exact good_descPart h2 (hp.rev _ _)
        · exact hp⟩
    · exact good_descPart h2 hp
theorem good_place {n:Nat} {p:Array Nat} (h2:2 ≤ n) (hp:Pm n p):∀ f k l r,Good n (fun _=>True) (kas_place p k f l r)
  | 0,_,_,_=>trivial
  | f + 1,k,l,r=>by
    unfold kas_place
    split
    · exact trivial
    · exact ⟨hp.lt h2 _,hp.lt h2 _,fun b=>by
        cases b
        · exact good_place h2 hp f _ _ _
        · exact good_place h2 hp f _ _ _⟩
theorem good_bin {n:Nat} (h2:2 ≤ n):∀ f p k,Pm n p -> Good n (Pm n) (kas_bin f p k)
  | 0,p,k,hp=>hp
  | f + 1,p,k,hp=>Good.bind (R := fun _=>True) (fun l _=>good_bin h2 f _ _ ((bubble_perm _ _ _).trans hp)) (good_place h2 hp _ _ _ _)
theorem good_sort {n:Nat} (h2:2 ≤ n):Good n (Pm n) (kas_sort n) := by
  unfold kas_sort
  refine Good.bind (R := fun r:Nat × Array Nat=>Pm n r.2) (fun r hr=>?_) (good_count h2 (Array.Perm.refl _))
  split
  · exact good_bin h2 _ _ _ hr
  · exact hr
end Mine
end
section
open PySem PySem.W PyProof.Rows PySem.Spec PySem.Calls
namespace Mine
noncomputable def KeysIn (own:List (Addr × Obj)) (kA:Array Value):Prop := ∀ (j:Nat) (v:Value),kA[j]? = some v -> ∃ p x t c,v = .ref p ∧ (p,W.listOf #[.str x t] c) ∈ own
theorem perm_out {n:Nat} {p:Array Nat} (hp:Pm n p) {vs:List Value} (hv:vs.length = n):(p.toList.map fun i=>vs.getD i Value.none).Perm vs := by
  have h1 := (Array.perm_iff_toList_perm.mp hp).map fun i=>vs.getD i Value.none
  refine h1.trans ?_
  have e:(List.range n).map (fun i=>vs.getD i Value.none) = vs := by
    apply List.ext_getElem?
    intro i
    rw [List.getElem?_map]
    rcases Nat.lt_or_ge i n with q | q
    · rw [List.getElem?_range q]
      have q':i < vs.length := by lia
      simp [List.getD_eq_getElem?_getD,q']
    · rw [List.getElem?_eq_none (by simpa using q),List.getElem?_eq_none (by lia)]
      rfl
  simpa [e] using List.Perm.of_eq e
theorem strs_perm {vs ws:List Value} (h:ws.Perm vs):∀ {ks:List Str},StrsAre vs ks -> ∃ ks',StrsAre ws ks' ∧ ks'.Perm ks := by
  induction h with
  | nil=>intro ks hk; cases hk; exact ⟨[],.nil,.refl _⟩
  | cons x p ih =>
    intro ks hk
    cases hk with
    | cons y t r =>
      obtain ⟨ks',a,b⟩ := ih r
      exact ⟨y :: ks',.cons y t a,b.cons y⟩
  | swap x y l =>
    intro ks hk
    cases hk with
    | cons y1 t1 r =>
      cases r with
      | cons y2 t2 r=>exact ⟨_,.cons y2 t2 (.cons y1 t1 r),.swap _ _ _⟩
  | trans p1 p2 ih1 ih2 =>
    intro ks hk
    obtain ⟨k2,a2,b2⟩ := ih2 hk
    obtain ⟨k1,a1,b1⟩ := ih1 a2
    exact ⟨k1,a1,b1.trans b2⟩
section
variable {prog:Program} {w:World} {A:Around} {E:Value -> Shared -> Prop} {s:Shared} {h₀:Heap} {L a kS:Addr} {m:Str -> Option Value} {news own:List (Addr × Obj)} {vs:List Value} {ks:List Str} {kA:Array Value} {e e1:Nat} {P:PySem.Fin -> Shared -> Prop}
theorem kl_tail {st:SortSt} (F:Fr h₀ L s.heap m) (N:News h₀ L s.heap ((kS,seqObj "list" kA e) :: (a,seqObj "list" #[] e1) :: (own ++ news))) (hka:kS ≠ a) (hnk:∀ p ∈ news,p.1 ≠ kS) (hna:∀ p ∈ news,p.1 ≠ a) (hfl:failedOf st = none)
    (n:Nat) (h2:1 ≤ n) (h64:n < 64) (hks:kA.size = n) (hsz:((arrOf st).map (·.2)).size = n)
    (h:∀ h' c,Fr h₀ L h' m -> News h₀ L h' ((a,seqObj "list" ((arrOf st).map (·.2)) c) :: news) -> P (.done (.ret .none)) { s with heap := h' }) :
    wpAny (model prog w) A (ksk_tail a false e1 (.ref kS) st) P E s := by
  have nk := N (kS,seqObj "list" kA e) (.head _)
  have na := N (a,seqObj "list" #[] e1) (.tail _ (.head _))
  have Nn:News h₀ L s.heap news := fun p hp=>N p (.tail _ (.tail _ (List.mem_append_right _ hp)))
  have s1 := Heap.SameBut.update s.heap kS (Obj.mapSeq fun _=>(#[]:Array Value))
  have na1:(s.heap.update kS (Obj.mapSeq fun _=>(#[]:Array Value))).get? a = some (seqObj "list" #[] e1) := (s1.2 a hka.symm).trans na.1
  have s2 := Heap.SameBut.update (s.heap.update kS (Obj.mapSeq fun _=>(#[]:Array Value))) a (Obj.mapSeq fun _=>(arrOf st).map (·.2))
  have hc2' := get?_update_seq na1 (fun _=>(arrOf st).map (·.2))
  obtain ⟨c2,hc2⟩:∃ c2,((s.heap.update kS (Obj.mapSeq fun _=>(#[]:Array Value))).update a (Obj.mapSeq fun _=>(arrOf st).map (·.2))).get? a = some (seqObj "list" ((arrOf st).map (·.2)) c2) := ⟨_,hc2'⟩
  have N2 := ksk_news (ksk_news Nn s1 hnk) s2 hna
  unfold ksk_tail
  try dsimp only
  refine wpAny_bind (listUpdate_at nk.1 rfl ?_ (by rw [hks,sizeLine_eq]; lia) (Nat.zero_le _))
  refine wpAny_bind (wpAny_letGo ?_)
  refine wpAny_bind (seqEpoch_at na1 rfl ?_)
  simp only [Bool.false_eq_true,if_false]
  refine wpAny_bind (listUpdate_at na1 rfl ?_ (Nat.zero_le _) (Nat.le_trans (Nat.le_of_eq hsz) (by rw [sizeLine_eq]; lia)))
  rw [hfl]
  simp only [bne_self_eq_false,Bool.false_eq_true,if_false]
  refine wpAny_pure (h _ c2 (ksk_fr (ksk_fr F s1 nk.2.1 nk.2.2) s2 na.2.1 na.2.2) (fun p hp=>?_))
  rcases List.mem_cons.mp hp with rfl | hp
  · exact ⟨hc2,na.2⟩
  · exact N2 p hp
theorem kl_end (hu:A.units < cLine) (F:Fr h₀ L s.heap m) (N:News h₀ L s.heap ((kS,seqObj "list" kA e) :: (a,seqObj "list" #[] e1) :: (own ++ news))) (hka:kS ≠ a) (hnk:∀ p ∈ news,p.1 ≠ kS) (hna:∀ p ∈ news,p.1 ≠ a) (hk:KeysIn own kA) (hks:kA.size = vs.length) (h2:2 ≤ vs.length) (h64:vs.length < 64)
    (hs:StrsAre vs ks)
    (h:∀ h' tk out c ks',Fr h₀ L h' m -> News h₀ L h' ((a,seqObj "list" out c) :: news) -> StrsAre out.toList ks' -> ks'.Perm ks -> P (.done (.ret .none)) { s with heap := h',toks := tk }) :
    wpAny (model prog w) A (ksk_end a false vs.toArray e1 (.ref kS) kA) P E s := by
  have nk := N (kS,seqObj "list" kA e) (.head _)
  have na := N (a,seqObj "list" #[] e1) (.tail _ (.head _))
  have No:∀ p ∈ own,s.heap.get? p.1 = some p.2 := fun p hp=>(N p (.tail _ (.tail _ (List.mem_append_left _ hp)))).1
  have Nn:News h₀ L s.heap news := fun p hp=>N p (.tail _ (.tail _ (List.mem_append_right _ hp)))
  have hzs:(kA.zip vs.toArray).size = vs.length := by rw [Array.size_zip,hks,List.size_toArray,Nat.min_self]
  unfold ksk_end
  dsimp only
  rw [if_neg (by decide)]
  rw [if_neg (by rw [List.size_toArray]; lia),if_neg (by rw [List.size_toArray]; lia)]
  have hkl:kA = kA.toList.toArray := by simp
  rw [show keyKind' kA = keyKind' kA.toList.toArray by rw [← hkl]]
  refine wpAny_bind (kas_kind (T := .type "list") (by rw [Array.length_toList]; lia) (fun v hv=>?_) (by decide) (by decide) ?_)
  · obtain ⟨j,hj⟩ := List.getElem?_of_mem hv
    obtain ⟨p,x,t,c,rfl,hp⟩ := hk j v (by rw [← Array.getElem?_toList]; exact hj)
    exact fun A Q E s' hk' hq=>wpAny_typeOf ⟨_,hk' _ _ (No _ hp),rfl⟩ hq
  · rw [if_neg (by decide)]
    have hst:SortSt.mk' oneType' (kA.zip vs.toArray) #[] 7 none = kas_st oneType' (kA.zip vs.toArray) (List.toArray (List.range vs.length)) := by
      unfold kas_st
      rw [← hzs,kas_range]
    rw [hst]
    refine wpAny_bind ?_
    have hrun := kas_runs (prog := prog) (w := w) (A := A) (E := E) (κ := oneType') (it := kA.zip vs.toArray) (n := vs.length) (s := s)
      (Q := fun _ st' s' => ∃ p' tk,Pm vs.length p' ∧ arrOf st' = p'.map (kas_item (kA.zip vs.toArray)) ∧ failedOf st' = none ∧ s' = { s with toks := tk })
      (G := fun p' s' => Pm vs.length p' ∧ ∃ tk,s' = { s with toks := tk }) h2 h64 (fun p' st' s' hz ha hf hg=>?_) ?_
    · refine wpAny_mono hrun (fun r s' hr=>?_) fun _ _ e=>e
      obtain ⟨p',tk,hp,ha,hf,rfl⟩ := hr
      have hout:(arrOf r.2).map (·.2) = (p'.toList.map fun i=>vs.getD i Value.none).toArray := by
        rw [ha,Array.map_map]
        apply Array.ext'
        rw [Array.toList_map]
        refine List.map_congr_left fun i hi=>?_
        have hlt:i < vs.length := by
          have := (Array.perm_iff_toList_perm.mp hp).mem_iff.mp hi
          simpa using this
        have e:(kA.zip vs.toArray).getD i (Value.none,Value.none) = (kA.zip vs.toArray)[i]'(by lia) := by simp [Array.getD,hzs,hlt]
        show (kas_item (kA.zip vs.toArray) i).2 = _
        unfold kas_item
        rw [e]
        simp [List.getD_eq_getElem?_getD,hlt]
      obtain ⟨ks',q1,q2⟩ := strs_perm (perm_out hp rfl) hs
      obtain ⟨u,st⟩ := r
      exact kl_tail (s := { s with toks := tk }) F N hka hnk hna hf (vs.length) (by lia) (by lia) hks (by
        have := congrArg Array.size hout
        rw [this,List.size_toArray,List.length_map,Array.length_toList,hp.size_eq,List.size_toArray,List.length_range]) fun h' c F' N' => h h' tk _ c ks' F' N' (by rw [hout]; exact q1) q2
    · obtain ⟨hp,tk,rfl⟩ := hg
      exact ⟨p',tk,hp,ha,hf,rfl⟩
    · refine Good.wp (I := fun s' => ∃ tk,s' = { s with toks := tk }) (fun i j s' C hi hj hI hC=>?_) (good_sort h2) s ⟨s.toks,rfl⟩
      obtain ⟨tk,rfl⟩ := hI
      have at1:∀ i,i < vs.length -> ∃ p x t c,(kas_item (kA.zip vs.toArray) i).1 = .ref p ∧ s.heap.get? p = some (W.listOf #[.str x t] c) := fun i hi=>by
        obtain ⟨p,x,t,c,q1,q2⟩ := hk i kA[i] (Array.getElem?_eq_getElem (by lia))
        refine ⟨p,x,t,c,?_,No _ q2⟩
        have e:(kA.zip vs.toArray).getD i (Value.none,Value.none) = (kA.zip vs.toArray)[i]'(by lia) := by simp [Array.getD,hzs,hi]
        unfold kas_item
        rw [e]
        simpa using q1
      obtain ⟨p,x,t,c,q1,q2⟩ := at1 i hi
      obtain ⟨p2,x2,t2,c2,q3,q4⟩ := at1 j hj
      unfold kas_cmp
      rw [q1,q3]
      exact key_lt1 hu q2 q4 fun r tk=>hC r _ ⟨tk,rfl⟩
end
end Mine
end
section
open PySem PySem.W PyProof.Rows PySem.Spec PySem.Calls
namespace Mine
theorem KeysIn.snoc {own:List (Addr × Obj)} {kA:Array Value} {p:Addr} {x:Str} {t:Tok} {c:Nat} (h:KeysIn own kA):KeysIn ((p,W.listOf #[.str x t] c) :: own) (kA.push (.ref p)) := by
  intro j v hj
  rw [Array.getElem?_push] at hj
  split at hj
  · exact ⟨p,x,t,c,(Option.some.inj hj).symm,.head _⟩
  · obtain ⟨p',x',t',c',e,hm⟩ := h j v hj
    exact ⟨p',x',t',c',e,.tail _ hm⟩
section
variable {prog:Program} {w:World} {A:Around} {E:Value -> Shared -> Prop} {s:Shared} {h₀:Heap} {L a kS:Addr} {m:Str -> Option Value} {news own:List (Addr × Obj)} {vs:List Value} {ks:List Str} {kA:Array Value} {e e1:Nat} {P:PySem.Fin -> Shared -> Prop}
noncomputable def KRet (h₀:Heap) (L:Addr) (m:Str -> Option Value) (tl:List (Addr × Obj)) (s:Shared) (r:Value) (s':Shared):Prop :=
  ∃ p x t c h' tk',r = .ref p ∧ s' = { s with heap := h',toks := tk' } ∧ Fr h₀ L h' m ∧ News h₀ L h' ((p,W.listOf #[.str x t] c) :: tl) ∧ ∀ q ∈ tl,q.1 ≠ p
/-- what a call of the key function must give: a fresh list that holds the text alone. -/
noncomputable def KTurn (prog:Program) (w:World) (A:Around) (h₀:Heap) (L:Addr) (m:Str -> Option Value) (news:List (Addr × Obj)) (f:Value) (vs:List Value) (s:Shared):Prop :=
  ∀ (v:Value),v ∈ vs -> ∀ (h:Heap) (tk:Nat) (own:List (Addr × Obj)),Fr h₀ L h m -> News h₀ L h (own ++ news) ->
    wpAny (model prog w) A (call f [v]) (KRet h₀ L m (own ++ news) s) NoE { s with heap := h,toks := tk }
inductive KInv (h₀:Heap) (L:Addr) (m:Str -> Option Value) (s:Shared) (kS a:Addr) (e1:Nat) (news:List (Addr × Obj)) (i:Nat) (s':Shared):Prop
  | mk (h' tk kA e own) (_:s' = { s with heap := h',toks := tk }) (_:Fr h₀ L h' m) (_:News h₀ L h' ((kS,seqObj "list" kA e) :: (a,seqObj "list" #[] e1) :: (own ++ news))) (_:KeysIn own kA) (_:kA.size = i) (_:∀ p ∈ own,p.1 ≠ kS ∧ p.1 ≠ a)
theorem kl_rest {f:Value} (hu:A.units < cLine) (F:Fr h₀ L s.heap m) (N:News h₀ L s.heap ((kS,seqObj "list" #[] 0) :: (a,seqObj "list" #[] e1) :: news)) (hka:kS ≠ a) (hnk:∀ p ∈ news,p.1 ≠ kS) (hna:∀ p ∈ news,p.1 ≠ a)
    (h2:2 ≤ vs.length) (h64:vs.length < 64) (hs:StrsAre vs ks) (turn:KTurn prog w A h₀ L m news f vs s)
    (h:∀ h' tk out c ks',Fr h₀ L h' m -> News h₀ L h' ((a,seqObj "list" out c) :: news) -> StrsAre out.toList ks' -> ks'.Perm ks -> P (.done (.ret .none)) { s with heap := h',toks := tk }) :
    wpAny (model prog w) A (ksk_rest a f false vs.toArray e1 (.ref kS)) P E s := by
  unfold ksk_rest
  refine wpAny_bind (wpAny_rule ?_)
  rw [List.forIn_toArray]
  refine wpAny_bind (ksk_fold (KInv h₀ L m s kS a e1 news) vs 0 s
    ⟨s.heap,s.toks,#[],0,[],rfl,F,N,fun j v hj=>by simp at hj,rfl,fun p hp=>nomatch hp⟩ ?step ?done)
  case step =>
    rintro j x s' hx ⟨h',tk,kA,e,own,rfl,F',N',hk,hz,hoff⟩
    have hj:j < vs.length := (List.getElem?_eq_some_iff.mp hx).1
    refine wpAny_bind (wpAny_attempt (wpAny_mono (turn x (List.mem_of_getElem? hx) h' tk ((kS,seqObj "list" kA e) :: (a,seqObj "list" #[] e1) :: own) F' N') (fun v s'' he=>?_) fun _ _ hF=>hF.elim))
    obtain ⟨p,y,t,c,g,tk2,rfl,rfl,F2,N2,hfresh⟩ := he
    dsimp only
    have hpk:kS ≠ p := hfresh (kS,_) (.head _)
    have hpa:a ≠ p := hfresh (a,_) (.tail _ (.head _))
    have nk := N2 (kS,seqObj "list" kA e) (.tail _ (.head _))
    have na := N2 (a,seqObj "list" #[] e1) (.tail _ (.tail _ (.head _)))
    have np := N2 (p,W.listOf #[.str y t] c) (.head _)
    have s1 := Heap.SameBut.update g kS (Obj.mapSeq (·.push (.ref p)))
    obtain ⟨c2,hc2⟩:∃ c2,(g.update kS (Obj.mapSeq (·.push (.ref p)))).get? kS = some (seqObj "list" (kA.push (.ref p)) c2) := ⟨_,get?_update_seq nk.1 (·.push (.ref p))⟩
    refine wpAny_bind (listUpdate_at nk.1 rfl ?_ (by rw [sizeLine_eq]; lia) (Nat.le_trans (Nat.le_of_eq (Array.size_push ..)) (by rw [sizeLine_eq]; lia)))
    refine wpAny_pure ⟨rfl,_,_,kA.push (.ref p),c2,(p,W.listOf #[.str y t] c) :: own,rfl,ksk_fr F2 s1 nk.2.1 nk.2.2,fun q hq=>?_,hk.snoc,by rw [Array.size_push,hz],fun q hq=>?_⟩
    · rcases List.mem_cons.mp hq with rfl | hq
      · exact ⟨hc2,nk.2⟩
      · rcases List.mem_cons.mp hq with rfl | hq
        · exact ⟨(s1.2 a hka.symm).trans na.1,na.2⟩
        · rcases List.mem_cons.mp hq with rfl | hq
          · exact ⟨(s1.2 p hpk.symm).trans np.1,np.2⟩
          · have hm := N2 q (.tail _ (.tail _ (.tail _ hq)))
            have hne:q.1 ≠ kS := by
              rcases List.mem_append.mp hq with hq | hq
              · exact (hoff q hq).1
              · exact hnk q hq
            exact ⟨(s1.2 q.1 hne).trans hm.1,hm.2⟩
    · rcases List.mem_cons.mp hq with rfl | hq
      · exact ⟨hpk.symm,hpa.symm⟩
      · exact hoff q hq
  case done =>
    rintro s' ⟨h',tk,kA,e,own,rfl,F',N',hk,hz,hoff⟩
    have nk := N' (kS,seqObj "list" kA e) (.head _)
    refine wpAny_bind (listItems_at nk.1 rfl ?_)
    exact kl_end (s := { s with heap := h',toks := tk }) hu F' N' hka hnk hna hk (by rw [hz,Nat.zero_add]) h2 h64 hs fun h3 tk3 out c ks' F3 N3 q1 q2=>h h3 tk3 out c ks' F3 N3 q1 q2
theorem kl_sort {f:Value} {n:Nat} (hu:A.units < cLine) (F:Fr h₀ L s.heap m) (N:News h₀ L s.heap news) (ho:s.heap.get? a = some (seqObj "list" vs.toArray n)) (haL:a ≠ L) (ha0:h₀.get? a = none) (hna:∀ p ∈ news,p.1 ≠ a)
    (h2:2 ≤ vs.length) (h64:vs.length < 64) (hs:StrsAre vs ks) (turn:KTurn prog w A h₀ L m news f vs s)
    (h:∀ h' tk out c ks',Fr h₀ L h' m -> News h₀ L h' ((a,seqObj "list" out c) :: news) -> StrsAre out.toList ks' -> ks'.Perm ks -> P (.done (.ret .none)) { s with heap := h',toks := tk }) :
    wpAny (model prog w) A (ksk_tree a f false) P E s := by
  have ha:a < s.heap.objs.size := Heap.lt_size ho
  have s1 := Heap.SameBut.update s.heap a (Obj.mapSeq fun _=>(#[]:Array Value))
  obtain ⟨e1,ho1⟩:∃ e1,(s.heap.update a (Obj.mapSeq fun _=>(#[]:Array Value))).get? a = some (seqObj "list" #[] e1) := ⟨_,get?_update_seq ho fun _=>#[]⟩
  have F1 := ksk_fr F s1 haL ha0
  have N1 := ksk_news N s1 hna
  have hkS:((s.heap.update a (Obj.mapSeq fun _=>(#[]:Array Value))).push (seqObj "tuple" vs.toArray 0)).objs.size = s.heap.objs.size + 1 := by rw [size_push',Heap.size_update]
  have hLk:L < ((s.heap.update a (Obj.mapSeq fun _=>(#[]:Array Value))).push (seqObj "tuple" vs.toArray 0)).objs.size := (F1.push _).ns.lt
  unfold ksk_tree
  refine wpAny_bind (listItems_at ho rfl ?_)
  refine wpAny_bind (listUpdate_at ho rfl ?_ (by rw [List.size_toArray,sizeLine_eq]; lia) (Nat.zero_le _))
  refine wpAny_bind (seqEpoch_at ho1 rfl ?_)
  refine wpAny_bind (wpAny_newTuple ?_ (by show vs.length ≤ _; rw [sizeLine_eq]; lia))
  refine wpAny_bind (wpAny_newList ?_ (Nat.zero_le _))
  refine wpAny_holding ?_
  refine kl_rest (s := { s with heap := ((s.heap.update a (Obj.mapSeq fun _=>(#[]:Array Value))).push (seqObj "tuple" vs.toArray 0)).push (seqObj "list" #[] 0) }) (kS := ((s.heap.update a (Obj.mapSeq fun _=>(#[]:Array Value))).push (seqObj "tuple" vs.toArray 0)).objs.size)
    hu ((F1.push _).push _) (fun p hp=>?_) (by rw [hkS]; exact Nat.ne_of_gt (Nat.lt_succ_of_lt ha)) (fun p hp=>by rw [hkS]; exact Nat.ne_of_lt (Nat.lt_succ_of_lt (Heap.lt_size (N p hp).1))) hna h2 h64 hs turn h
  rcases List.mem_cons.mp hp with rfl | hp
  · exact ⟨Heap.get?_push_size _ rfl,Nat.ne_of_gt hLk,Heap.get?_none_of_le (Nat.le_trans F.above (Nat.le_of_lt hLk))⟩
  · rcases List.mem_cons.mp hp with rfl | hp
    · exact ⟨Heap.get?_push_of_some _ (Heap.get?_push_of_some _ ho1),haL,ha0⟩
    · exact ⟨Heap.get?_push_of_some _ (Heap.get?_push_of_some _ (N1 p hp).1),(N1 p hp).2⟩
theorem kl_sorted {f l:Addr} {S:Str -> Bool} {n:Nat} {Q:Value -> Shared -> Prop} (hh:A.handled = none) (hu:A.in1.in1.units < cLine) (F:Fr h₀ L s.heap m) (N:News h₀ L s.heap news) (hS:PSet prog w s.heap l S n) (h2:2 ≤ n) (h20:n ≤ 20)
    (turn:∀ vs ks dr,StrsAre vs ks -> (∀ k ∈ ks,S k = true) -> ∀ s':Shared,s'.gens = s.gens -> s'.drawn = dr -> s'.os = s.os -> KTurn prog w A.in1.in1 h₀ L m news (.ref f) vs s')
    (h:∀ D h' dr tk out c ks,Fr h₀ L h' m -> News h₀ L h' ((D,seqObj "list" out c) :: news) -> (∀ q ∈ news,q.1 < D) -> StrsAre out.toList ks -> ks.length = n -> (∀ k,k ∈ ks ↔ S k = true) -> Q (.ref D) { s with heap := h',drawn := dr,toks := tk }) :
    wpAny (model prog w) A (call (.builtin "sorted") [.ref l] [(Str.ofString "key",.ref f)]) Q E s := by
  refine call_function_entry_kw kind_sorted plain_sorted entry_sorted (ksk_s1 _ _) ?_
  unfold Builtin.«sorted»
  refine wpAny_bind (m := checkCount "sorted" 1 1 _) (wpAny_pure ?_)
  refine wpAny_bind (collect_set hh hS h2 h20 fun h1 dr tk vs ks q1 q2 q3 hk1=>?_)
  have hvl:vs.length = n := by rw [q1.length,q2]
  refine wpAny_bind (wpAny_newList ?_ (by show vs.length ≤ _; rw [sizeLine_eq]; lia))
  have Lt:L < h1.objs.size := (F.keeps hk1).ns.lt
  have F2:Fr h₀ L (h1.push (seqObj "list" vs.toArray 0)) m := (F.keeps hk1).push _
  have N2:News h₀ L (h1.push (seqObj "list" vs.toArray 0)) news := N.grown fun b o q=>Heap.get?_push_of_some _ (hk1 b o q)
  have hlt:∀ p ∈ news,p.1 < h1.objs.size := fun p hp=>Heap.lt_size (hk1 _ _ (N p hp).1)
  refine wpAny_bind (wpAny_holding (wpAny_call_entry_kw slot_list_sort ⟨_,Heap.get?_push_size _ rfl,rfl⟩ entry_list_sort ?body (ksk_l1 _ _)))
  case body =>
    show wpAny (model prog w) A.in1.in1 (Builtin.«list.sort» ⟨[.ref h1.objs.size],[(Str.ofString "key",.ref f)]⟩) _ _ _
    rw [ksk_t1]
    refine kl_sort (s := { s with heap := h1.push (seqObj "list" vs.toArray 0),drawn := dr,toks := tk }) hu F2 N2 (Heap.get?_push_size _ rfl) (Nat.ne_of_gt Lt) (Heap.get?_none_of_le (Nat.le_trans (F.keeps hk1).above (Nat.le_of_lt Lt))) (fun p hp=>Nat.ne_of_lt (hlt p hp)) (by lia) (by lia) q1
      (turn vs ks dr q1 (fun k hk=>(q3 k).mp hk) _ rfl rfl rfl) fun h' tk' out c ks' F' N' r1 r2=>⟨_,rfl,?_⟩
    exact wpAny_pure ⟨_,rfl,h _ h' dr tk' out c ks' F' N' hlt r1 (by rw [r2.length_eq,q2]) fun k=>(r2.mem_iff).trans (q3 k)⟩
end
end Mine
end
section
open PySem PySem.W PyProof.Rows PySem.Spec PySem.Calls
namespace Mine
noncomputable abbrev tup3 (k:Str) (t1 t2 t3:Tok):Obj := { cls := .type "tuple",data := .seq #[.str k t1,.str k t2,.str (Str.ofString "") t3] }
inductive H3 (own:List (Addr × Obj)) (kvs:List (Str × Value)) (k:Str):Prop
  | mk (T t1 t2 t3) (_:valueAt kvs k = some (.ref T)) (_:(T,tup3 k t1 t2 t3) ∈ own)
theorem valueAt_put (kvs:List (Str × Value)) (k:Str) (v:Value) (j:Str):valueAt (stored kvs k v) j = if j = k then some v else valueAt kvs j := by
  by_cases h:kvs.any (fun kv=>decide (kv.1 = k)) = true
  · unfold stored
    rw [if_pos h]
    unfold valueAt
    induction kvs with
    | nil=>simp at h
    | cons a r ih =>
      rw [List.map_cons,List.find?_cons,List.find?_cons]
      by_cases hak:a.1 = k
      · rw [if_pos hak]
        by_cases hj:j = k
        · subst hj; simp [hak]
        · have e1:decide (a.1 = j) = false := decide_eq_false (by rw [hak]; exact fun q=>hj q.symm)
          rw [e1]
          by_cases hr:r.any (fun kv=>decide (kv.1 = k)) = true
          · have := ih hr
            rw [if_neg hj] at this ⊢
            simpa using this
          · have hm:r.map (fun kv=>if kv.1 = k then (kv.1,v) else kv) = r := by
              refine (List.map_congr_left fun kv hkv=>?_).trans (List.map_id _)
              have:kv.1 ≠ k := fun q=>hr (List.any_eq_true.mpr ⟨kv,hkv,by simpa using q⟩)
              simp [this]
            rw [hm,if_neg hj]
      · rw [if_neg hak]
        have hr:r.any (fun kv=>decide (kv.1 = k)) = true := by simpa [hak] using h
        by_cases haj:a.1 = j
        · have:j ≠ k := fun q=>hak (haj.trans q)
          simp [haj,this]
        · simp only [decide_eq_false haj]
          exact ih hr
  · unfold stored
    rw [if_neg h]
    have hn:kvs.find? (fun kv=>decide (kv.1 = k)) = none := by
      rw [List.find?_eq_none]
      intro kv hkv q
      exact h (List.any_eq_true.mpr ⟨kv,hkv,q⟩)
    unfold valueAt
    rw [List.find?_append]
    by_cases hj:j = k
    · subst hj
      rw [hn]
      simp
    · rw [if_neg hj]
      have : [(k,v)].find? (fun kv=>decide (kv.1 = j)) = none := by simp [Ne.symm hj]
      rw [this,Option.or_none]
inductive QJ (ks:List Str) (LED:List (Addr × Obj)) (i:Nat) (kvs:List (Str × Value)):List (Addr × Obj) -> Prop
  | mk (own) (_:∀ (j:Nat) (k:Str),j < i -> ks[j]? = some k -> H3 own kvs k) (_:∀ p ∈ own,p.2.cls = .type "tuple"):QJ ks LED i kvs (own ++ LED)
inductive QEnd (h₀:Heap) (L:Addr) (m:Str -> Option Value) (k:Str) (tl:List (Addr × Obj)) (s₁:Shared) (v:Value) (s₃:Shared):Prop
  | mk (T t1 t2 t3 h' tk' ga') (_:AllBare ga') (_:v = .ref T) (_:s₃ = { s₁ with heap := h',toks := tk',gens := ga' }) (_:Fr h₀ L h' m) (_:News h₀ L h' ((T,tup3 k t1 t2 t3) :: tl)) (_:∀ q ∈ tl,q.1 ≠ T)
section
variable {prog:Program} {w:World} {A:Around} {s₁:Shared} {h₀:Heap} {L:Addr} {m:Str -> Option Value} {env:Env}
theorem dsrc_q {vx:PySem.Expr} {x:Str} {scope:Scope} {cl:List (Str × Addr)} {Fin:Addr -> Heap -> Nat -> Array GenState -> List (Addr × Obj) -> Shared -> Prop} {D3:Addr} {out:Array Value} {c3:Nat} {ks:List Str} {LED:List (Addr × Obj)} (hh:A.handled = none) (F:Fr h₀ L s₁.heap m)
    (N:News h₀ L s₁.heap ((D3,W.listOf out c3) :: LED)) (hs:StrsAre out.toList ks) (hlen:ks.length ≤ 20) (hgb:AllBare s₁.gens)
    (turn:∀ k ∈ ks, ∀ t I oI C oC D oD m₂ own h tk ga,AllBare ga -> LCg.NsObj oC m₂ -> m₂ x = some (.str k t) -> Fr h₀ L h m -> News h₀ L h ((I,oI) :: (C,oC) :: (D,oD) :: (own ++ (D3,W.listOf out c3) :: LED)) -> LCg.Off3 I C D (own ++ (D3,W.listOf out c3) :: LED) -> ((@Ne Nat I C) ∧ (@Ne Nat I D) ∧ (@Ne Nat C D)) ->
      wpAny (model prog w) A (eval vx (compEnvC scope cl C env)) (QEnd h₀ L m k ((I,oI) :: (C,oC) :: (D,oD) :: (own ++ (D3,W.listOf out c3) :: LED)) s₁) NoE { s₁ with heap := h,toks := tk,gens := ga })
    (fin:∀ D oD kvs own h tk ga,AllBare ga -> Obj.IsDictOf (PySem.strKind prog w) oD kvs -> (∀ k ∈ ks,H3 own kvs k) -> (∀ p ∈ own,p.2.cls = .type "tuple") -> LCg.Off1 D (own ++ (D3,W.listOf out c3) :: LED) -> Fin D h tk ga ((D,oD) :: (own ++ (D3,W.listOf out c3) :: LED)) s₁) :
    DSrcG prog w A h₀ L m env vx x scope cl Fin (.ref D3) s₁ := by
  have hz:out.size = ks.length := by rw [← Array.length_toList,hs.length]
  refine ⟨D3,out,c3,(D3,W.listOf out c3) :: LED,QJ ks ((D3,W.listOf out c3) :: LED),rfl,hh,F,N,.mk [] (fun j k hj=>absurd hj (Nat.not_lt_zero _)) (fun p hp=>nomatch hp),hgb,by rw [hz,sizeLine_eq]; lia,?_,?_,?_,?_⟩
  · rintro i kvs nw ⟨own⟩
    exact List.mem_append_right _ (.head _)
  · intro i v hv
    obtain ⟨k,t,_,e⟩ := strs_at hs i v (by rw [Array.getElem?_toList]; exact hv)
    exact ⟨k,t,e⟩
  · rintro i y t I oI C oC D oD m₂ kvs nw h tk ga hy hga ⟨own,hj,ho⟩ hC hm F' N' off ne
    obtain ⟨k,t',hk,e⟩ := strs_at hs i _ (by rw [Array.getElem?_toList]; exact hy)
    obtain ⟨rfl,rfl⟩ := Value.str.inj e
    refine wpAny_mono (turn y (List.mem_of_getElem? hk) t I oI C oC D oD m₂ own h tk ga hga hC hm F' N' off ne) (fun v s₃ hq=>?_) fun _ _ e=>e
    obtain ⟨T,t1,t2,t3,h',tk',ga',hga',rfl,rfl,F2,N2,hfr⟩ := hq
    refine ⟨h',tk',ga',(T,tup3 y t1 t2 t3) :: (own ++ (D3,W.listOf out c3) :: LED),rfl,F2,fun p hp=>?_,?_,hga',.mk ((T,tup3 y t1 t2 t3) :: own) ?_ ?_⟩
    · exact N2 p (all_cons (.tail _ (.head _)) (all_cons (.tail _ (.tail _ (.head _))) (all_cons (.tail _ (.tail _ (.tail _ (.head _)))) (all_cons (.head _) fun q hq=>.tail _ (.tail _ (.tail _ (.tail _ hq)))))) p hp)
    · refine ⟨⟨?_,?_,?_⟩,off⟩
      · exact (hfr (I,oI) (.head _)).symm
      · exact (hfr (C,oC) (.tail _ (.head _))).symm
      · exact (hfr (D,oD) (.tail _ (.tail _ (.head _)))).symm
    · intro j k2 hj2 hk2
      by_cases hky:k2 = y
      · subst hky
        exact ⟨T,t1,t2,t3,by rw [valueAt_put,if_pos rfl],.head _⟩
      · have hne:j ≠ i := fun q=>hky (by rw [q,hk] at hk2; exact (Option.some.inj hk2).symm)
        obtain ⟨T',a1,a2,a3,b1,b2⟩ := hj j k2 (by lia) hk2
        exact ⟨T',a1,a2,a3,by rw [valueAt_put,if_neg hky]; exact b1,.tail _ b2⟩
    · exact all_cons rfl ho
  · rintro D oD kvs nw ⟨own,hj,ho⟩ _ hd o1 h tk ga hga
    refine fin D oD kvs own h tk ga hga hd (fun k hk=>?_) ho o1
    obtain ⟨j,hj'⟩ := List.getElem?_of_mem hk
    exact hj j k (by rw [hz]; exact (List.getElem?_eq_some_iff.mp hj').1) hj'
inductive VEnd (h₀:Heap) (L:Addr) (m:Str -> Option Value) (v:Value) (tl:List (Addr × Obj)) (s₁:Shared) (ga:Array GenState) (v':Value) (s₃:Shared):Prop
  | mk (h' tk') (_:v' = v) (_:s₃ = { s₁ with heap := h',toks := tk',gens := ga }) (_:Fr h₀ L h' m) (_:News h₀ L h' tl)
inductive VJ (xs:List Str) (v:Value) (news:List (Addr × Obj)) (i:Nat):List (Str × Value) -> List (Addr × Obj) -> Prop
  | mk:VJ xs v news i ((xs.take i).map fun x=>(x,v)) news
theorem dsrc_v {vx:PySem.Expr} {x:Str} {scope:Scope} {cl:List (Str × Addr)} {Fin:Addr -> Heap -> Nat -> Array GenState -> List (Addr × Obj) -> Shared -> Prop} {ax:Addr} {its:Array Value} {kk:Nat} {xs:List Str} {news:List (Addr × Obj)} (v:Value) (hh:A.handled = none) (F:Fr h₀ L s₁.heap m)
    (N:News h₀ L s₁.heap news) (hm:(ax,W.listOf its kk) ∈ news) (hs:StrsAre its.toList xs) (hlen:xs.length ≤ 20) (hnd:xs.Nodup) (hgb:AllBare s₁.gens)
    (turn:∀ y t I oI C oC D oD m₂ h tk ga,AllBare ga -> LCg.NsObj oC m₂ -> m₂ x = some (.str y t) -> Fr h₀ L h m -> News h₀ L h ((I,oI) :: (C,oC) :: (D,oD) :: news) -> LCg.Off3 I C D news -> ((@Ne Nat I C) ∧ (@Ne Nat I D) ∧ (@Ne Nat C D)) ->
      wpAny (model prog w) A (eval vx (compEnvC scope cl C env)) (VEnd h₀ L m v ((I,oI) :: (C,oC) :: (D,oD) :: news) s₁ ga) NoE { s₁ with heap := h,toks := tk,gens := ga })
    (fin:∀ D oD h tk ga,AllBare ga -> @LT.lt Nat _ s₁.heap.objs.size D -> Obj.IsDictOf (PySem.strKind prog w) oD (xs.map fun x=>(x,v)) -> LCg.Off1 D news -> Fin D h tk ga ((D,oD) :: news) s₁) :
    DSrcG prog w A h₀ L m env vx x scope cl Fin (.ref ax) s₁ := by
  have hz:its.size = xs.length := by rw [← Array.length_toList,hs.length]
  refine ⟨ax,its,kk,news,VJ xs v news,rfl,hh,F,N,.mk,hgb,by rw [hz,sizeLine_eq]; lia,?_,?_,?_,?_⟩
  · rintro i kvs nw ⟨⟩
    exact hm
  · intro i u hu
    obtain ⟨k,t,_,e⟩ := strs_at hs i u (by rw [Array.getElem?_toList]; exact hu)
    exact ⟨k,t,e⟩
  · rintro i y t I oI C oC D oD m₂ kvs nw h tk ga hy hga ⟨⟩ hC hm2 F' N' off ne
    obtain ⟨k,t',hk,e⟩ := strs_at hs i _ (by rw [Array.getElem?_toList]; exact hy)
    obtain ⟨rfl,rfl⟩ := Value.str.inj e
    refine wpAny_mono (turn y t I oI C oC D oD m₂ h tk ga hga hC hm2 F' N' off ne) (fun v' s₃ hq=>?_) fun _ _ e=>e
    obtain ⟨h',tk',rfl,rfl,F2,N2⟩ := hq
    have key:stored ((xs.take i).map fun x=>(x,v')) y v' = (xs.take (i + 1)).map fun x=>(x,v') := ?_
    · exact ⟨h',tk',ga,_,rfl,F2,N2,off,hga,key ▸ .mk⟩
    have hi:i < xs.length := (List.getElem?_eq_some_iff.mp hk).1
    have hki:xs[i] = y := (List.getElem?_eq_some_iff.mp hk).2
    have hno:valueAt ((xs.take i).map fun x=>(x,v')) y = none := by
      unfold valueAt
      rw [Option.map_eq_none_iff,List.find?_eq_none]
      intro p hp
      obtain ⟨z,hz',rfl⟩ := List.mem_map.mp hp
      simp only [decide_eq_true_eq]
      intro e
      subst e
      obtain ⟨j,hj,e2⟩ := List.getElem_of_mem hz'
      rw [List.length_take] at hj
      rw [List.getElem_take] at e2
      have := (List.getElem_inj (h₀ := by lia) (h₁ := hi) hnd).mp (e2.trans hki.symm)
      lia
    rw [stored_absent hno,List.take_add_one,hk,List.map_append]
    rfl
  · rintro D oD kvs nw ⟨⟩ hlt hd o1 h tk ga hga
    refine fin D oD h tk ga hga hlt ?_ o1
    rw [hz,List.take_length] at hd
    exact hd
end
end Mine
end
section
open PySem PySem.W PyProof.Rows PySem.Spec PySem.Calls
namespace Mine
noncomputable def TPost {α:Type} (n:Nat) (lt:Nat -> Nat -> Bool) (R:α -> Prop):KasT α -> Prop
  | .ret a=>R a
  | .ask i j k=>i < n ∧ j < n ∧ TPost n lt R (k (lt i j))
theorem TPost.mono {α:Type} {n:Nat} {lt:Nat -> Nat -> Bool} {R R':α -> Prop} (h:∀ a,R a -> R' a):∀ {t:KasT α},TPost n lt R t -> TPost n lt R' t
  | .ret a,q=>h a q
  | .ask _ _ _,q=>⟨q.1,q.2.1,TPost.mono h q.2.2⟩
theorem TPost.bind {α β:Type} {n:Nat} {lt:Nat -> Nat -> Bool} {R:α -> Prop} {R':β -> Prop} {f:α -> KasT β} (hf:∀ a,R a -> TPost n lt R' (f a)):∀ {t:KasT α},TPost n lt R t -> TPost n lt R' (t.bind f)
  | .ret a,q=>hf a q
  | .ask _ _ _,q=>⟨q.1,q.2.1,TPost.bind hf q.2.2⟩
theorem TPost.wp {α:Type} {n:Nat} {lt:Nat -> Nat -> Bool} {R:α -> Prop} {cmp:Nat -> Nat -> (Bool -> Shared -> Prop) -> Shared -> Prop} {I:Shared -> Prop}
    (hc:∀ i j s (C:Bool -> Shared -> Prop),i < n -> j < n -> I s -> (∀ s',I s' -> C (lt i j) s') -> cmp i j C s):∀ {t:KasT α},TPost n lt R t -> ∀ s,I s -> t.kasWp cmp (fun a s' => R a ∧ I s') s
  | .ret a,q,s,hI=>⟨q,hI⟩
  | .ask i j k,q,s,hI=>hc i j s _ q.1 q.2.1 hI fun s' hI' => TPost.wp hc q.2.2 s' hI'
section
variable {n:Nat} {lt:Nat -> Nat -> Bool}
structure LtOk (n:Nat) (lt:Nat -> Nat -> Bool):Prop where
  trans:∀ i j k,lt i j = true -> lt j k = true -> lt i k = true
  tri:∀ i j,i < n -> j < n -> i ≠ j -> lt i j = true ∨ lt j i = true
  irr:∀ i,lt i i = false
theorem LtOk.no (h:LtOk n lt) {i j:Nat} (hi:i < n) (hj:j < n) (ne:i ≠ j) (e:lt i j = false):lt j i = true := by
  rcases h.tri i j hi hj ne with a | a
  · rw [a] at e; cases e
  · exact a
theorem LtOk.anti (h:LtOk n lt) {i j:Nat} (e:lt i j = true):lt j i = false := by
  cases hh:lt j i with
  | false=>rfl
  | true=>have := h.trans _ _ _ e hh; rw [h.irr] at this; cases this
noncomputable def Up (lt:Nat -> Nat -> Bool) (p:Array Nat) (m:Nat):Prop := ∀ i j,i < j -> j < m -> lt (p.getD i 0) (p.getD j 0) = true
noncomputable def Dn (lt:Nat -> Nat -> Bool) (p:Array Nat) (m:Nat):Prop := ∀ i j,i < j -> j < m -> lt (p.getD j 0) (p.getD i 0) = true
theorem Pm.size {p:Array Nat} (h:Pm n p):p.size = n := by
  have := (Array.perm_iff_toList_perm.mp h).length_eq
  simpa using this
theorem Pm.ne {p:Array Nat} (h:Pm n p) {i j:Nat} (hi:i < n) (hj:j < n) (ne:i ≠ j):p.getD i 0 ≠ p.getD j 0 := by
  have hn:p.toList.Nodup := (Array.perm_iff_toList_perm.mp h).nodup_iff.mpr (by simpa using List.nodup_range)
  have h1:i < p.size := by rw [h.size]; exact hi
  have h2:j < p.size := by rw [h.size]; exact hj
  have e1:p.getD i 0 = p.toList[i] := by simp [Array.getD,h1]
  have e2:p.getD j 0 = p.toList[j] := by simp [Array.getD,h2]
  rw [e1,e2]
  intro e
  exact ne ((List.getElem_inj (h₀ := by simpa using h1) (h₁ := by simpa using h2) hn).mp e)
theorem Pm.gt {p:Array Nat} (h:Pm n p) (ok:LtOk n lt) (h2:2 ≤ n) {i j:Nat} (hi:i < n) (hj:j < n) (ne:i ≠ j) (e:lt (p.getD i 0) (p.getD j 0) = false):lt (p.getD j 0) (p.getD i 0) = true :=
  ok.no (h.lt h2 _) (h.lt h2 _) (h.ne hi hj ne) e
theorem Up.succ {p:Array Nat} {k:Nat} (ok:LtOk n lt) (h:Up lt p k) (h1:1 ≤ k) (e:lt (p.getD (k - 1) 0) (p.getD k 0) = true):Up lt p (k + 1) := by
  intro i j hij hj
  by_cases c:j < k
  · exact h i j hij c
  · have:j = k := Nat.le_antisymm (Nat.le_of_lt_succ hj) (Nat.not_lt.mp c)
    subst this
    by_cases c2:i = j - 1
    · rw [c2]; exact e
    · exact ok.trans _ _ _ (h i (j - 1) (Nat.lt_of_le_of_ne (Nat.le_sub_one_of_lt hij) c2) (Nat.sub_one_lt_of_le h1 (Nat.le_refl _))) e
theorem Dn.succ {p:Array Nat} {k:Nat} (ok:LtOk n lt) (h:Dn lt p k) (h1:1 ≤ k) (e:lt (p.getD k 0) (p.getD (k - 1) 0) = true):Dn lt p (k + 1) := by
  intro i j hij hj
  by_cases c:j < k
  · exact h i j hij c
  · have:j = k := Nat.le_antisymm (Nat.le_of_lt_succ hj) (Nat.not_lt.mp c)
    subst this
    by_cases c2:i = j - 1
    · rw [c2]; exact e
    · exact ok.trans _ _ _ e (h i (j - 1) (Nat.lt_of_le_of_ne (Nat.le_sub_one_of_lt hij) c2) (Nat.sub_one_lt_of_le h1 (Nat.le_refl _)))
theorem tp_asc {p:Array Nat} (ok:LtOk n lt) (hp:Pm n p) (h2:2 ≤ n):∀ f k,Up lt p k -> 1 ≤ k -> k + f = n ->
    TPost n lt (fun m=>Up lt p m ∧ k ≤ m ∧ m ≤ n ∧ (m < n -> lt (p.getD m 0) (p.getD (m - 1) 0) = true)) (kas_asc p f k)
  | 0,k,h,h1,e=>⟨h,Nat.le_refl _,Nat.le_of_eq e,fun c=>absurd c (Nat.not_lt.mpr (Nat.le_of_eq e.symm))⟩
  | f + 1,k,h,h1,e=>⟨hp.lt h2 _,hp.lt h2 _,by
    cases c:lt (p.getD k 0) (p.getD (k - 1) 0) with
    | true=>exact ⟨h,Nat.le_refl _,e ▸ Nat.le_add_right k (f + 1),fun _=>c⟩
    | false =>
      have hkn:k < n := e ▸ Nat.lt_add_of_pos_right (Nat.succ_pos f)
      have := tp_asc ok hp h2 f (k + 1) (h.succ ok h1 (hp.gt ok h2 hkn (Nat.lt_of_le_of_lt (Nat.sub_le _ _) hkn) (Nat.ne_of_gt (Nat.sub_one_lt_of_le h1 (Nat.le_refl _))) c)) (Nat.le_add_left 1 k) ((Nat.add_right_comm k 1 f).trans e)
      exact TPost.mono (fun m q=>⟨q.1,Nat.le_of_succ_le q.2.1,q.2.2.1,q.2.2.2⟩) this⟩
theorem tp_desc {p:Array Nat} (ok:LtOk n lt) (hp:Pm n p) (h2:2 ≤ n):∀ f k,Dn lt p k -> 1 ≤ k -> k + f = n ->
    TPost n lt (fun r:Array Nat × Nat × Nat=>r.1 = p ∧ r.2.2 = 0 ∧ Dn lt p r.2.1 ∧ k ≤ r.2.1 ∧ r.2.1 ≤ n) (kas_desc f p k 0)
  | 0,k,h,h1,e=>⟨rfl,rfl,h,Nat.le_refl _,Nat.le_of_eq e⟩
  | f + 1,k,h,h1,e=>⟨hp.lt h2 _,hp.lt h2 _,by
    cases c:lt (p.getD k 0) (p.getD (k - 1) 0) with
    | true =>
      have := tp_desc ok hp h2 f (k + 1) (h.succ ok h1 c) (Nat.le_add_left 1 k) ((Nat.add_right_comm k 1 f).trans e)
      exact TPost.mono (fun m q=>⟨q.1,q.2.1,q.2.2.1,Nat.le_of_succ_le q.2.2.2.1,q.2.2.2.2⟩) this
    | false =>
      refine ⟨hp.lt h2 _,hp.lt h2 _,?_⟩
      have hkn:k < n := e ▸ Nat.lt_add_of_pos_right (Nat.succ_pos f)
      rw [hp.gt ok h2 hkn (Nat.lt_of_le_of_lt (Nat.sub_le _ _) hkn) (Nat.ne_of_gt (Nat.sub_one_lt_of_le h1 (Nat.le_refl _))) c]
      exact ⟨rfl,rfl,h,Nat.le_refl _,Nat.le_of_lt hkn⟩⟩
theorem rev_getD {p:Array Nat} {k i:Nat} (hk:k ≤ p.size) (hi:i < k):(kas_rev p 0 k).getD i 0 = p.getD (k - 1 - i) 0 := by
  unfold kas_rev
  rw [Array.getD_eq_getD_getElem?,Array.getD_eq_getD_getElem?,getElem?_mirror_all hk,if_pos ⟨Nat.zero_le _,hi⟩]
  congr 2
  lia
theorem Dn.rev {p:Array Nat} {k:Nat} (hk:k ≤ p.size) (h:Dn lt p k):Up lt (kas_rev p 0 k) k := by
  intro i j hij hj
  rw [rev_getD hk (Nat.lt_trans hij hj),rev_getD hk hj]
  exact h _ _ (Nat.sub_lt_sub_left (Nat.lt_of_lt_of_le hij (Nat.le_sub_one_of_lt hj)) hij) (Nat.lt_of_le_of_lt (Nat.sub_le _ _) (Nat.sub_one_lt_of_le (Nat.lt_of_le_of_lt (Nat.zero_le _) hj) (Nat.le_refl _)))
noncomputable def CountOk (n:Nat) (lt:Nat -> Nat -> Bool) (r:Nat × Array Nat):Prop := Pm n r.2 ∧ Up lt r.2 r.1 ∧ 1 ≤ r.1 ∧ r.1 ≤ n
theorem tp_tail3 {k:Nat} {p:Array Nat} (ok:LtOk n lt) (h2:2 ≤ n) (hp:Pm n p) (h:Dn lt p k) (h1:1 ≤ k) (hk:k ≤ n):TPost n lt (CountOk n lt) (kas_tail3 k n p) := by
  unfold kas_tail3
  refine TPost.bind (fun m q=>?_) (tp_asc ok (hp.rev 0 k) h2 (n - k) k (h.rev (by rw [hp.size]; exact hk)) h1 (Nat.add_sub_cancel' hk))
  exact ⟨hp.rev 0 k,q.1,Nat.le_trans h1 q.2.1,q.2.2.1⟩
theorem tp_count {p:Array Nat} (ok:LtOk n lt) (h2:2 ≤ n) (hp:Pm n p):TPost n lt (CountOk n lt) (kas_count n p) := by
  unfold kas_count
  refine TPost.bind (fun m q=>?_) (tp_asc ok hp h2 (n - 1) 1 (fun i j a b=>absurd (Nat.lt_of_lt_of_le a (Nat.le_of_lt_succ b)) (Nat.not_lt_zero _)) (Nat.le_refl _) (Nat.add_sub_cancel' (Nat.le_of_succ_le h2)))
  obtain ⟨u,q1,q2,q3⟩ := q
  split
  · exact ⟨hp,u,q1,q2⟩
  · rename_i hm
    have hm:m ≠ n := by simpa using hm
    split
    · refine ⟨hp.lt h2 _,hp.lt h2 _,?_⟩
      rw [u 0 (m - 1) (by lia) (by lia)]
      exact ⟨hp,u,q1,q2⟩
    · have e:m = 1 := by lia
      subst e
      unfold kas_descPart
      have hd:Dn lt p 2 := fun i j a b=>by
        have:j = 1 := by lia
        have:i = 0 := by lia
        subst_vars
        exact q3 (by lia)
      refine TPost.bind (fun r q=>?_) (tp_desc ok hp h2 (n - (1 + 1)) 2 hd (by lia) (by lia))
      obtain ⟨r1,r2,r3⟩ := r
      obtain ⟨e1,e2,q4,q5,q6⟩ := q
      dsimp only at e1 e2 q4 q5 q6 ⊢
      subst e1 e2
      rw [if_neg (by lia)]
      exact tp_tail3 ok h2 hp q4 (by lia) q6
theorem tp_place {p:Array Nat} {k:Nat} (ok:LtOk n lt) (h2:2 ≤ n) (hp:Pm n p) (hk:k < n) (u:Up lt p k):∀ f l r,l ≤ r -> r ≤ k -> r - l ≤ f -> (∀ i,i < l -> lt (p.getD i 0) (p.getD k 0) = true) -> (∀ i,r ≤ i -> i < k -> lt (p.getD k 0) (p.getD i 0) = true) ->
    TPost n lt (fun l=>l ≤ k ∧ (∀ i,i < l -> lt (p.getD i 0) (p.getD k 0) = true) ∧ (∀ i,l ≤ i -> i < k -> lt (p.getD k 0) (p.getD i 0) = true)) (kas_place p k f l r)
  | 0,l,r,h1,h3,h4,a,b=>by
    have:l = r := Nat.le_antisymm h1 (Nat.sub_eq_zero_iff_le.mp (Nat.le_zero.mp h4))
    subst this
    exact ⟨h3,a,b⟩
  | f + 1,l,r,h1,h3,h4,a,b=>by
    unfold kas_place
    split
    · rename_i g
      have:l = r := Nat.le_antisymm h1 g
      subst this
      exact ⟨h3,a,b⟩
    · refine ⟨hp.lt h2 _,hp.lt h2 _,?_⟩
      have hm:(l + r) / 2 < r := by lia
      have hm2:l ≤ (l + r) / 2 := by lia
      generalize (l + r) / 2 = mid at hm hm2 ⊢
      cases c:lt (p.getD k 0) (p.getD mid 0) with
      | true =>
        refine tp_place ok h2 hp hk u f l mid hm2 (Nat.le_of_lt (Nat.lt_of_lt_of_le hm h3)) (Nat.le_of_lt_succ (Nat.lt_of_lt_of_le (Nat.sub_lt_sub_right hm2 hm) h4)) a fun i hi hik=>?_
        by_cases e:i = mid
        · rw [e]; exact c
        · exact ok.trans _ _ _ c (u mid i (Nat.lt_of_le_of_ne hi (Ne.symm e)) hik)
      | false =>
        have hmk := Nat.lt_of_lt_of_le hm h3
        have c' := hp.gt ok h2 hk (Nat.lt_trans hmk hk) (Nat.ne_of_gt hmk) c
        refine tp_place ok h2 hp hk u f (mid + 1) r hm h3 (Nat.le_trans (Nat.sub_le_sub_left (Nat.succ_le_succ hm2) r) (Nat.pred_le_pred h4)) (fun i hi=>?_) b
        by_cases e:i = mid
        · rw [e]; exact c'
        · exact ok.trans _ _ _ (u i mid (Nat.lt_of_le_of_ne (Nat.le_of_lt_succ hi) e) hmk) c'
theorem bub_getD {p:Array Nat} {k l i:Nat} (hk:k < p.size) (hl:l ≤ k):(bubble p k (k - l)).getD i 0 = if i = l then p.getD k 0 else if l < i ∧ i ≤ k then p.getD (i - 1) 0 else p.getD i 0 := by
  have key:∀ (q:Array Nat) i,q.getD i 0 = (q[i]?).getD 0 := fun q i=>Array.getD_eq_getD_getElem? ..
  have e:k - (k - l) = l := Nat.sub_sub_self hl
  rw [key,key,key,key,getElem?_bubble hk _ (Nat.sub_le _ _),e]
  split
  · rfl
  · split <;> rfl
theorem tp_bin (ok:LtOk n lt) (h2:2 ≤ n):∀ f p k,Pm n p -> Up lt p k -> 1 ≤ k -> f + k = n -> TPost n lt (fun p=>Pm n p ∧ Up lt p n) (kas_bin f p k)
  | 0,p,k,hp,u,h1,e=>by
    have:k = n := (Nat.zero_add k).symm.trans e
    subst this
    exact ⟨hp,u⟩
  | f + 1,p,k,hp,u,h1,e=>by
    have hkn:k < n := e ▸ Nat.lt_add_of_pos_left (Nat.succ_pos f)
    refine TPost.bind (fun l q=>?_) (tp_place ok h2 hp hkn u k 0 k (Nat.zero_le _) (Nat.le_refl _) (Nat.sub_le _ _) (fun i hi=>absurd hi (Nat.not_lt_zero _)) (fun i a b=>absurd b (Nat.not_lt.mpr a)))
    obtain ⟨q1,q2,q3⟩ := q
    refine tp_bin ok h2 f _ (k + 1) ((bubble_perm _ _ _).trans hp) (fun i j hij hj=>?_) (Nat.le_add_left 1 k) ((Nat.add_right_comm f 1 k).symm.trans e)
    have hj := Nat.le_of_lt_succ hj
    have hj0 := Nat.lt_of_le_of_lt (Nat.zero_le _) hij
    have hj1 := Nat.lt_of_lt_of_le (Nat.sub_one_lt_of_le hj0 (Nat.le_refl _)) hj
    have hps:k < p.size := by rw [hp.size]; exact hkn
    rw [bub_getD hps q1,bub_getD hps q1]
    by_cases c1:i = l
    · have hl:l < j := c1 ▸ hij
      rw [if_pos c1,if_neg (Nat.ne_of_gt hl),if_pos ⟨hl,hj⟩]
      exact q3 _ (Nat.le_sub_one_of_lt hl) hj1
    · rw [if_neg c1]
      by_cases c2:j = l
      · have hl:i < l := c2 ▸ hij
        rw [if_pos c2,if_neg fun q=>Nat.lt_asymm q.1 hl]
        exact q2 _ hl
      · rw [if_neg c2]
        by_cases c3:l < i ∧ i ≤ k
        · rw [if_pos c3,if_pos ⟨Nat.lt_trans c3.1 hij,hj⟩]
          exact u _ _ (Nat.sub_lt_sub_right (Nat.lt_of_le_of_lt (Nat.zero_le _) c3.1) hij) hj1
        · rw [if_neg c3]
          by_cases c4:l < j ∧ j ≤ k
          · rw [if_pos c4]
            exact u _ _ (Nat.lt_of_lt_of_le (Nat.lt_of_le_of_ne (Nat.not_lt.mp fun q=>c3 ⟨q,Nat.le_of_lt (Nat.lt_of_lt_of_le hij c4.2)⟩) c1) (Nat.le_sub_one_of_lt c4.1)) hj1
          · rw [if_neg c4]
            exact u _ _ hij (Nat.lt_of_lt_of_le (Nat.lt_of_le_of_ne (Nat.not_lt.mp fun q=>c4 ⟨q,hj⟩) c2) q1)
theorem tp_sort (ok:LtOk n lt) (h2:2 ≤ n):TPost n lt (fun p=>Pm n p ∧ Up lt p n) (kas_sort n) := by
  unfold kas_sort
  refine TPost.bind (fun r q=>?_) (tp_count ok h2 (Array.Perm.refl _))
  obtain ⟨q1,q2,q3,q4⟩ := q
  split
  · rw [Nat.max_eq_left q3]
    exact tp_bin ok h2 _ _ _ q1 q2 q3 (Nat.sub_add_cancel q4)
  · have e:r.1 = n := by lia
    rw [e] at q2
    exact ⟨q1,q2⟩
end
end Mine
end
section
open PySem PySem.W PyProof.Rows PySem.Spec PySem.Calls
namespace Mine
noncomputable def pairObj (k:Str) (t:Tok) (v:Value):Obj := { cls := .type "tuple",data := .seq #[.str k t,v] }
inductive Ties (own:List (Addr × Obj)) (v:Value):List Value -> List Str -> Prop
  | nil:Ties own v [] []
  | cons (a:Addr) (k:Str) (t:Tok) {vs ks} (hm:(a,pairObj k t v) ∈ own) (r:Ties own v vs ks):Ties own v (.ref a :: vs) (k :: ks)
theorem Ties.mono {own own':List (Addr × Obj)} {v:Value} {vs:List Value} {ks:List Str} (h:Ties own v vs ks) (hs:∀ p ∈ own,p ∈ own'):Ties own' v vs ks := by
  induction h with
  | nil=>exact .nil
  | cons a k t hm r ih=>exact .cons a k t (hs _ hm) ih
theorem Ties.length {own:List (Addr × Obj)} {v:Value} {vs:List Value} {ks:List Str} (h:Ties own v vs ks):vs.length = ks.length := by
  induction h with
  | nil=>rfl
  | cons a k t hm r ih=>rw [List.length_cons,List.length_cons,ih]
theorem Ties.at' {own:List (Addr × Obj)} {v:Value} {vs:List Value} {ks:List Str} (h:Ties own v vs ks):∀ i,i < vs.length -> ∃ a t,vs.getD i .none = .ref a ∧ (a,pairObj (ks.getD i (Str.ofString "")) t v) ∈ own := by
  induction h with
  | nil=>intro i hi; simp at hi
  | cons a k t hm r ih =>
    intro i hi
    cases i with
    | zero=>exact ⟨a,t,rfl,hm⟩
    | succ i =>
      obtain ⟨a',t',e,m⟩ := ih i (by simpa using hi)
      exact ⟨a',t',by simpa using e,by simpa using m⟩
theorem Ties.pick {own:List (Addr × Obj)} {v:Value} {vs:List Value} {ks:List Str} (h:Ties own v vs ks):∀ (p:List Nat),(∀ i ∈ p,i < vs.length) -> Ties own v (p.map fun i=>vs.getD i .none) (p.map fun i=>ks.getD i (Str.ofString ""))
  | [],_=>.nil
  | i :: p,hp=>by
    obtain ⟨a,t,e,m⟩ := h.at' i (hp i (.head _))
    rw [List.map_cons,List.map_cons,e]
    exact .cons a _ t m (Ties.pick h p fun j hj=>hp j (.tail _ hj))
theorem ties_of {h:Heap} {v:Value} : ∀ (xs:List Str) (as:List Addr),as.length = xs.length -> (∀ (j:Nat) (k:Str),xs[j]? = some k -> ∃ a t,as[j]? = some a ∧ h.get? a = some (pairObj k t v)) ->
    ∃ own:List (Addr × Obj),Ties own v (as.map Value.ref) xs ∧ ∀ p ∈ own,h.get? p.1 = some p.2 ∧ p.1 ∈ as ∧ ∃ k t,p.2 = pairObj k t v
  | [],[],_,_=>⟨[],.nil,fun p hp=>nomatch hp⟩
  | [],_ :: _,hl,_=>by simp at hl
  | _ :: _,[],hl,_=>by simp at hl
  | x :: xs,a :: as,hl,hp=>by
    obtain ⟨a',t,e1,e2⟩ := hp 0 x rfl
    have e1:a = a' := by simpa using e1
    subst e1
    obtain ⟨own,hT,ho⟩ := ties_of xs as (by simpa using hl) fun j k hj=>by
      obtain ⟨a2,t2,f1,f2⟩ := hp (j + 1) k (by simpa using hj)
      exact ⟨a2,t2,by simpa using f1,f2⟩
    refine ⟨(a,pairObj x t v) :: own,.cons a x t (.head _) (hT.mono fun p hp=>.tail _ hp),fun p hp=>?_⟩
    rcases List.mem_cons.mp hp with rfl | hp
    · exact ⟨e2,.head _,x,t,rfl⟩
    · obtain ⟨q1,q2,q3⟩ := ho p hp
      exact ⟨q1,.tail _ q2,q3⟩
theorem Ties.tups {own:List (Addr × Obj)} {h:Heap} {v:Value} {vs:List Value} {ks:List Str} (T:Ties own v vs ks) (ho:∀ p ∈ own,h.get? p.1 = some p.2):∃ fs,KatTups h vs fs ∧ fs.length = vs.length ∧ ∀ f ∈ fs, ∃ k t,f = Value.str k t := by
  induction T with
  | nil=>exact ⟨[],.nil,rfl,fun f hf=>nomatch hf⟩
  | cons a k t hm r ih =>
    obtain ⟨fs,h1,h2,h3⟩ := ih
    refine ⟨.str k t :: fs,KatTups.cons (ho _ hm) rfl rfl rfl h1,by rw [List.length_cons,List.length_cons,h2],fun f hf=>?_⟩
    rcases List.mem_cons.mp hf with rfl | hf
    · exact ⟨k,t,rfl⟩
    · exact h3 f hf
noncomputable def sLt (a b:Str):Bool := decide (a.cps.toList < b.cps.toList)
noncomputable def kLt (ks:List Str) (i j:Nat):Bool := sLt (ks.getD i (Str.ofString "")) (ks.getD j (Str.ofString ""))
theorem kLt_ok {ks:List Str} (hn:ks.Nodup):LtOk ks.length (kLt ks) where
  trans i j k h1 h2 := by
    simp only [kLt,sLt,decide_eq_true_eq] at *
    exact List.lt_trans h1 h2
  irr i := by simp only [kLt,sLt,decide_eq_false_iff_not]; exact List.lt_irrefl _
  tri i j hi hj ne := by
    simp only [kLt,sLt,decide_eq_true_eq]
    by_cases a:(ks.getD i (Str.ofString "")).cps.toList < (ks.getD j (Str.ofString "")).cps.toList
    · exact .inl a
    · by_cases b:(ks.getD j (Str.ofString "")).cps.toList < (ks.getD i (Str.ofString "")).cps.toList
      · exact .inr b
      · exfalso
        have e := List.le_antisymm (List.not_lt.mp b) (List.not_lt.mp a)
        have e2:ks.getD i (Str.ofString "") = ks.getD j (Str.ofString "") := by
          cases hx:ks.getD i (Str.ofString "") with | mk x =>
          cases hy:ks.getD j (Str.ofString "") with | mk y =>
          rw [hx,hy] at e
          exact congrArg Str.mk (Array.toList_inj.mp e)
        have f1:ks.getD i (Str.ofString "") = ks[i] := by simp [hi]
        have f2:ks.getD j (Str.ofString "") = ks[j] := by simp [hj]
        rw [f1,f2] at e2
        exact ne ((List.getElem_inj (h₀ := hi) (h₁ := hj) hn).mp e2)
section
variable {prog:Program} {w:World} {A:Around} {E:Value -> Shared -> Prop} {s:Shared}
theorem tup_lt {a c:Addr} {x y v:Str} {t u tv:Tok} {Q:Bool -> Shared -> Prop} (ha:s.heap.get? a = some (pairObj x t (.str v tv))) (hc:s.heap.get? c = some (pairObj y u (.str v tv))) (h:Q (sLt x y) s) :
    wpAny (model prog w) A (keyLt' (tuples' true) (.ref a) (.ref c)) Q E s := by
  refine kat_lt ha rfl hc rfl ?_
  refine kat_cons (wpAny_eqBool_str ?_)
  by_cases e:x = y
  · rw [decide_eq_true e]
    refine kat_yes (kat_cons (wpAny_eqBool_str ?_))
    rw [decide_eq_true rfl]
    refine kat_yes (kat_nil ?_)
    subst e
    have:sLt x x = false := by simp only [sLt,decide_eq_false_iff_not]; exact List.lt_irrefl _
    rw [this] at h
    exact h
  · rw [decide_eq_false e]
    refine kat_no ?_
    exact oneLt_str h
end
end Mine
end
section
open PySem PySem.W PyProof.Rows PySem.Spec PySem.Calls
namespace Mine
theorem perm_getD {α:Type} {n:Nat} {p:Array Nat} (d:α) (hp:Pm n p) {vs:List α} (hv:vs.length = n):(p.toList.map fun i=>vs.getD i d).Perm vs := by
  have h1 := (Array.perm_iff_toList_perm.mp hp).map fun i=>vs.getD i d
  refine h1.trans ?_
  have e:(List.range n).map (fun i=>vs.getD i d) = vs := by
    apply List.ext_getElem?
    intro i
    rw [List.getElem?_map]
    rcases Nat.lt_or_ge i n with q | q
    · rw [List.getElem?_range q]
      have q':i < vs.length := by lia
      simp [List.getD_eq_getElem?_getD,q']
    · rw [List.getElem?_eq_none (by simpa using q),List.getElem?_eq_none (by lia)]
      rfl
  simpa [e] using List.Perm.of_eq e
theorem up_pairwise {xs:List Str} {p:Array Nat} (hp:Pm xs.length p) (u:Up (kLt xs) p xs.length):(p.toList.map fun i=>xs.getD i (Str.ofString "")).Pairwise (fun a b=>sLt a b = true) := by
  rw [List.pairwise_iff_getElem]
  intro i j hi hj hij
  have hz := hp.size
  have hi':i < p.size := by simpa using hi
  have hj':j < p.size := by simpa using hj
  have := u i j hij (by lia)
  have e1:p.getD i 0 = p[i] := by simp [Array.getD,hi']
  have e2:p.getD j 0 = p[j] := by simp [Array.getD,hj']
  rw [e1,e2] at this
  simpa [kLt] using this
section
variable {prog:Program} {w:World} {A:Around} {E:Value -> Shared -> Prop} {s:Shared} {h₀:Heap} {L v d:Addr} {m:Str -> Option Value} {news:List (Addr × Obj)} {od:Obj} {xs:List Str} {val:Str} {tv:Tok} {Q:Value -> Shared -> Prop}
theorem items_sorted (hh:A.handled = none) (F:Fr h₀ L s.heap m) (N:News h₀ L s.heap news) (hvw:(v, { cls := .type "dict_items",data := .fields #[.ref d] }) ∈ news) (hmd:(d,od) ∈ news) (hod:od.IsDictOf (PySem.strKind prog w) (xs.map fun x=>(x,Value.str val tv)))
    (h2:2 ≤ xs.length) (h20:xs.length ≤ 20) (hnd:xs.Nodup)
    (h:∀ B h' tk own vs ks c,(∀ q ∈ news,q.1 < B) -> Fr h₀ L h' m -> News h₀ L h' ((B,W.listOf (List.toArray vs) c) :: (own ++ news)) -> Ties own (.str val tv) vs ks -> ks.Perm xs -> ks.Pairwise (fun a b=>sLt a b = true) -> (∀ p ∈ own, ∃ k t,p.2 = pairObj k t (.str val tv)) -> (∀ p ∈ own, ∀ q ∈ news,q.1 < p.1) -> Q (.ref B) { s with heap := h',toks := tk }) :
    wpAny (model prog w) A (call (.builtin "sorted") [.ref v]) Q E s := by
  obtain ⟨ep,hat⟩ := KdkAt.of hod
  refine call_function_entry kind_sorted plain_sorted entry_sorted (args_sorted1 _) ?_
  unfold Builtin.«sorted»
  refine wpAny_bind (m := checkCount "sorted" 1 1 _) (wpAny_pure ?_)
  refine wpAny_bind (kdx_collect (A := A.in1) (knd := PySem.strKind prog w) (ep := ep) hh ⟨_,(N _ hvw).1,rfl,rfl⟩ (hat.dictAt (N _ hmd).1) (kdl_size (by rw [List.length_map]; lia)) fun h' tk as hk hl hG=>?_)
  have hl:as.length = xs.length := by rw [hl,List.length_map]
  obtain ⟨own,hT,ho⟩ := ties_of (h := h') (v := .str val tv) xs as hl fun j k hj=>by
    have hj':j < as.length := by rw [hl]; exact (List.getElem?_eq_some_iff.mp hj).1
    obtain ⟨key,k2,x,e1,e2,e3⟩ := hG.pairs j as[j] (List.getElem?_eq_getElem hj')
    obtain ⟨t,rfl⟩ := Value.isStrOf_shape e2
    rw [List.getElem?_map,hj] at e1
    obtain ⟨rfl,rfl⟩ := Prod.mk.inj (Option.some.inj e1)
    exact ⟨as[j],t,List.getElem?_eq_getElem hj',e3⟩
  refine wpAny_bind (wpAny_newList ?_ (by rw [List.length_map,hl,sizeLine_eq]; lia))
  have hup:∀ p ∈ own, ∀ q ∈ news,q.1 < p.1 := fun p hp q hq=>Nat.lt_trans (Heap.lt_size (N q hq).1) (hG.above _ (ho p hp).2.1)
  have N':News h₀ L h' (own ++ news) := fun q hq=>by
    rcases List.mem_append.mp hq with hq | hq
    · exact ⟨(ho q hq).1,kdx_fresh F (Nat.le_of_lt (hG.above _ (ho q hq).2.1))⟩
    · exact ⟨hk _ _ (N q hq).1,(N q hq).2⟩
  have F2:Fr h₀ L (h'.push (seqObj "list" (as.map Value.ref).toArray 0)) m := (F.keeps hk).push _
  have N2:News h₀ L (h'.push (seqObj "list" (as.map Value.ref).toArray 0)) (own ++ news) := N'.grown fun b o q=>Heap.get?_push_of_some _ q
  have hlt:∀ p ∈ own ++ news,p.1 < h'.objs.size := fun p hp=>Heap.lt_size (N' p hp).1
  have Lt:L < h'.objs.size := (F.keeps hk).ns.lt
  have hvl:(as.map Value.ref).length = xs.length := by rw [List.length_map,hl]
  refine wpAny_bind (wpAny_holding (wpAny_call_entry slot_list_sort ⟨_,Heap.get?_push_size _ rfl,rfl⟩ entry_list_sort ?body (args_list_sort _)))
  case body =>
    refine kat_list_sort (s := { s with heap := h'.push (seqObj "list" (as.map Value.ref).toArray 0),toks := tk }) F2 N2 (Heap.get?_push_size _ rfl) (Nat.ne_of_gt Lt) (Heap.get?_none_of_le (Nat.le_trans (F.keeps hk).above (Nat.le_of_lt Lt))) (fun p hp=>Nat.ne_of_lt (hlt p hp)) (by lia) (by lia) fun e1 h3 F3 N3=>?_
    obtain ⟨fs,t1,t2,t3⟩ := hT.tups (h := h3) fun p hp=>(N3 p (.tail _ (List.mem_append_left _ hp))).1
    refine kat_kind (T := .type "str") t1 (by lia) (fun f hf=>?_) (by decide) ?_
    · obtain ⟨k,t,rfl⟩ := t3 f hf
      exact Looks.of_pure rfl
    have tp := tp_sort (kLt_ok hnd) h2
    rw [← hvl] at tp
    have run := TPost.wp (cmp := kas_ask prog w A.in1.in1 (tuples' true) (as.map Value.ref)) (I := fun s' => s' = { s with heap := h3,toks := tk }) (fun i j s' C hi hj hI hC=>by
      subst hI
      obtain ⟨a1,u1,x1,m1⟩ := hT.at' i hi
      obtain ⟨a2,u2,x2,m2⟩ := hT.at' j hj
      show wpAny _ _ (keyLt' _ _ _) _ _ _
      rw [x1,x2]
      exact tup_lt (N3 _ (.tail _ (List.mem_append_left _ m1))).1 (N3 _ (.tail _ (List.mem_append_left _ m2))).1 (hC _ rfl)) tp _ rfl
    rw [kat_ask_eq rfl] at run
    show (kas_sort _).kasWp (kas_ask prog w A.in1.in1 (tuples' true) _) _ _
    rw [kat_ask_eq rfl]
    refine kas_wp_mono run fun p s' q=>?_
    obtain ⟨⟨hp,u⟩,rfl⟩ := q
    refine KasFin.intro F3 N3 (UpdF.head fun q hq=>Nat.ne_of_lt (hlt q hq)) fun h4 c F4 N4=>?_
    refine ⟨_,rfl,wpAny_pure ⟨_,rfl,?_⟩⟩
    rw [hvl] at hp u
    have hz:∀ i ∈ p.toList,i < (as.map Value.ref).length := fun i hi=>by
      rw [hvl]
      simpa using (Array.perm_iff_toList_perm.mp hp).mem_iff.mp hi
    exact h _ h4 tk own _ _ c (fun q hq=>hlt q (List.mem_append_right _ hq)) F4 N4 (hT.pick p.toList hz) (perm_getD _ hp rfl) (up_pairwise hp u) (fun q hq=>(ho q hq).2.2) hup
end
end Mine
end
section
open PySem PySem.W PyProof.Rows PySem.Spec PySem.Calls
namespace Mine
inductive AJ (al:Addr) (m₀:Str -> Option Value) (v:Value) (ks:List Str) (es TL:List (Addr × Obj)) (i:Nat) (m:Str -> Option Value) (nw:List (Addr × Obj)):Prop
  | mk (own items ka v1 v2 v3 v4 v5) (_:m = bind5 m₀ v1 v2 v3 v4 v5) (_:nw = (al,W.listOf items ka) :: (es ++ (own ++ TL))) (_:Ties own v items.toList (ks.take i)) (_:∀ p ∈ own,p.2.cls = .type "tuple")
theorem Ties.snoc {own:List (Addr × Obj)} {v:Value} {vs:List Value} {ks:List Str} {a:Addr} {k:Str} {t:Tok} (h:Ties own v vs ks):Ties ((a,pairObj k t v) :: own) v (vs ++ [.ref a]) (ks ++ [k]) := by
  induction h with
  | nil=>exact .cons a k t (.head _) .nil
  | cons b j u hm r ih=>exact .cons b j u (.tail _ hm) ih
theorem aj_step {al T:Addr} {m₀:Str -> Option Value} {v:Value} {ks:List Str} {es TL own:List (Addr × Obj)} {i:Nat} {items:Array Value} {k:Str} {t:Tok} {c:Nat} {v1 v2 v3 v4 v5 a1 a2 a3 a4 a5:Option Value} (hT:Ties own v items.toList (ks.take i)) (ho:∀ p ∈ own,p.2.cls = .type "tuple") (hk:ks[i]? = some k) :
    AJ al m₀ v ks es TL (i + 1) (fun y=>if y = Str.ofString "uri" then a5 else if y = Str.ofString "attr_name" then a4 else if y = Str.ofString "attr_qname" then a3 else if y = Str.ofString "v" then a2 else if y = Str.ofString "k" then a1 else bind5 m₀ v1 v2 v3 v4 v5 y)
      ((al,W.listOf (items.push (.ref T)) c) :: (es ++ (((T,pairObj k t v) :: own) ++ TL))) := by
  refine ⟨(T,pairObj k t v) :: own,items.push (.ref T),c,a1,a2,a3,a4,a5,bind5_again ..,rfl,?_,fun p hp=>?_⟩
  · rw [Array.toList_push,List.take_succ,hk]
    exact hT.snoc
  · rcases List.mem_cons.mp hp with rfl | hp
    · rfl
    · exact ho p hp
theorem sub7 {I al:Addr} {it o:Obj} {t c1 c2:Addr × Obj} {es own TL:List (Addr × Obj)} : ∀ p ∈ (I,it) :: (al,o) :: (es ++ ((t :: own) ++ TL)),p ∈ t :: c1 :: c2 :: (I,it) :: (al,o) :: (es ++ (own ++ TL)) := by
  intro p hp
  simp only [List.mem_cons,List.mem_append] at hp ⊢
  rcases hp with h | h | h | (h | h) | h
  · exact .inr (.inr (.inr (.inl h)))
  · exact .inr (.inr (.inr (.inr (.inl h))))
  · exact .inr (.inr (.inr (.inr (.inr (.inl h)))))
  · exact .inl h
  · exact .inr (.inr (.inr (.inr (.inr (.inr (.inl h))))))
  · exact .inr (.inr (.inr (.inr (.inr (.inr (.inr h))))))
theorem news_rot3 {h₀ h:Heap} {L:Addr} {a b c:Addr × Obj} {r:List (Addr × Obj)} (N:News h₀ L h (a :: b :: c :: r)):News h₀ L h (c :: a :: b :: r) := fun q hq=>N q (by
  simp only [List.mem_cons] at hq ⊢
  rcases hq with h | h | h | h
  · exact .inr (.inr (.inl h))
  · exact .inl h
  · exact .inr (.inl h)
  · exact .inr (.inr (.inr h)))
theorem Ties.get {own:List (Addr × Obj)} {v:Value} {vs:List Value} {ks:List Str} (h:Ties own v vs ks) {i:Nat} {y:Value} (hy:vs[i]? = some y):∃ a k t,y = .ref a ∧ ks[i]? = some k ∧ (a,pairObj k t v) ∈ own := by
  induction h generalizing i with
  | nil=>simp at hy
  | cons b j u hm r ih =>
    cases i with
    | zero=>exact ⟨b,j,u,(Option.some.inj (by simpa using hy)).symm,rfl,hm⟩
    | succ i=>exact ih (by simpa using hy)
theorem aj_start {al:Addr} {m₀:Str -> Option Value} {v:Value} {ks:List Str} {es TL:List (Addr × Obj)} {c:Nat} : AJ al m₀ v ks es TL 0 m₀ ((al,W.listOf #[] c) :: (es ++ ([] ++ TL))) :=
  ⟨[],#[],c,_,_,_,_,_,bind5_id m₀,rfl,by rw [List.take_zero]; exact .nil,fun p hp=>nomatch hp⟩
theorem upTo_in {xs:List Str} {v:Value} {k:Str} (h:k ∈ Str.ofString "r" :: xs):upTo (fun k=>decide (k = Str.ofString "r")) (xs.map fun x=>(x,v)) (xs.map fun x=>(x,v)).length k = true := by
  have e:(xs.map fun x=>(x,v)).map (·.1) = xs := by rw [List.map_map]; exact List.map_id' xs
  simp only [upTo,List.take_length,Bool.or_eq_true,decide_eq_true_eq,e]
  exact List.mem_cons.mp h
section
variable {prog:Program} {w:World} {A:Around} {E:Value -> Shared -> Prop} {s₁:Shared} {env:Env} {h₀:Heap} {L:Addr} {Q:Flow -> Shared -> Prop} {target:PySem.Expr} {body:List Stmt}
theorem ListLoop.aj {D al:Addr} {vs:List Value} {c c0:Nat} {m₀:Str -> Option Value} {es TL own0:List (Addr × Obj)} {v:Value} {ks:List Str} (F:Fr h₀ L s₁.heap m₀) (N:News h₀ L s₁.heap ((al,W.listOf #[] c0) :: (es ++ ([] ++ TL)))) (hD:(D,W.listOf (List.toArray vs) c) ∈ es) (hT:Ties own0 v vs ks)
    (turn:∀ i a k t own items ka v1 v2 v3 v4 v5 I oI h tk,ks[i]? = some k -> (a,pairObj k t v) ∈ own0 -> Fr h₀ L h (bind5 m₀ v1 v2 v3 v4 v5) -> News h₀ L h ((I,oI) :: (al,W.listOf items ka) :: (es ++ (own ++ TL))) -> Ties own v items.toList (ks.take i) -> (∀ p ∈ own,p.2.cls = .type "tuple") ->
      (∀ p ∈ (al,W.listOf items ka) :: (es ++ (own ++ TL)),p.1 ≠ I) -> (@Ne Nat al I) ->
      wpAny (model prog w) A (assign target env (.ref a)) (fun _ s₃=>wpAny (model prog w) A (execs body env) (UnrPost h₀ L { s₁ with heap := h,toks := tk } I oI (AJ al m₀ v ks es TL (i + 1)) Q) NoE s₃) NoE { s₁ with heap := h,toks := tk })
    (fin:∀ own items ka v1 v2 v3 v4 v5 h tk,Ties own v items.toList ks -> (∀ p ∈ own,p.2.cls = .type "tuple") -> Fr h₀ L h (bind5 m₀ v1 v2 v3 v4 v5) -> News h₀ L h ((al,W.listOf items ka) :: (es ++ (own ++ TL))) -> Q .next { s₁ with heap := h,toks := tk }) :
    ListLoop prog w A h₀ L env target body Q (.ref D) s₁ := by
  refine ⟨D,List.toArray vs,c,m₀,_,AJ al m₀ v ks es TL,rfl,F,N,aj_start,?_,?_,?_⟩
  · rintro i m nw ⟨own,items,ka,v1,v2,v3,v4,v5,rfl,rfl,-,-⟩
    exact .tail _ (List.mem_append_left _ hD)
  · rintro i y m nw I oI h tk hy ⟨own,items,ka,v1,v2,v3,v4,v5,rfl,rfl,h1,h2⟩ F' N' off cI
    obtain ⟨a,k,t,rfl,hk,ha⟩ := hT.get (i := i) (y := y) (by simpa using hy)
    exact turn i a k t own items ka v1 v2 v3 v4 v5 I oI h tk hk ha F' N' h1 h2 off (off (al,_) (.head _))
  · rintro m nw h tk ⟨own,items,ka,v1,v2,v3,v4,v5,rfl,rfl,h1,h2⟩ F' N'
    refine fin own items ka v1 v2 v3 v4 v5 h tk ?_ h2 F' N'
    rw [show ks.take (List.toArray vs).size = ks by rw [List.size_toArray,hT.length,List.take_length]] at h1
    exact h1
end
theorem append_A {prog:Program} {w:World} {A:Around} {E:Value -> Shared -> Prop} {s:Shared} {h₀:Heap} {L l:Addr} {m:Str -> Option Value} {news news':List (Addr × Obj)} {its:Array Value} {n:Nat} {x:Value} {Q:Value -> Shared -> Prop} (F:Fr h₀ L s.heap m) (N:News h₀ L s.heap news) (U:Upd l (W.listOf its n) (W.listOf (its.push x) (n + 1)) news news') (hsz:its.size ≤ sizeLine)
    (h:∀ h',Fr h₀ L h' m -> News h₀ L h' news' -> Q .none { s with heap := h' }):wpAny (model prog w) A (call (.builtin "list.append") [.ref l,x]) Q E s := by
  obtain ⟨pre,post,rfl,rfl,a,b⟩ := U.split
  have hm := N (l,W.listOf its n) (List.mem_append_right _ (.head _))
  exact append_at (hsz := hsz) hm.1 fun h' hs ho=>h h' (F.change hs hm.2.1 hm.2.2) (N.setIn a b hs ho)
theorem news_head {h₀ h:Heap} {L a:Addr} {o:Obj} {r:List (Addr × Obj)} {P:Prop} (_N:News h₀ L h ((a,o) :: r)) (k:∀ al,al = a -> P):P := k a rfl
theorem off_end {al I T:Addr} {o o':Obj} {t:Obj} {es own TL:List (Addr × Obj)} (h:∀ p ∈ (al,o) :: (es ++ (own ++ TL)),p.1 ≠ I) (hT:(@Ne Nat T I)):∀ p ∈ (al,o') :: (es ++ (((T,t) :: own) ++ TL)),p.1 ≠ I := by
  intro p hp
  rcases List.mem_cons.mp hp with rfl | hp
  · exact h (al,o) (.head _)
  · rcases List.mem_append.mp hp with hp | hp
    · exact h p (.tail _ (List.mem_append_left _ hp))
    · rcases List.mem_append.mp hp with hp | hp
      · rcases List.mem_cons.mp hp with rfl | hp
        · exact hT
        · exact h p (.tail _ (List.mem_append_right _ (List.mem_append_left _ hp)))
      · exact h p (.tail _ (List.mem_append_right _ (List.mem_append_right _ hp)))
end Mine
end
section
open PySem PySem.W PyProof.Rows PySem.Spec PySem.Calls
namespace Mine
noncomputable def rowOf (ev k:Str):Str := .ofString " " ++ k ++ .ofString "=\"" ++ ev ++ .ofString "\""
theorem rowOf_len {ev k:Str} (hw:ev.length ≤ 8) (hx:k.length ≤ 4):(rowOf ev k).length ≤ 20 := by
  unfold rowOf
  simp only [Str.length_append]
  have e1:(Str.ofString " ").length = 1 := by decide +kernel
  have e2:(Str.ofString "=\"").length = 2 := by decide +kernel
  have e3:(Str.ofString "\"").length = 1 := by decide +kernel
  lia
section
variable {prog:Program} {w:World} {A:Around} {h₀:Heap} {L:Addr} {m:Str -> Option Value} {env:Env} {elt:PySem.Expr} {x x₂:Str} {scope:Scope} {cl:List (Str × Addr)} {s:Shared} {S:List (Addr × Obj) -> Prop} {P:Nat -> Value -> Prop} {Fin:List Value -> List (Addr × Obj) -> Prop} {news:List (Addr × Obj)}
theorem compP_gen {α:Type} {n:Nat} (as:List α) (R:α -> Value -> Value -> Prop) (T:α -> Value -> Prop) (hn:as.length = n)
    (hP:∀ i v,i < n -> P i v -> ∃ a t ot v₁ v₂ nt,as[i]? = some a ∧ v = .ref t ∧ (t,ot) ∈ news ∧ ot.cls = .type "tuple" ∧ ot.data = .seq #[v₁,v₂] nt ∧ R a v₁ v₂)
    (turn:∀ a v₁ v₂ I oI C oC D m₂ ys h tk (E':Value -> Shared -> Prop),a ∈ as -> R a v₁ v₂ -> LCg.NsObj oC m₂ -> m₂ x = some v₁ -> m₂ x₂ = some v₂ -> Fr h₀ L h m -> News h₀ L h ((I,oI) :: (C,oC) :: (D,LCg.lst ys) :: news) -> LCg.Off3 I C D news -> ((@Ne Nat I C) ∧ (@Ne Nat I D) ∧ (@Ne Nat C D)) ->
      wpAny (model prog w) A (eval elt (compEnvC scope cl C env)) (LCg.CompEnd h₀ L m { s with heap := h,toks := tk } I oI C oC D (LCg.lst ys) S (fun y news' => news' = news ∧ T a y)) E' { s with heap := h,toks := tk })
    (fin:∀ ys,All2 T as ys -> Fin ys news):LCp.CompRestP prog w A h₀ L m env elt x x₂ scope cl s S P Fin n 0 [] news := by
  have key:∀ (j i:Nat) (ys:List Value),i + j = n -> All2 T (as.take i) ys -> LCp.CompRestP prog w A h₀ L m env elt x x₂ scope cl s S P Fin j i ys news := by
    intro j
    induction j with
    | zero =>
      intro i ys hi hy
      have e:i = as.length := by lia
      subst e
      rw [List.take_length] at hy
      exact LCp.CompRestP.zero (fin ys hy)
    | succ j ih =>
      intro i ys hi hy
      refine LCp.CompRestP.succ fun v hv=>?_
      obtain ⟨a,t,ot,v₁,v₂,nt,ha,e1,e2,e3,e4,hR⟩ := hP i v (by lia) hv
      refine ⟨t,ot,v₁,v₂,nt,e1,e2,e3,e4,?_⟩
      intro I oI C oC D m₂ h tk E' hC hx hx2 F N off ne
      refine wpAny_mono (turn a v₁ v₂ I oI C oC D m₂ ys h tk E' (List.mem_of_getElem? ha) hR hC hx hx2 F N off ne) (fun y s₂ hq=>?_) fun _ _ e=>e
      obtain ⟨h',tk',nw,e,F',N',off',hS,hn',hy'⟩ := hq
      subst hn'
      refine ⟨h',tk',nw,e,F',N',off',hS,ih (i + 1) _ (by lia) ?_⟩
      rw [List.take_add_one,ha]
      exact hy.snoc hy'
  exact key n 0 [] (by lia) (by simpa using All2.nil)
end
theorem truthy_L {prog:Program} {w:World} {A:Around} {E:Value -> Shared -> Prop} {s:Shared} {h₀:Heap} {L l:Addr} {news:List (Addr × Obj)} {its:Array Value} {k:Nat} {Q:Bool -> Shared -> Prop} (h:∀ tk,Q true { s with toks := tk }) (N:News h₀ L s.heap news := by k_dflt k_asm) (hp:(l,W.listOf its k) ∈ news := by k_dflt k_mem) (h1:1 ≤ its.size := by k_dflt assumption) (h2:its.size ≤ 20 := by k_dflt assumption) :
    wpAny (model prog w) A (truthy (.ref l)) Q E s := by
  refine wpAny_truthy_list ⟨_,(N _ hp).1,rfl,k,rfl⟩ (by lia) ?_
  have e:(!its.isEmpty) = true := by
    simp only [Array.isEmpty,Bool.not_eq_true',decide_eq_false_iff_not]
    lia
  rw [e]
  exact h _
theorem kdg_none {prog:Program} {w:World} {A:Around} {E:Value -> Shared -> Prop} {s:Shared} {h₀:Heap} {L d:Addr} {news:List (Addr × Obj)} {o:Obj} {kvs:List (Str × Value)} {k:Str} {t:Tok} {Q:Value -> Shared -> Prop} (N:News h₀ L s.heap news) (hp:(d,o) ∈ news) (hd:o.IsDictOf (PySem.strKind prog w) kvs) (lo:(d == sysModules) = false) (hl:valueAt kvs k = none) (h:Q .none { s with toks := s.toks + 1 }) :
    wpAny (model prog w) A (call (.builtin "dict.get") [.ref d,.str k t]) Q E s := kdg_get1 (knd := PySem.strKind prog w) N hp hd lo (strKind_is _ _ _ _) none hl h
noncomputable def StandsB (x pc:Addr) (h:Heap):Prop := h.get? x = some (boundObj pc)
theorem callWith_bd {M:Model} {A:Around} {E:Value -> Shared -> Prop} {s:Shared} {h₀:Heap} {L pc:Addr} {news:List (Addr × Obj)} {pos:Pos} {u:Addr} {first:List Value} {env:Env} {e:PySem.Expr} {rest:List PySem.Expr} {Q:Value -> Shared -> Prop} 
    (h:wpAny M A (spliced (backTo pos (starEach (e :: rest) env))) (fun vs s₁=>StandsB u pc s₁.heap ∧ wpAny M A (call (.ref u) (first ++ vs)) Q E s₁) E s)
    (_N:News h₀ L s.heap news := by k_dflt k_asm) (_hm:(u,boundObj pc) ∈ news := by k_dflt k_mem) (he:starEach (e :: rest) env = (false,eval e env) :: starEach rest env := by k_dflt rfl) (hplain:(backTo pos (starEach rest env)).any (·.1) = false := by k_dflt rfl) :
    wpAny M A (callWith pos (.ref u) first (backTo pos (starEach (e :: rest) env)) []) Q E s := by
  rw [he] at h ⊢
  have hpl:(backTo pos ((false,eval e env) :: starEach rest env)).any (·.1) = false := by show (false || (backTo pos (starEach rest env)).any (·.1)) = false; rw [hplain]; rfl
  unfold callWith
  refine wpAny_bind (wpAny_holding (wpAny_mono (evalArgs_plain (Q := fun x s₁=>StandsB u pc s₁.heap ∧ wpAny M A (call (.ref u) (first ++ x.pos) x.kw) Q E s₁) h) (fun x s₁ h₁=>wpAny_bind (wpAny_standAt ?_)) fun _ _ x=>x))
  obtain ⟨ho,hcall⟩ := h₁
  rw [hpl]
  refine wpAny_bind (m := keeperOf (.ref u)) ?_
  show wpAny M _ (load u >>= fun o=>_) _ _ _
  refine wpAny_bind (wpAny_load ho ?_)
  have hk:∀ x:Sem Keeper,(if (Value.type "builtin_function_or_method" != Value.type "method") = true then (pure (if (Value.type "builtin_function_or_method" == Value.type "builtin_function_or_method" || Value.type "builtin_function_or_method" == Value.type "method-wrapper") = true then Keeper.machine else Keeper.caller):Sem Keeper) else x) = pure Keeper.machine := fun x=>by
    rw [if_pos (by decide),if_pos (by decide)]
  refine Eq.mpr (congrArg (fun y=>wpAny M _ y _ _ _) (hk _)) ?_
  refine wpAny_pure ?_
  exact wpAny_bind (wpAny_mono hcall (fun r s₂ hr=>wpAny_bind (wpAny_holding (wpAny_point (wpAny_pure hr)))) fun _ _ x=>x)
theorem off1_mem {D:Addr} : ∀ {l:List (Addr × Obj)},LCg.Off1 D l -> ∀ p ∈ l,@Ne Nat p.1 D
  | [],_,_,h=>nomatch h
  | _ :: _,x,p,h=>by
    rcases List.mem_cons.mp h with rfl | h
    · exact x.1
    · exact off1_mem x.2 p h
theorem off_all {h₀ h:Heap} {L a pc:Addr} {o:Obj} {own all:List (Addr × Obj)} (N:News h₀ L h all) (ha:(a,o) ∈ all) (hc:o.cls ≠ .type "tuple") (hs:∀ p ∈ own,p ∈ all) (ht:∀ p ∈ own,p.2.cls = .type "tuple" ∨ @LT.lt Nat _ p.1 pc) (hpc:@LE.le Nat _ pc a):∀ p ∈ own,p.1 ≠ a := by
  intro p hp e
  rcases ht p hp with h | h
  · have h1 := (N _ ha).1
    have h2 := (N _ (hs p hp)).1
    rw [e] at h2
    rw [h1] at h2
    have h3:o = p.2 := Option.some.inj h2
    exact hc (h3 ▸ h)
  · rw [e] at h
    exact absurd h (Nat.not_lt.mpr hpc)
theorem kst_mem {pc:Addr} {l:List (Addr × Obj)} (h:AllLt pc l):∀ p ∈ l,@LT.lt Nat _ p.1 pc := fun p hp=>kst_ltOf h p hp
end Mine
end
section
open PySem PySem.W PyProof.Rows PySem.Spec PySem.Calls
namespace Mine
theorem code_hd {P:Params} {h:Heap} (X:(KF P).In h):CodeHd h 125 123 :=
  ⟨_,_,_,_,_,_,_,_,_,X 125 _ (by with_unfolding_all rfl),rfl,rfl,rfl,rfl,rfl,rfl,rfl,rfl,by decide⟩
structure NameOk (k:Str):Prop where
  len:k.length ≤ 4
  sl:(Txt.slice k none (some 1) == Str.ofString "{") = false
  sp:Txt.splitMax k (Str.ofString "}") 1 = [k]
  ns:k ≠ Str.ofString "{http://www.w3.org/XML/1998/namespace}space"
theorem strs_mem {vs:List Value} {ks:List Str} (h:StrsAre vs ks) {v:Value} (hv:v ∈ vs):∃ k t,v = .str k t ∧ k ∈ ks := by
  induction h with
  | nil=>cases hv
  | cons x t r ih =>
    rcases List.mem_cons.mp hv with rfl | hv
    · exact ⟨x,t,rfl,.head _⟩
    · obtain ⟨k,t',e,hk⟩ := ih hv
      exact ⟨k,t',e,.tail _ hk⟩
theorem nodup_le {α:Type} [DecidableEq α]:∀ {xs ys:List α},xs.Nodup -> (∀ x ∈ xs,x ∈ ys) -> xs.length ≤ ys.length
  | [],_,_,_=>Nat.zero_le _
  | x :: r,ys,h,hs=>by
    rw [List.nodup_cons] at h
    have hx := hs x (.head _)
    have := nodup_le (xs := r) (ys := ys.erase x) h.2 fun y hy=>(List.mem_erase_of_ne (fun e:y = x=>h.1 (by rw [← e]; exact hy))).mpr (hs y (.tail _ hy))
    rw [List.length_erase_of_mem hx] at this
    rw [List.length_cons]
    exact Nat.add_le_of_le_sub (List.length_pos_of_mem hx) this
theorem pset_two {prog:Program} {w:World} {o oD:Obj} {g:Str -> Bool} {n:Nat} {kvs:List (Str × Value)} (h:PSetO prog w o (upTo g kvs kvs.length) n) (hd:Obj.IsDictOf (PySem.strKind prog w) oD kvs) (hl:2 ≤ kvs.length):2 ≤ n := by
  obtain ⟨es,ep,t,hex,hdd,hel,hmem,hb,hf,hn,hpl⟩ := h
  obtain ⟨_,_,_,_,_,_,hnd⟩ := hd
  obtain ⟨ks,q1,q2,q3⟩ := elems_strs es.toList hel
  have := nodup_le hnd (ys := ks) fun x hx=>(q3 x).mpr ((hmem x).mp (by simp only [upTo,List.take_length,Bool.or_eq_true,decide_eq_true_eq]; exact .inr hx))
  simp only [List.length_map,q2,Array.length_toList,hn] at this
  lia
theorem upTo_ok {xs:List Str} {v:Value} {k:Str} (h:upTo (fun k=>decide (k = Str.ofString "r")) (xs.map fun x=>(x,v)) (xs.map fun x=>(x,v)).length k = true):k ∈ Str.ofString "r" :: xs := by
  have e:(xs.map fun x=>(x,v)).map (·.1) = xs := by rw [List.map_map]; exact List.map_id' xs
  simp only [upTo,List.take_length,Bool.or_eq_true,decide_eq_true_eq,e] at h
  exact List.mem_cons.mpr h
theorem row_parts {k ev:Str} (hk:k.length ≤ 4) (he:ev.length ≤ 8):(Str.ofString " ").length ≤ sizeLine ∧ (Str.ofString " " ++ k).length ≤ sizeLine ∧ (Str.ofString " " ++ k ++ Str.ofString "=\"").length ≤ sizeLine ∧ (Str.ofString " " ++ k ++ Str.ofString "=\"" ++ ev).length ≤ sizeLine ∧ (Str.ofString " " ++ k ++ Str.ofString "=\"" ++ ev ++ Str.ofString "\"").length ≤ sizeLine := by
  have h := Nat.le_trans (rowOf_len (k := k) he hk) (show 20 ≤ sizeLine by rw [sizeLine_eq]; decide)
  unfold rowOf at h
  have g1 := fun (a b:Str)=>show a.length ≤ (a ++ b).length by rw [Str.length_append]; exact Nat.le_add_right _ _
  have h3 := Nat.le_trans (g1 _ _) h
  have h2 := Nat.le_trans (g1 _ _) h3
  have h1 := Nat.le_trans (g1 _ _) h2
  exact ⟨Nat.le_trans (g1 _ _) h1,h1,h2,h3,h⟩
theorem one_of {l:List (Str × Tok)} {k:Str} (e:l.map (·.1) = [k]):∃ t,l = [(k,t)] := by
  cases l with
  | nil=>nomatch e
  | cons p r =>
    cases r with
    | nil=>exact ⟨p.2,by rw [← (List.cons.inj e).1]⟩
    | cons=>nomatch (List.cons.inj e).2
theorem kret_close {h₀ h' H g₀:Heap} {L L₀:Addr} {m:Str -> Option Value} {tl:List (Addr × Obj)} {a b:Addr × Obj} {s:Shared} {tk:Nat} {l:List (Str × Tok)} {k:Str} (e:l.map (·.1) = [k]) (F:Fr h₀ L h' m) (N:News h₀ L h' ((H.objs.size,({ cls := .type "list",data := .seq (strValues l).toArray } : Obj)) :: a :: b :: tl)) (NA:News g₀ L₀ H (a :: b :: tl)) :
    KRet h₀ L m tl s (.ref H.objs.size) { s with heap := h',toks := tk } := by
  obtain ⟨t,rfl⟩ := one_of e
  refine ⟨H.objs.size,k,t,0,h',tk,rfl,rfl,F,fun p hp=>?_,fun q hq=>Nat.ne_of_lt (Heap.lt_size (NA q (.tail _ (.tail _ hq))).1)⟩
  rcases List.mem_cons.mp hp with rfl | hp
  · exact N _ (.head _)
  · exact N _ (.tail _ (.tail _ (.tail _ hp)))
theorem news_of4 {h₀ h:Heap} {L:Addr} {a b c d:Addr × Obj} {l r:List (Addr × Obj)} (N:News h₀ L h l) (ha:a ∈ l) (hb:b ∈ l) (hc:c ∈ l) (hd:d ∈ l) (hr:∀ q ∈ r,q ∈ l):News h₀ L h (a :: b :: c :: d :: r) :=
  fun q hq=>N q (all_cons ha (all_cons hb (all_cons hc (all_cons hd hr))) q hq)
theorem news_cons {h₀ h:Heap} {L:Addr} {p:Addr × Obj} {l:List (Addr × Obj)} (hp:p ∈ l) (N:News h₀ L h l):News h₀ L h (p :: l) := fun q hq=>by
  rcases List.mem_cons.mp hq with rfl | hq
  · exact N _ hp
  · exact N _ hq
theorem news_mid {h₀ h:Heap} {L:Addr} {a:Addr × Obj} {own es r:List (Addr × Obj)} (N:News h₀ L h (a :: (own ++ (es ++ r)))):News h₀ L h (a :: (es ++ (own ++ r))) := fun q hq=>N q (by
  simp only [List.mem_cons,List.mem_append] at hq ⊢
  rcases hq with h | h | h | h
  · exact .inl h
  · exact .inr (.inr (.inl h))
  · exact .inr (.inl h)
  · exact .inr (.inr (.inr h)))
theorem news_skip6 {h₀ h:Heap} {L:Addr} {a b1 b2 b3 b4 b5 b6:Addr × Obj} {r:List (Addr × Obj)} (N:News h₀ L h (a :: b1 :: b2 :: b3 :: b4 :: b5 :: b6 :: r)):News h₀ L h (a :: r) := fun q hq=>by
  rcases List.mem_cons.mp hq with rfl | hq
  · exact N _ (.head _)
  · exact N _ (.tail _ (.tail _ (.tail _ (.tail _ (.tail _ (.tail _ (.tail _ hq)))))))
theorem truthy_D {prog:Program} {w:World} {A:Around} {E:Value -> Shared -> Prop} {s:Shared} {h₀:Heap} {L d:Addr} {news:List (Addr × Obj)} {o:Obj} {kvs:List (Str × Value)} {Q:Bool -> Shared -> Prop} (N:News h₀ L s.heap news) (hp:(d,o) ∈ news) (hd:o.IsDictOf (PySem.strKind prog w) kvs) (lo:(d == sysModules) = false)
    (h1:1 ≤ kvs.length) (h2:kvs.length ≤ 20) (h:∀ tk,Q true { s with toks := tk }):wpAny (model prog w) A (truthy (.ref d)) Q E s := by
  refine wpAny_truthy_dict lo (kda_dict N hp hd) (by lia) ?_
  have e:(!kvs.isEmpty) = true := by cases kvs with
    | nil=>simp at h1
    | cons a r=>rfl
  rw [e]
  exact h _
theorem news_two {h₀ h:Heap} {L:Addr} {a b:Addr × Obj} {own r:List (Addr × Obj)} (N:News h₀ L h (own ++ a :: b :: r)):News h₀ L h (a :: b :: (own ++ a :: b :: r)) := fun p hp=>by
  rcases List.mem_cons.mp hp with rfl | hp
  · exact N _ (List.mem_append_right _ (.head _))
  · rcases List.mem_cons.mp hp with rfl | hp
    · exact N _ (List.mem_append_right _ (.tail _ (.head _)))
    · exact N p hp
theorem allLt_up {a b:Nat} : ∀ {l:List (Addr × Obj)},AllLt a l -> a ≤ b -> AllLt b l
  | [],_,_=>trivial
  | p :: r,h,hab=>⟨Nat.lt_of_lt_of_le h.1 hab,allLt_up h.2 hab⟩
theorem putL_find2 {x y:Str} {hs:Int} {t:Tok} {v:Value} (hne:y ≠ x):∀ es:List DictEntry,
    (putL x hs (.str x t) v es).find? (·.key.isStr y) = es.find? (·.key.isStr y) ∧ (putL x hs (.str x t) v es).any (·.refKey) = es.any (·.refKey)
  | []=>by
    have h:(⟨hs,.str x t,v⟩:DictEntry).key.isStr y = false := isStr_other hne _ (show (Value.str x t).isStr x = true by simp [Value.isStr])
    constructor
    · show List.find? _ [_] = _
      rw [List.find?_cons,h]
    · rfl
  | e :: r=>by
    have ih := putL_find2 hne (t := t) (hs := hs) (v := v) r
    unfold putL
    split
    · rename_i he
      have h := isStr_other hne e he
      constructor
      · rw [List.find?_cons,List.find?_cons,h]
      · rfl
    · constructor
      · rw [List.find?_cons,List.find?_cons,ih.1]
      · rw [List.any_cons,List.any_cons,ih.2]
theorem getL_putL {x y:Str} {hs:Int} {t:Tok} {v:Value} {es:List DictEntry} (hne:y ≠ x):getL y (putL x hs (.str x t) v es) = getL y es := by
  unfold getL
  rw [(putL_find2 hne es).1,(putL_find2 hne es).2]
theorem putL_len {name:Str} {hs:Int} {k v:Value} : ∀ es:List DictEntry,(putL name hs k v es).length ≤ es.length + 1
  | []=>Nat.le_refl _
  | e :: r=>by
    unfold putL
    split
    · exact Nat.le_succ _
    · exact Nat.succ_le_succ (putL_len r)
theorem put_t {x y:Str} {hs:Int} {t:Tok} {v:Value} {es:List DictEntry} {r:Option (Option Value)} (hne:y ≠ x := by decide +kernel) (h:getL y es = r := by with_reducible assumption):getL y (putL x hs (.str x t) v es) = r := (getL_putL hne).trans h
local macro_rules | `(tactic| k_get)=>`(tactic| first | with_reducible assumption | exact put_t)
theorem stop_start {M:Model} {A:Around} {Q:Flow -> Shared -> Prop} {E:Value -> Shared -> Prop} {s:Shared} {b:List Stmt} {L fa:Addr} {cd:Value} (h:Stop (wpAny M A (execs b (envOfC (Str.ofString "C14NWriterTarget._start") (fS (mth 8)) L fa cd)) Q E s)):wpAny M A (execs b (envOfC (Str.ofString "C14NWriterTarget._start") (fS (mth 8)) L fa cd)) Q E s := h
local macro_rules | `(tactic| walk_at "execs")=>`(tactic| (k_here; (with_reducible refine stop_start ?_)))
local macro_rules | `(tactic| walk_at "setAttr ref")=>`(tactic| (k_here; refine Stop.mk ?_))
local macro_rules | `(tactic| k_all)=>`(tactic| first | assumption | exact off_ltA)
local macro_rules | `(tactic| walk_at "eval Set")=>`(tactic| (k_here; refine Stop.mk ?_))
local macro_rules | `(tactic| walk_at "exec Assign cons DictComp")=>`(tactic| (k_here; refine Stop.mk ?_))
local macro_rules | `(tactic| walk_at "eval Lambda")=>`(tactic| (k_here; refine Stop.mk ?_))
local macro_rules | `(tactic| walk_at "call ref")=>`(tactic| (k_here; k_dflt (refine stop_call1 ?_)))
theorem item_v {prog:Program} {w:World} {A:Around} {E:Value -> Shared -> Prop} {s:Shared} {h₀:Heap} {L d:Addr} {o:Obj} {news:List (Addr × Obj)} {kvs:List (Str × Value)} {k:Str} {u:Tok} {v:Value} {value slice:PySem.Expr} {Q:Value -> Shared -> Prop} (h:Q v { s with toks := s.toks + 1 }) (N:News h₀ L s.heap news := by k_dflt k_asm) (hp:(d,o) ∈ news := by k_dflt k_mem) (hd:o.IsDictOf (PySem.strKind prog w) kvs := by k_dflt k_asm) (hl:valueAt kvs k = some v := by k_dflt assumption)
    (hs:subscripted slice false (.ref d) (.str k u) = operate [.ref d,.str k u] (getItem (.ref d) (.str k u)) := by with_unfolding_all rfl) (hg:∀ r,letTemporaryGo value (.ref d) r = pure () := by intro _; with_unfolding_all rfl):wpAny (model prog w) A (subscriptTail value slice (.ref d) (.str k u)) Q E s := kda_item N hp hd (strKind_is _ _ _ _) hl h hs hg
local macro_rules | `(tactic| walk_at "subscriptTail")=>`(tactic| (k_here; (with_reducible refine item_v ?_)))
local macro_rules | `(tactic| walk_at "truthy ref")=>`(tactic| (k_here; (with_reducible refine truthy_L ?_); intro tk9))
local macro_rules | `(tactic| walk_at "SrcLP")=>`(tactic| (k_here; refine Stop.mk ?_))
local macro_rules | `(tactic| walk_at "callWith ref")=>`(tactic| (k_here; (with_reducible refine callWith_bd ?_); k_whole))
local macro_rules | `(tactic| walk_at "And")=>`(tactic| (refine And.intro (by with_reducible assumption) ?_))
theorem and_st {h₀ h:Heap} {L u pc:Addr} {news:List (Addr × Obj)} {P:Prop} (k:P) (N:News h₀ L h news := by k_dflt k_asm) (m:(u,boundObj pc) ∈ news := by k_dflt k_mem):StandsB u pc h ∧ P := ⟨N.get m,k⟩
local macro_rules | `(tactic| walk_at "And")=>`(tactic| ((with_reducible refine and_st ?_); (try dsimp only [List.nil_append,List.cons_append])))
noncomputable def Len3 (n:Nat):Prop := n = 6 ∨ n = 9 ∨ n = 10
theorem Len3.lo {n:Nat} (h:Len3 n):2 ≤ n := by rcases h with h | h | h <;> lia
theorem Len3.hi {n:Nat} (h:Len3 n):n ≤ 10 := by rcases h with h | h | h <;> lia
theorem c_start
    (B:Below A₀ base outer h₀) (F:Fr h₀ L s.heap m) (X:(KF w.params).In h₀) {x d S l1 X1 da ps ns wq pc y1 y2 D:Addr} {oD:Obj} {es:List DictEntry} {kd kS kl kda kps kns kpc:Nat} {ku kx:Tok} (N:News h₀ L s.heap ((x,instObj 150 d) :: (d,dictOf es kd) :: (S,W.listOf #[.ref l1] kS) :: (l1,W.listOf #[.ref X1] kl) :: (X1,({ cls := .type "tuple",data := .seq #[.str (Str.ofString "http://www.w3.org/XML/1998/namespace") ku,.str (Str.ofString "xml") kx] } : Obj)) :: (da,W.listOf #[] kda) :: (ps,W.listOf #[.bool false] kps) :: (ns,W.listOf #[.ref y1,.ref y2] kns) :: (wq,boundObj pc) :: (pc,W.listOf #[] kpc) :: (D,oD) :: (123,tabObj #[]) :: news)) (T:Top p loose mean mg mb h₀) (hk:cs.kind = .function) (hd:dp + 30 < recursionLimit) (hu:un + 300 < cLine)
    (HW:WD es wq da S ns ps) (xs:List Str) (v ev:Str) (tv t:Tok) (hv:(v,ev) ∈ escTab) (hd0:Obj.IsDictOf (PySem.strKind prog w) oD (xs.map fun x=>(x,Value.str v tv))) (hok:∀ k ∈ Str.ofString "r" :: xs,NameOk k) (lo:(D == sysModules) = false) (hm:xs.length = 6 ∨ xs.length = 9 ∨ xs.length = 10)
    (hor:@LT.lt Nat _ pc wq ∧ @LT.lt Nat _ wq d ∧ @LT.lt Nat _ d x ∧ @LT.lt Nat _ x da ∧ @LT.lt Nat _ da X1 ∧ @LT.lt Nat _ X1 l1 ∧ @LT.lt Nat _ l1 S ∧ @LT.lt Nat _ S ns ∧ @LT.lt Nat _ ns ps ∧ @LT.lt Nat _ ps D) (h123:@LT.lt Nat _ 123 pc) (hne:∀ p ∈ news,p.1 ≠ 123) (hlt:AllLt pc news) (hgb:AllBare s.gens)
    (hret:∀ (ks:List Str) t1 t2 t3 kpc' psT h' tk' ga' dr',AllBare ga' -> ks.Perm xs -> ks.Pairwise (fun a b=>sLt a b = true) -> Fr h₀ L h' m -> News h₀ L h' ((wq,boundObj pc) :: (pc,W.listOf #[.str (Str.ofString "<r") t1,.str (Txt.join (Str.ofString "") (ks.map (rowOf ev))) t2,.str (Str.ofString ">") t3] kpc') :: (D,oD) :: (123,tabObj psT) :: news) -> Q .none { s with heap := h',toks := tk',gens := ga',drawn := dr' }) :
    wpAny (model prog w) (ktrTop dp un gd cn cs L a ccd cl outer) (call (.ref 120) [.ref x,.str (Str.ofString "r") t,.ref D]) Q E s := by
  have hasc := asc_of (x := 123) (l := [pc,wq,d,x,da,X1,l1,S,ns,ps,D]) ⟨h123,hor⟩
  dsimp only [AscL,AllGt] at hasc
  have hasc0 := hasc.1
  have hasc1 := hasc.2.1
  have hasc2 := hasc.2.2.1
  have hasc3 := hasc.2.2.2.1
  have hasc4 := hasc.2.2.2.2.1
  have hasc5 := hasc.2.2.2.2.2.1
  have hasc6 := hasc.2.2.2.2.2.2.1
  have hasc7 := hasc.2.2.2.2.2.2.2.1
  have hasc8 := hasc.2.2.2.2.2.2.2.2.1
  have hasc9 := hasc.2.2.2.2.2.2.2.2.2.1
  have hasc10 := hasc.2.2.2.2.2.2.2.2.2.2.1
  clear hasc
  replace hm:Len3 xs.length := hm
  have hm2 := hm.lo
  have hm10 := hm.hi
  have w1 := HW.w
  have w2 := HW.da
  have w3 := HW.ea
  have w4 := HW.et
  have w5 := HW.qt
  have w6 := HW.fq
  have w7 := HW.ds
  have w8 := HW.ns
  have w9 := HW.ps
  have w10 := HW.st
  have w11 := HW.qn
  have w12 := HW.len
  w_on
  refine wpAny_call ?_
  have hC123 := code_hd X
  k_dflt cell_enter
  (rename Fr _ _ _ (fun _=>_)=>F0); refine foldEM F0 ?_; clear F0; intro e9 m9 F0
  k_steps
  refine Stop.of ?_
  k_dflt (refine' append_N ?F ?N ?U ?z ?_; (case F | N=>k_asm); (case U=>k_upd); (case z=>exact Nat.le_of_ble_eq_true rfl))
  intro h' F' N'
  (try simp only [List.nil_append,List.cons_append] at N')
  k_steps
  refine Stop.of ?_
  (rename Fr _ _ _ (fun _=>_)=>F0); refine foldAll F0 ?_; clear F0; intro A9 e9 m9 F0
  refine wpAny_execs_cons ?_
  k_steps
  refine Stop.of ?_
  refine pset_display (K := KF w.params) (g := Str.ofString "r") (t := t) (d := D) (kvs := xs.map fun x=>(x,Value.str v tv)) (od := oD) rfl (by k_asm) (by k_asm) (by k_asm) (by exact rfl) (by exact rfl) (by k_mem) hd0 lo (by rw [List.length_map]; exact hm) (fun h1 tk1 Q1 F1 q1=>?_) (fun h1 tk1 Q1 F1 q1=>?_) (fun D1 oD1 h1 tk1 n1 F1 N1 l1 hp1 a1 b1=>?_)
  · k_steps
    exact q1
  · k_steps
    exact q1
  · k_lt l1
    k_steps
    refine Stop.of ?_
    (rename Fr _ _ _ _=>F2)
    refine Assign_DictComp_J F2 rfl (by with_unfolding_all rfl) (by with_unfolding_all rfl) (by decide) (by rfl) (by decide) (by rfl) (by decide) (by with_unfolding_all rfl) (by with_unfolding_all rfl) ?_
    k_steps
    refine Stop.of ?_
    k_dflt (refine' kla_eval ?d0 ?_; (case d0=>exact rfl)); k_dflt (refine' kla_nest ?F ?N ?T ?C ?cd ?U ?t ?n ?cl ?_; (case F | N | T=>k_asm); (case cd=>exact rfl); (case C=>exact code_hd (by k_asm)); (case U=>k_updF); (case t=>kn_triples); (case n=>kn_among); (case cl=>exact rfl); k_whole)
    intro f2 c2 oc2 vs2 t2 ct2 h2 tk2 F3 N3 d1 d2 l2 l3
    dsimp only at N3
    have l4 := fun p hp=>Nat.lt_trans (l2 p hp) l3
    k_lt l2
    k_lt l4
    have l3 := ltN l3
    k_steps
    refine Stop.of ?_
    refine kl_sorted (S := upTo (fun k=>decide (k = Str.ofString "r")) (xs.map fun x=>(x,Value.str v tv)) (xs.map fun x=>(x,Value.str v tv)).length) (n := n1) rfl (by dsimp only [A9]; ktr_units) F3 N3 (hp1.set (N3 (D1,oD1) (by k_mem)).1) ?_ (by rw [List.length_map] at b1; lia) ?_ ?_
    · exact pset_two hp1 hd0 (by rw [List.length_map]; lia)
    · intro vs ks dr hs hS s' g1 g2 g3 v0 hv hh tk0 own Fh Nh
      obtain ⟨k0,t0,rfl,hk0⟩ := strs_mem hs hv
      have hlen := (hok k0 (upTo_ok (hS k0 hk0))).len
      have N8 := news_two Nh
      generalize hTL:(own ++ _:List (Addr × Obj)) = TL at Nh N8 ⊢
      refine wpAny_call ?_
      dsimp only [A9]
      k_dflt kla_enter
      k_steps
      exact kret_close ((by assumption:_ = Txt.splitMax k0 _ 1).trans (hok k0 (upTo_ok (hS k0 hk0))).sp) (by k_asm) (by k_asm) (by assumption)
    · intro D3 h3 dr3 tk3 out c3 ks F4 N4 l4 hs4 hn4 hS4
      refine dsrc_q (ks := ks) rfl F4 N4 hs4 (by rw [List.length_map] at b1; lia) hgb ?_ ?_
      · intro k hk9 t9 I9 oI9 C9 oC9 D9 oD9 m9 own9 h9 tk9 ga9 hga9 hC9 hm9 F9 N9 off9 ne9
        have hkok := hok k (upTo_ok ((hS4 k).mp hk9))
        have P0 := news_cons ((.tail _ (.tail _ (.tail _ (List.mem_append_right _ (.tail _ (.tail _ (.tail _ (.tail _ (.tail _ (.tail _ (.tail _ (.tail _ (.tail _ (.tail _ (.tail _ (.tail _ (.tail _ (.head _))))))))))))))))))) N9
        have P1 := news_cons ((.tail _ (.tail _ (.tail _ (.tail _ (List.mem_append_right _ (.tail _ (.tail _ (.tail _ (.tail _ (.tail _ (.tail _ (.tail _ (.tail _ (.head _))))))))))))))) P0
        have P2 := news_cons ((.tail _ (.tail _ (.tail _ (.tail _ (.tail _ (List.mem_append_right _ (.tail _ (.tail _ (.tail _ (.tail _ (.tail _ (.tail _ (.tail _ (.tail _ (.tail _ (.tail _ (.tail _ (.tail _ (.head _)))))))))))))))))))) P1
        have P3 := news_cons ((.tail _ (.tail _ (.tail _ (.tail _ (.tail _ (.tail _ (List.mem_append_right _ (.tail _ (.tail _ (.tail _ (.tail _ (.tail _ (.tail _ (.tail _ (.tail _ (.tail _ (.tail _ (.tail _ (.head _)))))))))))))))))))) P2
        have P4 := news_cons ((.tail _ (.tail _ (.tail _ (.tail _ (.tail _ (.tail _ (.tail _ (List.mem_append_right _ (.tail _ (.tail _ (.tail _ (.tail _ (.tail _ (.tail _ (.tail _ (.tail _ (.tail _ (.tail _ (.head _)))))))))))))))))))) P3
        have P5 := news_cons ((.tail _ (.tail _ (.tail _ (.tail _ (.tail _ (.tail _ (.tail _ (.tail _ (List.mem_append_right _ (.tail _ (.tail _ (.tail _ (.tail _ (.tail _ (.tail _ (.tail _ (.tail _ (.tail _ (.head _)))))))))))))))))))) P4
        have P6 := news_cons ((.tail _ (.tail _ (.tail _ (.tail _ (.tail _ (.tail _ (.tail _ (.tail _ (.tail _ (List.mem_append_right _ (.tail _ (.tail _ (.tail _ (.head _))))))))))))))) P5
        have P7 := news_cons ((.tail _ (.tail _ (.tail _ (.tail _ (.tail _ (.tail _ (.tail _ (.tail _ (.tail _ (.tail _ (List.mem_append_right _ (.tail _ (.tail _ (.tail _ (.tail _ (.tail _ (.tail _ (.head _))))))))))))))))))) P6
        have P9 := news_cons ((.tail _ (.tail _ (.tail _ (.tail _ (.tail _ (.tail _ (.tail _ (.tail _ (.tail _ (.head _))))))))))) P7
        clear P0 P1 P2 P3 P4 P5 P6 P7
        generalize hTL:((I9,oI9) :: (C9,oC9) :: (D9,oD9) :: (own9 ++ _):List (Addr × Obj)) = TL at P9 N9 ⊢
        clear N9
        k_steps
        refine Stop.of ?_
        refine call_meth P9 (by k_mem) ?_
        have P10 := news_tail (news_tail (news_tail P9))
        refine' c_qnameC (N := P10) ?k1 ?k2 ?k3 ?k5 ?kK ?kd ?ku HW k t9 hkok.len hkok.sl hga9 ?kR
        case k1 | k2 | k3 | k5=>k_asm
        case kK=>first | exact rfl | assumption
        case kd=>exact room_le hd 14 (by decide)
        case ku=>exact room_le hu 66 (by decide)
        case kR =>
          intro T t1 t2 t3 h' tk' ga' hga' hT F' N'
          exact ⟨T,t1,t2,t3,_,_,_,hga',rfl,rfl,F',news_skip6 N',fun q hq=>Nat.ne_of_lt (kst_ltOf hT q hq)⟩
      · intro D9 oD9 kvs9 own9 h9 tk9 ga9 hga9 hd9 hall9 hown9 o19
        intro F9 N9
        have P9 := news_mid (es := [_,_,_,_,_,_,_,_,_,_,_,_,_,_,_,_,_,_,_,_,_]) (own := own9) N9
        simp only [List.cons_append,List.nil_append] at P9
        replace P9 := news_pick 22 [0,7,8,9,10,11,16,17,18,19,20,21] P9
        dsimp only [pickL,nthL,dropL] at P9
        (rename PyProof.V.FlatPairs _ _ _=>hfp; clear hfp)
        (rename PyProof.V.FlatPairs _ _ _=>hfp; clear hfp)
        generalize hTL:(own9 ++ news:List (Addr × Obj)) = TL at P9
        clear N9
        k_steps
        rename_i al _ _ _ _ _ _
        refine truthy_D (by k_asm) (by k_mem) hd0 lo (by rw [List.length_map]; lia) (by rw [List.length_map]; lia) ?_
        k_steps
        (rename Fr _ _ _ _=>F11)
        refine For_listT F11 (fun _=>by with_unfolding_all rfl) rfl ?_
        k_steps
        refine Stop.of ?_
        have hnd:xs.Nodup := by
          obtain ⟨_,_,_,_,_,_,hnd⟩ := hd0
          rwa [List.map_map,show ((fun x:Str × Value=>x.1) ∘ fun x:Str=>(x,Value.str v tv)) = id from rfl,List.map_id] at hnd
        refine items_sorted (xs := xs) (val := v) (tv := tv) rfl (by k_asm) (by k_asm) (by k_mem) (by k_mem) hd0 (by lia) (by lia) hnd ?_
        intro B10 h10 tk10 own10 vs10 ks10 c10 hB10 F10 N10 hT10 hp10 hs10 ho10 hu10
        have N11 := news_mid (es := [_,_,_,_,_,_,_,_,_,_,_,_,_,_]) (own := own10) N10
        simp only [List.cons_append,List.nil_append] at N11
        have N12 := news_rot3 N11
        have ht10:∀ p ∈ own10,p.2.cls = .type "tuple" := fun p hp=>by
          obtain ⟨k,t,e⟩ := ho10 p hp
          rw [e]
          rfl
        have hal:∀ p ∈ own10 ++ TL,p.1 ≠ al := fun p hp=>by
          rcases List.mem_append.mp hp with hp | hp
          · exact off_tup N10 (.tail _ (List.mem_append_right _ (.tail _ (.head _)))) (by simp) (fun q hq=>.tail _ (List.mem_append_left _ hq)) ht10 p hp
          · rw [← hTL] at hp
            rcases List.mem_append.mp hp with hp | hp
            · refine off_tup N11 (.tail _ (.tail _ (.head _))) (by simp) (fun q hq=>?_) hown9 p hp
              repeat refine .tail _ ?_
              rw [← hTL]
              exact List.mem_append_right _ (List.mem_append_left _ hq)
            · exact Nat.ne_of_lt (Nat.lt_of_lt_of_le (kst_ltOf hlt p hp) (by first | exact Nat.le_of_lt (by kpa_ne) | lia))
        generalize hTL2:(own10 ++ TL:List (Addr × Obj)) = TL2 at N12 hal
        refine ListLoop.aj (es := [_,_,_,_,_,_,_,_,_,_,_,_,_,_]) (own0 := own10) F10 N12 (.head _) hT10 ?turn ?fin
        case turn =>
          intro i11 a11 k11 t11 own11 items11 ka11 v1 v2 v3 v4 v5 I11 oI11 h11 tk11 hk11 ha11 F13 N13 hT11 ht11 hI11 hI12
          have hkx:k11 ∈ xs := hp10.mem_iff.mp (List.mem_of_getElem? hk11)
          obtain ⟨T11,u1,u2,u3,hv11,hm11⟩ := hall9 k11 ((hS4 k11).mpr (upTo_in (.tail _ hkx)))
          have m1:(a11,pairObj k11 t11 (.str v tv)) ∈ TL2 := hTL2 ▸ List.mem_append_left _ ha11
          have m2:(T11,tup3 k11 u1 u2 u3) ∈ TL2 := hTL2 ▸ List.mem_append_right _ (hTL ▸ List.mem_append_left _ hm11)
          have hal':∀ p ∈ own11 ++ TL2,p.1 ≠ al := fun p hp=>by
            rcases List.mem_append.mp hp with hp | hp
            · exact off_tup N13 (.tail _ (.head _)) (by simp) (fun q hq=>.tail _ (.tail _ (List.mem_append_right _ (List.mem_append_left _ hq)))) ht11 p hp
            · exact hal p hp
          have nT:(@Ne Nat T11 al) := hal (T11,_) m2
          have na:(@Ne Nat a11 al) := hal (a11,_) m1
          have nIT:(@Ne Nat T11 I11) := hI11 (T11,_) (.tail _ (List.mem_append_right _ (List.mem_append_right _ m2)))
          have nIa:(@Ne Nat a11 I11) := hI11 (a11,_) (.tail _ (List.mem_append_right _ (List.mem_append_right _ m1)))
          have N14 := news_cons (.tail _ (.tail _ (List.mem_append_right _ (List.mem_append_right _ m1)))) N13
          have N15 := news_cons (.tail _ (.tail _ (.tail _ (List.mem_append_right _ (List.mem_append_right _ m2))))) N14
          simp only [pairObj,tup3,List.cons_append,List.nil_append] at N15
          have hz11:items11.size ≤ sizeLine := by
            have h1 := hT11.length
            have h2 := hp10.length_eq
            rw [Array.length_toList,List.length_take] at h1
            rw [sizeLine_eq]
            lia
          have nB:(@LT.lt Nat _ al B10) := hB10 (al,_) (.tail _ (.head _))
          generalize hTL3:(own11 ++ TL2:List (Addr × Obj)) = TL3 at N15 hal'
          clear N13 N14
          k_steps
          refine Stop.of ?_
          k_dflt (refine' append_A ?F ?N ?U hz11 ?_; (case F | N=>k_asm); (case U=>k_upd))
          intro h' F' N'
          k_steps
          refine Stop.of ?_
          subst hTL3
          refine' UnrEnd.intro ?F ?N _ ?sub ?off ?r
          case F | N=>k_asm
          case sub=>exact sub7 (es := [_,_,_,_,_,_,_,_,_,_,_,_,_,_]) (own := own11) (TL := TL2)
          case r=>exact aj_step hT11 ht11 hk11
          case off=>exact off_end hI11 (by first | k_ne | lia)
        case fin =>
          intro own12 items12 ka12 w1 w2 w3 w4 w5 h12 tk12 hT12 ht12 F14 N16
          simp only [List.cons_append,List.nil_append] at N16
          have hTc:∀ p ∈ own12 ++ TL2,p.2.cls = .type "tuple" ∨ @LT.lt Nat _ p.1 pc := fun p hp=>by
            rw [← hTL2, ← hTL] at hp
            rcases List.mem_append.mp hp with hp | hp
            · exact .inl (ht12 p hp)
            · rcases List.mem_append.mp hp with hp | hp
              · exact .inl (ht10 p hp)
              · rcases List.mem_append.mp hp with hp | hp
                · exact .inl (hown9 p hp)
                · exact .inr (kst_mem hlt p hp)
          obtain ⟨Tr,r1,r2,r3,hvr,hmr⟩ := hall9 (Str.ofString "r") ((hS4 _).mpr (upTo_in (.head _)))
          have hmr2:(Tr,tup3 (Str.ofString "r") r1 r2 r3) ∈ own12 ++ TL2 := List.mem_append_right _ (hTL2 ▸ List.mem_append_right _ (hTL ▸ List.mem_append_left _ hmr))
          have hm12:∀ p ∈ own12,p ∈ own12 ++ TL2 := fun p hp=>List.mem_append_left _ hp
          have hm13:∀ p ∈ news,p ∈ own12 ++ TL2 := fun p hp=>List.mem_append_right _ (hTL2 ▸ List.mem_append_right _ (hTL ▸ List.mem_append_right _ hp))
          generalize hTL5:(own12 ++ TL2:List (Addr × Obj)) = TL4 at N16 hTc hmr2 hm12 hm13
          have z1:∀ p ∈ TL4,p.1 ≠ al := off_all N16 (.head _) (by simp) (fun q hq=>by repeat (first | exact hq | refine .tail _ ?_)) hTc (by first | exact Nat.le_of_lt (by kpa_ne) | exact Nat.le_refl _)
          have z2:∀ p ∈ TL4,p.1 ≠ ps := off_all N16 (by k_mem) (by simp) (fun q hq=>by repeat (first | exact hq | refine .tail _ ?_)) hTc (by first | exact Nat.le_of_lt (by kpa_ne) | exact Nat.le_refl _)
          have z3:∀ p ∈ TL4,p.1 ≠ pc := off_all N16 (by k_mem) (by simp) (fun q hq=>by repeat (first | exact hq | refine .tail _ ?_)) hTc (by first | exact Nat.le_of_lt (by kpa_ne) | exact Nat.le_refl _)
          have z4:∀ p ∈ TL4,p.1 ≠ d := off_all N16 (by k_mem) (by simp) (fun q hq=>by repeat (first | exact hq | refine .tail _ ?_)) hTc (by first | exact Nat.le_of_lt (by kpa_ne) | exact Nat.le_refl _)
          have z5:∀ p ∈ TL4,p.1 ≠ ns := off_all N16 (by k_mem) (by simp) (fun q hq=>by repeat (first | exact hq | refine .tail _ ?_)) hTc (by first | exact Nat.le_of_lt (by kpa_ne) | exact Nat.le_refl _)
          have N17 := news_cons (p := (Tr,tup3 (Str.ofString "r") r1 r2 r3)) (by repeat (first | exact hmr2 | refine .tail _ ?_)) N16
          have nB:(@LT.lt Nat _ al B10) := hB10 (al,_) (.tail _ (.head _))
          have b1:(@LT.lt Nat _ x B10) := Nat.lt_trans (by kpa_ne) nB
          have b2:(@LT.lt Nat _ d B10) := Nat.lt_trans (by kpa_ne) nB
          have b3:(@LT.lt Nat _ ps B10) := Nat.lt_trans (by kpa_ne) nB
          have b4:(@LT.lt Nat _ ns B10) := Nat.lt_trans (by kpa_ne) nB
          have b5:(@LT.lt Nat _ pc B10) := Nat.lt_trans (by kpa_ne) nB
          have b6:(@LT.lt Nat _ wq B10) := Nat.lt_trans (by kpa_ne) nB
          have x0:(@LT.lt Nat _ ps D3) := l4 (ps,W.listOf #[.bool false] kps) (by k_mem)
          have x2:(@Ne Nat ps D9) := off1_mem o19 (ps,W.listOf #[.bool false] kps) (List.mem_append_right _ (by k_mem))
          have x3:(@Ne Nat pc D9) := off1_mem o19 (pc,W.listOf #[] kpc) (List.mem_append_right _ (by k_mem))
          have x4:(@Ne Nat d D9) := off1_mem o19 (d,_) (List.mem_append_right _ (by k_mem))
          have x5:(@Ne Nat ns D9) := off1_mem o19 (ns,_) (List.mem_append_right _ (by k_mem))
          have y1:(@Ne Nat Tr al) := z1 (Tr,_) hmr2
          have y2:(@Ne Nat Tr ps) := z2 (Tr,_) hmr2
          have y3:(@Ne Nat Tr pc) := z3 (Tr,_) hmr2
          have y4:(@Ne Nat Tr d) := z4 (Tr,_) hmr2
          have y5:(@Ne Nat Tr ns) := z5 (Tr,_) hmr2
          have hg9:valueAt (xs.map fun x=>(x,Value.str v tv)) (Str.ofString "{http://www.w3.org/XML/1998/namespace}space") = none := by
            unfold valueAt
            rw [Option.map_eq_none_iff,List.find?_eq_none]
            intro p hp
            obtain ⟨x,hx,rfl⟩ := List.mem_map.mp hp
            have := (hok x (.tail _ hx)).ns
            simpa using this
          have hz12:items12.size = ks10.length := by rw [← Array.length_toList]; exact hT12.length
          have hz13:ks10.length = xs.length := hp10.length_eq
          have hz14:1 ≤ items12.size := by lia
          have hz15:items12.size ≤ 20 := by lia
          clear N16
          k_steps
          refine Stop.of ?_
          k_dflt (refine kdg_none (by k_asm) (by k_mem) (by k_asm) (by assumption) hg9 ?_)
          k_steps
          refine Stop.of ?_
          k_dflt (refine' append_N ?F ?N ?U ?z ?_; (case F | N=>k_asm); (case U=>k_upd); (case z=>exact Nat.le_of_ble_eq_true rfl))
          intro h' F' N'
          (try simp only [List.nil_append,List.cons_append] at N')
          k_steps
          refine Stop.of ?_
          k_dflt (refine' bound_append_N ?F ?N ?q ?U ?z ?_; (case F | N=>k_asm); (case q=>k_mem); (case U=>k_upd); (case z=>exact Nat.le_of_ble_eq_true rfl))
          intro h' F' N'
          k_steps
          refine Stop.of ?_
          k_dflt (refine LCp.ListComp_P (F₀ := by k_asm) (by with_unfolding_all rfl) (by decide) (by rfl) (by decide) (by rfl) (by rfl) (by decide) ?_)
          k_steps
          refine Stop.of ?_
          have hz16:items12.size ≤ sizeLine := by rw [sizeLine_eq]; lia
          refine LCp.SrcLP.ledger (its := items12) (by rfl) (by k_asm) (by k_asm) (by k_mem) hz16 (fun g9=>?_)
          refine compP_gen ks10 (fun k v1 v2=>(∃ t,v1 = .str k t) ∧ v2 = .str v tv) (fun k y=>∃ t,y = .str (rowOf ev k) t) hz12.symm ?cP ?cT ?cF
          case cP =>
            intro i y _ hy
            obtain ⟨a,k,t,e,hk,hm⟩ := hT12.get (i := i) (y := y) (by simpa using hy)
            exact ⟨k,a,pairObj k t (.str v tv),.str k t,.str v tv,0,hk,e,by repeat (first | exact hm12 _ hm | refine .tail _ ?_),rfl,rfl,⟨t,rfl⟩,rfl⟩
          case cT =>
            intro k9 v8 v9 I' oI' C' oC' D' m' ys' h' tk' E' hk9 hR9 hC' hx' hx2' F' N' off' ne'
            obtain ⟨⟨t9,rfl⟩,rfl⟩ := hR9
            have hl9 := (hok k9 (.tail _ (hp10.mem_iff.mp hk9))).len
            have hev := esc_len hv
            have z0 := (row_parts hl9 hev).1
            have z1 := (row_parts hl9 hev).2.1
            have z2 := (row_parts hl9 hev).2.2.1
            have z3 := (row_parts hl9 hev).2.2.2.1
            have z4 := (row_parts hl9 hev).2.2.2.2
            k_steps
            refine Stop.of ?_
            refine' c_escape ?k1 ?k2 ?k3 ?k4 ?k5 ?kK ?kd ?ku v ev tv hv ?kR
            case k1 | k2 | k3 | k4 | k5=>k_asm
            case kK=>first | exact rfl | assumption
            case kd=>exact room_le hd 14 (by decide)
            case ku=>exact room_le hu 66 (by decide)
            case kR =>
              intro t8 h8 tk8 F8 N8
              k_steps
              all_goals exact LCg.CompEnd.intro (by k_asm) (by k_asm) _ (fun p hp=>hp) off' (Or.inr ⟨_,by k_mem,rfl,_,rfl⟩) ⟨rfl,_,rfl⟩
          case cF =>
            intro ys hy D9 h9 tk9 F9 N9 o9
            have o1:(@Ne Nat pc D9) := off1_mem o9 (pc,_) (by k_mem)
            have o2:(@Ne Nat d D9) := off1_mem o9 (d,_) (by k_mem)
            have o3:(@Ne Nat ns D9) := off1_mem o9 (ns,_) (by k_mem)
            clear o9
            have hs9 := hy.strs
            have hb9:((ks10.map (rowOf ev)).map fun y=>y.length).sum ≤ 200 := by
              have h1 := sum_len_le (ks10.map (rowOf ev)) 20 (fun y hy=>by obtain ⟨x,hx,rfl⟩ := List.mem_map.mp hy; exact rowOf_len (esc_len hv) (hok x (.tail _ (hp10.mem_iff.mp hx))).len)
              rw [List.length_map] at h1
              lia
            k_steps
            refine Stop.of ?_
            k_dflt (refine join_b 200 (News.isList (by k_asm) (by k_mem)) (by assumption) (by assumption) (by decide) ?_)
            intro J9 t9 k9 eJ lJ9
            k_steps
            refine Stop.of ?_
            k_dflt (refine' bound_append_N ?F ?N ?q ?U ?z ?_; (case F | N=>k_asm); (case q=>k_mem); (case U=>k_upd); (case z=>exact Nat.le_of_ble_eq_true rfl))
            intro h' F' N'
            k_steps
            refine Stop.of ?_
            k_dflt (refine' bound_append_N ?F ?N ?q ?U ?z ?_; (case F | N=>k_asm); (case q=>k_mem); (case U=>k_upd); (case z=>exact Nat.le_of_ble_eq_true rfl))
            intro h' F' N'
            k_steps
            refine Stop.of ?_
            refine' set_dict ?k1 ?k2 ?k3 ?k4 ?k5 ?k6 ?k7 ?k8 ?k9 HW.se rfl ?k12 (Nat.le_trans (putL_len es) (Nat.le_trans (Nat.succ_le_succ w12) (by decide))) ?_
            case k1 | k2 | k3=>k_asm
            case k4=>k_inst
            case k5=>exact rfl
            case k6 | k7 | k8 | k9=>k_is
            case k12=>k_upd
            intro h12 F12 N12
            k_steps
            refine Stop.of ?_
            k_dflt (refine' append_N ?F ?N ?U ?z ?_; (case F | N=>k_asm); (case U=>k_upd); (case z=>exact Nat.le_of_ble_eq_true rfl))
            intro h' F' N'
            (try simp only [List.nil_append,List.cons_append] at N')
            k_steps
            (rename News _ _ _ _=>NZ)
            refine' hret ks10 _ _ _ _ _ _ _ _ _ hga9 hp10 hs10 (by k_asm) ?NN
            case NN =>
              rw [← eJ]
              exact news_of4 NZ (by k_mem) (by k_mem) (by k_mem) (by k_mem) (fun q hq=>by repeat (first | exact hm13 q hq | refine .tail _ ?_))
end Mine
end
section
open PySem PySem.W PyProof.Rows PySem.Spec PySem.Calls
namespace Mine
noncomputable def nD (o:Obj):Bool := match o.cls with
  | .type c=>!(c == "dict")
  | _=>true
inductive Set_ (name:Str) (v:Value) (es es':List DictEntry) (b:Nat):Prop
  | mk (_:es'.length ≤ b) (_:getL name es' = some (some v)) (_:∀ y,y ≠ name -> getL y es' = getL y es) (_:∀ y,(getL y es').isSome = true)
theorem Set_.len {name:Str} {v:Value} {es es':List DictEntry} {b:Nat} (h:Set_ name v es es' b):es'.length ≤ b := by cases h; assumption
theorem Set_.get {name:Str} {v:Value} {es es':List DictEntry} {b:Nat} (h:Set_ name v es es' b):getL name es' = some (some v) := by cases h; assumption
theorem Set_.mono {name:Str} {v:Value} {es es':List DictEntry} {b:Nat} (h:Set_ name v es es' b) {y:Str} (hy:y ≠ name):getL y es' = getL y es := by
  cases h with
  | mk _ _ m _=>exact m y hy
theorem Set_.all {name:Str} {v:Value} {es es':List DictEntry} {b:Nat} (h:Set_ name v es es' b):∀ y,(getL y es').isSome = true := by cases h; assumption
theorem putL_at {name:Str} {hs:Int} {t:Tok} {v:Value} (es:List DictEntry):((putL name hs (.str name t) v es).find? (·.key.isStr name)).map (·.val) = some v := by
  induction es with
  | nil =>
    have h:(⟨hs,.str name t,v⟩:DictEntry).key.isStr name = true := show (Value.str name t).isStr name = true by simp [Value.isStr]
    show Option.map _ (List.find? _ [_]) = _
    rw [List.find?_cons,h]
    rfl
  | cons e r ih =>
    unfold putL
    split
    · rename_i he
      rw [List.find?_cons,show (⟨e.hash,e.key,v⟩:DictEntry).key.isStr name = true from he]
      rfl
    · rename_i he
      rw [List.find?_cons,show e.key.isStr name = false by simpa using he]
      exact ih
theorem putL_get {name:Str} {hs:Int} {t:Tok} {v:Value} (es:List DictEntry):getL name (putL name hs (.str name t) v es) = some (some v) := by
  have h := putL_at (hs := hs) (t := t) (v := v) (name := name) es
  unfold getL
  cases e:(putL name hs (.str name t) v es).find? (·.key.isStr name) with
  | none=>rw [e] at h; cases h
  | some x=>rw [e] at h; exact congrArg some h
inductive Spl (d:Addr) (o:Obj):List (Addr × Obj) -> List (Addr × Obj) -> Prop
  | here (r):Spl d o ((d,o) :: r) r
  | there {p l r} (h:Spl d o l r):Spl d o (p :: l) (p :: r)
theorem Spl.mem {d:Addr} {o:Obj} {l r:List (Addr × Obj)} (h:Spl d o l r):(d,o) ∈ l ∧ ∀ p ∈ r,p ∈ l := by
  induction h with
  | here r=>exact ⟨.head _,fun p hp=>.tail _ hp⟩
  | there _ ih=>exact ⟨.tail _ ih.1,all_cons (.head _) fun p hp=>.tail _ (ih.2 p hp)⟩
theorem Spl.upd {d:Addr} {o:Obj} (o':Obj) {l r:List (Addr × Obj)} (h:Spl d o l r):(∀ p ∈ r,p.1 ≠ d) -> ∃ l',Upd d o o' l l' ∧ ∀ p ∈ (d,o') :: r,p ∈ l' := by
  induction h with
  | here r=>exact fun g=>⟨_,.head g,fun p hp=>hp⟩
  | @there p l r _ ih =>
    intro g
    obtain ⟨l',u,m⟩ := ih fun q hq=>g q (.tail _ hq)
    exact ⟨p :: l',.tail (g p (.head _)) u,all_cons (.tail _ (m _ (.head _))) (all_cons (.head _) fun q hq=>.tail _ (m q (.tail _ hq)))⟩
theorem off_dict {h₀ h:Heap} {L d:Addr} {l r:List (Addr × Obj)} {es:List DictEntry} {n:Nat} {news:List (Addr × Obj)} (N:News h₀ L h l) (hd:(d,dictOf es n) ∈ l) (hs:∀ p ∈ r,p ∈ l) (hr:∀ p ∈ r,nD p.2 = true ∨ p ∈ news ∨ (∃ v,p.2.data = .cell v) ∨ p.1 ≠ d) (hn:∀ p ∈ news,p.1 ≠ d):∀ p ∈ r,p.1 ≠ d := by
  intro p hp e
  have h1 := (N _ hd).1
  have h2 := (N _ (hs p hp)).1
  rw [e,h1] at h2
  rcases hr p hp with q | q | ⟨v,q⟩ | q
  · rw [← Option.some.inj h2] at q
    exact Bool.noConfusion q
  · exact hn p q e
  · rw [← Option.some.inj h2] at q
    cases q
  · exact q e
theorem off_of_lt {h₀ h:Heap} {L d:Addr} {a:Addr × Obj} {o:Obj} {r news:List (Addr × Obj)} (_N:News h₀ L h (a :: (d,o) :: r)) (g:AllLt d news):∀ p ∈ news,p.1 ≠ d := fun p hp=>Nat.ne_of_lt (kst_ltOf g p hp)
theorem all_a {news r:List (Addr × Obj)} {d:Addr} {p:Addr × Obj} (h:∀ q ∈ r,nD q.2 = true ∨ q ∈ news ∨ (∃ v,q.2.data = .cell v) ∨ q.1 ≠ d) (e:nD p.2 = true := by exact rfl):∀ q ∈ p :: r,nD q.2 = true ∨ q ∈ news ∨ (∃ v,q.2.data = .cell v) ∨ q.1 ≠ d := all_cons (.inl e) h
theorem all_c {news r:List (Addr × Obj)} {d:Addr} {p:Addr × Obj} {v:Option Value} (h:∀ q ∈ r,nD q.2 = true ∨ q ∈ news ∨ (∃ v,q.2.data = .cell v) ∨ q.1 ≠ d) (e:p.2.data = .cell v := by assumption):∀ q ∈ p :: r,nD q.2 = true ∨ q ∈ news ∨ (∃ v,q.2.data = .cell v) ∨ q.1 ≠ d := all_cons (.inr (.inr (.inl ⟨v,e⟩))) h
theorem all_n {news r:List (Addr × Obj)} {d:Addr} {p:Addr × Obj} (h:∀ q ∈ r,nD q.2 = true ∨ q ∈ news ∨ (∃ v,q.2.data = .cell v) ∨ q.1 ≠ d) (e:p.1 ≠ d := by k_ne):∀ q ∈ p :: r,nD q.2 = true ∨ q ∈ news ∨ (∃ v,q.2.data = .cell v) ∨ q.1 ≠ d := all_cons (.inr (.inr (.inr e))) h
theorem all_e {news:List (Addr × Obj)} {d:Addr} : ∀ q ∈ news,nD q.2 = true ∨ q ∈ news ∨ (∃ v,q.2.data = .cell v) ∨ q.1 ≠ d := fun _ h=>.inr (.inl h)
theorem both_a {name:Str} {v:Value} {es es':List DictEntry} {b:Nat} (h:Set_ name v es es' b := by assumption):(∀ y,(getL y es').isSome = true) ∧ es'.length ≤ b := ⟨h.all,h.len⟩
theorem both_0:(∀ y,(getL y []).isSome = true) ∧ ([]:List DictEntry).length ≤ 0 := ⟨fun _=>rfl,Nat.zero_le 0⟩
theorem get_a {name:Str} {v:Value} {es es':List DictEntry} {b:Nat} (h:Set_ name v es es' b := by with_reducible assumption):getL name es' = some (some v) := h.get
theorem mono_t {name y:Str} {v:Value} {es es':List DictEntry} {b:Nat} {x:Option (Option Value)} (h:Set_ name v es es' b := by with_reducible assumption) (hy:y ≠ name := by decide +kernel) (t:getL y es = x := by k_get):getL y es' = x := (h.mono hy).trans t
theorem set_S {prog:Program} {w:World} {A:Around} {E:Value -> Shared -> Prop} {s:Shared} {K:Frag} {x C dx L:Addr} {h₀:Heap} {m:Str -> Option Value} {news l r:List (Addr × Obj)} {ox:Obj} {es:List DictEntry} {n b:Nat} {name:Str} {v:Value} {Q:Unit -> Shared -> Prop}
    (h:∀ es' n' h',Set_ name v es es' (b + 1) -> Fr h₀ L h' m -> News h₀ L h' ((dx,dictOf es' n') :: r) -> Q () { s with heap := h',toks := s.toks + 2 })
    (F:Fr h₀ L s.heap m := by k_asm) (X₀:K.In h₀ := by k_asm) (N:News h₀ L s.heap l := by k_asm) (I:InstAt s.heap x ox C (some (dictOf es n)) := by k_inst) (hd:ox.dict = some dx := by exact rfl) (sp:Spl dx (dictOf es n) l r := by repeat constructor) (hn:∀ p ∈ news,p.1 ≠ dx := by assumption)
    (hr:∀ p ∈ r,nD p.2 = true ∨ p ∈ news ∨ (∃ v,p.2.data = .cell v) ∨ p.1 ≠ dx := by repeat (first | exact all_e | refine all_a ?_ | refine all_c ?_ | refine all_n ?_))
    (hs:findIn K (.ref C) "__setattr__" = some (some (.builtin "object.__setattr__")) := by k_is) (hp:plainOver K C = true := by k_is) (ht:takerIn K C name = some none := by k_is) (hh:hasDictIn K C = true := by k_is)
    (hl:(∀ y,(getL y es).isSome = true) ∧ es.length ≤ b := by first | exact both_a | exact both_0) (hz:b + 1 ≤ 1000 := by decide) :
    wpAny (model prog w) A (setAttr (.ref x) name v) Q E s := by
  have o1 := off_dict N sp.mem.1 sp.mem.2 hr hn
  have hlen:(putL name (PyData.keyHash w.params name) (.str name (s.toks + 1)) v es).length ≤ b + 1 := Nat.le_trans (putL_len es) (Nat.succ_le_succ hl.2)
  obtain ⟨l',u,m⟩ := sp.upd (dictOf (putL name (PyData.keyHash w.params name) (.str name (s.toks + 1)) v es) (putN name es n)) o1
  refine set_dict F X₀ N I hd hs hp ht hh (hl.1 name) rfl u (Nat.le_trans hlen hz) fun h' F' N' => ?_
  refine h (putL name (PyData.keyHash w.params name) (.str name (s.toks + 1)) v es) (putN name es n) h' ⟨hlen,putL_get es,fun y hy=>getL_putL hy,fun y=>?_⟩ F' fun p hp=>N' p (m p hp)
  by_cases q:y = name
  · rw [q,putL_get]
    rfl
  · rw [getL_putL q]
    exact hl.1 y
theorem Set_.both {name:Str} {v:Value} {es es':List DictEntry} {b:Nat} (h:Set_ name v es es' b):(∀ y,(getL y es').isSome = true) ∧ es'.length ≤ b := ⟨h.all,h.len⟩
end Mine
end
section
open PySem PySem.W PyProof.Rows PySem.Spec PySem.Calls
namespace Mine
theorem page_news {h₀ h:Heap} {L:Addr} {D ps pm y2 di ns S l1 X1 da x d wq pc c t:Addr × Obj} {news:List (Addr × Obj)} (N:News h₀ L h (D :: d :: ps :: pm :: y2 :: di :: ns :: S :: l1 :: X1 :: da :: x :: wq :: pc :: c :: t :: news)):News h₀ L h (x :: d :: S :: l1 :: X1 :: da :: ps :: ns :: wq :: pc :: D :: t :: news) := news_pick 16 [11,1,7,8,9,10,2,6,12,13,0,15] N
noncomputable def pageOf (ev:Str) (ks:List Str):Str := Txt.join (.ofString "") [.ofString "<r",Txt.join (.ofString "") (ks.map (rowOf ev)),.ofString ">"]
local macro_rules | `(tactic| walk_at "getMethod ref")=>`(tactic| (k_here; (with_reducible show wpAny _ _ (getMethod (Value.ref 44) (Str.ofString "items") _) _ _ _); k_dflt (refine ns_getMethod (by k_in) ?_)))
local macro_rules | `(tactic| walk_at "call builtin:dict.items")=>`(tactic| (k_here; refine Stop.mk ?_))
local macro_rules | `(tactic| walk_at "call type:list")=>`(tactic| (k_here; refine Stop.mk ?_))
local macro_rules | `(tactic| k_get)=>`(tactic| first | with_reducible assumption | exact get_a | exact mono_t | exact rfl)
local macro_rules | `(tactic| walk_at "setAttr ref")=>`(tactic| (k_here; k_dflt (refine set_S ?_); intro es' n' h' S' F' N'; (try k_sweep)))
section
variable {M:Model} {A:Around} {E Q:Value -> Shared -> Prop} {s:Shared}
theorem stop_c120 {as:List Value} (h:Stop (wpAny M A (call (.ref 120) as) Q E s)):wpAny M A (call (.ref 120) as) Q E s := h
theorem stop_app {a:Addr} {x:_} (h:Stop (wpAny M A (getAttr (.ref a) (Str.ofString "append") x) Q E s)):wpAny M A (getAttr (.ref a) (Str.ofString "append") x) Q E s := h
end
local macro_rules | `(tactic| walk_at "call ref")=>`(tactic| (k_here; (with_reducible refine stop_c120 ?_)))
local macro_rules | `(tactic| walk_at "getAttr ref")=>`(tactic| (k_here; (with_reducible refine stop_app ?_)))
theorem hide_m {h₀ h:Heap} {L:Addr} {m:Str -> Option Value} {P:Prop} (F:Fr h₀ L h m) (k:∀ mm,(∀ x v,m x = some v -> mm x = some v) -> Fr h₀ L h mm -> P):P := k m (fun _ _ h=>h) F
local macro_rules | `(tactic| walk_at "eval Name")=>`(tactic| (k_here; k_dflt (refine nameX_E (hv := by with_reducible assumption) ?_); k_whole))
local macro_rules | `(tactic| walk_at "eval Name")=>`(tactic| (k_here; (with_reducible refine stop_name (Str.ofString "write") ?_)))
theorem c_page
    (B:Below A₀ base outer h₀) (F:Fr h₀ L s.heap m) (X:(KF w.params).In h₀) (N:News h₀ L s.heap ((123,tabObj #[]) :: news)) (T:Top p loose mean mg mb h₀) (hk:cs.kind = .function) (hd:dp + 40 < recursionLimit) (hu:un + 400 < cLine)
    (ln:Addr) (vs:List Value) (xs:List Str) (v:Str) (t:Tok) (kk:Nat) (hl:(ln,W.listOf vs.toArray kk) ∈ news) (hxs:StrsAre vs xs) (ev:Str) (hv:(v,ev) ∈ escTab) (hok:∀ k ∈ Str.ofString "r" :: xs,NameOk k) (hnd:xs.Nodup) (hm:xs.length = 6 ∨ xs.length = 9 ∨ xs.length = 10) (hne:∀ p ∈ news,p.1 ≠ 123) (hgb:AllBare s.gens)
    (hret:∀ (ks:List Str) (psT:Array Value) (t:Tok) (h':Heap) (tk':Nat) ga' dr',AllBare ga' -> ks.Perm xs -> ks.Pairwise (fun a b=>sLt a b = true) -> Fr h₀ L h' m -> News h₀ L h' ((123,tabObj psT) :: news) -> Q (.str (pageOf ev ks) t) { s with heap := h',toks := tk',gens := ga',drawn := dr' }) :
    wpAny (model prog w) (ktrTop dp un gd cn cs L a ccd cl outer) (call (.ref 258) [.ref ln,.str v t]) Q E s := by
  w_on
  refine wpAny_call ?_
  k_dflt (refine' code_defC ?k1 ?k2 ?k3 ?k4 ?k5 ?kA ?kF ?kK ?k6 ?k7 ?k8 ?k9 ?kB ?kD ?_ ?c2 ?c3 ?c4; (case kA | kF=>exact rfl); (case kK=>assumption); (case k1 | k2=>k_asm); (case k3 | k4 | k5=>k_asm); (case k6 | k7=>k_is); (case k8=>ktr_room); (case k9=>exact BindsTo.of_eq rfl); (case kB=>exact rfl); (case kD=>decide +kernel); (case c2 | c3 | c4=>exact rfl); k_whole; intro g' L' h' tk' cells' FG' F' N' Y' B' X' T' l1; (try k_lt l1); k_cells Y'; (try simp only [List.cons_append,List.nil_append] at N'); (try dsimp only); (try k_lift B'); (try k_fold))
  (rename Fr _ _ _ (fun _=>_)=>F0); refine foldEM F0 ?_; clear F0; intro e9 m9 F0
  k_steps
  refine Stop.of ?_
  k_dflt (refine append_attr_N (by k_asm) (by k_asm) (by k_mem) ?_)
  intro q' h' tk' F' N' l1
  (try k_lt l1)
  k_steps
  refine Stop.of ?_
  (rename News _ _ _ _=>N0)
  have hn9 := off_of_lt (news := news) N0 (by kpa_ne)
  (rename Fr _ _ _ _=>F0)
  refine hide_m F0 fun mm hmm Fm=>?_
  have qq:mm (Str.ofString "self") = some _ ∧ mm (Str.ofString "write") = some _ ∧ mm (Str.ofString "with_comments") = some _ ∧ mm (Str.ofString "strip_text") = some _ ∧ mm (Str.ofString "exclude_attrs") = some _ ∧ mm (Str.ofString "exclude_tags") = some _ ∧ mm (Str.ofString "rewrite_prefixes") = some _ ∧ mm (Str.ofString "qname_aware_tags") = some _ ∧ mm (Str.ofString "qname_aware_attrs") = some _ :=
    ⟨hmm _ _ rfl,hmm _ _ rfl,hmm _ _ rfl,hmm _ _ rfl,hmm _ _ rfl,hmm _ _ rfl,hmm _ _ rfl,hmm _ _ rfl,hmm _ _ rfl⟩
  clear hmm F0
  have q1 := qq.1
  have q2 := qq.2.1
  have q3 := qq.2.2.1
  have q4 := qq.2.2.2.1
  have q5 := qq.2.2.2.2.1
  have q6 := qq.2.2.2.2.2.1
  have q7 := qq.2.2.2.2.2.2.1
  have q8 := qq.2.2.2.2.2.2.2.1
  have q9 := qq.2.2.2.2.2.2.2.2
  clear qq
  k_dflt (refine' nameX_L Fm q2 ?_ rfl rfl)
  k_steps
  refine Stop.of ?_
  k_dflt (refine ns_items (by k_in) (by k_asm) (by k_asm) ?_)
  intro D' h' F' N' l1
  (try k_lt l1)
  k_steps
  refine Stop.of ?_
  k_dflt (refine ns_list (by rfl) (by k_in) (by k_asm) (by k_asm) (by k_mem) ?_)
  intro D' h' tk' F' N' l1
  (try k_lt l1)
  k_steps
  refine Stop.of ?_
  k_dflt (refine' append_N ?F ?N ?U ?z ?_; (case F | N=>k_asm); (case U=>k_upd); (case z=>exact Nat.le_of_ble_eq_true rfl))
  intro h' F' N'
  (try simp only [List.nil_append,List.cons_append] at N')
  (try k_sweep)
  k_steps
  refine Stop.of ?_
  k_dflt (refine' append_N ?F ?N ?U ?z ?_; (case F | N=>k_asm); (case U=>k_upd); (case z=>exact Nat.le_of_ble_eq_true rfl))
  intro h' F' N'
  (try simp only [List.nil_append,List.cons_append] at N')
  (try k_sweep)
  k_steps
  refine Stop.of ?_
  (rename News _ _ _ _=>N9)
  (rename Fr _ _ _ _=>F9)
  have z9:@LT.lt Nat _ _ _ := Heap.lt_size (N9 _ (.tail _ (.head _))).1
  dsimp only at z9
  refine DictComp_J F9 (by with_unfolding_all rfl) (by decide) (by rfl) (by decide) (by rfl) (by decide) ?_
  k_steps
  refine dsrc_v (ax := ln) (its := vs.toArray) (xs := xs) (.str v t) rfl (by k_asm) (by k_asm) (by repeat (first | exact hl | refine .tail _ ?_)) (by simpa using hxs) (by lia) hnd hgb ?turn ?fin
  case turn =>
    intro y9 t9 I9 oI9 C9 oC9 D9 oD9 m9 h9 tk9 ga9 hga9 hC9 hm9 F8 N8 off9 ne9
    k_steps
    exact ⟨_,_,rfl,rfl,by k_asm,by k_asm⟩
  case fin =>
    intro D9 oD9 h9 tk9 ga9 hga9 hlt9 hd9 o9 F8 N8
    dsimp only at hlt9
    have NP := page_news N8
    k_steps
    refine Stop.of ?_
    refine' c_start ?k1 ?k2 ?k3 NP ?k5 ?kK ?kd ?ku ?HW xs v ev t _ hv hd9 hok ?lo hm ?hor ?h123 hne ?hlt hga9 ?kR
    case k1 | k2 | k3 | k5=>k_asm
    case kK=>first | exact rfl | assumption
    case kd=>exact room_le hd 31 (by decide)
    case ku=>exact room_le hu 303 (by decide)
    case HW=>exact ⟨by k_get,by k_get,by k_get,by k_get,by k_get,by k_get,by k_get,by k_get,by k_get,by k_get,by k_get,by k_get,by k_get,Option.isSome_iff_exists.mpr ⟨_,by k_get⟩,Nat.le_trans (Set_.len (by assumption)) (by decide)⟩
    case lo=>exact beq_eq_false_iff_ne.mpr (Nat.ne_of_gt (Nat.lt_of_le_of_lt (Nat.lt_of_le_of_lt (Nat.zero_le _) z9) hlt9))
    case hor=>refine ⟨?_,?_,?_,?_,?_,?_,?_,?_,?_,?_⟩ <;> first | exact Nat.lt_trans z9 hlt9 | kpa_ne | lia
    case h123=>first | kpa_ne | lia
    case hlt=>exact And.right (And.right (by assumption:@LT.lt Nat _ _ _ ∧ @LT.lt Nat _ _ _ ∧ AllLt _ news))
    case kR =>
      intro ks9 t1 t2 t3 kp oT h8 tk8 ga8 dr8 hga8 hp8 hs8 F7 N7
      k_steps
      have hb1:(Txt.join (Str.ofString "") (ks9.map (rowOf ev))).length ≤ 200 := by
        rw [join_empty_len]
        have h1 := sum_len_le (ks9.map (rowOf ev)) 20 (fun y hy=>by obtain ⟨x,hx,rfl⟩ := List.mem_map.mp hy; exact rowOf_len (esc_len hv) (hok x (.tail _ (hp8.mem_iff.mp hx))).len)
        have h2 := hp8.length_eq
        rw [List.length_map] at h1
        lia
      refine join_b (ys := [Str.ofString "<r",Txt.join (Str.ofString "") (ks9.map (rowOf ev)),Str.ofString ">"]) 300 (News.isList (by k_asm) (by k_mem)) (.cons _ _ (.cons _ _ (.cons _ _ .nil))) ?_ (by decide) ?_
      · have e1:(Str.ofString "<r").length = 2 := by decide +kernel
        have e2:(Str.ofString ">").length = 1 := by decide +kernel
        simp only [List.map_cons,List.map_nil,List.sum_cons,List.sum_nil,e1,e2]
        lia
      intro J9 t9 k9 eJ9 lJ9
      subst eJ9
      k_steps
      refine hret ks9 oT _ _ _ _ _ hga8 hp8 hs8 (by k_asm) ?NN
      case NN=>(first | k_asm | (refine' cb_drop ?cbN ?cbS; (case cbN=>k_asm); (case cbS=>kcj_all)))
end Mine
end
section
open PySem PySem.W PyProof.Rows PySem.Spec PySem.Calls
namespace Mine
noncomputable abbrev one (c:Nat):Str := ⟨#[c]⟩
theorem valueAt_stored {K:Type} [DecidableEq K] (kvs:List (K × Value)) (k:K) (v:Value) (h:valueAt kvs k = none) (j:K):valueAt (stored kvs k v) j = if j = k then some v else valueAt kvs j := by
  rw [stored_absent h]
  unfold valueAt at *
  rw [List.find?_append]
  by_cases e:j = k
  · subst e
    rw [if_pos rfl]
    have h':kvs.find? (fun kv=>decide (kv.1 = j)) = none := by simpa using h
    rw [h']
    simp
  · rw [if_neg e]
    have h2 : [(k,v)].find? (fun kv=>decide (kv.1 = j)) = none := by simp [Ne.symm e]
    rw [h2,Option.or_none]
/-- what is kept of the table: each stored value is the sign's prepared text. -/
structure Tab (g:Nat -> Str) (n:Nat) (kvs:List (Str × Value)):Prop where
  val:∀ c v,valueAt kvs (one c) = some v -> ∃ t,v = .str (g c) t
  len:kvs.length ≤ n
section
variable {prog:Program} {w:World} {A:Around} {E:Value -> Shared -> Prop} {s:Shared} {env:Env} {h₀:Heap} {x:Str} {body:List Stmt} {Q:Flow -> Shared -> Prop} {I D:Addr} {news:List (Addr × Obj)}
/-- the loop over the signs of a text that fills a table; `m₀` binds all but the loop's name. -/
theorem tab_loop (g:Nat -> Str) (m₀:Str -> Option Value)
    (step:∀ (c:Nat) (u:Tok) (it:Obj) h tk (kvs:List (Str × Value)) (o:Obj) (n:Nat),n ≤ 400 -> o.IsDictOf (PySem.strKind prog w) kvs -> Tab g n kvs -> Fr h₀ env.locals h (fun y=>if y = x then some (.str (one c) u) else m₀ y) -> News h₀ env.locals h ((I,it) :: (D,o) :: news) ->
      wpAny (model prog w) A (execs body env) (UnrPost h₀ env.locals { s with heap := h,toks := tk } I it (fun m' n' => (∃ v,m' = fun y=>if y = x then v else m₀ y) ∧ ∃ o' kvs',n' = (D,o') :: news ∧ o'.IsDictOf (PySem.strKind prog w) kvs' ∧ Tab g (n + 1) kvs' ∧ (valueAt kvs' (one c)).isSome = true ∧ ∀ d,(valueAt kvs (one d)).isSome = true -> (valueAt kvs' (one d)).isSome = true) Q) E { s with heap := h,toks := tk }) :
    ∀ (l:List Nat) (v:Option Value) (o:Obj) (kvs:List (Str × Value)) (n:Nat),n + l.length ≤ 400 -> o.IsDictOf (PySem.strKind prog w) kvs -> Tab g n kvs ->
      (∀ (o':Obj) kvs' v' h tk,o'.IsDictOf (PySem.strKind prog w) kvs' -> Tab g 400 kvs' -> (∀ c ∈ l,(valueAt kvs' (one c)).isSome = true) -> (∀ d,(valueAt kvs (one d)).isSome = true -> (valueAt kvs' (one d)).isSome = true) -> Fr h₀ env.locals h (fun y=>if y = x then v' else m₀ y) -> News h₀ env.locals h ((D,o') :: news) -> Q .next { s with heap := h,toks := tk }) ->
      StrRest prog w A E h₀ env x body Q s I (l.map one) (fun y=>if y = x then v else m₀ y) ((D,o) :: news) := by
  intro l
  induction l with
  | nil=>exact fun v o kvs n hn hd ht fin=>StrRest.zero fun h tk F N=>fin o kvs v h tk hd ⟨ht.val,by have := ht.len; have := hn; simp only [List.length_nil] at this; lia⟩ (fun _ h=>nomatch h) (fun _ h=>h) F N
  | cons c l ih =>
    intro v o kvs n hn hd ht fin
    refine StrRest.succ fun u it h tk F N=>?_
    have F':Fr h₀ env.locals h (fun y=>if y = x then some (.str (one c) u) else m₀ y) := by
      have e:(fun y=>if y = x then some (Value.str (one c) u) else if y = x then v else m₀ y) = fun y=>if y = x then some (.str (one c) u) else m₀ y := by
        funext y
        by_cases q:y = x
        · rw [if_pos q,if_pos q]
        · rw [if_neg q,if_neg q,if_neg q]
      rw [← e]
      exact F
    have hn':n + 1 + l.length ≤ 400 := by simp only [List.length_cons] at hn; lia
    refine wpAny_mono (step c u it h tk kvs o n (by lia) hd ht F' N) (fun f s₂ q=>?_) fun _ _ e=>e
    have mono:∀ {rest rest':(Str -> Option Value) -> List (Addr × Obj) -> Prop},(∀ m' n',rest m' n' -> rest' m' n') -> UnrPost h₀ env.locals { s with heap := h,toks := tk } I it rest Q f s₂ -> UnrPost h₀ env.locals { s with heap := h,toks := tk } I it rest' Q f s₂ := by
      intro rest rest' hr q
      cases f with
      | ret v=>exact q
      | brk=>exact q
      | next=>obtain ⟨h',tk',m',n',e,F',N',off,r⟩ := q; exact ⟨h',tk',m',n',e,F',N',off,hr _ _ r⟩
      | cont=>obtain ⟨h',tk',m',n',e,F',N',off,r⟩ := q; exact ⟨h',tk',m',n',e,F',N',off,hr _ _ r⟩
    refine mono ?_ q
    rintro m' n' ⟨⟨v',rfl⟩,o',kvs',rfl,hd',ht',hc,hsub⟩
    exact ih v' o' kvs' (n + 1) hn' hd' ht' fun o2 kvs2 v2 h2 tk2 hd2 ht2 hall hsub2 F2 N2 =>
      fin o2 kvs2 v2 h2 tk2 hd2 ht2 (fun d hdm=>by
        rcases List.mem_cons.mp hdm with rfl | hdm
        · exact hsub2 _ hc
        · exact hall d hdm) (fun d hd0=>hsub2 d (hsub d hd0)) F2 N2
theorem tab_start (g:Nat -> Str) (m₀:Str -> Option Value) {l:List Nat} {ls:List Str} {o:Obj} {all:List (Addr × Obj)} (hls:ls = l.map one) (hall:all = (D,o) :: news) (hl:l.length ≤ 400) (hd:o.IsDictOf (PySem.strKind prog w) [])
    (step:∀ (c:Nat) (u:Tok) (it:Obj) h tk (kvs:List (Str × Value)) (o:Obj) (n:Nat),n ≤ 400 -> o.IsDictOf (PySem.strKind prog w) kvs -> Tab g n kvs -> Fr h₀ env.locals h (fun y=>if y = x then some (.str (one c) u) else m₀ y) -> News h₀ env.locals h ((I,it) :: (D,o) :: news) ->
      wpAny (model prog w) A (execs body env) (UnrPost h₀ env.locals { s with heap := h,toks := tk } I it (fun m' n' => (∃ v,m' = fun y=>if y = x then v else m₀ y) ∧ ∃ o' kvs',n' = (D,o') :: news ∧ o'.IsDictOf (PySem.strKind prog w) kvs' ∧ Tab g (n + 1) kvs' ∧ (valueAt kvs' (one c)).isSome = true ∧ ∀ d,(valueAt kvs (one d)).isSome = true -> (valueAt kvs' (one d)).isSome = true) Q) E { s with heap := h,toks := tk })
    (fin:∀ (o':Obj) kvs' v' h tk,o'.IsDictOf (PySem.strKind prog w) kvs' -> Tab g 400 kvs' -> (∀ c ∈ l,(valueAt kvs' (one c)).isSome = true) -> Fr h₀ env.locals h (fun y=>if y = x then v' else m₀ y) -> News h₀ env.locals h ((D,o') :: news) -> Q .next { s with heap := h,toks := tk }) :
    StrRest prog w A E h₀ env x body Q s I ls m₀ all := by
  subst hls hall
  have e:m₀ = fun y=>if y = x then m₀ x else m₀ y := by
    funext y
    by_cases q:y = x
    · rw [if_pos q,q]
    · rw [if_neg q]
  have key := tab_loop g m₀ step l (m₀ x) o [] 0 (by lia) hd ⟨fun c v h=>(nomatch h),Nat.le_refl _⟩ fun o' kvs' v' h tk a b c _=>fin o' kvs' v' h tk a b c
  rw [← e] at key
  exact key
end
end Mine
end
section
open PySem PySem.W PyProof.Rows PySem.Spec PySem.Calls
namespace Mine
section
variable {prog:Program} {w:World} {A:Around} {E:Value -> Shared -> Prop} {s:Shared} {h₀:Heap} {L:Addr} {m:Str -> Option Value} {env:Env}
inductive SrcStr (prog:Program) (w:World) (A:Around) (h₀:Heap) (L:Addr) (m:Str -> Option Value) (env:Env) (elt:PySem.Expr) (x:Str) (scope:Scope) (cl:List (Str × Addr)) (Fin:Shared -> List Value -> List (Addr × Obj) -> Prop) (xv:Value) (s₁:Shared):Prop
  | mk (y t news) (_:xv = .str y t) (_:A.handled = none) (_:Fr h₀ L s₁.heap m) (_:News h₀ L s₁.heap news) (_:y.cps.size ≤ sizeLine) (_:∀ s₂:Shared,(∃ h,s₂ = { s₁ with heap := h }) -> LCg.CompRest prog w A h₀ L m env elt x scope cl s₂ (fun _=>True) (SignAt y) (Fin s₂) y.cps.size 0 [] news)
theorem str_st {I:Addr} {T:String} {y:Str} {t:Tok} : ∀ i (h h':Heap) (o:Obj) (nw:List (Addr × Obj)),h.IsStrIter I T y t i -> h.get? I = some o -> h'.get? I = some o -> (∀ b o,h₀.get? b = some o -> h'.get? b = some o) -> News h₀ L h' nw -> True -> h'.IsStrIter I T y t i :=
  fun i h h' o nw st e e' _ _ _=>by
    obtain ⟨o',q,r⟩ := st
    rw [e] at q
    cases q
    exact ⟨o,e',r⟩
theorem ListComp_S {elt iter:PySem.Expr} {x:Str} {px:Pos} {scope:Scope} {cl:List (Str × Addr)} {pos:Pos} {Q:Value -> Shared -> Prop} (F₀:Fr h₀ L s.heap m)
    (hclos:closureFor scope env = pure cl) (hcell:∀ y ∈ scope.names,y.2 ≠ .cell) (hkind:scope.kind = .function)
    (hnames:∀ y ∈ scope.names,y.2 = .local -> scope.names.lookup y.1 = some .local) (hx:scope.names.lookup x = some .local)
    (h:wpAny (model prog w) A (eval iter env) (SrcStr prog w A h₀ L m env elt x scope cl (fun s₂=>LCg.FinE h₀ L m s₂ Q)) E s)
    (hs:∀ x,foldedSetIterable iter env x = pure x := by intro _; rfl) :
    wpAny (model prog w) A (eval (.ListComp elt [⟨.Name x px,iter,[],0⟩] scope pos) env) Q E s := by
  rw [eval_ListComp]
  refine wpAny_comprehension_free (use := none) rfl hs hclos hkind hnames (wpAny_mono h (fun xv s₁ h₁=>?_) fun _ _ e=>e)
  obtain ⟨y,t,news,rfl,hh,F,N,hsz,R⟩ := h₁
  cases ha:y.cps.all (· < 128)
  · refine wpAny_pyIter_wide ha ?_
    refine LCg.block_U (Walks.strWide hh s₁.heap.objs.size y t) hsz (fun i h st=>let ⟨o,e,_⟩ := st; ⟨o,e⟩) str_st hcell hkind hx ⟨_,Heap.get?_push_size _ rfl,rfl,rfl⟩ (fun b hb=>?_)
      (F.keeps fun _ _ e=>Heap.get?_push_of_some _ e) (N.grown fun _ _ e=>Heap.get?_push_of_some _ e) (Nat.ne_of_lt F.ns.lt) (next_is_new F) (fun p hp=>Nat.ne_of_lt (Heap.lt_size (N p hp).1)) trivial (R _ ⟨_,rfl⟩) ?_
    · rw [List.mem_singleton.mp hb]
      show s₁.heap.objs.size < (s₁.heap.push _).objs.size
      rw [Heap.size_push]; exact Nat.lt_succ_self _
    · intro D C h tk m' ys news' F' N' o1 hn hC₀ hD₀ hCL hDL hCD offC fin
      refine ⟨m',hn,fun h'' hs'' => fin D h'' tk (F'.change hs'' hCL hC₀) (fun p hp=>?_) o1⟩
      refine ⟨hs''.extBut _ _ ?_ (N' p hp).1,(N' p hp).2⟩
      rcases List.mem_cons.mp hp with rfl | hp
      · exact Ne.symm hCD
      · exact offC p hp
  · refine wpAny_pyIter_ascii ha ?_
    refine LCg.block_U (Walks.strAscii hh s₁.heap.objs.size y t) hsz (fun i h st=>let ⟨o,e,_⟩ := st; ⟨o,e⟩) str_st hcell hkind hx ⟨_,Heap.get?_push_size _ rfl,rfl,rfl⟩ (fun b hb=>?_)
      (F.keeps fun _ _ e=>Heap.get?_push_of_some _ e) (N.grown fun _ _ e=>Heap.get?_push_of_some _ e) (Nat.ne_of_lt F.ns.lt) (next_is_new F) (fun p hp=>Nat.ne_of_lt (Heap.lt_size (N p hp).1)) trivial (R _ ⟨_,rfl⟩) ?_
    · rw [List.mem_singleton.mp hb]
      show s₁.heap.objs.size < (s₁.heap.push _).objs.size
      rw [Heap.size_push]; exact Nat.lt_succ_self _
    · intro D C h tk m' ys news' F' N' o1 hn hC₀ hD₀ hCL hDL hCD offC fin
      refine ⟨m',hn,fun h'' hs'' => fin D h'' tk (F'.change hs'' hCL hC₀) (fun p hp=>?_) o1⟩
      refine ⟨hs''.extBut _ _ ?_ (N' p hp).1,(N' p hp).2⟩
      rcases List.mem_cons.mp hp with rfl | hp
      · exact Ne.symm hCD
      · exact offC p hp
end
end Mine
end
section
open PySem PySem.W PyProof.Rows PySem.Spec PySem.Calls
namespace Mine
noncomputable def b1Ints:List Int := [173,847,6150,6155,6156,6157,8203,8204,8205,8288,65279,65024,65025,65026,65027,65028,65029,65030,65031,65032,65033,65034,65035,65036,65037,65038,65039]
noncomputable def b1Els:List (Int × Value) := [(65024,Value.int 65024 573),(65025,Value.int 65025 574),(65026,Value.int 65026 575),
        (65027,Value.int 65027 576),(65028,Value.int 65028 577),(65029,Value.int 65029 578),
        (6150,Value.int 6150 559),(65030,Value.int 65030 579),(65031,Value.int 65031 580),
        (65032,Value.int 65032 581),(65033,Value.int 65033 582),(6155,Value.int 6155 560),
        (6156,Value.int 6156 561),(6157,Value.int 6157 562),(8203,Value.int 8203 563),(8204,Value.int 8204 564),
        (8205,Value.int 8205 565),(65034,Value.int 65034 583),(65035,Value.int 65035 584),
        (65036,Value.int 65036 585),(65037,Value.int 65037 586),(65038,Value.int 65038 587),
        (65039,Value.int 65039 588),(173,Value.int 173 557),(847,Value.int 847 558),(8288,Value.int 8288 566),
        (65279,Value.int 65279 567)]
theorem b1_mem (k:Int):decide (k ∈ b1Ints) = true ↔ ∃ e ∈ b1Els,Value.isInt k e.2 = true := by
  rw [decide_eq_true_iff]
  constructor
  · intro h
    have H:∀ k ∈ b1Ints,b1Els.any (fun e=>Value.isInt k e.2) = true := by decide +kernel
    exact List.any_eq_true.mp (H k h)
  · rintro ⟨e,he,h⟩
    have H:∀ e ∈ b1Els,(match e.2 with | .int i _=>b1Ints.elem i | _=>false) = true := by decide +kernel
    have H' := H e he
    obtain ⟨i,v⟩ := e
    cases v <;> simp only [Value.isInt,Bool.false_eq_true] at h H'
    rw [← beq_iff_eq.mp h]
    exact List.elem_iff.mp H'
theorem b1_set {prog:Program} {w:World} {P:Params} {h:Heap} (X:(KF P).In h):h.SetOf (intKind prog w) 183 (fun k=>decide (k ∈ b1Ints)) 27 := by
  refine ⟨_,b1Els.toArray,_,_,X 183 _ (by with_unfolding_all rfl),⟨rfl,rfl,rfl⟩,rfl,?_,fun k=>?_,by decide,by rfl,rfl⟩
  · intro e he
    have H:∀ e ∈ b1Els,(match e.2 with | .int i _=>i == e.1 && decide (hashInt e.1 = e.1) | _=>false) = true := by decide +kernel
    have H' := H e (by simpa using he)
    obtain ⟨i,v⟩ := e
    cases v <;> simp only [Bool.false_eq_true] at H'
    rw [Bool.and_eq_true,beq_iff_eq,decide_eq_true_iff] at H'
    obtain ⟨rfl,H'⟩ := H'
    exact ⟨⟨_,intKind_is _ _ _ _,H'.symm⟩,rfl⟩
  · exact b1_mem k
local macro_rules | `(tactic| walk_at "compareOp In int ref")=>`(tactic| (k_here; refine Stop.mk ?_))
theorem c_in_b1
    (B:Below A₀ base outer h₀) (F:Fr h₀ L s.heap m) (X:(KF w.params).In h₀) (N:News h₀ L s.heap news) (T:Top p loose mean mg mb h₀) (hk:cs.kind = .function) (hd:dp + 1 < recursionLimit) (hu:un + 8 < cLine)
    (c:Nat) (t:Tok) (hret:∀ (h':Heap) (tk':Nat),Fr h₀ L h' m -> News h₀ L h' news -> Q (.bool (decide ((c:Int) ∈ b1Ints))) { s with heap := h',toks := tk' }) :
    wpAny (model prog w) (ktrTop dp un gd cn cs L a ccd cl outer) (call (.ref 193) [.str ⟨#[c]⟩ t]) Q E s := by
  w_on
  refine wpAny_call ?_
  k_dflt cell_enter
  (rename Fr _ _ _ (fun _=>_)=>F0); refine foldAll F0 ?_; clear F0; intro A9 e9 m9 F0
  k_steps
  refine Stop.of ?_
  refine wpAny_inSet_of (knd := intKind _ _) (intKind_is _ _ _ _) rfl (b1_set (Frag.In.keeps (by assumption) (Fr.keep (by assumption)))) ?_
  k_steps
  all_goals exact hret _ _ (by k_asm) (by k_asm)
end Mine
end
section
open PySem PySem.W PyProof.Rows PySem.Spec PySem.Calls
namespace Mine
local macro_rules | `(tactic| walk_at "getMethod ref")=>`(tactic| (k_here; refine Stop.mk ?_))
local macro_rules | `(tactic| walk_at "call builtin:str.lower")=>`(tactic| (k_here; refine Stop.mk ?_))
theorem c_map_b3
    (B:Below A₀ base outer h₀) (F:Fr h₀ L s.heap m) (X:(KF w.params).In h₀) (N:News h₀ L s.heap news) (T:Top p loose mean mg mb h₀) (hk:cs.kind = .function) (hd:dp + 1 < recursionLimit) (hu:un + 8 < cLine)
    (c:Nat) (t:Tok) (hret:∀ (t:Tok) (h':Heap) (tk':Nat),Fr h₀ L h' m -> News h₀ L h' news -> Q (.str (b3Of c) t) { s with heap := h',toks := tk' }) :
    wpAny (model prog w) (ktrTop dp un gd cn cs L a ccd cl outer) (call (.ref 239) [.str ⟨#[c]⟩ t]) Q E s := by
  w_on
  refine wpAny_call ?_
  k_dflt cell_enter
  (rename Fr _ _ _ (fun _=>_)=>F0); refine foldAll F0 ?_; clear F0; intro A9 e9 m9 F0
  k_steps
  refine Stop.of ?_
  refine map_getMethod (knd := intKind _ _) (b3_map (Frag.In.keeps (by assumption) (Fr.keep (by assumption)))) ?_
  k_steps
  refine Stop.of ?_
  refine b3_get (Frag.In.keeps (by assumption) (Fr.keep (by assumption))) (fun x9 t9 e9=>?_) (fun e9=>?_)
  · k_steps
    exact b3Of_some (by assumption) ▸ hret _ _ _ (by k_asm) (by k_asm)
  · k_steps
    refine Stop.of ?_
    refine SCL.lower (show (1:Nat) ≤ 5592405 by decide) ?_
    intro hl9
    k_steps
    exact b3Of_none (by assumption) ▸ hret _ _ _ (by k_asm) (by k_asm)
end Mine
end
local macro_rules | `(tactic| walk_at "subscriptTail")=>`(tactic| (k_here; refine Mine.Stop.mk ?_))
section
open PySem PySem.W PyProof.Rows PySem.Spec PySem.Calls
namespace Mine
noncomputable def prepOf (c:Nat):Str := if decide ((c:Int) ∈ b1Ints) then .ofString "" else b3Of c
noncomputable def preparedOf (G:Str):Str := Txt.join (.ofString "") (G.cps.toList.map prepOf)
theorem off1 {L d I:Addr} {o1 o2:Obj} {news:List (Addr × Obj)} (h:∀ p ∈ (d,o1) :: (L,o2) :: news,p.1 < I) (o:Obj):∀ p ∈ (d,o) :: (L,o2) :: news,p.1 ≠ I := by
  intro p hp
  rcases List.mem_cons.mp hp with rfl | hp
  · exact Nat.ne_of_lt (h (d,o1) (.head _))
  · exact Nat.ne_of_lt (h _ (.tail _ hp))
theorem off2 {L d:Addr} {o:Obj} {news:List (Addr × Obj)} (h1:L < d) (h2:AllLt d news):∀ p ∈ (L,o) :: news,p.1 ≠ d := by
  intro p hp
  rcases List.mem_cons.mp hp with rfl | hp
  · exact Nat.ne_of_lt h1
  · exact Nat.ne_of_lt (kst_ltOf h2 _ hp)
theorem Tab.put {g:Nat -> Str} {n:Nat} {kvs:List (Str × Value)} {c:Nat} (h:Tab g n kvs) (ha:(valueAt kvs (one c)).isSome = false) (x:Str) (t:Tok) (hx:x = g c) :
    Tab g (n + 1) (stored kvs (one c) (.str x t)) ∧ (valueAt (stored kvs (one c) (.str x t)) (one c)).isSome = true ∧ ∀ d,(valueAt kvs (one d)).isSome = true -> (valueAt (stored kvs (one c) (.str x t)) (one d)).isSome = true := by
  have ha:valueAt kvs (one c) = none := by simpa using ha
  have hv := valueAt_stored kvs (one c) (.str x t) ha
  refine ⟨⟨fun d v hd=>?_,?_⟩,?_,fun d hd=>?_⟩
  · rw [hv] at hd
    by_cases e:one d = one c
    · rw [if_pos e] at hd
      have e2:d = c := by simpa [one] using e
      subst e2
      exact ⟨t,by rw [← Option.some.inj hd,hx]⟩
    · rw [if_neg e] at hd
      exact h.val d v hd
  · rw [stored_absent ha,List.length_append]
    exact Nat.succ_le_succ h.len
  · rw [hv,if_pos rfl]; rfl
  · rw [hv]
    by_cases e:one d = one c
    · rw [if_pos e]; rfl
    · rw [if_neg e]; exact hd
local macro_rules | `(tactic| walk_at "pyIter str")=>`(tactic| (k_here; refine Stop.mk ?_))
local macro_rules | `(tactic| walk_at "compareOp NotIn str ref")=>`(tactic| (k_here; refine Stop.mk ?_))
local macro_rules | `(tactic| walk_at "call ref")=>`(tactic| (k_here; refine Stop.mk ?_))
local macro_rules | `(tactic| walk_at "setItem")=>`(tactic| (k_here; refine Stop.mk ?_))
theorem c_prep
    (B:Below A₀ base outer h₀) (F:Fr h₀ L s.heap m) (X:(KF w.params).In h₀) (N:News h₀ L s.heap news) (T:Top p loose mean mg mb h₀) (hk:cs.kind = .function) (hd:dp + 12 < recursionLimit) (hu:un + 60 < cLine)
    (G:Str) (t:Tok) (hG:G.length ≤ 400) (hP:((G.cps.toList.map prepOf).map fun y=>y.length).sum ≤ 4000)
    (hret:∀ (t:Tok) (h':Heap) (tk':Nat),Fr h₀ L h' m -> News h₀ L h' news -> Q (.str (preparedOf G) t) { s with heap := h',toks := tk' }) :
    wpAny (model prog w) (ktrTop dp un gd cn cs L a ccd cl outer) (call (.ref 263) [.str G t]) Q E s := by
  w_on
  refine wpAny_call ?_
  k_dflt (refine' code_defC ?k1 ?k2 ?k3 ?k4 ?k5 ?kA ?kF ?kK ?k6 ?k7 ?k8 ?k9 ?kB ?kD ?_ ?c2 ?c3 ?c4; (case kA | kF=>exact rfl); (case kK=>assumption); (case k1 | k2=>k_asm); (case k3 | k4 | k5=>k_asm); (case k6 | k7=>k_is); (case k8=>ktr_room); (case k9=>exact BindsTo.of_eq rfl); (case kB=>exact rfl); (case kD=>decide +kernel); (case c2 | c3 | c4=>exact rfl); k_whole; intro g' L' h' tk' cells' FG' F' N' Y' B' X' T' l1; (try k_lt l1); k_cells Y'; (try simp only [List.cons_append,List.nil_append] at N'); (try dsimp only); (try k_lift B'); (try k_fold))
  (rename Fr _ _ _ (fun _=>_)=>F0); refine foldAll F0 ?_; clear F0; intro A9 e9 m9 F0
  have l2:AllLt L' news := allLt_of l1
  have l3:AllLt (L' + 1) news := allLt_of fun p hp=>Nat.lt_succ_of_lt (l1 p hp)
  k_steps
  refine Stop.of ?_
  (rename Fr _ _ _ _=>lF)
  (with_unfolding_all refine' For_invVF lF ?k1 ?k2 ?_; (case k1 | k2=>exact rfl); k_whole)
  k_steps
  refine Stop.of ?_
  (rename Fr _ _ _ _=>lF)
  (rename News _ _ _ _=>lN)
  (with_unfolding_all refine iter_strUnr (by rfl) lF lN rfl ?_)
  intro i9 l9
  rename Obj.IsDictOf (PySem.strKind _ _) _ _=>hdk
  rename (∀ p ∈ _,Prod.fst p < _)=>l9
  have n1 := off1 l9
  refine tab_start (l := G.cps.toList) prepOf _ rfl rfl (by rw [Array.length_toList]; exact hG) hdk (fun c9 u9 it9 h9 tk9 kvs9 o9 n9 hn9 hd9 ht9 F9 N9=>?_) (fun o9 kvs9 v9 h9 tk9 hd9 ht9 hall9 F9 N9=>?_)
  · k_steps
    refine Stop.of ?_
    rename (_ == sysModules) = false=>lo9
    k_dflt (refine kdg_notin (by k_asm) (by k_mem) hd9 lo9 (strKind_is _ _ _ _) _ rfl ?_)
    k_steps
    · refine Stop.of ?_
      exact UnrEnd.intro F9 N9 (_ :: _ :: news) (fun p hp=>hp) (n1 _) ⟨⟨_,rfl⟩,_,_,rfl,by assumption,⟨ht9.val,Nat.le_succ_of_le ht9.len⟩,by assumption,fun d h=>h⟩
    · refine Stop.of ?_
      refine' c_in_b1 ?k1 ?k2 ?k3 ?k4 ?k5 ?kK ?kd ?ku _ _ ?kR; (case k1 | k2=>k_asm); (case k3 | k4 | k5=>k_asm); (case kK=>first | exact rfl | assumption); (case kd=>ktr_room); (case ku=>ktr_units); intro h9 tk9 F9 N9; (try dsimp only); (try k_fold)
      k_steps
      · refine Stop.of ?_
        (rename Tab _ _ _=>ht8)
        (rename (_ + 1 < _ ∧ AllLt _ _)=>l4)
        k_dflt (refine kda_set (knd := PySem.strKind _ _) (by k_asm) (by k_asm) (.tail (Nat.ne_of_gt (l9 _ (.head _))) (.head (off2 l4.1 l4.2))) (by k_asm) (strKind_is _ _ _ _) (Nat.le_trans ht8.len (by rw [sizeLine_eq]; lia)) ?_)
        intro h8 o8 F8 N8 hd8
        (try dsimp only)
        k_steps
        refine Stop.of ?_
        rename ((c9:Int) ∈ b1Ints)=>hc9
        rename Tab _ _ _=>ht9
        rename ((valueAt kvs9 (one c9)).isSome = false)=>ha9
        obtain ⟨x1,x2,x3⟩ := ht9.put ha9 (.ofString "") _ (by unfold prepOf; rw [if_pos (decide_eq_true hc9)])
        exact UnrEnd.intro (by k_asm) (by k_asm) (_ :: _ :: news) (fun p hp=>hp) (n1 _) ⟨⟨_,rfl⟩,_,_,rfl,by k_asm,x1,x2,x3⟩
      · refine Stop.of ?_
        refine' c_map_b3 ?j1 ?j2 ?j3 ?j4 ?j5 ?jK ?jd ?ju _ _ ?jR; (case j1 | j2=>k_asm); (case j3 | j4 | j5=>k_asm); (case jK=>first | exact rfl | assumption); (case jd=>ktr_room); (case ju=>ktr_units); intro t9 h9 tk9 F9 N9; (try dsimp only); (try k_fold)
        k_steps
        refine Stop.of ?_
        (rename Tab _ _ _=>ht8)
        (rename (_ + 1 < _ ∧ AllLt _ _)=>l4)
        k_dflt (refine kda_set (knd := PySem.strKind _ _) (by k_asm) (by k_asm) (.tail (Nat.ne_of_gt (l9 _ (.head _))) (.head (off2 l4.1 l4.2))) (by k_asm) (strKind_is _ _ _ _) (Nat.le_trans ht8.len (by rw [sizeLine_eq]; lia)) ?_)
        intro h8 o8 F8 N8 hd8
        (try dsimp only)
        k_steps
        refine Stop.of ?_
        rename (¬ (c9:Int) ∈ b1Ints)=>hc9
        rename Tab _ _ _=>ht9
        rename ((valueAt kvs9 (one c9)).isSome = false)=>ha9
        obtain ⟨x1,x2,x3⟩ := ht9.put ha9 (b3Of c9) t9 (by unfold prepOf; rw [if_neg (by simpa using hc9)])
        exact UnrEnd.intro (by k_asm) (by k_asm) (_ :: _ :: news) (fun p hp=>hp) (n1 _) ⟨⟨_,rfl⟩,_,_,rfl,by k_asm,x1,x2,x3⟩
  · k_steps
    refine Stop.of ?_
    k_dflt (refine ListComp_S (F₀ := by k_asm) (by with_unfolding_all rfl) (by decide) (by rfl) (by decide) (by rfl) ?_)
    k_steps
    refine ⟨G,t,_,rfl,rfl,F9,N9,by rw [sizeLine_eq]; exact Nat.le_trans hG (by decide),fun s₂ hs₂=>?_⟩
    obtain ⟨g9,rfl⟩ := hs₂
    refine comp_gen G.cps.toList (fun c v=>∃ t,v = .str (one c) t) (fun c y=>∃ t,y = .str (prepOf c) t) (by rw [Array.length_toList]) (fun i v _ hv=>by obtain ⟨c,u,e1,e2⟩ := hv; exact ⟨c,by simpa using e1,u,e2⟩) (fun a9 v9 I' oI' C' oC' D' m' ys' h' tk' E' ha9 hR9 hC' hx' F' N' off' ne' => ?_) (fun ys hy=>?_)
    · obtain ⟨t9,rfl⟩ := hR9
      obtain ⟨v8,hv8⟩ := Option.isSome_iff_exists.mp (hall9 _ ha9)
      obtain ⟨t8,rfl⟩ := ht9.val _ _ hv8
      k_steps
      refine Stop.of ?_
      k_dflt (refine kda_item (knd := PySem.strKind _ _) (by k_asm) (by k_mem) (by k_asm) (strKind_is _ _ _ _) hv8 ?_)
      k_steps
      exact LCg.CompEnd.intro (by k_asm) (by k_asm) _ (fun p hp=>hp) off' trivial ⟨rfl,_,rfl⟩
    · intro D9 h9 tk9 F9 N9 o9
      have hs9 := hy.strs
      k_steps
      refine Stop.of ?_
      k_dflt (refine join_b 4000 (News.isList (by k_asm) (by k_mem)) (by assumption) (by assumption) (by decide) ?_)
      intro J9 t9 k9 eJ lJ9
      k_steps
      subst eJ
      exact hret _ _ _ (by k_asm) (by first | k_asm | (refine' cb_drop ?cbN ?cbS; (case cbN=>k_asm); (case cbS=>kcj_all)))
end Mine
end
section
open PySem PySem.W PyProof.Rows PySem.Spec PySem.Calls
namespace Mine
theorem strs_snoc {vs:List Value} {xs:List Str} {x:Str} {t:Tok} (h:StrsAre vs xs):StrsAre (vs ++ [.str x t]) (xs ++ [x]) := strs_app h (.cons _ _ .nil)
theorem ints_len {vs:List Value} {ns:List Int} (h:IntsAre vs ns):vs.length = ns.length := h.length
section
variable {prog:Program} {w:World} {A:Around} {E:Value -> Shared -> Prop} {s₁:Shared} {h₀:Heap} {L:Addr} {m:Str -> Option Value} {env:Env}
inductive REnd (h₀:Heap) (L:Addr) (m:Str -> Option Value) (v:Value) (tl:List (Addr × Obj)) (s₁:Shared) (v':Value) (s₃:Shared):Prop
  | mk (h' tk') (_:v' = v) (_:s₃ = { s₁ with heap := h',toks := tk' }) (_:Fr h₀ L h' m) (_:News h₀ L h' tl)
theorem src2_rows {elt i1:PySem.Expr} {x y:Str} {scope:Scope} {cl:List (Str × Addr)} {Fin:Addr -> Heap -> Nat -> List Value -> List (Addr × Obj) -> Shared -> Prop} {Dd De:Addr} {its its2:List Value} {k1 k2:Nat} {as:List Int} {bs:List Str} {news:List (Addr × Obj)} (f:Int -> Str -> Str)
    (hh:A.handled = none) (F:Fr h₀ L s₁.heap m) (N:News h₀ L s₁.heap news) (hm1:(Dd,W.listOf its.toArray k1) ∈ news) (hm2:(De,W.listOf its2.toArray k2) ∈ news) (h1:IntsAre its as) (h2:StrsAre its2 bs) (hz:as.length ≤ 10 ∧ bs.length ≤ 10)
    (it2:∀ I oI C oC D m₂ ys h tk (E':Value -> Shared -> Prop),LCg.NsObj oC m₂ -> Fr h₀ L h m -> News h₀ L h ((I,oI) :: (C,oC) :: (D,LCg.lst ys) :: news) -> LCg.Off3 I C D news -> ((@Ne Nat I C) ∧ (@Ne Nat I D) ∧ (@Ne Nat C D)) ->
      wpAny (model prog w) A (eval i1 (compEnvC scope cl C env)) (REnd h₀ L m (.ref De) ((I,oI) :: (C,oC) :: (D,LCg.lst ys) :: news) s₁) E' { s₁ with heap := h,toks := tk })
    (el:∀ a ∈ as, ∀ b ∈ bs, ∀ ta tb I oI C oC D I2 oI2 m₂ ys h tk (E':Value -> Shared -> Prop),LCg.NsObj oC m₂ -> m₂ x = some (.int a ta) -> m₂ y = some (.str b tb) -> Fr h₀ L h m -> News h₀ L h ((I,oI) :: (C,oC) :: (D,LCg.lst ys) :: (I2,oI2) :: news) -> LCg.Off3 I C D ((I2,oI2) :: news) -> ((@Ne Nat I C) ∧ (@Ne Nat I D) ∧ (@Ne Nat C D)) ->
      wpAny (model prog w) A (eval elt (compEnvC scope cl C env)) (LCg.CompEnd h₀ L m { s₁ with heap := h,toks := tk } I oI C oC D (LCg.lst ys) (fun _=>True) (fun y' news' => news' = (I2,oI2) :: news ∧ ∃ t,y' = .str (f a b) t)) E' { s₁ with heap := h,toks := tk })
    (fin:∀ D ys,StrsAre ys (as.flatMap fun a=>bs.map (f a)) -> @LT.lt Nat _ s₁.heap.objs.size D -> LCg.Off1 D news -> ∀ h tk,Fin D h tk ys news s₁) :
    Src2 prog w A h₀ L m env elt i1 x y scope cl Fin (.ref Dd) s₁ := by
  have hl1 := h1.length
  have hl2 := h2.length
  have lenF:∀ i:Nat,((as.take i).flatMap fun a=>bs.map (f a)).length ≤ 100 := fun i=>by
    rw [List.length_flatMap]
    have e:((as.take i).map fun a=>(bs.map (f a)).length) = (as.take i).map fun _=>bs.length := by
      apply List.map_congr_left
      intro a _
      rw [List.length_map]
    rw [e,List.map_const',List.sum_replicate_nat,List.length_take]
    have:min i as.length ≤ 10 := Nat.le_trans (Nat.min_le_right _ _) hz.1
    exact Nat.le_trans (Nat.mul_le_mul this hz.2) (by decide)
  have hbig:110 ≤ sizeLine := by rw [sizeLine_eq]; decide
  refine ⟨Dd,its.toArray,k1,news,fun i ys nw=>nw = news ∧ StrsAre ys ((as.take i).flatMap fun a=>bs.map (f a)),rfl,hh,F,N,⟨rfl,by simpa using StrsAre.nil⟩,?_,?_,?_⟩
  · rintro i ys nw ⟨rfl,hy⟩
    exact ⟨hm1,Nat.le_trans (by rw [hy.length]; exact Nat.le_trans (lenF i) (by decide)) hbig⟩
  · rintro i v I oI C oC D m₂ ys nw h tk E' hv ⟨rfl,hy⟩ hC hx F' N' off ne
    obtain ⟨a,ta,rfl,ha⟩ := h1.at i v (by simpa using hv)
    have ham:a ∈ as := List.mem_of_getElem? ha
    refine wpAny_mono (it2 I oI C oC D m₂ ys h tk E' hC F' N' off ne) (fun xv s₂ hq=>?_) fun _ _ e=>e
    obtain ⟨h',tk',rfl,rfl,F2,N2⟩ := hq
    refine ⟨h',tk',oC,m₂,fun j ys nw' => nw' = nw ∧ StrsAre ys (((as.take i).flatMap fun a=>bs.map (f a)) ++ (bs.take j).map (f a)),rfl,F2,hC,hx,N2,⟨rfl,by simpa using hy⟩,.inl ⟨De,its2.toArray,k2,rfl,?_,?_,?_⟩⟩
    · rintro j ys nw ⟨rfl,hy'⟩
      refine ⟨hm2,Nat.le_trans ?_ hbig⟩
      rw [hy'.length,List.length_append,List.length_map,List.length_take]
      have := lenF i
      have:min j bs.length ≤ 10 := Nat.le_trans (Nat.min_le_right _ _) hz.2
      lia
    · rintro j u I2 oI2 oC' m₃ ys' nw' h3 tk3 E3 hu ⟨rfl,hy'⟩ hC3 hx3 hy3 F3 N3 off3 off2 ne3
      obtain ⟨b,tb,hb,rfl⟩ := strs_at h2 j u (by simpa using hu)
      refine wpAny_mono (el a ham b (List.mem_of_getElem? hb) ta tb I oI C oC' D I2 oI2 m₃ ys' h3 tk3 E3 hC3 hx3 hy3 F3 N3 off3 ne3) (fun y' s₃ hq=>?_) fun _ _ e=>e
      obtain ⟨h4,tk4,nw4,e4,F4,N4,off4,-,rfl,t,rfl⟩ := hq
      refine ⟨h4,tk4,_,e4,F4,N4,off4,trivial,_,rfl,off2,rfl,?_⟩
      rw [List.take_add_one,hb,List.map_append, ← List.append_assoc]
      exact strs_snoc hy'
    · rintro ys' nw' ⟨rfl,hy'⟩
      refine ⟨rfl,?_⟩
      rw [List.size_toArray,hl2,List.take_length] at hy'
      rw [List.take_add_one,ha,List.flatMap_append]
      simpa using hy'
  · rintro D ys nw ⟨rfl,hy⟩ hlt o1 h tk
    rw [List.size_toArray,hl1,List.take_length] at hy
    exact fin D ys hy hlt o1 h tk
end
end Mine
end
section
namespace Mine
noncomputable def blk (w n:List Nat):List Nat := 32 :: (n ++ (61 :: 34 :: (w ++ [34])))
noncomputable def cat (w:List Nat):List (List Nat) -> List Nat
  | []=>[]
  | n :: r=>blk w n ++ cat w r
theorem cat_nil {w:List Nat} : cat w [] = [] := rfl
theorem cat_cons {w n:List Nat} {r:List (List Nat)} : cat w (n :: r) = blk w n ++ cat w r := rfl
noncomputable def ff (b T:List Nat) (lo:Nat):Option Nat := (List.range' lo (T.length + 1 - lo)).find? fun i=>b.isPrefixOf (T.drop i)
theorem pre_app {b r:List Nat} : b.isPrefixOf (b ++ r) = true := by
  rw [List.isPrefixOf_iff_prefix]
  exact List.prefix_append b r
theorem ff_hit {w n pre:List Nat} {r:List (List Nat)} : ff (blk w n) (pre ++ cat w (n :: r)) pre.length = some pre.length := by
  unfold ff
  have e:(pre ++ cat w (n :: r)).length + 1 - pre.length = (cat w (n :: r)).length + 1 := by rw [List.length_append,Nat.add_assoc,Nat.add_sub_cancel_left]
  rw [e,List.range'_succ,List.find?_cons_of_pos]
  rw [List.drop_left]
  exact pre_app
theorem ff_nil {w n pre:List Nat} : ff (blk w n) (pre ++ cat w []) pre.length = none := by
  unfold ff
  have e:(pre ++ cat w []).length + 1 - pre.length = 1 := by simp [cat_nil]
  rw [e]
  simp [List.range',cat,blk]
theorem eq_at {n m x y:List Nat} (hn:61 ∉ n) (hm:61 ∉ m) (h:n ++ 61 :: x = m ++ 61 :: y):n = m := by
  induction n generalizing m with
  | nil =>
    cases m with
    | nil=>rfl
    | cons a m=>simp at h; exact absurd (List.mem_cons.mpr (Or.inl h.1)) hm
  | cons a n ih =>
    cases m with
    | nil=>simp at h; exact absurd (List.mem_cons.mpr (Or.inl h.1.symm)) hn
    | cons c m =>
      simp at h
      rw [h.1,ih (fun q=>hn (.tail _ q)) (fun q=>hm (.tail _ q)) h.2]
theorem no_prefix {w n m r:List Nat} (hn:61 ∉ n) (hm:61 ∉ m) (hne:m ≠ n):(blk w n).isPrefixOf (blk w m ++ r) = false := by
  cases e:(blk w n).isPrefixOf (blk w m ++ r) with
  | false=>rfl
  | true =>
    rw [List.isPrefixOf_iff_prefix] at e
    obtain ⟨t,h⟩ := e
    unfold blk at h
    simp only [List.cons_append,List.append_assoc,List.cons.injEq,true_and] at h
    exact absurd (eq_at hn hm h).symm hne
theorem range_skip {p:Nat -> Bool} {lo k n:Nat} (h:∀ i,lo ≤ i -> i < lo + k -> p i = false):(List.range' lo (k + n)).find? p = (List.range' (lo + k) n).find? p := by
  induction k generalizing lo with
  | zero=>simp
  | succ k ih =>
    rw [show k + 1 + n = (k + n) + 1 from Nat.add_right_comm k 1 n,List.range'_succ,List.find?_cons_of_neg (by rw [h lo (Nat.le_refl _) (Nat.lt_add_of_pos_right (Nat.succ_pos k))]; simp),ih (fun i h1 h2=>h i (Nat.le_of_succ_le h1) (Nat.lt_of_lt_of_eq h2 (Nat.add_right_comm lo 1 k))),show lo + 1 + k = lo + (k + 1) from Nat.add_right_comm lo 1 k]
theorem ff_miss {w n m pre:List Nat} {r:List (List Nat)} (hn:61 ∉ n) (hm:61 ∉ m) (hm2:32 ∉ m) (hw:32 ∉ w) (hne:m ≠ n) :
    ff (blk w n) (pre ++ cat w (m :: r)) pre.length = ff (blk w n) ((pre ++ blk w m) ++ cat w r) (pre ++ blk w m).length := by
  have e0:pre ++ cat w (m :: r) = (pre ++ blk w m) ++ cat w r := by rw [List.append_assoc]; rfl
  rw [e0]
  unfold ff
  have e1:((pre ++ blk w m) ++ cat w r).length + 1 - pre.length = (blk w m).length + (((pre ++ blk w m) ++ cat w r).length + 1 - (pre ++ blk w m).length) := by rw [List.length_append,List.length_append,Nat.add_assoc (pre.length + (blk w m).length) _ 1,Nat.add_sub_cancel_left,Nat.add_assoc pre.length,Nat.add_sub_cancel_left]
  rw [e1,range_skip]
  · rw [List.length_append (as := pre)]
  intro i h1 h2
  obtain ⟨k,rfl⟩:∃ k,i = pre.length + k := ⟨i - pre.length,(Nat.add_sub_of_le (by assumption)).symm⟩
  show (blk w n).isPrefixOf (List.drop (pre.length + k) ((pre ++ blk w m) ++ cat w r)) = false
  rw [List.append_assoc,List.drop_append,Nat.add_sub_cancel_left,List.drop_of_length_le (by lia),List.nil_append]
  cases k with
  | zero=>exact no_prefix hn hm hne
  | succ k =>
    have hk:k < (n ++ []).length + (blk w m).length := by lia
    have h3:k + 1 < (blk w m).length := by lia
    have e2:(blk w m ++ cat w r).drop (k + 1) = (blk w m)[k + 1] :: ((blk w m ++ cat w r).drop (k + 1 + 1)) := by
      rw [List.drop_eq_getElem_cons (by rw [List.length_append]; lia),List.getElem_append_left]
    rw [e2]
    have h4:(blk w m)[k + 1] ≠ 32 := by
      have h5:(blk w m)[k + 1] ∈ m ++ (61 :: 34 :: (w ++ [34])) := by
        have h6:k < (m ++ (61 :: 34 :: (w ++ [34]))).length := by unfold blk at h3; simp only [List.length_cons] at h3; lia
        exact List.getElem_mem (l := m ++ (61 :: 34 :: (w ++ [34]))) h6
      intro q
      rw [q] at h5
      simp only [List.mem_append,List.mem_cons,List.not_mem_nil,or_false] at h5
      rcases h5 with h5 | h5 | h5 | h5 | h5
      · exact hm2 h5
      · exact absurd h5 (by decide)
      · exact absurd h5 (by decide)
      · exact hw h5
      · exact absurd h5 (by decide)
    generalize (blk w m)[k + 1] = c at h4
    show (32 == c && _) = false
    rw [beq_eq_false_iff_ne.mpr (Ne.symm h4),Bool.false_and]
noncomputable def dropTo {α:Type} [DecidableEq α] (n:α):List α -> Option (List α)
  | []=>none
  | m :: r=>if m = n then some r else dropTo n r
noncomputable def greedy {α:Type} [DecidableEq α]:List α -> List α -> Bool
  | [],_=>true
  | n :: r,ns=>match dropTo n ns with
    | some q=>greedy r q
    | none=>false
noncomputable def fall (T:List Nat):List (List Nat) -> Nat -> Bool
  | [],_=>true
  | b :: r,p=>match ff b T p with
    | some k=>fall T r (k + b.length)
    | none=>false
theorem dropTo_cons {α:Type} [DecidableEq α] {n m:α} {r:List α} : dropTo n (m :: r) = if m = n then some r else dropTo n r := rfl
theorem greedy_cons {α:Type} [DecidableEq α] {n:α} {r ns:List α} : greedy (n :: r) ns = match dropTo n ns with
  | some q=>greedy r q
  | none=>false := rfl
theorem fall_cons {T b:List Nat} {r:List (List Nat)} {p:Nat} : fall T (b :: r) p = match ff b T p with
  | some k=>fall T r (k + b.length)
  | none=>false := rfl
noncomputable def GoodN (n:List Nat):Prop := 61 ∉ n ∧ 32 ∉ n
theorem cat_app {w:List Nat} : ∀ {a b:List (List Nat)},cat w (a ++ b) = cat w a ++ cat w b
  | [],_=>rfl
  | n :: r,b=>by rw [List.cons_append,cat,cat,cat_app,List.append_assoc]
theorem ff_to {w n:List Nat} (hn:GoodN n) (hw:32 ∉ w):∀ (ns:List (List Nat)) (pre:List Nat),(∀ m ∈ ns,GoodN m) ->
    (match dropTo n ns with
      | some rest=>∃ sk,ns = sk ++ n :: rest ∧ ff (blk w n) (pre ++ cat w ns) pre.length = some (pre ++ cat w sk).length
      | none=>ff (blk w n) (pre ++ cat w ns) pre.length = none)
  | [],pre,_=>ff_nil
  | m :: r,pre,h=>by
    rw [dropTo_cons]
    by_cases e:m = n
    · subst e
      rw [if_pos rfl]
      exact ⟨[],rfl,by rw [ff_hit]; simp [cat_nil]⟩
    · rw [if_neg e,ff_miss hn.1 (h m (.head _)).1 (h m (.head _)).2 hw e]
      have ih := ff_to hn hw r (pre ++ blk w m) fun q hq=>h q (.tail _ hq)
      cases d:dropTo n r with
      | none=>rw [d] at ih; exact ih
      | some rest =>
        rw [d] at ih
        obtain ⟨sk,e1,e2⟩ := ih
        refine ⟨m :: sk,by rw [e1]; rfl,?_⟩
        show ff (blk w n) ((pre ++ blk w m) ++ cat w r) (pre ++ blk w m).length = _
        rw [e2,cat,List.append_assoc]
theorem fall_greedy {w:List Nat} (hw:32 ∉ w):∀ (ms ns:List (List Nat)) (pre:List Nat),(∀ m ∈ ms,GoodN m) -> (∀ m ∈ ns,GoodN m) -> fall (pre ++ cat w ns) (ms.map (blk w)) pre.length = greedy ms ns
  | [],_,_,_,_=>rfl
  | n :: r,ns,pre,h1,h2=>by
    have h := ff_to (h1 n (.head _)) hw ns pre h2
    rw [List.map_cons]
    rw [fall_cons,greedy_cons]
    cases d:dropTo n ns with
    | none =>
      rw [d] at h
      have h:ff (blk w n) (pre ++ cat w ns) pre.length = none := h
      rw [h]
    | some rest =>
      rw [d] at h
      obtain ⟨sk,e1,e2⟩ := h
      rw [e2]
      have ih := fall_greedy hw r rest (pre ++ cat w (sk ++ [n])) (fun q hq=>h1 q (.tail _ hq)) fun q hq=>h2 q (by rw [e1]; exact List.mem_append_right _ (.tail _ hq))
      have e3:pre ++ cat w ns = (pre ++ cat w (sk ++ [n])) ++ cat w rest := by
        rw [e1,cat_app,cat_app,cat,cat,cat,List.append_nil,List.append_assoc,List.append_assoc]
      have e4:(pre ++ cat w sk).length + (blk w n).length = (pre ++ cat w (sk ++ [n])).length := by
        rw [cat_app,cat,cat,List.append_nil, ← List.length_append,List.append_assoc]
      show fall (pre ++ cat w ns) (r.map (blk w)) ((pre ++ cat w sk).length + (blk w n).length) = greedy r rest
      rw [e3,e4]
      exact ih
theorem dropTo_map {α β:Type} [DecidableEq α] [DecidableEq β] (f:α -> β) (n:α):∀ ns:List α,(∀ m ∈ ns,f m = f n -> m = n) -> dropTo (f n) (ns.map f) = (dropTo n ns).map (List.map f)
  | [],_=>rfl
  | m :: r,h=>by
    rw [List.map_cons]
    rw [dropTo_cons,dropTo_cons]
    by_cases e:m = n
    · rw [if_pos e,if_pos (by rw [e])]; rfl
    · rw [if_neg e,if_neg fun q=>e (h m (.head _) q)]
      exact dropTo_map f n r fun q hq=>h q (.tail _ hq)
theorem dropTo_sub {α:Type} [DecidableEq α] (n:α):∀ (ns q:List α),dropTo n ns = some q -> ∀ m ∈ q,m ∈ ns
  | [],_,h,_,_=>by cases h
  | a :: r,q,h,m,hm=>by
    rw [dropTo_cons] at h
    by_cases e:a = n
    · rw [if_pos e] at h
      cases h
      exact .tail _ hm
    · rw [if_neg e] at h
      exact .tail _ (dropTo_sub n r q h m hm)
theorem greedy_map {α β:Type} [DecidableEq α] [DecidableEq β] (f:α -> β):∀ ms ns:List α,(∀ n ∈ ms, ∀ m ∈ ns,f m = f n -> m = n) -> greedy (ms.map f) (ns.map f) = greedy ms ns
  | [],_,_=>rfl
  | n :: r,ns,h=>by
    rw [List.map_cons]
    rw [greedy_cons,greedy_cons]
    rw [dropTo_map f n ns fun m hm=>h n (.head _) m hm]
    cases d:dropTo n ns with
    | none=>rfl
    | some q=>exact greedy_map f r q fun a ha m hm=>h a (.tail _ ha) m (dropTo_sub n ns q d m hm)
noncomputable def fallsN (ns:List Nat):Nat := ((List.range (ns.length - 1)).filter fun i=>decide (ns.getD (i + 1) 0 < ns.getD i 0)).length
noncomputable def orders:Nat -> List (List Nat)
  | 0=>[[]]
  | p + 1=>(orders p).flatMap fun o=>(List.range (o.length + 1)).map fun k=>o.take k ++ [p] ++ o.drop k
noncomputable def ways (many:Nat):Nat -> List (List Nat)
  | 0=>[[]]
  | p + 1=>(ways many p).flatMap fun o=>(List.range many).map fun d=>o ++ [d]
noncomputable def rowsIx (many size:Nat):List Nat := (List.range many).flatMap fun _=>List.range size
theorem fact1:∀ ms ∈ [(2,3),(3,3),(5,2)], ∀ o ∈ orders ms.2, ∀ told ∈ [o,o ++ o],greedy told (rowsIx ms.1 ms.2) = decide (fallsN told < ms.1) := by decide +kernel
noncomputable def chooseN (n:Nat):Nat -> Nat
  | 0=>1
  | k + 1=>chooseN n k * (n - k) / (k + 1)
theorem fact2:∀ ms ∈ [(2,3),(3,3),(5,2)], ∀ o ∈ orders ms.2, ∀ d ∈ [o,o.reverse],
    ((ways ms.1 ms.2).map fun way=>greedy ((way.zip d).map fun p=>ms.2 * p.1 + p.2) (List.range (ms.1 * ms.2))).count true = chooseN (ms.2 + ms.1 - 1 - fallsN d) ms.2 := by decide +kernel
end Mine
end
section
open PySem PySem.W PyProof.Rows PySem.Spec PySem.Calls
namespace Mine
noncomputable abbrev itRg (a:Int) (n i:Nat):Obj := { cls := .type "range_iterator",data := .fields #[rawInt (a + (i:Int) * 1),rawInt ((n:Int) - (i:Int)),rawInt 1] }
theorem owned_int {M:Model} {A:Around} {E:Value -> Shared -> Prop} {s:Shared} {target:PySem.Expr} {G:Addr} {k:Int} {t:Tok} {Q:Unit -> Shared -> Prop} (h:Q () s) :
    wpAny M A (letOwnedTupleGo target (.ref G) (.int k t)) Q E s := by
  unfold letOwnedTupleGo
  cases target <;> exact wpAny_pure h
section
variable {prog:Program} {w:World} {A:Around} {E:Value -> Shared -> Prop} {s:Shared} {env:Env} {h₀:Heap} {L:Addr} {Q:Flow -> Shared -> Prop}
noncomputable def RangeTurn (prog:Program) (w:World) (A:Around) (h₀:Heap) (L:Addr) (env:Env) (target:PySem.Expr) (body:List Stmt) (Q:Flow -> Shared -> Prop) (s₁:Shared) (n:Nat) (J:Nat -> (Str -> Option Value) -> List (Addr × Obj) -> Prop):Prop :=
  ∀ i m nw I oI h tk t,i < n -> J i m nw -> Fr h₀ L h m -> News h₀ L h ((I,oI) :: nw) -> (∀ p ∈ nw,p.1 ≠ I) -> oI.cls = .type "range_iterator" ->
    wpAny (model prog w) A (assign target env (.int (i:Int) t)) (fun _ s₃=>wpAny (model prog w) A (execs body env) (UnrPost h₀ L { s₁ with heap := h,toks := tk } I oI (J (i + 1)) Q) NoE s₃) NoE { s₁ with heap := h,toks := tk }
inductive RangeLoop (prog:Program) (w:World) (A:Around) (h₀:Heap) (L:Addr) (env:Env) (target:PySem.Expr) (body:List Stmt) (Q:Flow -> Shared -> Prop) (xv:Value) (s₁:Shared):Prop
  | it (r b t u v n m₀ news J) (_:xv = .ref r) (_:IsRange s₁.heap r 0 b 1 t u v) (_:Builtin.Range.small 0 b 1 = true) (_:Builtin.Range.rangeSize 0 b 1 = ((n:Nat):Int)) (_:Fr h₀ L s₁.heap m₀) (_:News h₀ L s₁.heap news) (_:J 0 m₀ news) (_:RangeTurn prog w A h₀ L env target body Q s₁ n J) (_:∀ m nw h tk,J n m nw -> Fr h₀ L h m -> News h₀ L h nw -> Q .next { s₁ with heap := h,toks := tk })
theorem For_rangeT {target iter:PySem.Expr} {body:List Stmt} {pos:Pos} {m:Str -> Option Value} (_F₀:Fr h₀ L s.heap m) (hs:∀ x,foldedSetIterable iter env x = pure x) (hh:A.handled = none)
    (h:wpAny (model prog w) A (eval iter env) (RangeLoop prog w A h₀ L env target body Q) E s) :
    wpAny (model prog w) A (exec (.For target iter body [] pos) env) Q E s := by
  refine wpAny_For (wpAny_mono h (fun xv s₁ h₁=>?_) fun _ _ e=>e) hs
  obtain ⟨r,b,t,u,v,n,m₀,news,J,rfl,hr,hsm,hn,F,N,hJ,turn,fin⟩ := h₁
  refine wpAny_pyIter_range hr hsm ?_
  have hI:∀ p ∈ news,p.1 ≠ s₁.heap.objs.size := fun p hp=>Nat.ne_of_lt (Heap.lt_size (N p hp).1)
  have hfr := kdx_fresh F (Nat.le_refl s₁.heap.objs.size)
  have F₁:Fr h₀ L (s₁.heap.push { cls := .type "range_iterator",data := .fields #[rawInt 0,rawInt (Builtin.Range.rangeSize 0 b 1),rawInt 1] }) m₀ := F.push _
  have it₁:IsRangeIter (s₁.heap.push { cls := .type "range_iterator",data := .fields #[rawInt 0,rawInt (Builtin.Range.rangeSize 0 b 1),rawInt 1] }) s₁.heap.objs.size (0 + ((0:Nat):Int) * 1) ((n:Int) - ((0:Nat):Int)) 1 := by
    rw [hn]
    simpa using Heap.get?_push_size s₁.heap (o := { cls := .type "range_iterator",data := .fields #[rawInt 0,rawInt (n:Int),rawInt 1] }) rfl
  have N₁:News h₀ L (s₁.heap.push { cls := .type "range_iterator",data := .fields #[rawInt 0,rawInt (Builtin.Range.rangeSize 0 b 1),rawInt 1] }) news := N.grown fun b o q=>Heap.get?_push_of_some _ q
  generalize hII:s₁.heap.objs.size = I at *
  generalize s₁.heap.push { cls := .type "range_iterator",data := .fields #[rawInt 0,rawInt (Builtin.Range.rangeSize 0 b 1),rawInt 1] } = hp₁ at *
  have W := range_walks2 (prog := prog) (w := w) (A := A) (I := I) hh 0 n
  refine codeAny_forLoop_any (LoopI h₀ L s₁ n (fun h i=>IsRangeIter h I (0 + ((i:Nat):Int) * 1) ((n:Int) - ((i:Nat):Int)) 1) J I) ?_ n
    (.mk 0 _ s₁.toks m₀ news (Nat.zero_le _) it₁ hJ F₁ N₁ hI)
  rintro _ _ ⟨i,h',tk,m,nw,hi,hit,hJ',F',N',off⟩
  by_cases hlt:i < n
  · refine W.item i _ _ _ hlt hit fun v h₂ tk₂ hP hit₂ hs₂=>?_
    obtain ⟨-,t₂,rfl⟩ := hP
    refine owned_int ?_
    have F₂:Fr h₀ L h₂ m := LCg.fr_but F' hs₂ (fun q=>hfr.1 q.symm) hfr.2
    have N₂:News h₀ L h₂ ((I,itRg 0 n (i + 1)) :: nw) := fun p hp=>by
      rcases List.mem_cons.mp hp with rfl | hp
      · exact ⟨hit₂,hfr⟩
      · exact LCg.news_but N' hs₂ off p hp
    have e0:(0:Int) + (i:Int) = (i:Int) := Int.zero_add _
    rw [e0]
    refine wpAny_mono (turn i m nw I (itRg 0 n (i + 1)) h₂ tk₂ t₂ hlt hJ' F₂ N₂ off rfl) (fun _ s₃ h₃=>wpAny_mono h₃ (fun f s₄ h₄=>?_) fun _ _ e=>e.elim) fun _ _ e=>e.elim
    have fin':UnrEnd h₀ L { s₁ with heap := h₂,toks := tk₂ } I (itRg 0 n (i + 1)) (J (i + 1)) s₄ -> ∃ k,k < n - i ∧ LoopI h₀ L s₁ n (fun h i=>IsRangeIter h I (0 + ((i:Nat):Int) * 1) ((n:Int) - ((i:Nat):Int)) 1) J I k s₄ := by
      rintro ⟨h₃,tk₃,m₃,nw₃,rfl,F₃,N₃,off₃,hJ₃⟩
      exact ⟨n - (i + 1),Nat.sub_succ_lt_self _ _ hlt,.mk (i + 1) h₃ tk₃ m₃ nw₃ hlt (N₃ (I,itRg 0 n (i + 1)) (.head _)).1 hJ₃ F₃ (fun p hp=>N₃ p (.tail _ hp)) off₃⟩
    cases f with
    | ret v=>exact h₄
    | brk=>exact h₄
    | next=>exact fin' h₄
    | cont=>exact fin' h₄
  · have hi:i = n := by lia
    subst hi
    refine W.done _ _ _ hit fun h₂ tk₂ hs₂=>?_
    refine wpAny_execs_nil ?_
    exact fin m nw h₂ tk₂ hJ' (LCg.fr_but F' hs₂ (fun q=>hfr.1 q.symm) hfr.2) (LCg.news_but N' hs₂ off)
theorem RangeLoop.mk {target:PySem.Expr} {body:List Stmt} {s₁:Shared} {r:Addr} {b:Int} {t u v:Tok} {n:Nat} {m₀:Str -> Option Value} {news:List (Addr × Obj)} (J:Nat -> (Str -> Option Value) -> List (Addr × Obj) -> Prop) (hr:IsRange s₁.heap r 0 b 1 t u v) (hb:b = ((n:Nat):Int)) (hz:n ≤ 100)
    (F:Fr h₀ L s₁.heap m₀) (N:News h₀ L s₁.heap news) (hJ:J 0 m₀ news) (turn:RangeTurn prog w A h₀ L env target body Q s₁ n J) (fin:∀ m nw h tk,J n m nw -> Fr h₀ L h m -> News h₀ L h nw -> Q .next { s₁ with heap := h,toks := tk }) :
    RangeLoop prog w A h₀ L env target body Q (.ref r) s₁ :=
  ⟨r,b,t,u,v,n,m₀,news,J,rfl,hr,by subst hb; exact small_one (by decide) (by decide) (by lia) (by lia),by subst hb; rw [rangeSize_nat]; lia,F,N,hJ,turn,fin⟩
end
noncomputable abbrev natI (o:List Nat):List Int := o.map Int.ofNat
noncomputable def OwnL (own:List (Addr × Obj)):Prop := ∀ p ∈ own, ∃ ws c,p.2 = W.listOf ws c
noncomputable def LLs (news:List (Addr × Obj)):List Value -> List (List Nat) -> Prop := All2 fun v o=>∃ (a:Addr) (ws:List Value) (c:Nat),v = .ref a ∧ (a,W.listOf (List.toArray ws) c) ∈ news ∧ IntsAre ws (natI o)
theorem All2.imp {α β:Type} {T T':α -> β -> Prop} (h:∀ a b,T a b -> T' a b):∀ {as:List α} {bs:List β},All2 T as bs -> All2 T' as bs := fun g=>by
  induction g with
  | nil=>exact .nil
  | cons x _ ih=>exact .cons (h _ _ x) ih
theorem LLs.mono {n1 n2:List (Addr × Obj)} {vs:List Value} {oss:List (List Nat)} (h:∀ p ∈ n1,p ∈ n2) (l:LLs n1 vs oss):LLs n2 vs oss :=
  All2.imp (fun _ _ q=>by obtain ⟨a,ws,c,e,hm,hi⟩ := q; exact ⟨a,ws,c,e,h _ hm,hi⟩) l
theorem All2.get {α β:Type} {T:α -> β -> Prop} : ∀ {as:List α} {bs:List β},All2 T as bs -> ∀ (i:Nat) (a:α),as[i]? = some a -> ∃ b,bs[i]? = some b ∧ T a b := fun g=>by
  induction g with
  | nil=>exact fun _ _ h=>nomatch h
  | cons x r ih =>
    intro i a h
    cases i with
    | zero=>exact ⟨_,rfl,Option.some.inj h ▸ x⟩
    | succ i=>exact ih i a h
inductive LAt (news:List (Addr × Obj)) (oss:List (List Nat)) (i:Nat):Value -> Prop
  | mk (o:List Nat) (a:Addr) (ws:List Value) (c:Nat):oss[i]? = some o -> (a,W.listOf (List.toArray ws) c) ∈ news -> IntsAre ws (natI o) -> LAt news oss i (.ref a)
inductive LJ (news:List (Addr × Obj)) (bd:Nat -> Prop) (res:Nat -> List (List Nat)) (i:Nat) (ys:List Value) (nw:List (Addr × Obj)):Prop
  | mk (own:List (Addr × Obj)) (_:nw = news ++ own) (_:OwnL own) (_:bd i) (_:LLs own ys (res i))
theorem LLs.at {news:List (Addr × Obj)} {vs:List Value} {oss:List (List Nat)} (l:LLs news vs oss) {i:Nat} {v:Value} (h:vs[i]? = some v):LAt news oss i v := by
  obtain ⟨o,ho,a,ws,c,rfl,h1,h2⟩ := All2.get l i v h
  exact .mk o a ws c ho h1 h2
theorem LLs.snoc {news:List (Addr × Obj)} {vs:List Value} {oss:List (List Nat)} {a:Addr} {ws:List Value} {c:Nat} {o:List Nat} (l:LLs news vs oss) (hm:(a,W.listOf (List.toArray ws) c) ∈ news) (hi:IntsAre ws (natI o)):LLs news (vs ++ [.ref a]) (oss ++ [o]) :=
  All2.snoc l ⟨a,ws,c,rfl,hm,hi⟩
theorem ownl_off {h₀ h:Heap} {L I:Addr} {oI:Obj} {own all:List (Addr × Obj)} (N:News h₀ L h all) (hI:(I,oI) ∈ all) (hc:oI.cls ≠ .type "list") (hs:∀ p ∈ own,p ∈ all) (ho:OwnL own):∀ p ∈ own,p.1 ≠ I := by
  intro p hp e
  have h1 := (N _ hI).1
  have h2 := (N _ (hs p hp)).1
  rw [e] at h2
  rw [h1] at h2
  obtain ⟨ws,c,e3⟩ := ho p hp
  have h3:oI = p.2 := Option.some.inj h2
  rw [h3,e3] at hc
  exact hc rfl
theorem off3_of {I C D:Addr} : ∀ {l:List (Addr × Obj)},(∀ p ∈ l,p.1 ≠ I ∧ p.1 ≠ C ∧ p.1 ≠ D) -> LCg.Off3 I C D l
  | [],_=>trivial
  | _ :: _,h=>⟨h _ (.head _),off3_of fun p hp=>h p (.tail _ hp)⟩
section
variable {prog:Program} {w:World} {A:Around} {E:Value -> Shared -> Prop} {s₁:Shared} {h₀:Heap} {L:Addr} {m:Str -> Option Value} {env:Env}
inductive NEnd (h₀:Heap) (L:Addr) (m:Str -> Option Value) (n:Nat) (tl:List (Addr × Obj)) (s₁:Shared) (v:Value) (s₃:Shared):Prop
  | mk (h' tk' r t u v') (_:v = .ref r) (_:s₃ = { s₁ with heap := h',toks := tk' }) (_:Fr h₀ L h' m) (_:News h₀ L h' tl) (_:IsRange h' r 0 (n:Int) 1 t u v')
theorem small_n {n:Nat} (h:n ≤ 100):Builtin.Range.small 0 (n:Int) 1 = true := small_one (by decide) (by decide) (by lia) (by lia)
theorem lenFM {nn:List Nat -> Nat} {f:List Nat -> Nat -> List Nat} {b:Nat} : ∀ oss:List (List Nat),(∀ o ∈ oss,nn o ≤ b) -> (oss.flatMap fun o=>(List.range (nn o)).map (f o)).length ≤ oss.length * b
  | [],_=>by simp
  | o :: r,h=>by
    have h1 := lenFM (f := f) r fun z hz=>h z (.tail _ hz)
    have h2 := h o (.head _)
    rw [List.flatMap_cons,List.length_append,List.length_map,List.length_range,List.length_cons,Nat.succ_mul]
    exact Nat.le_trans (Nat.add_le_add h2 h1) (Nat.le_of_eq (Nat.add_comm _ _))
theorem src2_lists {elt i1:PySem.Expr} {x y:Str} {scope:Scope} {cl:List (Str × Addr)} {Fin:Addr -> Heap -> Nat -> List Value -> List (Addr × Obj) -> Shared -> Prop} {Dd:Addr} {its:List Value} {k1:Nat} {oss:List (List Nat)} {news:List (Addr × Obj)} (f:List Nat -> Nat -> List Nat) (nn:List Nat -> Nat)
    (hh:A.handled = none) (F:Fr h₀ L s₁.heap m) (N:News h₀ L s₁.heap news) (hm1:(Dd,W.listOf its.toArray k1) ∈ news) (hL:LLs news its oss) (hz:oss.length ≤ 40) (hn:∀ o ∈ oss,nn o ≤ 10)
    (it2:∀ o ∈ oss, ∀ a ws c,(a,W.listOf (List.toArray ws) c) ∈ news -> IntsAre ws (natI o) -> ∀ own I oI C oC D m₂ ys h tk (E':Value -> Shared -> Prop),LCg.NsObj oC m₂ -> m₂ x = some (.ref a) -> Fr h₀ L h m -> News h₀ L h ((I,oI) :: (C,oC) :: (D,LCg.lst ys) :: (news ++ own)) -> LCg.Off3 I C D (news ++ own) -> ((@Ne Nat I C) ∧ (@Ne Nat I D) ∧ (@Ne Nat C D)) ->
      wpAny (model prog w) A (eval i1 (compEnvC scope cl C env)) (NEnd h₀ L m (nn o) ((I,oI) :: (C,oC) :: (D,LCg.lst ys) :: (news ++ own)) s₁) E' { s₁ with heap := h,toks := tk })
    (el:∀ o ∈ oss, ∀ a ws c,(a,W.listOf (List.toArray ws) c) ∈ news -> IntsAre ws (natI o) -> ∀ k,k < nn o -> ∀ tk0 own I oI C oC D I2 oI2 m₂ ys h tk (E':Value -> Shared -> Prop),LCg.NsObj oC m₂ -> m₂ x = some (.ref a) -> m₂ y = some (.int (k:Int) tk0) -> Fr h₀ L h m -> News h₀ L h ((I,oI) :: (C,oC) :: (D,LCg.lst ys) :: (I2,oI2) :: (news ++ own)) -> LCg.Off3 I C D ((I2,oI2) :: (news ++ own)) -> (∀ p ∈ news ++ own,p.1 ≠ I2) -> ((@Ne Nat I C) ∧ (@Ne Nat I D) ∧ (@Ne Nat C D)) ->
      wpAny (model prog w) A (eval elt (compEnvC scope cl C env)) (fun y' s₂=>∃ a' ws' c' h' tk',y' = .ref a' ∧ s₂ = { s₁ with heap := h',toks := tk' } ∧ Fr h₀ L h' m ∧ IntsAre ws' (natI (f o k)) ∧ News h₀ L h' ((a',W.listOf (List.toArray ws') c') :: (I,oI) :: (C,oC) :: (D,LCg.lst ys) :: (I2,oI2) :: (news ++ own)) ∧ (∀ p ∈ (I,oI) :: (C,oC) :: (D,LCg.lst ys) :: (I2,oI2) :: (news ++ own),p.1 < a')) E' { s₁ with heap := h,toks := tk })
    (fin:∀ D ys own,OwnL own -> LLs own ys (oss.flatMap fun o=>(List.range (nn o)).map (f o)) -> @LT.lt Nat _ s₁.heap.objs.size D -> LCg.Off1 D (news ++ own) -> ∀ h tk,Fin D h tk ys (news ++ own) s₁) :
    Src2 prog w A h₀ L m env elt i1 x y scope cl Fin (.ref Dd) s₁ := by
  have hl1:its.length = oss.length := All2.length hL
  have hbig:500 ≤ sizeLine := by rw [sizeLine_eq]; decide
  have bnd:∀ i,((oss.take i).flatMap fun o=>(List.range (nn o)).map (f o)).length ≤ 400 := fun i=>by
    have := lenFM (f := f) (b := 10) (oss.take i) fun o ho=>hn o (List.mem_of_mem_take ho)
    rw [List.length_take] at this
    have h2:min i oss.length ≤ 40 := Nat.le_trans (Nat.min_le_right _ _) hz
    exact Nat.le_trans this (Nat.mul_le_mul_right 10 h2)
  refine ⟨Dd,its.toArray,k1,news,LJ news (fun _=>True) (fun i=>(oss.take i).flatMap fun o=>(List.range (nn o)).map (f o)),rfl,hh,F,N,⟨[],(List.append_nil _).symm,fun _ h=>(nomatch h),trivial,by rw [List.take_zero]; exact All2.nil⟩,?_,?_,?_⟩
  · rintro i ys nw ⟨own,rfl,-,-,hy⟩
    refine ⟨List.mem_append_left _ hm1,?_⟩
    have := bnd i
    rw [← All2.length hy] at this
    exact Nat.le_trans this (Nat.le_trans (by decide) hbig)
  · rintro i v I oI C oC D m₂ ys nw h tk E' hv ⟨own,rfl,hls,-,hy⟩ hC hx F' N' off ne
    obtain ⟨o,a,ws,c,ho,ham,hai⟩ := hL.at (by simpa using hv)
    have hom:o ∈ oss := List.mem_of_getElem? ho
    refine wpAny_mono (it2 o hom a ws c ham hai own I oI C oC D m₂ ys h tk E' hC hx F' N' off ne) (fun xv s₂ hq=>?_) fun _ _ e=>e
    obtain ⟨h',tk',r,t,u,v',rfl,rfl,F2,N2,hR⟩ := hq
    have hno := hn o hom
    refine ⟨h',tk',oC,m₂,LJ news (fun j=>j ≤ nn o) (fun j=>((oss.take i).flatMap fun o=>(List.range (nn o)).map (f o)) ++ (List.range j).map (f o)),rfl,F2,hC,hx,N2,⟨own,rfl,hls,Nat.zero_le _,by simpa using hy⟩,.inr ⟨r,0,(nn o:Int),t,u,v',nn o,rfl,hR,small_n (by lia),by rw [rangeSize_nat]; lia,?_,?_,?_⟩⟩
    · rintro j ys nw ⟨own',rfl,-,hj,hy'⟩
      have h1 := bnd i
      have h2 := All2.length hy'
      rw [List.length_append,List.length_map,List.length_range] at h2
      lia
    · rintro j u I2 oI2 oC' m₃ ys' nw' h3 tk3 E3 ⟨hj,tb,rfl⟩ ⟨own',rfl,hls',-,hy'⟩ hC3 hx3 hy3 F3 N3 off3 off2 ne3
      rw [Int.zero_add] at hy3
      refine wpAny_mono (el o hom a ws c ham hai j hj tb own' I oI C oC' D I2 oI2 m₃ ys' h3 tk3 E3 hC3 hx3 hy3 F3 N3 off3 off2 ne3) (fun y' s₃ hq=>?_) fun _ _ e=>e
      obtain ⟨a',ws',c',h4,tk4,rfl,rfl,F4,hi4,N4,lt4⟩ := hq
      have hsub:∀ p ∈ news ++ ((a',W.listOf (List.toArray ws') c') :: own'),p = (a',W.listOf (List.toArray ws') c') ∨ p ∈ news ++ own' := fun p hp=>by
        simp only [List.mem_append,List.mem_cons] at hp ⊢
        rcases hp with h | h | h
        · exact .inr (.inl h)
        · exact .inl h
        · exact .inr (.inr h)
      have lI := lt4 (I,oI) (.head _)
      have lC := lt4 (C,oC') (.tail _ (.head _))
      have lD := lt4 (D,LCg.lst ys') (.tail _ (.tail _ (.head _)))
      have lI2 := lt4 (I2,oI2) (.tail _ (.tail _ (.tail _ (.head _))))
      refine LCg.CompEnd.intro F4 N4 ((I2,oI2) :: (news ++ ((a',W.listOf (List.toArray ws') c') :: own'))) ?_ ?_ trivial ⟨_,rfl,?_,_,rfl,?_,hj,?_⟩
      · intro p hp
        simp only [List.mem_cons] at hp ⊢
        rcases hp with h | h | h | h | h
        · exact .inr (.inl h)
        · exact .inr (.inr (.inl h))
        · exact .inr (.inr (.inr (.inl h)))
        · exact .inr (.inr (.inr (.inr (.inl h))))
        · rcases hsub p h with h | h
          · exact .inl h
          · exact .inr (.inr (.inr (.inr (.inr h))))
      · refine off3_of fun p hp=>?_
        rcases List.mem_cons.mp hp with rfl | hp
        · exact off3.mem _ (.head _)
        rcases hsub p hp with rfl | h
        · exact ⟨Nat.ne_of_gt lI,Nat.ne_of_gt lC,Nat.ne_of_gt lD⟩
        · exact off3.mem _ (.tail _ h)
      · intro p hp
        rcases hsub p hp with rfl | h
        · exact Nat.ne_of_gt lI2
        · exact off2 p h
      · intro p hp
        rcases List.mem_cons.mp hp with rfl | hp
        · exact ⟨_,_,rfl⟩
        · exact hls' p hp
      · rw [List.range_succ,List.map_append, ← List.append_assoc]
        exact LLs.snoc (c := c') (hy'.mono fun p hp=>.tail _ hp) (.head _) hi4
    · rintro ys' nw' ⟨own',rfl,hls',-,hy'⟩
      refine ⟨own',rfl,hls',trivial,?_⟩
      rw [List.take_add_one,ho,List.flatMap_append]
      simpa using hy'
  · rintro D ys nw ⟨own,rfl,hls,-,hy⟩ hlt o1 h tk
    rw [List.size_toArray,hl1,List.take_length] at hy
    exact fin D ys own hls hy hlt o1 h tk
end
end Mine
end
section
open PySem PySem.W PyProof.Rows PySem.Spec PySem.Calls
open PySem.Builtin PySem.Builtin.Str
namespace Mine
theorem occ_full (s sub:PySem.Str) (hi:Nat):∀ (l:List Nat) (i free:Nat),(forIn l ((#[i]:Array Nat),free) (StrLaws.occBody s sub hi 1)).run.fst = #[i]
  | [],_,_=>rfl
  | a :: l,i,free=>by
    rw [List.forIn_cons]
    unfold StrLaws.occBody
    rw [if_neg (fun h=>absurd h.1.1.1 (by simp))]
    exact occ_full s sub hi l i free
theorem occ_first (s sub:PySem.Str) (hi:Nat):∀ (l:List Nat) (free:Nat),(∀ i ∈ l,free ≤ i) ->
    (forIn l ((#[]:Array Nat),free) (StrLaws.occBody s sub hi 1)).run.fst.toList = (match l.find? (fun i=>decide (i + sub.length ≤ hi) && subAt s sub i) with | some i=>[i] | none=>[])
  | [],_,_=>rfl
  | a :: l,free,hf=>by
    rw [List.forIn_cons]
    unfold StrLaws.occBody
    by_cases hc:a + sub.length ≤ hi ∧ subAt s sub a = true
    · rw [if_pos ⟨⟨⟨by simp,hf a (.head _)⟩,hc.1⟩,hc.2⟩,List.find?_cons_of_pos (by simp [hc.1,hc.2])]
      show (forIn l ((#[a]:Array Nat),_) (StrLaws.occBody s sub hi 1)).run.fst.toList = [a]
      rw [occ_full]
    · rw [if_neg (fun h=>hc ⟨h.1.2,h.2⟩),List.find?_cons_of_neg (by simpa using hc)]
      exact occ_first s sub hi l free fun i hi' => hf i (.tail _ hi')
theorem occ_one (s sub:PySem.Str) (lo hi:Nat):occurrences s sub lo hi 1 = (match (List.range' lo (hi + 1 - lo)).find? (fun i=>decide (i + sub.length ≤ hi) && subAt s sub i) with | some i=>[i] | none=>[]) := by
  rw [StrLaws.occ_eq]
  exact occ_first s sub hi _ lo fun i hi=>(List.mem_range'.mp hi).elim fun k hk=>by lia
noncomputable def occ4 (x y:PySem.Str) (i j:Int):List Nat := occurrences x y (fromIndex x.length i) (min (fromIndex x.length j) x.length) 1
theorem occ4_le {x y:PySem.Str} {i j:Int} {k:Nat} {r:List Nat} (h:occ4 x y i j = k :: r):k + y.length ≤ x.length := by
  unfold occ4 at h
  rw [occ_one] at h
  split at h
  · rename_i e
    have h1 := List.find?_some e
    simp only [Bool.and_eq_true,decide_eq_true_eq] at h1
    cases h
    have := Nat.min_le_right (fromIndex x.length j) x.length
    lia
  · cases h
theorem gives_find4 (x y:PySem.Str) (i j:Int) (t u v v':Tok):Gives («str.find» ⟨[.str x t,.str y u,.int i v,.int j v'],[]⟩) (.int (match occ4 x y i j with | k :: _=>(k:Int) | []=>-1)) := by
  show Gives (match occ4 x y i j with | k :: _=>retInt k | []=>(do rule "str.find.not-found"; retInt (-1))) _
  cases occ4 x y i j with
  | nil=>exact .rule (.of_eq rfl)
  | cons k _=>exact .of_eq rfl
theorem find4 {prog:Program} {w:World} {A:Around} {E:Value -> Shared -> Prop} {s:Shared} {x y:PySem.Str} {t u v v':Tok} {i j:Int} {Q:Value -> Shared -> Prop}
    (h1:∀ k r,occ4 x y i j = k :: r -> k + y.length ≤ x.length -> ∀ t' tk,Q (.int (k:Int) t') { s with toks := tk }) (h2:occ4 x y i j = [] -> ∀ t' tk,Q (.int (-1) t') { s with toks := tk }) :
    wpAny (model prog w) A (call (.builtin "str.find") [.str x t,.str y u,.int i v,.int j v']) Q E s :=
  call_gives F.slot_str_find (typeIs_str _ _ _) F.entry_str_find (F.args_str_find_4 _ _ _ _) (gives_find4 x y i j t u v v') (by
    cases e:occ4 x y i j with
    | nil=>exact h2 e _ _
    | cons k r=>exact h1 k r e (occ4_le e) _ _)
noncomputable def findsAll (G:PySem.Str) (hi:Int):List PySem.Str -> Int -> Bool
  | [],_=>true
  | b :: r,p=>match occ4 G b p hi with
    | k :: _=>findsAll G hi r ((k:Int) + (b.length:Int))
    | []=>false
theorem finds_cons {G:PySem.Str} {hi p:Int} {b:PySem.Str} {r:List PySem.Str} : findsAll G hi (b :: r) p = match occ4 G b p hi with
  | k :: _=>findsAll G hi r ((k:Int) + (b.length:Int))
  | []=>false := rfl
theorem finds_yes {G:PySem.Str} {hi p:Int} {b:PySem.Str} {r:List PySem.Str} {k:Nat} {q:List Nat} {v:Bool} (e:occ4 G b p hi = k :: q) (h:v = findsAll G hi r ((k:Int) + (b.length:Int))):v = findsAll G hi (b :: r) p := by
  rw [finds_cons]
  rw [e]
  exact h
theorem finds_no {G:PySem.Str} {hi p:Int} {b:PySem.Str} {r:List PySem.Str} (e:occ4 G b p hi = []):false = findsAll G hi (b :: r) p := by
  rw [finds_cons]
  rw [e]
end Mine
end
section
open PySem PySem.W PyProof.Rows PySem.Spec PySem.Calls
namespace Mine
noncomputable def bindF (m₀:Str -> Option Value) (v1 v2:Option Value):Str -> Option Value := fun y=>if y = Str.ofString "startpos" then v2 else if y = Str.ofString "w" then v1 else m₀ y
theorem bindF_id (m₀:Str -> Option Value):m₀ = bindF m₀ (m₀ (Str.ofString "w")) (m₀ (Str.ofString "startpos")) := by
  funext y
  unfold bindF
  repeat' split
  all_goals first | rfl | (subst_vars; rfl)
theorem bindF_again (m₀:Str -> Option Value) (v1 v2 a1 a2 a3:Option Value) :
    (fun y=>if y = Str.ofString "startpos" then a2 else if y = Str.ofString "startpos" then a3 else if y = Str.ofString "w" then a1 else bindF m₀ v1 v2 y) = bindF m₀ a1 a2 := by
  funext y
  unfold bindF
  repeat' split
  all_goals rfl
noncomputable def FJ (G:Str) (hi:Int) (bs:List Str) (m₀:Str -> Option Value) (news:List (Addr × Obj)) (i:Nat) (m:Str -> Option Value) (nw:List (Addr × Obj)):Prop :=
  nw = news ∧ ∃ (p:Int) (tp:Tok) (vw:Option Value),m = bindF m₀ vw (some (.int p tp)) ∧ 0 ≤ p ∧ p ≤ G.length ∧ findsAll G hi bs 2 = findsAll G hi (bs.drop i) p
theorem fj_step {G:Str} {hi:Int} {bs:List Str} {m₀:Str -> Option Value} {news:List (Addr × Obj)} {i k:Nat} {q:List Nat} {p:Int} {b:Str} {t:Tok} {v1 v2 a1 a3:Option Value} (hb:bs[i]? = some b) (h:findsAll G hi bs 2 = findsAll G hi (bs.drop i) p) (e:occ4 G b p hi = k :: q) :
    FJ G hi bs m₀ news (i + 1) (fun y=>if y = Str.ofString "startpos" then some (.int ((k:Int) + (b.length:Int)) t) else if y = Str.ofString "startpos" then a3 else if y = Str.ofString "w" then a1 else bindF m₀ v1 v2 y) news := by
  have hlt:i < bs.length := (List.getElem?_eq_some_iff.mp hb).1
  have hbi:bs[i] = b := (List.getElem?_eq_some_iff.mp hb).2
  refine ⟨rfl,_,_,_,bindF_again ..,by lia,?_,?_⟩
  · have := occ4_le e
    lia
  · rw [h,List.drop_eq_getElem_cons hlt,hbi]
    exact (finds_yes e rfl).symm
theorem fj_no {G:Str} {hi:Int} {bs:List Str} {i:Nat} {p:Int} {b:Str} (hb:bs[i]? = some b) (h:findsAll G hi bs 2 = findsAll G hi (bs.drop i) p) (e:occ4 G b p hi = []):false = findsAll G hi bs 2 := by
  have hlt:i < bs.length := (List.getElem?_eq_some_iff.mp hb).1
  have hbi:bs[i] = b := (List.getElem?_eq_some_iff.mp hb).2
  rw [h,List.drop_eq_getElem_cons hlt,hbi]
  exact finds_no e
section
variable {prog:Program} {w:World} {A:Around} {E:Value -> Shared -> Prop} {s₁:Shared} {env:Env} {h₀:Heap} {L:Addr} {Q:Flow -> Shared -> Prop} {target:PySem.Expr} {body:List Stmt}
theorem ListLoop.fd {D:Addr} {vs:Array Value} {c:Nat} {m₀:Str -> Option Value} {news:List (Addr × Obj)} {G:Str} {hi:Int} {bs:List Str} {tp0:Tok} (F:Fr h₀ L s₁.heap m₀) (N:News h₀ L s₁.heap news) (hD:(D,W.listOf vs c) ∈ news) (hs:StrsAre vs.toList bs) (hp:m₀ (Str.ofString "startpos") = some (.int 2 tp0)) (hG:2 ≤ G.length)
    (turn:∀ i b t p tp vw I oI h tk,bs[i]? = some b -> 0 ≤ p -> p ≤ (G.length:Int) -> Fr h₀ L h (bindF m₀ vw (some (.int p tp))) -> News h₀ L h ((I,oI) :: news) -> findsAll G hi bs 2 = findsAll G hi (bs.drop i) p -> (∀ p ∈ news,p.1 ≠ I) ->
      wpAny (model prog w) A (assign target env (.str b t)) (fun _ s₃=>wpAny (model prog w) A (execs body env) (UnrPost h₀ L { s₁ with heap := h,toks := tk } I oI (FJ G hi bs m₀ news (i + 1)) Q) NoE s₃) NoE { s₁ with heap := h,toks := tk })
    (fin:∀ p tp vw h tk,true = findsAll G hi bs 2 -> Fr h₀ L h (bindF m₀ vw (some (.int p tp))) -> News h₀ L h news -> Q .next { s₁ with heap := h,toks := tk }) :
    ListLoop prog w A h₀ L env target body Q (.ref D) s₁ := by
  refine ⟨D,vs,c,m₀,news,FJ G hi bs m₀ news,rfl,F,N,⟨rfl,2,tp0,m₀ (Str.ofString "w"),?_,by lia,by lia,rfl⟩,?_,?_,?_⟩
  · rw [← hp]; exact bindF_id m₀
  · rintro i m nw ⟨rfl,_⟩
    exact hD
  · rintro i y m nw I oI h tk hy ⟨rfl,p,tp,vw,rfl,h1,h2,h3⟩ F' N' off cI
    obtain ⟨b,t,hb,rfl⟩ := strs_at hs i y (by rw [Array.getElem?_toList]; exact hy)
    exact turn i b t p tp vw I oI h tk hb h1 h2 F' N' h3 off
  · rintro m nw h tk ⟨rfl,p,tp,vw,rfl,h1,h2,h3⟩ F' N'
    refine fin p tp vw h tk ?_ F' N'
    rw [h3,List.drop_eq_nil_of_le (by rw [← hs.length,Array.length_toList]; exact Nat.le_refl _)]
    rfl
end
end Mine
end
section
open PySem PySem.W PyProof.Rows PySem.Spec PySem.Calls
namespace Mine
theorem strs_vals:∀ l:List (Str × Tok),StrsAre (strValues l) (l.map (·.1))
  | []=>.nil
  | _ :: l=>.cons _ _ (strs_vals l)
theorem split_vals {l:List (Str × Tok)} {a z:Str} {bs:List Str} (h:l.map (·.1) = a :: (bs ++ [z])):∃ t0 t9 vb,strValues l = .str a t0 :: (vb ++ [.str z t9]) ∧ StrsAre vb bs := by
  cases l with
  | nil=>cases h
  | cons x l =>
    obtain ⟨h1,h2⟩ := List.cons.inj h
    obtain ⟨lb,lz,rfl,h3,h4⟩ := List.map_eq_append_iff.mp h2
    obtain ⟨y,r,rfl,h5,h6⟩ := List.map_eq_cons_iff.mp h4
    obtain rfl := List.map_eq_nil_iff.mp h6
    refine ⟨x.2,y.2,strValues lb,?_,?_⟩
    · simp only [strValues,List.map_cons,List.map_append,List.map_nil]
      rw [← h1, ← h5]
    · rw [← h3]
      exact strs_vals lb
theorem del_last:∀ {l:List Value} {x:Value},ki_delL (l ++ [x]) l.length = some l
  | [],_=>rfl
  | y :: l,x=>by
    show (match ki_delL (l ++ [x]) l.length with | some q=>some (y :: q) | none=>none) = _
    rw [del_last]
section
variable {prog:Program} {w:World} {A:Around} {E:Value -> Shared -> Prop} {s:Shared} {h₀:Heap} {L D:Addr} {m:Str -> Option Value} {news:List (Addr × Obj)} {value slice:PySem.Expr} {l:List Value} {x:Value} {n:Nat} {u:Tok}
theorem item_first {Q:Value -> Shared -> Prop} (hl:s.heap.IsList D (x :: l).toArray) (h:Q x s)
    (hs:subscripted slice false (.ref D) (.int 0 u) = operate [.ref D,.int 0 u] (getItem (.ref D) (.int 0 u)) := by with_unfolding_all rfl) :
    wpAny (model prog w) A (subscriptTail value slice (.ref D) (.int 0 u)) Q E s := item_at hl (by decide) (by decide) rfl h hs
theorem item_last {Q:Value -> Shared -> Prop} (hl:s.heap.IsList D (l ++ [x]).toArray) (h:Q x s)
    (hs:subscripted slice false (.ref D) (.int (-1) u) = operate [.ref D,.int (-1) u] (getItem (.ref D) (.int (-1) u)) := by with_unfolding_all rfl) :
    wpAny (model prog w) A (subscriptTail value slice (.ref D) (.int (-1) u)) Q E s :=
  tail_any hl.typeIs slot_list_getitem.lookup (wpAny_getItem_list_neg hl (by decide) (by rw [List.size_toArray,List.length_append,List.length_singleton]; lia) (by decide) (by
    rw [List.size_toArray,List.length_append,List.length_singleton,show ((-1:Int) + ((l.length + 1:Nat):Int)).toNat = l.length by lia,List.getElem?_toArray,List.getElem?_append_right (Nat.le_refl _),Nat.sub_self]
    rfl) h) hs
theorem del_first {Q:Unit -> Shared -> Prop} (F:Fr h₀ L s.heap m) (N:News h₀ L s.heap ((D,W.listOf (List.toArray (x :: l)) n) :: news)) (ho:∀ p ∈ news,p.1 ≠ D) (hz:l.length ≤ 1000)
    (h:∀ h',Fr h₀ L h' m -> News h₀ L h' ((D,W.listOf (List.toArray l) (n + 1)) :: news) -> Q () { s with heap := h' }):wpAny (model prog w) A (delItem (.ref D) (.int 0 u)) Q E s :=
  ki_del F N (by decide) (seqIndex?_zero (by rw [List.size_toArray]; exact Nat.succ_pos _)) rfl (.head ho) (by rw [sizeLine_eq]; exact Nat.le_trans (Nat.succ_le_succ hz) (by decide)) h
theorem del_end {Q:Unit -> Shared -> Prop} (F:Fr h₀ L s.heap m) (N:News h₀ L s.heap ((D,W.listOf (List.toArray (l ++ [x])) n) :: news)) (ho:∀ p ∈ news,p.1 ≠ D) (hz:l.length ≤ 1000)
    (h:∀ h',Fr h₀ L h' m -> News h₀ L h' ((D,W.listOf (List.toArray l) (n + 1)) :: news) -> Q () { s with heap := h' }):wpAny (model prog w) A (delItem (.ref D) (.int (-1) u)) Q E s :=
  have hs:(List.toArray (l ++ [x])).size = l.length + 1 := by rw [List.size_toArray,List.length_append]; rfl
  ki_del F N (by decide) (seqIndex?_neg_one (by rw [hs]; exact Nat.succ_pos _)) (by rw [hs]; exact del_last) (.head ho) (by
    rw [sizeLine_eq,List.length_append]; exact Nat.le_trans (Nat.succ_le_succ hz) (by decide)) h
end
local macro_rules | `(tactic| walk_at "call builtin:str.find")=>`(tactic| (k_here; refine Stop.mk ?_))
local macro_rules | `(tactic| walk_at "call builtin:str.split")=>`(tactic| (k_here; refine Stop.mk ?_))
local macro_rules | `(tactic| walk_at "call builtin:len")=>`(tactic| (k_here; k_dflt (refine stop_len ?_)))
local macro_rules | `(tactic| walk_at "delItem")=>`(tactic| (k_here; refine Stop.mk ?_))
theorem c_match
    (B:Below A₀ base outer h₀) (F:Fr h₀ L s.heap m) (X:(KF w.params).In h₀) (N:News h₀ L s.heap news) (T:Top p loose mean mg mb h₀) (hk:cs.kind = .function) (hd:dp + 12 < recursionLimit) (hu:un + 60 < cLine)
    (W G:Str) (bs:List Str) (t1 t2:Tok) (hl:bs.length = 2 ∨ bs.length = 3 ∨ bs.length = 4 ∨ bs.length = 6) (hin:(Builtin.Str.occurrences W (.ofString "...") 0 W.length 1).isEmpty = false) (hW:W.length ≤ 200)
    (hsp:Txt.split W (.ofString "...") = .ofString "<r" :: (bs ++ [.ofString ">"])) (hz:∀ b ∈ bs,b.length ≤ 20)
    (hst:Txt.startswith G (.ofString "<r") = true) (hen:Txt.endswith G (.ofString ">") = true) (hG:G.length ≤ 400) (hG3:3 ≤ G.length)
    (hret:∀ (r:Bool) (h':Heap) (tk':Nat),r = findsAll G ((G.length:Int) - ((1:Nat):Int)) bs ((2:Nat):Int) -> Fr h₀ L h' m -> News h₀ L h' news -> Q (.bool r) { s with heap := h',toks := tk' }) :
    wpAny (model prog w) (ktrTop dp un gd cn cs L a ccd cl outer) (call (.ref 175) [.str W t1,.str G t2]) Q E s := by
  have hl6:bs.length ≤ 6 := by clear hd hu; lia
  clear hl
  w_on
  refine wpAny_call ?_
  k_dflt cell_enter
  (rename Fr _ _ _ (fun _=>_)=>F0); refine foldAll F0 ?_; clear F0; intro A9 e9 m9 F0
  k_steps
  refine Stop.of ?_
  (rename Fr _ _ _ _=>F9)
  (rename News _ _ _ _=>N9)
  refine KSpl.split1 F9 N9 (by decide) (fun D l9 h1 k1 e9 a9 F1 N1 l1=>?_) (by rw [sizeLine_eq]; clear hd hu; lia)
  obtain ⟨t0,t9,vb,e8,hvb⟩ := split_vals (e9.trans hsp)
  rw [e8] at N1
  clear e8 a9 e9 F9 N9
  have ho:∀ p ∈ news,p.1 ≠ D := fun p hp=>Nat.ne_of_lt (l1 p hp)
  have hlb := hvb.length
  clear l1
  k_steps
  refine Stop.of ?_
  (rename News _ _ _ _=>N2)
  refine len_L (vb.length + 2) (N2.isList (.head _)) (by rw [List.length_cons,List.length_append]; rfl) (by rw [hlb]; exact Nat.lt_of_le_of_lt (Nat.add_le_add_right hl6 2) (by decide)) ?_
  k_steps
  refine Stop.of ?_
  (rename News _ _ _ _=>N2)
  refine item_first (N2.isList (by k_mem)) ?_
  k_steps
  refine Stop.of ?_
  (rename Fr _ _ _ _=>F3)
  (rename News _ _ _ _=>N3)
  refine del_first (l := vb ++ [_]) F3 (news_tail N3) ho (by rw [List.length_append,hlb]; exact Nat.le_trans (Nat.succ_le_succ hl6) (by decide)) fun h4 F4 N4=>?_
  k_steps
  refine Stop.of ?_
  (rename News _ _ _ _=>N5)
  refine item_last (N5.isList (by k_mem)) ?_
  k_steps
  refine Stop.of ?_
  (rename Fr _ _ _ _=>F6)
  (rename News _ _ _ _=>N6)
  refine del_end (l := vb) F6 N6 ho (by rw [hlb]; exact Nat.le_trans hl6 (by decide)) fun h7 F7 N7=>?_
  k_steps
  refine Stop.of ?_
  (rename Fr _ _ _ _=>F9)
  refine For_listT F9 (fun _=>by with_unfolding_all rfl) rfl ?_
  k_steps
  (rename Fr _ _ _ _=>F8)
  (rename News _ _ _ _=>N8)
  refine' ListLoop.fd (G := G) (hi := (G.length:Int) - ((1:Nat):Int)) (bs := bs) F8 N8 (.head _) hvb rfl (by clear hd hu hl6; lia) ?turn ?fin
  case turn =>
    clear F8 N8
    intro i9 b9 t9 p9 tp9 vw9 I9 oI9 h9 tk9 hb9 hp9 hp8 F8 N8 hf9 off9
    have hz9 := hz b9 (List.mem_of_getElem? hb9)
    k_steps
    refine Stop.of ?_
    k_dflt (refine find4 ?_ ?_)
    · intro k9 r9 e9 l9 t9 q9
      k_steps
      refine Stop.of ?_
      refine' UnrEnd.intro ?F ?N _ ?sub ?off ?r
      case F | N=>k_asm
      case off=>exact off9
      case sub=>exact fun p hp=>hp
      case r=>exact fj_step hb9 hf9 (by assumption)
    · intro e9 t9 q9
      k_steps
      exact hret _ _ _ (fj_no hb9 hf9 (by assumption)) (by k_asm) (by first | k_asm | (refine' cb_drop ?cbN ?cbS; (case cbN=>k_asm); (case cbS=>kcj_all)))
  case fin =>
    clear F8 N8
    intro p9 tp9 vw9 h9 tk9 hf9 F8 N8
    k_steps
    exact hret _ _ _ hf9 (by k_asm) (by first | k_asm | (refine' cb_drop ?cbN ?cbS; (case cbN=>k_asm); (case cbS=>kcj_all)))
end Mine
end
section
open PySem PySem.W PyProof.Rows PySem.Spec PySem.Calls
open PySem.Builtin PySem.Builtin.Str
namespace Mine
noncomputable def mk3:List Nat := [46,46,46]
noncomputable def joinL:List (List Nat) -> List Nat
  | []=>[]
  | [p]=>p
  | p :: q :: r=>p ++ (mk3 ++ joinL (q :: r))
noncomputable def cutsOf:Nat -> List (List Nat) -> List Nat
  | _,[]=>[]
  | _,[_]=>[]
  | a,p :: q :: r=>(a + p.length) :: cutsOf (a + p.length + 3) (q :: r)
theorem cutsOf_cons {a:Nat} {p q:List Nat} {r:List (List Nat)} : cutsOf a (p :: q :: r) = (a + p.length) :: cutsOf (a + p.length + 3) (q :: r) := rfl
theorem occ_skip (x y:PySem.Str) (hi lim:Nat):∀ (k a n:Nat) (st:Array Nat × Nat),(∀ i,a ≤ i -> i < a + k -> ¬ (st.snd ≤ i ∧ i + y.length ≤ hi ∧ subAt x y i = true)) ->
    (forIn (List.range' a (k + n)) st (StrLaws.occBody x y hi lim)).run = (forIn (List.range' (a + k) n) st (StrLaws.occBody x y hi lim)).run
  | 0,a,n,st,_=>by rw [Nat.zero_add,Nat.add_zero]
  | k + 1,a,n,st,h=>by
    rw [show k + 1 + n = (k + n) + 1 from Nat.add_right_comm k 1 n,List.range'_succ,List.forIn_cons]
    have h0 := h a (Nat.le_refl _) (Nat.lt_add_of_pos_right (Nat.succ_pos k))
    have e:StrLaws.occBody x y hi lim a st = pure (ForInStep.yield st) := by
      unfold StrLaws.occBody
      rw [if_neg fun q=>h0 ⟨q.1.1.2,q.1.2,q.2⟩]
    rw [e]
    show (forIn (List.range' (a + 1) (k + n)) st (StrLaws.occBody x y hi lim)).run = _
    rw [occ_skip x y hi lim k (a + 1) n st fun i h1 h2=>h i (Nat.le_of_succ_le h1) (Nat.lt_of_lt_of_eq h2 (Nat.add_right_comm a 1 k)),show a + 1 + k = a + (k + 1) from Nat.add_right_comm a 1 k]
theorem occ_hit (x y:PySem.Str) (hi lim a n:Nat) (acc:Array Nat) (f:Nat) (h1:acc.size < lim) (h2:f ≤ a) (h3:a + y.length ≤ hi) (h4:subAt x y a = true) :
    (forIn (List.range' a (n + 1)) (acc,f) (StrLaws.occBody x y hi lim)).run = (forIn (List.range' (a + 1) n) (acc.push a,a + y.length) (StrLaws.occBody x y hi lim)).run := by
  rw [List.range'_succ,List.forIn_cons]
  have e:StrLaws.occBody x y hi lim a (acc,f) = pure (ForInStep.yield (acc.push a,a + y.length)) := by
    unfold StrLaws.occBody
    rw [if_pos ⟨⟨⟨h1,h2⟩,h3⟩,h4⟩]
  rw [e]
  rfl
theorem no_dot {X p t:List Nat} {a i:Nat} (hd:X.drop a = p ++ t) (hp:46 ∉ p) (h1:a ≤ i) (h2:i < a + p.length):((X.drop i).take 3 == mk3) = false := by
  obtain ⟨k,rfl⟩:∃ k,i = a + k := ⟨i - a,(Nat.add_sub_of_le h1).symm⟩
  rw [← List.drop_drop,hd]
  have hk:k < p.length := Nat.lt_of_add_lt_add_left h2
  rw [List.drop_append_of_le_length (Nat.le_of_lt hk),List.drop_eq_getElem_cons hk]
  rw [beq_eq_false_iff_ne]
  intro h
  have:p[k] = 46 := by
    rw [List.cons_append,List.take_succ_cons] at h
    exact (List.cons.inj h).1
  exact hp (this ▸ List.getElem_mem hk)
theorem fs1 (a p J:Nat):a + (p + (3 + J)) + 1 - a = p + ((2 + (a + (p + (3 + J)) + 1 - (a + p + 3))) + 1) := by
  rw [show a + (p + (3 + J)) + 1 - (a + p + 3) = J + 1 by rw [← Nat.add_assoc, ← Nat.add_assoc,Nat.add_assoc _ J 1,Nat.add_sub_cancel_left],Nat.add_assoc a _ 1,Nat.add_sub_cancel_left,Nat.add_comm 3 J,Nat.add_comm 2 (J + 1)]
  rfl
theorem occ_parts {x y:PySem.Str} (hy:y.cps.toList = mk3) {lim:Nat} : ∀ (r:List (List Nat)) (p:List Nat) (a f:Nat) (acc:Array Nat),(∀ q ∈ p :: r,46 ∉ q) -> x.cps.toList.drop a = joinL (p :: r) -> a ≤ x.length -> f ≤ a -> acc.size + r.length < lim ->
    (forIn (List.range' a (x.length + 1 - a)) (acc,f) (StrLaws.occBody x y x.length lim)).run.fst.toList = acc.toList ++ cutsOf a (p :: r)
  | [],p,a,f,acc,hq,hd,ha,hf,hl=>by
    have hyl:y.length = 3 := by show y.cps.size = 3; rw [← Array.length_toList,hy]; rfl
    have hx:x.cps.toList.length = x.length := Array.length_toList
    have hlen:x.length - a = p.length := by
      have := congrArg List.length hd
      rw [List.length_drop,hx] at this
      exact this
    have hs := occ_skip x y x.length lim (x.length + 1 - a) a 0 (acc,f) fun i h1 h2 h3=>by
      have h4 := h3.2.2
      rw [StrLaws.subAt_eq,hyl,hy,no_dot (t := []) (by rw [hd,List.append_nil]; rfl) (hq p (.head _)) h1 (Nat.lt_of_lt_of_eq (Nat.lt_of_lt_of_le (Nat.lt_add_of_pos_right (by rw [hyl]; decide)) h3.2.1) ((Nat.sub_eq_iff_eq_add' ha).mp hlen))] at h4
      cases h4
    rw [Nat.add_zero] at hs
    rw [hs]
    show acc.toList = acc.toList ++ []
    rw [List.append_nil]
  | q :: r,p,a,f,acc,hq,hd,ha,hf,hl=>by
    have hyl:y.length = 3 := by show y.cps.size = 3; rw [← Array.length_toList,hy]; rfl
    have hx:x.cps.toList.length = x.length := Array.length_toList
    have hd':x.cps.toList.drop a = p ++ (mk3 ++ joinL (q :: r)) := hd
    have hlen:x.length - a = p.length + (3 + (joinL (q :: r)).length) := by
      have := congrArg List.length hd'
      rw [List.length_drop,hx,List.length_append,List.length_append] at this
      exact this
    have hd2:x.cps.toList.drop (a + p.length) = mk3 ++ joinL (q :: r) := by rw [← List.drop_drop,hd',List.drop_left]
    have hd3:x.cps.toList.drop (a + p.length + 3) = joinL (q :: r) := by rw [← List.drop_drop,hd2]; rfl
    have hX:x.length = a + (p.length + (3 + (joinL (q :: r)).length)) := (Nat.sub_eq_iff_eq_add' ha).mp hlen
    have hA:a + p.length + 3 ≤ x.length := by rw [hX,Nat.add_assoc]; exact Nat.add_le_add_left (Nat.add_le_add_left (Nat.le_add_right 3 _) _) _
    rw [show x.length + 1 - a = p.length + ((2 + (x.length + 1 - (a + p.length + 3))) + 1) by rw [hX]; exact fs1 _ _ _]
    rw [occ_skip x y x.length lim p.length a _ (acc,f) fun i h1 h2 h3=>by
      have h4 := h3.2.2
      rw [StrLaws.subAt_eq,hyl,hy,no_dot hd' (hq p (.head _)) h1 h2] at h4
      cases h4]
    rw [occ_hit x y x.length lim (a + p.length) _ acc f (Nat.lt_of_le_of_lt (Nat.le_add_right _ _) hl) (Nat.le_trans hf (Nat.le_add_right _ _)) (by rw [hyl]; exact hA) (by rw [StrLaws.subAt_eq,hyl,hy,hd2]; rfl)]
    rw [occ_skip x y x.length lim 2 (a + p.length + 1) _ _ fun i h1 h2 h3=>by
      have h4:a + p.length + y.length ≤ i := h3.1
      rw [hyl] at h4
      exact absurd h2 (Nat.not_lt.mpr h4)]
    have ih := occ_parts hy (lim := lim) r q (a + p.length + 3) (a + p.length + 3) (acc.push (a + p.length)) (fun z hz=>hq z (.tail _ hz)) hd3 hA (Nat.le_refl _) (by rw [Array.size_push,Nat.add_right_comm]; exact hl)
    rw [show a + p.length + 1 + 2 = a + p.length + 3 from rfl,hyl,ih]
    simp [cutsOf_cons]
theorem parts_of {x:PySem.Str} : ∀ (r:List (List Nat)) (p:List Nat) (a:Nat),x.cps.toList.drop a = joinL (p :: r) -> (StrLaws.partsFrom x 3 a (cutsOf a (p :: r))).map (fun z=>z.cps.toList) = p :: r
  | [],p,a,hd=>by
    have hd:x.cps.toList.drop a = p := hd
    show [(x.cps.extract a x.length).toList] = [p]
    rw [Array.toList_extract]
    have hx:x.cps.toList.length = x.length := Array.length_toList
    rw [List.extract_eq_take_drop,hd,List.take_of_length_le]
    have := congrArg List.length hd
    rw [List.length_drop,hx] at this
    exact Nat.le_of_eq this.symm
  | q :: r,p,a,hd=>by
    have hd':x.cps.toList.drop a = p ++ (mk3 ++ joinL (q :: r)) := hd
    have hd2:x.cps.toList.drop (a + p.length) = mk3 ++ joinL (q :: r) := by rw [← List.drop_drop,hd',List.drop_left]
    have hd3:x.cps.toList.drop (a + p.length + 3) = joinL (q :: r) := by rw [← List.drop_drop,hd2]; rfl
    show (x.cps.extract a (a + p.length)).toList :: (StrLaws.partsFrom x 3 (a + p.length + 3) (cutsOf (a + p.length + 3) (q :: r))).map _ = p :: q :: r
    rw [parts_of r q _ hd3,Array.toList_extract,List.extract_eq_take_drop,hd',Nat.add_sub_cancel_left,List.take_left]
theorem cuts_len:∀ (r:List (List Nat)) (p:List Nat) (a:Nat),(cutsOf a (p :: r)).length = r.length
  | [],_,_=>rfl
  | q :: r,p,a=>by
    show (cutsOf (a + p.length + 3) (q :: r)).length + 1 = r.length + 1
    rw [cuts_len r q]
theorem str_list {x:PySem.Str} : (⟨x.cps.toList.toArray⟩:PySem.Str) = x := by rw [Array.toArray_toList]
theorem occ_all {x y:PySem.Str} (hy:y.cps.toList = mk3) {p:List Nat} {r:List (List Nat)} (hq:∀ q ∈ p :: r,46 ∉ q) (hx:x.cps.toList = joinL (p :: r)) {lim:Nat} (hl:r.length < lim):occurrences x y 0 x.length lim = cutsOf 0 (p :: r) := by
  rw [StrLaws.occ_eq]
  have h := occ_parts hy (lim := lim) r p 0 0 #[] hq (by rw [List.drop_zero,hx]) (Nat.zero_le _) (Nat.le_refl _) (by simpa using hl)
  simpa using h
theorem joinL_len:∀ (r:List (List Nat)) (p:List Nat),3 * r.length ≤ (joinL (p :: r)).length
  | [],_=>by simp
  | q :: r,p=>by
    have h0 := joinL_len r q
    show 3 * (r.length + 1) ≤ (p ++ (mk3 ++ joinL (q :: r))).length
    rw [List.length_append,List.length_append]
    exact Nat.le_trans (Nat.add_le_add_right h0 3) (Nat.le_trans (Nat.le_of_eq (Nat.add_comm _ 3)) (Nat.le_add_left _ _))
theorem split_parts {x y:PySem.Str} (hy:y.cps.toList = mk3) {p q:List Nat} {r:List (List Nat)} (hq:∀ z ∈ p :: q :: r,46 ∉ z) (hx:x.cps.toList = joinL (p :: q :: r)) :
    Txt.split x y = (p :: q :: r).map fun z=>(⟨z.toArray⟩:PySem.Str) := by
  have hyl:y.length = 3 := by show y.cps.size = 3; rw [← Array.length_toList,hy]; rfl
  have hxl:x.length = (joinL (p :: q :: r)).length := by rw [← hx,Array.length_toList]; rfl
  have hjl := joinL_len (q :: r) p
  have hlen:3 ≤ x.length := by rw [List.length_cons] at hjl; lia
  have hk:PySem.Builtin.Str.strKind y = 1 := by
    have e:y = ⟨#[46,46,46]⟩ := by rw [← str_list (x := y),hy]; rfl
    rw [e]
    decide +kernel
  have hk2:1 ≤ PySem.Builtin.Str.strKind x := by
    unfold PySem.Builtin.Str.strKind
    split
    · exact Nat.le_refl _
    · split <;> decide
  have ho := occ_all hy hq hx (lim := x.length + 1) (by rw [List.length_cons] at hjl ⊢; lia)
  unfold Txt.split
  rw [if_neg (by rw [hyl,hk]; simp; lia),ho,if_neg (by simp [cutsOf_cons]),StrLaws.partsBetween_eq,hyl]
  have h := parts_of (x := x) (q :: r) p 0 (by rw [List.drop_zero,hx])
  have h2 := congrArg (List.map fun z=>(⟨z.toArray⟩:PySem.Str)) h
  rw [List.map_map] at h2
  rw [← h2]
  exact (List.map_id' _).symm.trans (List.map_congr_left fun z _=>by simp)
theorem marker_in {x y:PySem.Str} (hy:y.cps.toList = mk3) {p q:List Nat} {r:List (List Nat)} (hq:∀ z ∈ p :: q :: r,46 ∉ z) (hx:x.cps.toList = joinL (p :: q :: r)) :
    (occurrences x y 0 x.length 1).isEmpty = false := by
  have hyl:y.length = 3 := by show y.cps.size = 3; rw [← Array.length_toList,hy]; rfl
  have h := (StrLaws.found_iff x y).mpr ⟨p.length,by
    have hxl:x.length = (joinL (p :: q :: r)).length := by rw [← hx,Array.length_toList]; rfl
    rw [hyl,hxl]
    show p.length + 3 ≤ (p ++ (mk3 ++ joinL (q :: r))).length
    rw [List.length_append,List.length_append]
    have:mk3.length = 3 := rfl
    lia,by
    rw [StrLaws.subAt_eq,hyl,hy,hx]
    show ((p ++ (mk3 ++ joinL (q :: r))).drop p.length).take 3 == mk3
    rw [List.drop_left]
    rfl⟩
  simpa using h
theorem sub_pre (g b:List Nat) (i hi:Nat) (hh:hi ≤ g.length) (hb:1 ≤ b.length):(decide (i + b.length ≤ hi) && ((g.drop i).take b.length == b)) = b.isPrefixOf ((g.take hi).drop i) := by
  rw [Bool.eq_iff_iff,Bool.and_eq_true,decide_eq_true_eq,beq_iff_eq,List.isPrefixOf_iff_prefix,List.prefix_iff_eq_take,List.drop_take,List.take_take]
  constructor
  · rintro ⟨h1,h2⟩
    rw [Nat.min_eq_left (Nat.le_sub_of_add_le' h1),h2]
  · intro h
    have hl := congrArg List.length h
    rw [List.length_take,List.length_drop] at hl
    have h0 := Nat.le_trans (Nat.le_of_eq hl) (Nat.le_trans (Nat.min_le_left _ _) (Nat.min_le_right _ _))
    rw [Nat.min_eq_left h0] at h
    exact ⟨(Nat.le_sub_iff_add_le' (Nat.le_of_lt (Nat.lt_of_sub_pos (Nat.lt_of_lt_of_le hb h0)))).mp h0,h.symm⟩
theorem ff_occ (G b:PySem.Str) (p:Nat) (hG:1 ≤ G.length) (hb:1 ≤ b.length):occ4 G b (p:Int) ((G.length:Int) - ((1:Nat):Int)) = (match ff b.cps.toList (G.cps.toList.take (G.length - 1)) p with | some k=>[k] | none=>[]) := by
  unfold occ4
  have e1:fromIndex G.length (p:Int) = p := by unfold fromIndex; rw [if_neg (Int.not_lt.mpr (Int.natCast_nonneg _)),Int.max_eq_right (Int.natCast_nonneg _),Int.toNat_natCast]
  have e2:min (fromIndex G.length ((G.length:Int) - ((1:Nat):Int))) G.length = G.length - 1 := by rw [← Int.ofNat_sub hG]; unfold fromIndex; rw [if_neg (Int.not_lt.mpr (Int.natCast_nonneg _)),Int.max_eq_right (Int.natCast_nonneg _),Int.toNat_natCast,Nat.min_eq_left (Nat.sub_le _ _)]
  rw [e1,e2,occ_one]
  unfold ff
  have e3:(G.cps.toList.take (G.length - 1)).length = G.length - 1 := by rw [List.length_take]; exact Nat.min_eq_left (Nat.sub_le _ _)
  rw [e3]
  congr 2
  funext i
  rw [StrLaws.subAt_eq]
  have e4:b.length = b.cps.toList.length := rfl
  rw [e4]
  exact sub_pre _ _ _ _ (Nat.sub_le _ _) hb
theorem finds_fall (G:PySem.Str) (hG:1 ≤ G.length):∀ (bs:List PySem.Str) (p:Nat),(∀ b ∈ bs,1 ≤ b.length) ->
    findsAll G ((G.length:Int) - ((1:Nat):Int)) bs (p:Int) = fall (G.cps.toList.take (G.length - 1)) (bs.map fun b=>b.cps.toList) p
  | [],_,_=>rfl
  | b :: r,p,h=>by
    rw [List.map_cons]
    rw [finds_cons,fall_cons]
    rw [ff_occ G b p hG (h b (.head _))]
    cases ff b.cps.toList (G.cps.toList.take (G.length - 1)) p with
    | none=>rfl
    | some k =>
      have ih := finds_fall G hG r (k + b.length) fun c hc=>h c (.tail _ hc)
      have e4:b.cps.toList.length = b.length := rfl
      show findsAll G _ r ((k:Int) + (b.length:Int)) = fall _ _ (k + b.cps.toList.length)
      rw [e4, ← ih,Int.natCast_add]
noncomputable def li (x:PySem.Str):List Nat := x.cps.toList
theorem li_app (a b:PySem.Str):li (a ++ b) = li a ++ li b := KT.app_list a b
theorem li_e:li (.ofString "") = [] := by decide +kernel
theorem li_joinS:∀ ys:List PySem.Str,li (PySem.Str.join (.ofString "") ys) = (ys.map li).flatten
  | []=>by decide +kernel
  | [y]=>by
    show li y = _
    simp
  | x :: y :: r=>by
    rw [join_cons_cons,li_app,li_app,li_e,li_joinS (y :: r)]
    simp
theorem li_join (ys:List PySem.Str):li (Txt.join (.ofString "") ys) = (ys.map li).flatten := by
  show li (glued (.ofString "") ys) = _
  rw [StrLaws.glued_eq_join,li_joinS]
theorem li_quote (wr x:PySem.Str):li (quoteOf wr x) = mk3 ++ blk (li wr) (li x) := by
  unfold quoteOf
  rw [li_app,li_app,li_app,li_app]
  have e1:li (.ofString "... ") = [46,46,46,32] := by decide +kernel
  have e2:li (.ofString "=\"") = [61,34] := by decide +kernel
  have e3:li (.ofString "\"") = [34] := by decide +kernel
  rw [e1,e2,e3]
  simp [mk3,blk]
theorem joinL_quote (w:List Nat):∀ (ns:List (List Nat)) (p:List Nat),joinL (p :: (ns.map (blk w) ++ [[62]])) = p ++ (ns.map fun n=>mk3 ++ blk w n).flatten ++ (mk3 ++ [62])
  | [],p=>by simp [show joinL [p,[62]] = p ++ (mk3 ++ [62]) from rfl]
  | n :: r,p=>by
    have ih := joinL_quote w r (blk w n)
    show p ++ (mk3 ++ joinL (blk w n :: (r.map (blk w) ++ [[62]]))) = _
    rw [ih]
    simp
theorem li_quest (wr:PySem.Str) (xs:List PySem.Str):li (questOf wr xs) = joinL ([60,114] :: ((xs.map li).map (blk (li wr)) ++ [[62]])) := by
  unfold questOf
  rw [li_app,li_app,li_join,joinL_quote]
  have e1:li (.ofString "<r") = [60,114] := by decide +kernel
  have e2:li (.ofString "...>") = mk3 ++ [62] := by decide +kernel
  rw [e1,e2,List.map_map,List.map_map]
  congr 3
  exact List.map_congr_left fun x _=>li_quote wr x
noncomputable def blkS (wr x:PySem.Str):PySem.Str := ⟨(blk (li wr) (li x)).toArray⟩
theorem dots (wr:PySem.Str) (xs:List PySem.Str) (hw:46 ∉ li wr) (hx:∀ x ∈ xs,46 ∉ li x):∀ z ∈ [60,114] :: ((xs.map li).map (blk (li wr)) ++ [[62]]),46 ∉ z := by
  intro z hz
  rcases List.mem_cons.mp hz with rfl | hz
  · decide
  · rcases List.mem_append.mp hz with hz | hz
    · rw [List.map_map] at hz
      obtain ⟨x,hx',rfl⟩ := List.mem_map.mp hz
      have h1 := hx x hx'
      show 46 ∉ blk (li wr) (li x)
      unfold blk
      simp only [List.mem_cons,List.mem_append,List.not_mem_nil,or_false,not_or]
      exact ⟨by decide,h1,by decide,by decide,hw,by decide⟩
    · rw [List.mem_singleton.mp hz]
      decide
theorem mkS:li (.ofString "...") = mk3 := by decide +kernel
theorem quest_split (wr x:PySem.Str) (xs:List PySem.Str) (hw:46 ∉ li wr) (hx:∀ y ∈ x :: xs,46 ∉ li y) :
    Txt.split (questOf wr (x :: xs)) (.ofString "...") = .ofString "<r" :: ((x :: xs).map (blkS wr) ++ [.ofString ">"]) := by
  have h := split_parts (x := questOf wr (x :: xs)) (y := .ofString "...") mkS (dots wr (x :: xs) hw hx) (li_quest wr (x :: xs))
  rw [h]
  have e1:(⟨[60,114].toArray⟩:PySem.Str) = .ofString "<r" := by decide +kernel
  have e2:(⟨[62].toArray⟩:PySem.Str) = .ofString ">" := by decide +kernel
  show (⟨[60,114].toArray⟩:PySem.Str) :: (((x :: xs).map li).map (blk (li wr)) ++ [[62]]).map _ = _
  rw [e1,List.map_append,List.map_map,List.map_map]
  show _ :: (_ ++ [(⟨[62].toArray⟩:PySem.Str)]) = _
  rw [e2]
  rfl
theorem quest_in (wr x:PySem.Str) (xs:List PySem.Str) (hw:46 ∉ li wr) (hx:∀ y ∈ x :: xs,46 ∉ li y):(occurrences (questOf wr (x :: xs)) (.ofString "...") 0 (questOf wr (x :: xs)).length 1).isEmpty = false :=
  marker_in (x := questOf wr (x :: xs)) (y := .ofString "...") mkS (dots wr (x :: xs) hw hx) (li_quest wr (x :: xs))
theorem finds_greedy {G wr:PySem.Str} {xs:List PySem.Str} {ns:List (List Nat)} (hG:li G = [60,114] ++ cat (li wr) ns ++ [62]) (hw:32 ∉ li wr) (h1:∀ x ∈ xs,GoodN (li x)) (h2:∀ n ∈ ns,GoodN n) :
    findsAll G ((G.length:Int) - ((1:Nat):Int)) (xs.map (blkS wr)) ((2:Nat):Int) = greedy (xs.map li) ns := by
  have hl:G.length = (li G).length := by show G.cps.size = _; exact Array.length_toList.symm
  have hG1:1 ≤ G.length := by rw [hl,hG]; simp
  rw [finds_fall G hG1 _ 2 fun b hb=>by
    obtain ⟨x,_,rfl⟩ := List.mem_map.mp hb
    show 1 ≤ ((blk (li wr) (li x)).toArray).size
    simp [blk]]
  have e1:G.cps.toList.take (G.length - 1) = [60,114] ++ cat (li wr) ns := by
    show (li G).take (G.length - 1) = _
    rw [hl,hG]
    rw [List.length_append,List.length_singleton,Nat.add_sub_cancel,List.take_left]
  rw [e1]
  have e2:(xs.map (blkS wr)).map (fun b=>b.cps.toList) = (xs.map li).map (blk (li wr)) := by
    rw [List.map_map,List.map_map]
    exact List.map_congr_left fun x _=>by simp [blkS]
  rw [e2]
  exact fall_greedy hw (xs.map li) ns [60,114] (fun m hm=>by obtain ⟨x,hx,rfl⟩ := List.mem_map.mp hm; exact h1 x hx) h2
end Mine
end
section
open PySem PySem.W PyProof.Rows PySem.Spec PySem.Calls
namespace Mine
noncomputable def nameAt (i:Nat):List Nat := li (dressed ((i / 26:Nat):Int) (97 + i % 26))
noncomputable def lexLt:List Nat -> List Nat -> Bool
  | [],[]=>false
  | [],_ :: _=>true
  | _ :: _,[]=>false
  | a :: r,b :: q=>decide (a < b) || (a == b && lexLt r q)
theorem name_chain:(List.range 1013).all (fun i=>lexLt (nameAt i) (nameAt (i + 1))) = true := by decide +kernel
theorem name_good:(List.range 1014).all (fun i=>!(nameAt i).contains 61 && !(nameAt i).contains 32 && !(nameAt i).contains 46 && decide (1 ≤ (nameAt i).length) && decide ((nameAt i).length ≤ 2)) = true := by decide +kernel
end Mine
end
section
open PySem PySem.W PyProof.Rows PySem.Spec PySem.Calls
namespace Mine
section
variable {prog:Program} {w:World} {A:Around} {E:Value -> Shared -> Prop} {s:Shared} {env:Env} {h₀:Heap} {L:Addr} {Q:Flow -> Shared -> Prop}
noncomputable abbrev tupO (vs:Array Value) (c:Nat):Obj := { cls := .type "tuple",data := .seq vs c }
noncomputable def TupTurn (prog:Program) (w:World) (A:Around) (h₀:Heap) (L:Addr) (env:Env) (target:PySem.Expr) (body:List Stmt) (Q:Flow -> Shared -> Prop) (s₁:Shared) (vs:Array Value) (J:Nat -> (Str -> Option Value) -> List (Addr × Obj) -> Prop):Prop :=
  ∀ i y m nw I oI h tk,vs[i]? = some y -> J i m nw -> Fr h₀ L h m -> News h₀ L h ((I,oI) :: nw) -> (∀ p ∈ nw,p.1 ≠ I) -> oI.cls = .type "tuple_iterator" ->
    wpAny (model prog w) A (assign target env y) (fun _ s₃=>wpAny (model prog w) A (execs body env) (UnrPost h₀ L { s₁ with heap := h,toks := tk } I oI (J (i + 1)) Q) NoE s₃) NoE { s₁ with heap := h,toks := tk }
inductive TupLoop (prog:Program) (w:World) (A:Around) (h₀:Heap) (L:Addr) (env:Env) (target:PySem.Expr) (body:List Stmt) (Q:Flow -> Shared -> Prop) (xv:Value) (s₁:Shared):Prop
  | it (D vs c m₀ news J) (_:xv = .ref D) (_:Fr h₀ L s₁.heap m₀) (_:News h₀ L s₁.heap news) (_:J 0 m₀ news) (_:(∀ i m nw,J i m nw -> (D,tupO vs c) ∈ nw)) (_:TupTurn prog w A h₀ L env target body Q s₁ vs J) (_:∀ m nw h tk,J vs.size m nw -> Fr h₀ L h m -> News h₀ L h nw -> Q .next { s₁ with heap := h,toks := tk })
theorem For_tupT {target iter:PySem.Expr} {body:List Stmt} {pos:Pos} {m:Str -> Option Value} (_F₀:Fr h₀ L s.heap m) (hs:∀ x,foldedSetIterable iter env x = pure x) (hh:A.handled = none)
    (h:wpAny (model prog w) A (eval iter env) (TupLoop prog w A h₀ L env target body Q) E s) :
    wpAny (model prog w) A (exec (.For target iter body [] pos) env) Q E s := by
  refine wpAny_For (wpAny_mono h (fun xv s₁ h₁=>?_) fun _ _ e=>e) hs
  obtain ⟨D,vs,c,m₀,news,J,rfl,F,N,hJ,hsrc,turn,fin⟩ := h₁
  have hD := N _ (hsrc _ _ _ hJ)
  refine wpAny_pyIter_tuple ⟨_,hD.1,rfl,c,rfl⟩ ?_
  have hI:∀ p ∈ news,p.1 ≠ s₁.heap.objs.size := fun p hp=>Nat.ne_of_lt (Heap.lt_size (N p hp).1)
  have hn := kdx_fresh F (Nat.le_refl s₁.heap.objs.size)
  generalize hII:s₁.heap.objs.size = I at *
  have F₁:Fr h₀ L (s₁.heap.push { cls := .type "tuple_iterator",data := .fields #[.ref D,.int 0 0] }) m₀ := F.push _
  refine codeAny_forLoop_any (LoopI h₀ L s₁ vs.size (fun h i=>h.IsTupleIter I D i) J I) ?_ vs.size
    (.mk 0 _ s₁.toks m₀ news (Nat.zero_le _) ⟨_,by rw [← hII]; exact Heap.get?_push_size _ rfl,rfl,rfl⟩ hJ F₁ (N.grown fun b o q=>Heap.get?_push_of_some _ q) hI)
  rintro _ _ ⟨i,h',tk,m,nw,hi,hit,hJ',F',N',off⟩
  have hD' := N' _ (hsrc _ _ _ hJ')
  have hl':h'.IsTuple D vs := ⟨_,hD'.1,rfl,c,rfl⟩
  by_cases hlt:i < vs.size
  · refine wpAny_pyNext_tuple_item hit hl' (x := vs[i]) (by simp [hlt]) fun h₂ hit₂ hs₂=>?_
    obtain ⟨oI,eI,cI,dI⟩ := hit₂
    refine owned_any eI cI (by decide +kernel) ?_
    have F₂:Fr h₀ L h₂ m := kas_fr F' hs₂ hn.1 hn.2
    have N₂:News h₀ L h₂ ((I,oI) :: nw) := fun p hp=>by
      rcases List.mem_cons.mp hp with rfl | hp
      · exact ⟨eI,hn⟩
      · exact kas_news N' hs₂ off p hp
    refine wpAny_mono (turn i vs[i] m nw I oI h₂ tk (by simp [hlt]) hJ' F₂ N₂ off cI) (fun _ s₃ h₃=>wpAny_mono h₃ (fun f s₄ h₄=>?_) fun _ _ e=>e.elim) fun _ _ e=>e.elim
    have fin':UnrEnd h₀ L { s₁ with heap := h₂,toks := tk } I oI (J (i + 1)) s₄ -> ∃ k,k < vs.size - i ∧ LoopI h₀ L s₁ vs.size (fun h i=>h.IsTupleIter I D i) J I k s₄ := by
      rintro ⟨h₃,tk₃,m₃,nw₃,rfl,F₃,N₃,off₃,hJ₃⟩
      exact ⟨vs.size - (i + 1),Nat.sub_succ_lt_self _ _ hlt,.mk (i + 1) h₃ tk₃ m₃ nw₃ hlt ⟨oI,(N₃ (I,oI) (.head _)).1,cI,dI⟩ hJ₃ F₃ (fun p hp=>N₃ p (.tail _ hp)) off₃⟩
    cases f with
    | ret v=>exact h₄
    | brk=>exact h₄
    | next=>exact fin' h₄
    | cont=>exact fin' h₄
  · have hi:i = vs.size := by lia
    subst hi
    refine wpAny_pyNext_tuple_end hh hit hl' (by simp) fun h₂ hs₂=>?_
    refine wpAny_execs_nil ?_
    refine fin m nw h₂ tk hJ' ⟨F'.ns.at fun o e=>hs₂ _ o (fun q=>hn.1 q.symm) e,fun b o e=>hs₂ b o (fun q=>by rw [q,hn.2] at e; cases e) (F'.keep b o e),F'.above⟩ fun p hp=>⟨hs₂ _ _ (off p hp) (N' p hp).1,(N' p hp).2⟩
end
end Mine
end
section
open PySem PySem.W PyProof.Rows PySem.Spec PySem.Calls
namespace Mine
structure QName (x:Str):Prop where
  eq:61 ∉ li x
  sp:32 ∉ li x
  dot:46 ∉ li x
  len:x.length ≤ 2
structure QWr (wr:Str):Prop where
  sp:32 ∉ li wr
  dot:46 ∉ li wr
  len:wr.length ≤ 8
theorem li_len (x:Str):(li x).length = x.length := Array.length_toList
theorem blkS_len {wr x:Str} (hw:wr.length ≤ 8) (hx:x.length ≤ 2):(blkS wr x).length ≤ 20 := by
  have h1 := li_len wr
  have h2 := li_len x
  show ((blk (li wr) (li x)).toArray).size ≤ 20
  rw [List.size_toArray]
  simp only [blk,List.length_cons,List.length_append,List.length_nil]
  lia
theorem questOf_len {wr:Str} {xs:List Str} (hw:wr.length ≤ 8) (hx:∀ x ∈ xs,x.length ≤ 2) (hn:xs.length ≤ 6):(questOf wr xs).length ≤ 200 := by
  unfold questOf
  simp only [Str.length_append]
  rw [join_empty_len]
  have h1 := sum_len_le (xs.map (quoteOf wr)) 20 (fun y hy=>by obtain ⟨x,hx',rfl⟩ := List.mem_map.mp hy; exact quoteOf_len hw (hx x hx'))
  rw [List.length_map] at h1
  have e1:(Str.ofString "<r").length = 2 := by decide +kernel
  have e2:(Str.ofString "...>").length = 4 := by decide +kernel
  lia
structure PageLike (G wr:Str) (ns:List (List Nat)):Prop where
  eq:li G = [60,114] ++ cat (li wr) ns ++ [62]
  len:G.length ≤ 400
  good:∀ n ∈ ns,GoodN n
theorem subAt_of {G x:Str} {l r:List Nat} (h:li G = l ++ li x ++ r):PySem.Builtin.Str.subAt G x l.length = true := by
  rw [StrLaws.subAt_eq]
  have h':G.cps.toList = l ++ li x ++ r := h
  rw [h',List.append_assoc,List.drop_left]
  have e:x.length = (li x).length := (li_len x).symm
  rw [e,List.take_left]
  exact beq_self_eq_true _
theorem PageLike.starts {G wr:Str} {ns:List (List Nat)} (P:PageLike G wr ns):Txt.startswith G (.ofString "<r") = true := by
  have e:li (.ofString "<r") = [60,114] := by decide +kernel
  have e2:(Str.ofString "<r").length = 2 := by decide +kernel
  have h:li G = [] ++ li (.ofString "<r") ++ (cat (li wr) ns ++ [62]) := by rw [P.eq,e]; simp
  have hl:G.length = _ := (li_len G).symm
  rw [h] at hl
  simp only [List.length_append,li_len,e2,List.length_nil,List.length_singleton] at hl
  unfold Txt.startswith
  have h0 := subAt_of h
  rw [List.length_nil] at h0
  rw [h0,Bool.and_true,decide_eq_true_eq,e2]
  lia
theorem PageLike.ends {G wr:Str} {ns:List (List Nat)} (P:PageLike G wr ns):Txt.endswith G (.ofString ">") = true := by
  have e:li (.ofString ">") = [62] := by decide +kernel
  have e2:(Str.ofString ">").length = 1 := by decide +kernel
  have h:li G = ([60,114] ++ cat (li wr) ns) ++ li (.ofString ">") ++ [] := by rw [P.eq,e]; simp
  have hl:G.length = _ := (li_len G).symm
  rw [h] at hl
  simp only [List.length_append,li_len,e2,List.length_nil] at hl
  have e3:G.length - (Str.ofString ">").length = ([60,114] ++ cat (li wr) ns).length := by rw [e2,List.length_append]; exact Nat.sub_eq_of_eq_add hl
  unfold Txt.endswith
  rw [e3,subAt_of h,Bool.and_true,decide_eq_true_eq,e2]
  lia
theorem PageLike.three {G wr:Str} {ns:List (List Nat)} (P:PageLike G wr ns):3 ≤ G.length := by
  have hl:G.length = _ := (li_len G).symm
  rw [P.eq] at hl
  simp only [List.length_append,List.length_cons,List.length_nil] at hl
  lia
section
theorem c_ask (B:Below A₀ base outer h₀) (F:Fr h₀ L s.heap m) (X:(KF w.params).In h₀) (N:News h₀ L s.heap news) (T:Top p loose mean mg mb h₀) (hk:cs.kind = .function) (hd:dp + 12 < recursionLimit) (hu:un + 60 < cLine)
    (G wr:Str) (xs:List Str) (ns:List (List Nat)) (t1 t2:Tok) (hl:xs.length = 2 ∨ xs.length = 3 ∨ xs.length = 4 ∨ xs.length = 6) (hw:QWr wr) (hx:∀ x ∈ xs,QName x) (P:PageLike G wr ns)
    (hret:∀ (r:Bool) (h':Heap) (tk':Nat),r = greedy (xs.map li) ns -> Fr h₀ L h' m -> News h₀ L h' news -> Q (.bool r) { s with heap := h',toks := tk' }) :
    wpAny (model prog w) (ktrTop dp un gd cn cs L a ccd cl outer) (call (.ref 175) [.str (questOf wr xs) t1,.str G t2]) Q E s := by
  have hq:∃ y ys,xs = y :: ys := by
    cases xs with
    | nil=>simp at hl
    | cons y ys=>exact ⟨y,ys,rfl⟩
  obtain ⟨y,ys,rfl⟩ := hq
  have hd46:∀ z ∈ y :: ys,46 ∉ li z := fun z hz=>(hx z hz).dot
  refine c_match B F X N T hk hd hu (questOf wr (y :: ys)) G ((y :: ys).map (blkS wr)) t1 t2 (by rwa [List.length_map]) (quest_in wr y ys hw.dot hd46) (questOf_len hw.len (fun z hz=>(hx z hz).len) (by lia)) (quest_split wr y ys hw.dot hd46)
    (fun b hb=>?_) P.starts P.ends P.len P.three fun r h' tk' e F' N' => hret r h' tk' ?_ F' N'
  · obtain ⟨z,hz,rfl⟩ := List.mem_map.mp hb
    exact blkS_len hw.len (hx z hz).len
  · rw [e]
    exact finds_greedy P.eq hw.sp (fun z hz=>⟨(hx z hz).eq,(hx z hz).sp⟩) P.good
end
noncomputable def b1L:List Int := [173,847,6150,6155,6156,6157,8203,8204,8205,8288,65279,65024,65025,65026,65027,65028,65029,65030,65031,65032,65033,65034,65035,65036,65037,65038,65039]
noncomputable def prep (c:Nat):List Nat := if decide ((c:Int) ∈ b1L) then [] else li (b3Of c)
noncomputable def subK:List (Int × Nat) -> List (Int × PySem.Str) -> Bool
  | [],_=>true
  | _ :: _,[]=>false
  | (k,c) :: t,(k',v) :: r=>if k = k' then li v == [c] && subK t r else subK ((k,c) :: t) r
theorem subK_cons {k k':Int} {c:Nat} {v:PySem.Str} {t:List (Int × Nat)} {r:List (Int × PySem.Str)} : subK ((k,c) :: t) ((k',v) :: r) = if k = k' then li v == [c] && subK t r else subK ((k,c) :: t) r := rfl
theorem asc_lt:∀ {l:List (Int × PySem.Str)} {b:Int},ascK b l = true -> ∀ x ∈ l,b < x.1
  | [],_,_,_,h=>nomatch h
  | (k,v) :: r,b,h,x,hx=>by
    simp only [ascK,Bool.and_eq_true] at h
    have h1:b < k := of_decide_eq_true h.1
    rcases List.mem_cons.mp hx with rfl | hx
    · exact h1
    · have := asc_lt h.2 x hx; lia
theorem lookup_lt {l:List (Int × PySem.Str)} {b k:Int} {v:PySem.Str} (h:ascK b l = true) (e:l.lookup k = some v):b < k := by
  obtain ⟨x,y,p,q⟩ := List.lookup_eq_some_iff.mp e
  exact asc_lt h (k,v) (by rw [p]; simp)
theorem sub_lookup:∀ {tab:List (Int × PySem.Str)} {ts:List (Int × Nat)} {b:Int},ascK b tab = true -> subK ts tab = true -> ∀ x ∈ ts, ∃ v,tab.lookup x.1 = some v ∧ li v = [x.2]
  | _,[],_,_,_,_,hx=>nomatch hx
  | [],_ :: _,_,_,h,_,_=>nomatch h
  | (k',v) :: r,(k,c) :: t,b,ha,hs,x,hx=>by
    simp only [ascK,Bool.and_eq_true] at ha
    have up:∀ {y:Int} {z:PySem.Str},r.lookup y = some z -> ((k',v) :: r).lookup y = some z := by
      intro y z e
      have := lookup_lt ha.2 e
      rw [List.lookup_cons,show (y == k') = false from by simp; lia]
      exact e
    rw [subK_cons] at hs
    by_cases q:k = k'
    · rw [if_pos q,Bool.and_eq_true,beq_iff_eq] at hs
      rcases List.mem_cons.mp hx with rfl | hx
      · exact ⟨v,by rw [List.lookup_cons,show ((k,c).1 == k') = true from by simpa using q],hs.1⟩
      · obtain ⟨z,e,f⟩ := sub_lookup ha.2 hs.2 x hx
        exact ⟨z,up e,f⟩
    · rw [if_neg q] at hs
      obtain ⟨z,e,f⟩ := sub_lookup ha.2 hs x hx
      exact ⟨z,up e,f⟩
theorem getD_mem {l:List Int} {n:Nat} (h:n < l.length):l.getD n 0 ∈ l := by
  rw [List.getD,List.getElem?_eq_getElem h]; exact List.getElem_mem h
noncomputable def mathT:List (Int × Nat) := firstsL.flatMap fun f=>(List.range 26).map fun (k:Nat)=>((f + (k:Int),97 + k):Int × Nat)
theorem math_sub:subK mathT b3Pairs = true := by decide +kernel
theorem prep_math {f:Int} {k:Nat} (hf:f ∈ firstsL) (hk:k < 26):prep (f + k).toNat = [97 + k] := by
  have h0:∀ f ∈ firstsL,100000 ≤ f := by decide
  have h1:∀ x ∈ b1L,x < 100000 := by decide
  have h2 := h0 f hf
  obtain ⟨v,e,q⟩ := sub_lookup asc_b3 math_sub (f + k,97 + k) (List.mem_flatMap.mpr ⟨f,hf,List.mem_map.mpr ⟨k,List.mem_range.mpr hk,rfl⟩⟩)
  have ec:(((f + k).toNat:Nat):Int) = f + k := Int.toNat_of_nonneg (Int.add_nonneg (Int.le_trans (by decide) h2) (Int.natCast_nonneg k))
  unfold prep
  rw [ec,if_neg (by rw [decide_eq_true_eq]; intro hm; have := h1 _ hm; lia),b3Of_some (by rw [ec]; exact e),q]
theorem sub_tn {d a:Int} {n:Nat} (h:d < a + n) (hn:0 < n):(d - a).toNat < n := (Int.toNat_lt' hn).mpr (Int.sub_left_lt_of_lt_add h)
theorem prep_codes:codesL.all (fun c=>prep c.toNat == []) = true := by decide +kernel
theorem b3_low:b3Pairs.all (fun p=>decide (180 < p.1)) = true := by decide +kernel
theorem prep_lo {c:Nat} (h:c < 128):prep c = li (Txt.lower ⟨#[c]⟩) := by
  have h1:∀ x ∈ b1L,128 < x := by decide
  unfold prep
  rw [if_neg (by rw [decide_eq_true_eq]; intro hm; have := h1 _ hm; lia),b3Of_none]
  cases e:b3 c with
  | none=>rfl
  | some v =>
    obtain ⟨x,y,p,q⟩ := List.lookup_eq_some_iff.mp e
    have := List.all_eq_true.mp b3_low ((c:Int),v) (by rw [p]; simp)
    have := of_decide_eq_true this
    lia
theorem lower_lo:(List.range 26).all (fun k=>li (Txt.lower ⟨#[97 + k]⟩) == [97 + k] && (li (Txt.upper ⟨#[97 + k]⟩) == [65 + k]) && li (Txt.lower ⟨#[65 + k]⟩) == [97 + k]) = true := by decide +kernel
theorem prep_name {d:Int} {c:Nat} (h1:0 ≤ d) (h2:d < 39) (h3:97 ≤ c) (h4:c < 123):(li (dressed d c)).flatMap prep = li ⟨#[c]⟩ := by
  obtain ⟨k,rfl⟩:∃ k,c = 97 + k := ⟨c - 97,(Nat.add_sub_of_le (by assumption)).symm⟩
  have hl := List.all_eq_true.mp lower_lo k (List.mem_range.mpr (by lia))
  simp only [Bool.and_eq_true,beq_iff_eq] at hl
  obtain ⟨⟨l1,l2⟩,l3⟩ := hl
  show _ = [97 + k]
  have p1:prep (97 + k) = [97 + k] := by rw [prep_lo (by lia),l1]
  unfold dressed
  by_cases a:d < 2
  · rw [if_pos a]
    by_cases b:d = 0
    · rw [if_pos b,l2]
      show prep (65 + k) ++ [] = _
      rw [prep_lo (by lia),l3]; rfl
    · rw [if_neg b]
      show prep (97 + k) ++ [] = _
      rw [p1]; rfl
  · rw [if_neg a]
    by_cases b:d < 29
    · rw [if_pos b,li_app,List.flatMap_append]
      show (prep _ ++ []) ++ (prep (97 + k) ++ []) = _
      have hm:codesL.getD (d - 2).toNat 0 ∈ codesL := by
        exact getD_mem (l := codesL) (sub_tn (n := 27) b (by decide))
      have := List.all_eq_true.mp prep_codes _ hm
      rw [beq_iff_eq] at this
      rw [this,p1]; rfl
    · rw [if_neg b]
      show prep _ ++ [] = _
      have hm:firstsL.getD (d - 29).toNat 0 ∈ firstsL := by
        exact getD_mem (l := firstsL) (sub_tn (n := 10) h2 (by decide))
      rw [show firstsL.getD (d - 29).toNat 0 + ((97 + k:Nat):Int) - 97 = firstsL.getD (d - 29).toNat 0 + k by lia,prep_math hm (by lia)]; rfl
theorem li_inj {x y:Str} (h:li x = li y):x = y := by
  cases x; cases y
  simp only [PySem.Str.mk.injEq]
  exact Array.toList_inj.mp h
theorem li_row (ev k:Str):li (rowOf ev k) = blk (li ev) (li k) := by
  unfold rowOf
  rw [li_app,li_app,li_app,li_app]
  have e1:li (.ofString " ") = [32] := by decide +kernel
  have e2:li (.ofString "=\"") = [61,34] := by decide +kernel
  have e3:li (.ofString "\"") = [34] := by decide +kernel
  rw [e1,e2,e3]
  simp [blk]
theorem cat_flat (w:List Nat):∀ ns:List (List Nat),(ns.map (blk w)).flatten = cat w ns
  | []=>rfl
  | n :: r=>by rw [List.map_cons,List.flatten_cons,cat_flat w r,cat]
theorem li_page (ev:Str) (ks:List Str):li (pageOf ev ks) = [60,114] ++ cat (li ev) (ks.map li) ++ [62] := by
  unfold pageOf
  rw [li_join]
  simp only [List.map_cons,List.map_nil,List.flatten_cons,List.flatten_nil,li_join,List.append_nil]
  have e1:li (.ofString "<r") = [60,114] := by decide +kernel
  have e2:li (.ofString ">") = [62] := by decide +kernel
  rw [e1,e2,List.map_map, ← cat_flat,List.map_map,List.append_assoc]
  congr 3
  exact List.map_congr_left fun x _=>li_row ev x
theorem page_eq (ev:Str) (rows:List Str):pageOf ev rows = Str.ofString "<r" ++ Txt.join (.ofString "") (rows.map (rowOf ev)) ++ Str.ofString ">" := by
  apply li_inj
  rw [li_page,li_app,li_app,li_join]
  have e1:li (.ofString "<r") = [60,114] := by decide +kernel
  have e2:li (.ofString ">") = [62] := by decide +kernel
  rw [e1,e2,List.map_map, ← cat_flat,List.map_map]
  congr 3
  exact List.map_congr_left fun x _=>(li_row ev x).symm
noncomputable def nm (d:Int) (c:Nat):Nat := d.toNat * 26 + (c - 97)
theorem tl6 {n:Nat} (h:n = 2 ∨ n = 3 ∨ n = 4 ∨ n = 6):2 ≤ n ∧ n ≤ 6 := by rcases h with h | h | h | h <;> rw [h] <;> decide
theorem lt63 {n b:Nat} (h:n ≤ b) (hb:b < 2 ^ 63 := by decide):(n:Int) < 2 ^ 63 := Int.lt_of_le_of_lt (Int.ofNat_le.mpr h) (Int.ofNat_lt.mpr hb)
theorem nm_lt' {n k:Nat} (h:n < 39) (g:k < 26):n * 26 + k < 1014 := by lia
theorem nm_div (n:Nat) {k:Nat} (g:k < 26):(n * 26 + k) / 26 = n ∧ (n * 26 + k) % 26 = k := ⟨by rw [Nat.mul_comm,Nat.mul_add_div (by decide),Nat.div_eq_of_lt g,Nat.add_zero],by rw [Nat.mul_comm,Nat.mul_add_mod,Nat.mod_eq_of_lt g]⟩
theorem nm_lt {d:Int} {c:Nat} (h1:0 ≤ d) (h2:d < 39) (h3:97 ≤ c) (h4:c < 123):nm d c < 1014 := nm_lt' ((Int.toNat_lt h1).mpr h2) (Nat.sub_lt_left_of_lt_add h3 h4)
theorem nm_back {d:Int} {c:Nat} (h1:0 ≤ d) (h3:97 ≤ c) (h4:c < 123):(((nm d c) / 26:Nat):Int) = d ∧ 97 + (nm d c) % 26 = c := by
  obtain ⟨n,rfl⟩ := Int.eq_ofNat_of_zero_le h1
  obtain ⟨a,b⟩ := nm_div n (Nat.sub_lt_left_of_lt_add h3 h4)
  exact ⟨congrArg Nat.cast a,(congrArg (97 + ·) b).trans (Nat.add_sub_cancel' h3)⟩
theorem nm_name {d:Int} {c:Nat} (h1:0 ≤ d) (h3:97 ≤ c) (h4:c < 123):nameAt (nm d c) = li (dressed d c) := by
  unfold nameAt
  rw [(nm_back h1 h3 h4).1,(nm_back h1 h3 h4).2]
noncomputable def nameS (i:Nat):Str := dressed ((i / 26:Nat):Int) (97 + i % 26)
theorem nm_nameS {d:Int} {c:Nat} (h1:0 ≤ d) (h3:97 ≤ c) (h4:c < 123):nameS (nm d c) = dressed d c := by
  unfold nameS
  rw [(nm_back h1 h3 h4).1,(nm_back h1 h3 h4).2]
theorem name_ok:(List.range 1014).all (fun i=>!(Txt.slice (nameS i) none (some 1) == Str.ofString "{") && Txt.splitMax (nameS i) (Str.ofString "}") 1 == [nameS i]) = true := by decide +kernel
theorem lexLt_cons {a b:Nat} {r q:List Nat} : lexLt (a :: r) (b :: q) = (decide (a < b) || (a == b && lexLt r q)) := rfl
theorem lex_lt:∀ {a b:List Nat},lexLt a b = true -> a < b
  | [],[],h=>by cases h
  | [],_ :: _,_=>List.nil_lt_cons _ _
  | _ :: _,[],h=>by cases h
  | a :: r,b :: q,h=>by
    rw [lexLt_cons] at h
    rw [Bool.or_eq_true,Bool.and_eq_true,decide_eq_true_eq,beq_iff_eq] at h
    rw [List.cons_lt_cons_iff]
    rcases h with h | ⟨rfl,h⟩
    · exact .inl h
    · exact .inr ⟨rfl,lex_lt h⟩
theorem name_lt:∀ (k i:Nat),i + k + 1 < 1014 -> nameAt i < nameAt (i + k + 1)
  | 0,i,h=>lex_lt (by
    have := List.all_eq_true.mp name_chain i (List.mem_range.mpr (Nat.lt_of_succ_lt_succ h))
    exact this)
  | k + 1,i,h=>List.lt_trans (name_lt k i (Nat.lt_of_succ_lt h)) (by
    have := List.all_eq_true.mp name_chain (i + k + 1) (List.mem_range.mpr (Nat.lt_of_succ_lt_succ h))
    exact lex_lt this)
theorem name_less {i j:Nat} (h:i < j) (hj:j < 1014):nameAt i < nameAt j := by
  obtain ⟨k,rfl⟩ := Nat.exists_eq_add_of_lt h
  exact name_lt k i hj
theorem dr_ok {d:Int} {c:Nat} (h1:0 ≤ d) (h2:d < 39) (h3:97 ≤ c) (h4:c < 123):NameOk (dressed d c) ∧ QName (dressed d c) ∧ 1 ≤ (dressed d c).length := by
  have hlt := nm_lt h1 h2 h3 h4
  have g := List.all_eq_true.mp name_good _ (List.mem_range.mpr hlt)
  have o := List.all_eq_true.mp name_ok _ (List.mem_range.mpr hlt)
  rw [nm_name h1 h3 h4] at g
  rw [nm_nameS h1 h3 h4] at o
  simp only [Bool.and_eq_true,Bool.not_eq_true',decide_eq_true_eq,beq_iff_eq,li_len] at g o
  have hl:(dressed d c).length ≤ 2 := g.2
  have nin:∀ {x:Nat} {l:List Nat},l.contains x = false -> x ∉ l := fun {x l} h hm=>by
    rw [List.contains_iff_mem.mpr hm] at h; cases h
  refine ⟨⟨by omega,o.1,o.2,fun e=>?_⟩,⟨nin g.1.1.1.1,nin g.1.1.1.2,nin g.1.1.2,hl⟩,g.1.2⟩
  rw [e] at hl
  revert hl
  decide +kernel
theorem pair_map {α β:Type} {R:α -> α -> Prop} {S:β -> β -> Prop} (f:α -> β) {l:List α} (h:l.Pairwise R) (hf:∀ a ∈ l, ∀ b ∈ l,R a b -> S (f a) (f b)):(l.map f).Pairwise S := by
  rw [List.pairwise_map]
  exact List.Pairwise.imp_of_mem (fun ha hb hr=>hf _ ha _ hb hr) h
structure RowsOk (rows:List Str):Prop where
  ok:∀ k ∈ Str.ofString "r" :: rows,NameOk k
  nd:rows.Nodup
  up:rows.Pairwise (fun a b=>sLt a b = true)
theorem lets_up:∀ {cs:List Nat},sortedS (cs.map fun c=>(⟨#[c]⟩:Str)) = true -> (cs.map fun c=>(⟨#[c]⟩:Str)).Nodup -> cs.Pairwise (· < ·) := by
  have key:∀ (cs:List Nat) (p:Nat),risingS ⟨#[p]⟩ (cs.map fun c=>(⟨#[c]⟩:Str)) = true -> (∀ c ∈ cs,p ≤ c) ∧ cs.Pairwise (· ≤ ·) := by
    intro cs
    induction cs with
    | nil=>exact fun _ _=>⟨fun _ h=>(nomatch h),.nil⟩
    | cons c r ih =>
      intro p h
      rw [List.map_cons,risingS,Bool.and_eq_true] at h
      obtain ⟨h1,h2⟩ := h
      obtain ⟨h3,h4⟩ := ih c h2
      have hpc:p ≤ c := by
        simp only [ltCps,Bool.and_false,Bool.or_false,Bool.not_eq_true',decide_eq_false_iff_not] at h1
        lia
      refine ⟨fun x hx=>?_,.cons h3 h4⟩
      rcases List.mem_cons.mp hx with rfl | hx
      · exact hpc
      · exact Nat.le_trans hpc (h3 x hx)
  intro cs h hn
  have h1:cs.Pairwise (· ≤ ·) := by
    cases cs with
    | nil=>exact .nil
    | cons c r=>exact .cons (key r c h).1 (key r c h).2
  have h2:cs.Pairwise (· ≠ ·) := by
    have := List.pairwise_map.mp hn
    exact this.imp fun h e=>h (by rw [e])
  exact (h1.and h2).imp fun h=>by lia
theorem lets_of {ze:List Str} (h:∀ b ∈ ze, ∃ c:Nat,97 ≤ c ∧ c < 123 ∧ b = ⟨#[c]⟩):∃ cs:List Nat,ze = cs.map (fun c=>(⟨#[c]⟩:Str)) ∧ ∀ c ∈ cs,97 ≤ c ∧ c < 123 := by
  induction ze with
  | nil=>exact ⟨[],rfl,fun _ h=>(nomatch h)⟩
  | cons b r ih =>
    obtain ⟨cs,rfl,h2⟩ := ih fun x hx=>h x (.tail _ hx)
    obtain ⟨c,h3,h4,rfl⟩ := h b (.head _)
    refine ⟨c :: cs,rfl,fun x hx=>?_⟩
    rcases List.mem_cons.mp hx with rfl | hx
    · exact ⟨h3,h4⟩
    · exact h2 x hx
theorem rows_eq (zd:List Int) (cs:List Nat):rowsOf zd (cs.map fun c=>(⟨#[c]⟩:Str)) = zd.flatMap fun a=>cs.map fun c=>dressed a c := by
  unfold rowsOf
  congr 1
  funext a
  rw [List.map_map]
  rfl
theorem mul26 {n m k j:Nat} (h:n < m) (g:k < 26):n * 26 + k < m * 26 + j :=
  Nat.lt_of_lt_of_le (Nat.lt_of_lt_of_le (Nat.add_lt_add_left g _) (Nat.le_of_eq (Nat.succ_mul n 26).symm)) (Nat.le_trans (Nat.mul_le_mul_right 26 h) (Nat.le_add_right _ _))
theorem sub97 {c:Nat} (h:c < 123):c - 97 < 26 := by lia
theorem rows_up {zd:List Int} {cs:List Nat} (h1:∀ d ∈ zd,0 ≤ d ∧ d < 39) (h2:zd.Pairwise (· < ·)) (h3:∀ c ∈ cs,97 ≤ c ∧ c < 123) (h4:cs.Pairwise (· < ·)):(zd.flatMap fun a=>cs.map fun c=>dressed a c).Pairwise (fun a b=>sLt a b = true) := by
  have lt:∀ {d d':Int} {c c':Nat},0 ≤ d -> d < 39 -> 0 ≤ d' -> d' < 39 -> 97 ≤ c -> c < 123 -> 97 ≤ c' -> c' < 123 -> nm d c < nm d' c' -> sLt (dressed d c) (dressed d' c') = true := by
    intro d d' c c' a1 a2 a3 a4 a5 a6 a7 a8 h
    unfold sLt
    rw [decide_eq_true_eq]
    have := name_less h (nm_lt a3 a4 a7 a8)
    rw [nm_name a1 a5 a6,nm_name a3 a7 a8] at this
    exact this
  induction zd with
  | nil=>exact .nil
  | cons d r ih =>
    rw [List.flatMap_cons,List.pairwise_append]
    rw [List.pairwise_cons] at h2
    have hd := h1 d (.head _)
    refine ⟨pair_map _ h4 fun c hc c' hc' hlt=>lt hd.1 hd.2 hd.1 hd.2 (h3 c hc).1 (h3 c hc).2 (h3 c' hc').1 (h3 c' hc').2 (Nat.add_lt_add_left (Nat.sub_lt_sub_right (h3 c hc).1 hlt) _),ih (fun x hx=>h1 x (.tail _ hx)) h2.2,?_⟩
    intro a ha b hb
    obtain ⟨c,hc,rfl⟩ := List.mem_map.mp ha
    obtain ⟨d',hd',hb⟩ := List.mem_flatMap.mp hb
    obtain ⟨c',hc',rfl⟩ := List.mem_map.mp hb
    have hd2 := h1 d' (.tail _ hd')
    have hdd := h2.1 d' hd'
    exact lt hd.1 hd.2 hd2.1 hd2.2 (h3 c hc).1 (h3 c hc).2 (h3 c' hc').1 (h3 c' hc').2 (mul26 ((Int.toNat_lt_toNat (Int.lt_of_le_of_lt hd.1 hdd)).mpr hdd) (sub97 (h3 c hc).2))
theorem up_nodup {l:List Str} (h:l.Pairwise (fun a b=>sLt a b = true)):l.Nodup := h.imp fun h e=>by
  subst e
  unfold sLt at h
  rw [decide_eq_true_eq] at h
  exact List.lt_irrefl _ h
theorem rows_dr {zd:List Int} {ze:List Str} {many size:Int} (D:Dresses zd many) (E:Letters ze size):∀ x ∈ rowsOf zd ze,NameOk x ∧ QName x ∧ 1 ≤ x.length := by
  intro x hx
  obtain ⟨d,hd,hx⟩ := List.mem_flatMap.mp hx
  obtain ⟨b,hb,rfl⟩ := List.mem_map.mp hx
  obtain ⟨c,h3,h4,rfl⟩ := E.mem b hb
  exact dr_ok (D.mem d hd).1 (D.mem d hd).2 h3 h4
theorem r_ok:NameOk (Str.ofString "r") := ⟨by decide +kernel,by decide +kernel,by decide +kernel,by decide +kernel⟩
theorem rows_ok {zd:List Int} {ze:List Str} {many size:Int} (D:Dresses zd many) (E:Letters ze size):RowsOk (rowsOf zd ze) := by
  obtain ⟨cs,e,hc⟩ := lets_of E.mem
  have hu:(rowsOf zd ze).Pairwise (fun a b=>sLt a b = true) := by
    rw [e,rows_eq]
    exact rows_up D.mem D.up hc (lets_up (e ▸ E.up) (e ▸ E.nd))
  refine ⟨fun k hk=>?_,up_nodup hu,hu⟩
  rcases List.mem_cons.mp hk with rfl | hk
  · exact r_ok
  · exact (rows_dr D E k hk).1
theorem rows_q {zd:List Int} {ze:List Str} {many size:Int} (D:Dresses zd many) (E:Letters ze size):∀ x ∈ rowsOf zd ze,QName x := fun x hx=>(rows_dr D E x hx).2.1
theorem dr1 (c:Nat):dressed 1 c = ⟨#[c]⟩ := by unfold dressed; rw [if_pos (by lia),if_neg (by lia)]
theorem ze_q {ze:List Str} {size:Int} (E:Letters ze size):∀ x ∈ ze,QName x := by
  intro x hx
  obtain ⟨c,h3,h4,rfl⟩ := E.mem x hx
  rw [← dr1 c]
  exact (dr_ok (by decide) (by decide) h3 h4).2.1
theorem qname_good {x:Str} (h:QName x):GoodN (li x) := ⟨h.eq,h.sp⟩
theorem esc_all:escTab.all (fun p=>!(li p.2).contains 32 && !(li p.2).contains 46 && decide (p.2.length ≤ 8) && !(li (Txt.lower p.2)).contains 32 && !(li (Txt.lower p.2)).contains 46 && decide ((Txt.lower p.2).length ≤ 8) && ((li p.2).flatMap prep == li (Txt.lower p.2))) = true := by decide +kernel
theorem esc_facts {v ev:Str} (hv:(v,ev) ∈ escTab):QWr ev ∧ QWr (Txt.lower ev) ∧ (li ev).flatMap prep = li (Txt.lower ev) := by
  have h := List.all_eq_true.mp esc_all _ hv
  simp only [Bool.and_eq_true,Bool.not_eq_true',decide_eq_true_eq,beq_iff_eq] at h
  have nin:∀ {x:Nat} {l:List Nat},l.contains x = false -> x ∉ l := fun {x l} h hm=>by
    rw [List.contains_iff_mem.mpr hm] at h; cases h
  exact ⟨⟨nin h.1.1.1.1.1.1,nin h.1.1.1.1.1.2,h.1.1.1.1.2⟩,⟨nin h.1.1.1.2,nin h.1.1.2,h.1.2⟩,h.2⟩
theorem esc_wr {v ev:Str} (hv:(v,ev) ∈ escTab):QWr ev ∧ QWr (Txt.lower ev) := ⟨(esc_facts hv).1,(esc_facts hv).2.1⟩
theorem cat_len {w:List Nat} {b:Nat} (hw:w.length ≤ 8):∀ ns:List (List Nat),(∀ n ∈ ns,n.length ≤ b) -> (cat w ns).length ≤ ns.length * (b + 12)
  | [],_=>by simp [cat_nil]
  | n :: r,h=>by
    have h1 := cat_len hw r fun x hx=>h x (.tail _ hx)
    have h2 := h n (.head _)
    rw [cat_cons,List.length_append,List.length_cons,Nat.succ_mul]
    have:(blk w n).length = n.length + w.length + 4 := by simp [blk]; lia
    have h3:(blk w n).length ≤ b + 12 := by
      rw [this]
      exact Nat.add_le_add_right (Nat.add_le_add h2 hw) 4
    exact Nat.le_trans (Nat.add_le_add h3 h1) (Nat.le_of_eq (Nat.add_comm _ _))
theorem page_len {ev:Str} {rows:List Str} (h:RowsOk rows) (hl:rows.length ≤ 10) (he:ev.length ≤ 8):(pageOf ev rows).length ≤ 400 := by
  have e:(pageOf ev rows).length = _ := (li_len _).symm
  rw [li_page] at e
  have h1 := cat_len (w := li ev) (b := 4) (by rw [li_len]; exact he) (rows.map li) (fun n hn=>by
    obtain ⟨x,hx,rfl⟩ := List.mem_map.mp hn
    rw [li_len]
    exact (h.ok x (.tail _ hx)).len)
  simp only [List.length_append,List.length_cons,List.length_nil,List.length_map] at e h1
  have:rows.length * (4 + 12) ≤ 10 * 16 := Nat.mul_le_mul_right _ hl
  lia
theorem page_like {zd:List Int} {ze:List Str} {many size:Int} {v ev:Str} (D:Dresses zd many) (E:Letters ze size) (M:MS many size) (hv:(v,ev) ∈ escTab):PageLike (pageOf ev (rowsOf zd ze)) ev ((rowsOf zd ze).map li) := by
  refine ⟨li_page _ _,page_len (rows_ok D E) (by have := rows_count D E M; lia) (esc_wr hv).1.len,fun n hn=>?_⟩
  obtain ⟨x,hx,rfl⟩ := List.mem_map.mp hn
  exact qname_good (rows_q D E x hx)
theorem prep_li (c:Nat):li (prepOf c) = prep c := by
  unfold prepOf prep
  rw [show b1Ints = b1L from rfl]
  split
  · rfl
  · rfl
theorem li_prepared (G:Str):li (preparedOf G) = (li G).flatMap prep := by
  unfold preparedOf
  rw [li_join,List.map_map,List.flatMap_def]
  congr 1
  exact List.map_congr_left fun c _=>prep_li c
theorem prep_signs:prep 32 = [32] ∧ prep 61 = [61] ∧ prep 34 = [34] ∧ prep 60 = [60] ∧ prep 114 = [114] ∧ prep 62 = [62] := by decide +kernel
theorem prep_cat {w:List Nat} : ∀ ns:List (List Nat),(cat w ns).flatMap prep = cat (w.flatMap prep) (ns.map fun n=>n.flatMap prep)
  | []=>rfl
  | n :: r=>by
    obtain ⟨p1,p2,p3,-⟩ := prep_signs
    rw [cat_cons,List.flatMap_append,prep_cat r,List.map_cons,cat_cons]
    congr 1
    simp [blk,p1,p2,p3]
theorem prep_rows {zd:List Int} {ze:List Str} {many size:Int} (D:Dresses zd many) (E:Letters ze size):((rowsOf zd ze).map li).map (fun n=>n.flatMap prep) = zd.flatMap fun _=>ze.map li := by
  unfold rowsOf
  rw [List.map_map,List.map_flatMap]
  rw [List.flatMap_def,List.flatMap_def]
  congr 1
  refine List.map_congr_left fun d hd=>?_
  rw [List.map_map]
  refine List.map_congr_left fun b hb=>?_
  obtain ⟨c,h3,h4,rfl⟩ := E.mem b hb
  exact prep_name (D.mem d hd).1 (D.mem d hd).2 h3 h4
theorem li_prep_page {zd:List Int} {ze:List Str} {many size:Int} {v ev:Str} (D:Dresses zd many) (E:Letters ze size) (hv:(v,ev) ∈ escTab):li (preparedOf (pageOf ev (rowsOf zd ze))) = [60,114] ++ cat (li (Txt.lower ev)) (zd.flatMap fun _=>ze.map li) ++ [62] := by
  obtain ⟨-,-,-,p4,p5,p6⟩ := prep_signs
  rw [li_prepared,li_page,List.flatMap_append,List.flatMap_append,prep_cat,prep_rows D E,(esc_facts hv).2.2]
  congr 1
theorem names_len {zd:List Int} {ze:List Str} : (zd.flatMap fun _=>ze.map li).length = zd.length * ze.length := by
  rw [List.length_flatMap]
  simp only [List.length_map,List.map_const',List.sum_replicate_nat]
theorem prep_like {zd:List Int} {ze:List Str} {many size:Int} {v ev:Str} (D:Dresses zd many) (E:Letters ze size) (M:MS many size) (hv:(v,ev) ∈ escTab):PageLike (preparedOf (pageOf ev (rowsOf zd ze))) (Txt.lower ev) (zd.flatMap fun _=>ze.map li) := by
  have hn:∀ n ∈ zd.flatMap fun _=>ze.map li, ∃ x ∈ ze,n = li x := by
    intro n hn
    obtain ⟨d,_,hn⟩ := List.mem_flatMap.mp hn
    obtain ⟨x,hx,rfl⟩ := List.mem_map.mp hn
    exact ⟨x,hx,rfl⟩
  refine ⟨li_prep_page D E hv,?_,fun n h=>by obtain ⟨x,hx,rfl⟩ := hn n h; exact qname_good (ze_q E x hx)⟩
  have e:(preparedOf (pageOf ev (rowsOf zd ze))).length = _ := (li_len _).symm
  rw [li_prep_page D E hv] at e
  have h1 := cat_len (w := li (Txt.lower ev)) (b := 4) (by rw [li_len]; exact (esc_wr hv).2.len) (zd.flatMap fun _=>ze.map li) (fun n h=>by
    obtain ⟨x,hx,rfl⟩ := hn n h
    rw [li_len]
    have := (ze_q E x hx).len
    lia)
  rw [names_len] at h1
  have h2 := rows_count D E M
  rw [rowsOf_len] at h2
  have h3:zd.length * ze.length * (4 + 12) ≤ 10 * 16 := Nat.mul_le_mul_right _ (by lia)
  simp only [List.length_append,List.length_cons,List.length_nil] at e
  lia
theorem page_prep {zd:List Int} {ze:List Str} {many size:Int} {v ev:Str} (D:Dresses zd many) (E:Letters ze size) (M:MS many size) (hv:(v,ev) ∈ escTab):(((pageOf ev (rowsOf zd ze)).cps.toList.map prepOf).map fun y=>y.length).sum ≤ 4000 := by
  have h := (prep_like D E M hv).len
  unfold preparedOf at h
  rw [join_empty_len] at h
  lia
theorem news_rot12 {h₀ h:Heap} {L:Addr} {a b c d e f g i j k l x:Addr × Obj} (N:News h₀ L h [a,b,c,d,e,f,g,i,j,k,l,x]):News h₀ L h [x,a,b,c,d,e,f,g,i,j,k,l] := news_pick 12 [11,0,1,2,3,4,5,6,7,8,9,10] N
theorem pw_unique {l₁:List Str} : ∀ {l₂:List Str},l₁.Perm l₂ -> l₁.Pairwise (fun a b=>sLt a b = true) -> l₂.Pairwise (fun a b=>sLt a b = true) -> l₁ = l₂ := by
  intro l₂ hp h1 h2
  exact hp.eq_of_pairwise (fun a b _ _ hab hba=>by
    simp only [sLt,decide_eq_true_eq] at hab hba
    exact absurd (List.lt_trans hab hba) (List.lt_irrefl _)) h1 h2
theorem turned_perm (rows:List Str) (k:Nat):((rows.drop k ++ rows.take k).reverse).Perm rows := by
  refine (List.reverse_perm _).trans ?_
  refine List.perm_append_comm.trans ?_
  rw [List.take_append_drop]
theorem fr_three {h₀ h:Heap} {L:Addr} {m:Str -> Option Value} {a b c:Str} {v1 v2 v3:Value} (F:Fr h₀ L h m) (h1:m a = some v1) (h2:m b = some v2) (h3:m c = some v3):Fr h₀ L h (fun y=>if y = a then some v1 else if y = b then some v2 else if y = c then some v3 else m y) := by
  have e:(fun y=>if y = a then some v1 else if y = b then some v2 else if y = c then some v3 else m y) = m := by
    funext y
    by_cases ya:y = a
    · rw [if_pos ya,ya,h1]
    · rw [if_neg ya]
      by_cases yb:y = b
      · rw [if_pos yb,yb,h2]
      · rw [if_neg yb]
        by_cases yc:y = c
        · rw [if_pos yc,yc,h3]
        · rw [if_neg yc]
  rw [e]
  exact F
noncomputable abbrev TL (ps:Array Value) (Dr:Addr) (yr:List Value) (De:Addr) (we:List Value) (ce:Nat) (Dc:Addr) (cv:Array Value) (kk:Nat) (L:Addr) (o7 o6 o5 o4 o3 o2 o1:Obj) (own:List (Addr × Obj)):List (Addr × Obj) :=
  (123,tabObj ps) :: (Dr,LCg.lst yr) :: (De,W.listOf we.toArray ce) :: (Dc,W.listOf cv kk) :: (L + 1 + 1 + 1 + 1 + 1 + 1 + 1,o7) :: (L + 1 + 1 + 1 + 1 + 1 + 1,o6) :: (L + 1 + 1 + 1 + 1 + 1,o5) :: (L + 1 + 1 + 1 + 1,o4) :: (L + 1 + 1 + 1,o3) :: (L + 1 + 1,o2) :: (L + 1,o1) :: own
noncomputable def mO (z:Str) (m:Str -> Option Value) (D:Addr):Str -> Option Value := fun y=>if y = z then some (.ref D) else m y
theorem mO_again (z:Str) (m:Str -> Option Value) (D D':Addr):(fun y=>if y = z then some (.ref D') else mO z m D y) = mO z m D' := by
  funext y
  unfold mO
  split <;> rfl
theorem fr_two {h₀ h:Heap} {L:Addr} {m:Str -> Option Value} {a b:Str} {v1 v2:Value} (F:Fr h₀ L h m) (h1:m a = some v1) (h2:m b = some v2):Fr h₀ L h (fun y=>if y = a then some v1 else if y = b then some v2 else m y) := by
  have e:(fun y=>if y = a then some v1 else if y = b then some v2 else m y) = m := by
    funext y
    by_cases ya:y = a
    · rw [if_pos ya,ya,h1]
    · rw [if_neg ya]
      by_cases yb:y = b
      · rw [if_pos yb,yb,h2]
      · rw [if_neg yb]
  rw [e]
  exact F
noncomputable def bindA (m₀:Str -> Option Value) (v1 v2 v3:Option Value):Str -> Option Value := fun y=>if y = Str.ofString "question" then v3 else if y = Str.ofString "told" then v2 else if y = Str.ofString "order" then v1 else m₀ y
theorem bindA_id (m₀:Str -> Option Value):m₀ = bindA m₀ (m₀ (Str.ofString "order")) (m₀ (Str.ofString "told")) (m₀ (Str.ofString "question")) := by
  funext y
  unfold bindA
  repeat' split
  all_goals first | rfl | (subst_vars; rfl)
theorem bindA_order (m₀:Str -> Option Value) (v1 v2 v3 a1:Option Value):(fun y=>if y = Str.ofString "order" then a1 else bindA m₀ v1 v2 v3 y) = bindA m₀ a1 v2 v3 := by
  funext y
  unfold bindA
  have h1:Str.ofString "order" ≠ Str.ofString "question" := by decide +kernel
  have h2:Str.ofString "order" ≠ Str.ofString "told" := by decide +kernel
  by_cases ya:y = Str.ofString "order"
  · rw [if_pos ya,ya,if_neg h1,if_neg h2,if_pos rfl]
  · rw [if_neg ya,if_neg ya]
    repeat' split
    all_goals rfl
theorem bindA_told (m₀:Str -> Option Value) (v1 v2 v3 a2:Option Value):(fun y=>if y = Str.ofString "told" then a2 else bindA m₀ v1 v2 v3 y) = bindA m₀ v1 a2 v3 := by
  funext y
  unfold bindA
  have h1:Str.ofString "told" ≠ Str.ofString "question" := by decide +kernel
  by_cases ya:y = Str.ofString "told"
  · rw [if_pos ya,ya,if_neg h1,if_pos rfl]
  · rw [if_neg ya,if_neg ya]
    repeat' split
    all_goals rfl
theorem bindA_asked (m₀:Str -> Option Value) (v1 v2 v3 a3:Option Value) (vp:Value) (hp:m₀ (Str.ofString "prepared") = some vp):(fun y=>if y = Str.ofString "question" then a3 else if y = Str.ofString "told" then v2 else if y = Str.ofString "prepared" then some vp else bindA m₀ v1 v2 v3 y) = bindA m₀ v1 v2 a3 := by
  funext y
  unfold bindA
  by_cases ya:y = Str.ofString "question"
  · rw [if_pos ya,if_pos ya]
  · rw [if_neg ya,if_neg ya,if_neg ya]
    by_cases yb:y = Str.ofString "told"
    · rw [if_pos yb,if_pos yb]
    · rw [if_neg yb,if_neg yb]
      have h1:Str.ofString "prepared" ≠ Str.ofString "order" := by decide +kernel
      by_cases yc:y = Str.ofString "prepared"
      · rw [if_pos yc,yc,if_neg h1,hp]
      · rw [if_neg yc]
theorem fr_put {h₀ h:Heap} {L:Addr} {m:Str -> Option Value} {a:Str} {v:Option Value} (F:Fr h₀ L h m) (h1:m a = v):Fr h₀ L h (fun y=>if y = a then v else m y) := by
  have e:(fun y=>if y = a then v else m y) = m := by
    funext y
    by_cases ya:y = a
    · rw [if_pos ya,ya,h1]
    · rw [if_neg ya]
  rw [e]
  exact F
theorem append_hd {prog:Program} {w:World} {A:Around} {E:Value -> Shared -> Prop} {s:Shared} {h₀:Heap} {L D:Addr} {m:Str -> Option Value} {rest:List (Addr × Obj)} {its:Array Value} {n:Nat} {x:Value} {Q:Value -> Shared -> Prop} (F:Fr h₀ L s.heap m) (N:News h₀ L s.heap ((D,W.listOf its n) :: rest)) (hne:∀ p ∈ rest,p.1 ≠ D) (hsz:its.size ≤ sizeLine)
    (h:∀ h',Fr h₀ L h' m -> News h₀ L h' ((D,W.listOf (its.push x) (n + 1)) :: rest) -> Q .none { s with heap := h' }):wpAny (model prog w) A (call (.builtin "list.append") [.ref D,x]) Q E s := by
  have hm := N (D,W.listOf its n) (.head _)
  exact append_at (hsz := hsz) hm.1 fun h' hs ho=>h h' (F.change hs hm.2.1 hm.2.2) (News.setIn (own := []) N (fun _ h=>(nomatch h)) hne hs ho)
end Mine
end
local macro_rules | `(tactic| walk_at "call builtin:len")=>`(tactic| (k_here; refine Mine.Stop.mk ?_))
local macro_rules | `(tactic| walk_at "binaryOp Add ref ref")=>`(tactic| (k_here; refine Mine.Stop.mk ?_))
section
open PySem PySem.W PyProof.Rows PySem.Spec PySem.Calls
namespace Mine
theorem c_quest
    (B:Below A₀ base outer h₀) (F:Fr h₀ L s.heap m) (X:(KF w.params).In h₀) (N:News h₀ L s.heap news) (T:Top p loose mean mg mb h₀) (hk:cs.kind = .function) (hd:dp + 12 < recursionLimit) (hu:un + 60 < cLine)
    (ln:Addr) (vs:List Value) (xs:List Str) (wr:Str) (t:Tok) (kk:Nat) (hl:(ln,({ cls := .type "list",data := .seq vs.toArray kk } : Obj)) ∈ news) (hxs:StrsAre vs xs) (hn:xs.length ≤ 6) (hz:∀ x ∈ xs,x.length ≤ 2) (hw:wr.length ≤ 8)
    (hret:∀ (t:Tok) (h':Heap) (tk':Nat),Fr h₀ L h' m -> News h₀ L h' news -> Q (.str (questOf wr xs) t) { s with heap := h',toks := tk' }) :
    wpAny (model prog w) (ktrTop dp un gd cn cs L a ccd cl outer) (call (.ref 268) [.ref ln,.str wr t]) Q E s := by
  w_on
  refine wpAny_call ?_
  k_dflt (refine' code_defC ?k1 ?k2 ?k3 ?k4 ?k5 ?kA ?kF ?kK ?k6 ?k7 ?k8 ?k9 ?kB ?kD ?_ ?c2 ?c3 ?c4; (case kA | kF=>exact rfl); (case kK=>assumption); (case k1 | k2=>k_asm); (case k3 | k4 | k5=>k_asm); (case k6 | k7=>k_is); (case k8=>ktr_room); (case k9=>exact BindsTo.of_eq rfl); (case kB=>exact rfl); (case kD=>decide +kernel); (case c2 | c3 | c4=>exact rfl); k_whole; intro g' L' h' tk' cells' FG' F' N' Y' B' X' T' l1; (try k_lt l1); k_cells Y'; (try simp only [List.cons_append,List.nil_append] at N'); (try dsimp only); (try k_lift B'); (try k_fold))
  (rename Fr _ _ _ (fun _=>_)=>F0); refine foldAll F0 ?_; clear F0; intro A9 e9 m9 F0
  k_steps
  refine Stop.of ?_
  k_dflt (refine LCg.ListComp_U (F₀ := by k_asm) (by with_unfolding_all rfl) (by decide) (by rfl) (by decide) (by rfl) ?_)
  k_steps
  refine LCg.CompSrc.ledger (by rfl) (by k_asm) (by k_asm) (List.mem_cons_of_mem _ hl) (by rw [List.size_toArray,hxs.length,sizeLine_eq]; lia) (fun g9=>?_)
  refine comp_gen xs (fun x v=>∃ t,v = .str x t) (fun x y=>∃ t,y = .str (quoteOf wr x) t) (by rw [List.size_toArray,hxs.length]) (fun i v _ hv=>by obtain ⟨x,t,e1,e2⟩ := strs_at hxs i v (by simpa using hv); exact ⟨x,e1,t,e2⟩) (fun a9 v9 I' oI' C' oC' D' m' ys' h' tk' E' ha9 hR9 hC' hx' F' N' off' ne' => ?_) (fun ys hy=>?_)
  · obtain ⟨t9,rfl⟩ := hR9
    have hz9 := hz _ ha9
    k_steps
    exact LCg.CompEnd.intro (by k_asm) (by k_asm) _ (fun p hp=>hp) off' (Or.inr ⟨_,List.mem_cons_of_mem _ hl,rfl,_,rfl⟩) ⟨rfl,_,rfl⟩
  · intro D9 h9 tk9 F9 N9 o9
    have hs9 := hy.strs
    have hb9:((xs.map (quoteOf wr)).map fun y=>y.length).sum ≤ 120 := by
      have h1 := sum_len_le (xs.map (quoteOf wr)) 20 (fun y hy=>by obtain ⟨x,hx,rfl⟩ := List.mem_map.mp hy; exact quoteOf_len hw (hz x hx))
      rw [List.length_map] at h1
      lia
    k_steps
    refine Stop.of ?_
    k_dflt (refine join_b 120 (News.isList (by k_asm) (by k_mem)) (by assumption) (by assumption) (by decide) ?_)
    intro J9 t9 k9 eJ lJ9
    k_steps
    subst eJ
    exact hret _ _ _ (by k_asm) (by first | k_asm | (refine' cb_drop ?cbN ?cbS; (case cbN=>k_asm); (case cbS=>kcj_all)))
end Mine
end
section
open PySem PySem.W PyProof.Rows PySem.Spec PySem.Calls
namespace Mine
local macro_rules | `(tactic| walk_at "CompSrcT")=>`(tactic| (k_here; refine Stop.mk ?_))
theorem c_falls
    (B:Below A₀ base outer h₀) (F:Fr h₀ L s.heap m) (X:(KF w.params).In h₀) (N:News h₀ L s.heap news) (T:Top p loose mean mg mb h₀) (hk:cs.kind = .function) (hd:dp + 12 < recursionLimit) (hu:un + 60 < cLine)
    (ln:Addr) (vs:List Value) (ns:List Int) (kk:Nat) (hl:(ln,({ cls := .type "list",data := .seq vs.toArray kk } : Obj)) ∈ news) (hns:IntsAre vs ns) (hn:ns.length ≤ 6) (hn0:1 ≤ ns.length)
    (hret:∀ (t:Tok) (h':Heap) (tk':Nat),Fr h₀ L h' m -> News h₀ L h' news -> Q (.int (fallsOf ns:Int) t) { s with heap := h',toks := tk' }) :
    wpAny (model prog w) (ktrTop dp un gd cn cs L a ccd cl outer) (call (.ref 273) [.ref ln]) Q E s := by
  w_on
  refine wpAny_call ?_
  k_dflt (refine' code_defC ?k1 ?k2 ?k3 ?k4 ?k5 ?kA ?kF ?kK ?k6 ?k7 ?k8 ?k9 ?kB ?kD ?_ ?c2 ?c3 ?c4; (case kA | kF=>exact rfl); (case kK=>assumption); (case k1 | k2=>k_asm); (case k3 | k4 | k5=>k_asm); (case k6 | k7=>k_is); (case k8=>ktr_room); (case k9=>exact BindsTo.of_eq rfl); (case kB=>exact rfl); (case kD=>decide +kernel); (case c2 | c3 | c4=>exact rfl); k_whole; intro g' L' h' tk' cells' FG' F' N' Y' B' X' T' l1; (try k_lt l1); k_cells Y'; (try simp only [List.cons_append,List.nil_append] at N'); (try dsimp only); (try k_lift B'); (try k_fold))
  (rename Fr _ _ _ (fun _=>_)=>F0); refine foldAll F0 ?_; clear F0; intro A9 e9 m9 F0
  k_steps
  refine Stop.of ?_
  k_dflt (refine LCt.ListComp_T (F₀ := by k_asm) (by with_unfolding_all rfl) (by decide) (by rfl) (by decide) (by rfl) ?_)
  k_steps
  refine Stop.of ?_
  k_dflt (show wpAny _ _ (call (Value.builtin "len") [Value.ref _]) _ _ _)
  k_dflt (refine len_L _ (isL (by k_asm) (by first | assumption | exact List.mem_cons_of_mem _ (by assumption))) (IntsAre.length hns) (Nat.lt_of_le_of_lt hn (by decide)) ?_)
  k_steps
  refine Stop.of ?_
  rename IsRange _ _ _ _ _ _ _ _=>rg9
  k_dflt (refine LCt.CompSrcT.range (n := ns.length - 1) (by rfl) (by k_asm) (by k_asm) rg9 (small_one (by decide) (by decide) (by lia) (by lia)) (by rw [rangeSize_nat]; show (((ns.length:Int) - ((1:Nat):Int) - 0).toNat:Int) = _; rw [Int.sub_zero, ← Int.ofNat_sub hn0]; rfl) (by rw [sizeLine_eq]; exact Nat.le_trans (Nat.le_trans (Nat.sub_le _ _) hn) (by decide)) (fun g9=>?_))
  refine compT_gen (b := 0) (fun i=>decide (ns.getD (i + 1) 0 < ns.getD i 0)) (fun i9 t9 I' oI' C' oC' D' m' ys' h' tk' E' hi9 hC' hx' F' N' off' ne' => ?_) (fun ys9 hy9=>?_)
  · k_steps
    refine Stop.of ?_
    rename IntsAre _ _=>hns
    k_dflt (refine item_ints (isL (by k_asm) (List.mem_cons_of_mem _ (List.mem_cons_of_mem _ (List.mem_cons_of_mem _ (List.mem_cons_of_mem _ hl))))) hns (by lia) (by lia) (by lia) (fun t9=>?_))
    k_steps
    refine Stop.of ?_
    rename IntsAre _ _=>hns
    k_dflt (refine item_ints (isL (by k_asm) (List.mem_cons_of_mem _ (List.mem_cons_of_mem _ (List.mem_cons_of_mem _ (List.mem_cons_of_mem _ hl))))) hns (by lia) (by lia) (by lia) (fun t9=>?_))
    k_steps
    · show decide (ns.getD (0 + (i9:Int) + 1).toNat 0 < ns.getD (0 + (i9:Int)).toNat 0) = _
      rw [Int.zero_add]; rfl
    · exact LCg.CompEnd.intro (by k_asm) (by k_asm) _ (fun p hp=>hp) off' trivial rfl
    · exact LCg.CompEnd.intro (by k_asm) (by k_asm) _ (fun p hp=>hp) off' trivial rfl
  · intro D9 h9 tk9 F9 N9 o9
    have hlen:ys9.length ≤ 6 := by
      have h1 := List.length_filter_le (fun i=>decide (ns.getD (i + 1) 0 < ns.getD i 0)) (List.range (ns.length - 1))
      rw [List.length_range] at h1
      exact Nat.le_trans (Nat.le_of_eq hy9) (Nat.le_trans h1 (Nat.le_trans (Nat.sub_le _ _) hn))
    k_steps
    k_dflt (refine len_L _ (isL N9 (.head _)) rfl (Nat.lt_of_le_of_lt hlen (by decide)) ?_)
    k_steps
    rw [hy9]
    exact hret _ _ _ (by k_asm) (by first | k_asm | (refine' cb_drop ?cbN ?cbS; (case cbN=>k_asm); (case cbS=>kcj_all)))
end Mine
end
section
open PySem PySem.W PyProof.Rows PySem.Spec PySem.Calls
namespace Mine
noncomputable def choose2 (n:Int):Int := Int.fdiv (Int.fdiv (1 * (n - (0 + (0:Nat)))) (0 + (0:Nat) + 1) * (n - (0 + (1:Nat)))) (0 + (1:Nat) + 1)
noncomputable def choose3 (n:Int):Int := Int.fdiv (choose2 n * (n - (0 + (2:Nat)))) (0 + (2:Nat) + 1)
theorem c_choices3
    (B:Below A₀ base outer h₀) (F:Fr h₀ L s.heap m) (X:(KF w.params).In h₀) (N:News h₀ L s.heap news) (T:Top p loose mean mg mb h₀) (hk:cs.kind = .function) (hd:dp + 12 < recursionLimit) (hu:un + 60 < cLine)
    (n:Int) (h0:0 ≤ n) (h1:n ≤ 10) (t t2:Tok)
    (hret:∀ (t:Tok) (h':Heap) (tk':Nat),Fr h₀ L h' m -> News h₀ L h' news -> Q (.int (choose3 n) t) { s with heap := h',toks := tk' }) :
    wpAny (model prog w) (ktrTop dp un gd cn cs L a ccd cl outer) (call (.ref 280) [.int n t,.int 3 t2]) Q E s := by
  w_on
  refine wpAny_call ?_
  k_dflt cell_enter
  (rename Fr _ _ _ (fun _=>_)=>F0); refine foldAll F0 ?_; clear F0; intro A9 e9 m9 F0
  k_steps
  refine Stop.of ?_
  rename (∀ p ∈ _,Prod.fst p < _)=>l9
  k_dflt (refine' UnrEnd.intro ?F ?N _ ?sub (fun p hp=>Nat.ne_of_lt (l9 p hp)) ?_; (case F | N=>k_asm); (case sub=>exact fun p hp=>hp))
  k_steps
  refine Stop.of ?_
  rename (∀ p ∈ _,Prod.fst p < _)=>l9
  k_dflt (refine' UnrEnd.intro ?F ?N _ ?sub (fun p hp=>Nat.ne_of_lt (l9 p hp)) ?_; (case F | N=>k_asm); (case sub=>exact fun p hp=>hp))
  k_steps
  refine Stop.of ?_
  rename (∀ p ∈ _,Prod.fst p < _)=>l9
  k_dflt (refine' UnrEnd.intro ?F ?N _ ?sub (fun p hp=>Nat.ne_of_lt (l9 p hp)) ?_; (case F | N=>k_asm); (case sub=>exact fun p hp=>hp))
  k_steps
  all_goals exact hret _ _ _ (by k_asm) (by first | k_asm | (refine' cb_drop ?cbN ?cbS; (case cbN=>k_asm); (case cbS=>kcj_all)))
theorem c_choices2
    (B:Below A₀ base outer h₀) (F:Fr h₀ L s.heap m) (X:(KF w.params).In h₀) (N:News h₀ L s.heap news) (T:Top p loose mean mg mb h₀) (hk:cs.kind = .function) (hd:dp + 12 < recursionLimit) (hu:un + 60 < cLine)
    (n:Int) (h0:0 ≤ n) (h1:n ≤ 10) (t t2:Tok)
    (hret:∀ (t:Tok) (h':Heap) (tk':Nat),Fr h₀ L h' m -> News h₀ L h' news -> Q (.int (choose2 n) t) { s with heap := h',toks := tk' }) :
    wpAny (model prog w) (ktrTop dp un gd cn cs L a ccd cl outer) (call (.ref 280) [.int n t,.int 2 t2]) Q E s := by
  w_on
  refine wpAny_call ?_
  k_dflt cell_enter
  (rename Fr _ _ _ (fun _=>_)=>F0); refine foldAll F0 ?_; clear F0; intro A9 e9 m9 F0
  k_steps
  refine Stop.of ?_
  rename (∀ p ∈ _,Prod.fst p < _)=>l9
  k_dflt (refine' UnrEnd.intro ?F ?N _ ?sub (fun p hp=>Nat.ne_of_lt (l9 p hp)) ?_; (case F | N=>k_asm); (case sub=>exact fun p hp=>hp))
  k_steps
  refine Stop.of ?_
  rename (∀ p ∈ _,Prod.fst p < _)=>l9
  k_dflt (refine' UnrEnd.intro ?F ?N _ ?sub (fun p hp=>Nat.ne_of_lt (l9 p hp)) ?_; (case F | N=>k_asm); (case sub=>exact fun p hp=>hp))
  k_steps
  all_goals exact hret _ _ _ (by k_asm) (by first | k_asm | (refine' cb_drop ?cbN ?cbS; (case cbN=>k_asm); (case cbS=>kcj_all)))
end Mine
end
end
local macro_rules | `(tactic| walk_at "subscriptTail")=>`(tactic| (k_here; refine Mine.Stop.mk ?_))
local macro_rules | `(tactic| walk_at "subscriptTail Name Slice ref ref")=>`(tactic| (k_here; refine Mine.Stop.mk ?_))
local macro_rules | `(tactic| walk_at "call builtin:len")=>`(tactic| (k_here; refine Mine.Stop.mk ?_))
local macro_rules | `(tactic| walk_at "binaryOp Add ref ref")=>`(tactic| (k_here; refine Mine.Stop.mk ?_))
local macro_rules | `(tactic| walk_at "call ref")=>`(tactic| (k_here; refine Mine.Stop.mk ?_))
local macro_rules | `(tactic| walk_at "exec Assign cons ListComp")=>`(tactic| (k_here; refine Mine.Stop.mk ?_))
local macro_rules | `(tactic| walk_at "CompSrc")=>`(tactic| (k_here; refine Mine.Stop.mk ?_))
local macro_rules | `(tactic| walk_at "exec For Name Tuple cons nil")=>`(tactic| (k_here; refine Mine.Stop.mk ?_))
section
open PySem PySem.W PyProof.Rows PySem.Spec PySem.Calls
namespace Mine
noncomputable abbrev LE (L fa:Addr) (cd:Value):Env := envOfC (Str.ofString "law") (fS (stm 26)) L fa cd
local macro_rules | `(tactic| walk_at "storeName")=>`(tactic| (k_here; k_dflt (refine stop_store (Str.ofString "place") ?_)))
theorem orders_small:∀ p < 3,(∀ o ∈ orders p,o.length + 1 ≤ 10) ∧ (orders p).length ≤ 40 := by decide +kernel
theorem own1 {b:Addr} {ws:Array Value} (c:Nat):OwnL [(b,W.listOf ws c)] := fun p hp=>by
  rw [List.mem_singleton.mp hp]
  exact ⟨_,_,rfl⟩
noncomputable abbrev L7 (L:Addr):Addr := L + 1 + 1 + 1 + 1 + 1 + 1 + 1
theorem store_place {prog:Program} {w:World} {A:Around} {E:Value -> Shared -> Prop} {s:Shared} {h₀:Heap} {m:Str -> Option Value} {fa:Addr} {cd:Value} {L I D:Nat} {oI:Obj} {vs:Array Value} {c:Nat} {o7:Obj} {R own:List (Addr × Obj)} {v7:Option Value} {v:Value} {Q:Unit -> Shared -> Prop}
    (F:Fr h₀ L s.heap m) (N:News h₀ L s.heap ((I,oI) :: (D,W.listOf vs c) :: (L7 L,o7) :: (R ++ own))) (dI:@Ne Nat I (L7 L)) (d7:o7.data = .cell v7) (hown:OwnL own) (hR:∀ p ∈ R,p.1 ≠ L7 L)
    (h:∀ h' o7',Fr h₀ L h' m -> News h₀ L h' ((I,oI) :: (D,W.listOf vs c) :: (L7 L,o7') :: (R ++ own)) -> o7'.data = .cell (some v) -> Q () { s with heap := h' }) :
    wpAny (model prog w) A (storeName (LE L fa cd) (Str.ofString "place") v) Q E s := by
  have hmem := N (L7 L,o7) (.tail _ (.tail _ (.head _)))
  have hm1:s.heap.get? (L7 L) = some o7 := hmem.1
  have key:∀ p ∈ (I,oI) :: (D,W.listOf vs c) :: (L7 L,o7) :: (R ++ own), ∀ vs c,p.2 = W.listOf vs c -> p.1 ≠ L7 L := by
    intro p hp vs c e q
    have h1 := (N p hp).1
    rw [q,hm1] at h1
    rw [Option.some.inj h1,e] at d7
    cases d7
  refine wpAny_storeName_cell (by with_unfolding_all rfl) (by with_unfolding_all rfl) (by with_unfolding_all rfl) ⟨o7,hmem.1,d7⟩ fun h' hv hs=>?_
  obtain ⟨o',ho',hd'⟩ := hv
  refine h h' o' ⟨F.ns.sameBut hs (Ne.symm hmem.2.1),fun b ob e=>(hs.2 b (fun q=>?_)).trans (F.keep b ob e),F.above⟩ ?_ hd'
  · rw [q,hmem.2.2] at e; cases e
  · refine News.setAt (own := [(I,oI),(D,W.listOf vs c)]) (rest := R ++ own) N ?_ ?_ hs ho'
    · intro p hp
      rcases List.mem_cons.mp hp with rfl | hp
      · exact dI
      · rw [List.mem_singleton.mp hp]
        exact key _ (.tail _ (.head _)) _ _ rfl
    · intro p hp
      rcases List.mem_append.mp hp with h | h
      · exact hR p h
      · obtain ⟨ws,c,e⟩ := hown p h
        exact key _ (.tail _ (.tail _ (.tail _ (List.mem_append_right _ h)))) _ _ e
theorem first_lists {h₀ h:Heap} {a b:Addr} {c1 c2:Nat} {L:Addr} {S R own:List (Addr × Obj)}
    (N:News h₀ L h ((a,W.listOf #[.ref b] c1) :: (b,W.listOf #[] c2) :: (S ++ (R ++ own)))) :
    News h₀ L h ((a,W.listOf (List.toArray [.ref b]) c1) :: (S ++ (R ++ (own ++ [(b,W.listOf #[] c2)])))) ∧ LLs [(b,W.listOf #[] c2)] [.ref b] [[]] := by
  refine ⟨fun p hp=>N p ?_,.cons ⟨b,[],c2,rfl,.head _,.nil⟩ .nil⟩
  rcases List.mem_cons.mp hp with h | hp
  · rw [h]
    exact .head _
  · rw [← List.append_assoc, ← List.append_assoc] at hp
    rcases List.mem_append.mp hp with hp | hp
    · rw [List.append_assoc] at hp
      exact .tail _ (.tail _ hp)
    · rw [List.mem_singleton.mp hp]
      exact .tail _ (.head _)
inductive OJ (m₁:Str -> Option Value) (z:Str) (R:List (Addr × Obj)) (L:Addr) (res:Nat -> List (List Nat)) (p:Nat):(Str -> Option Value) -> List (Addr × Obj) -> Prop
  | mk (D:Addr) (vs:List Value) (c:Nat) (own:List (Addr × Obj)) (o7':Obj) (v7:Option Value):LLs own vs (res p) -> OwnL own -> o7'.data = .cell v7 -> OJ m₁ z R L res p (mO z m₁ D) ((D,W.listOf vs.toArray c) :: (L7 L,o7') :: (R ++ own))
theorem end_sub {d i c D:Addr × Obj} {R own own9:List (Addr × Obj)} : ∀ q ∈ i :: d :: c :: (R ++ own9),q ∈ d :: (i :: D :: c :: (R ++ own) ++ own9) := by
  intro q hq
  rcases List.mem_cons.mp hq with rfl | hq
  · exact .tail _ (.head _)
  rcases List.mem_cons.mp hq with rfl | hq
  · exact .head _
  rcases List.mem_cons.mp hq with rfl | hq
  · exact .tail _ (.tail _ (.tail _ (.head _)))
  rcases List.mem_append.mp hq with h | h
  · exact .tail _ (List.mem_append_left _ (.tail _ (.tail _ (.tail _ (List.mem_append_left _ h)))))
  · exact .tail _ (List.mem_append_right _ h)
theorem end_off {D9 D I L:Addr} {oI o7 o7':Obj} {ys:List Value} {vs:Array Value} {c:Nat} {h₀ h:Heap} {LL:Addr} {R own own9:List (Addr × Obj)}
    (N:News h₀ LL h ((D9,LCg.lst ys) :: ((I,oI) :: (D,W.listOf vs c) :: (L7 L,o7) :: (R ++ own) ++ own9))) (hoff:LCg.Off1 D9 ((I,oI) :: (D,W.listOf vs c) :: (L7 L,o7) :: (R ++ own) ++ own9))
    (off:∀ p ∈ (D,W.listOf vs c) :: (L7 L,o7') :: (R ++ own),p.1 ≠ I) (cI:oI.cls = .type "range_iterator") (hown:OwnL own9):∀ q ∈ (D9,LCg.lst ys) :: (L7 L,o7) :: (R ++ own9),q.1 ≠ I := by
  intro q hq
  rcases List.mem_cons.mp hq with rfl | hq
  · exact Ne.symm (off1_mem hoff (I,oI) (.head _))
  rcases List.mem_cons.mp hq with rfl | hq
  · exact off (L7 L,o7') (.tail _ (.head _))
  rcases List.mem_append.mp hq with h | h
  · exact off q (.tail _ (.tail _ (List.mem_append_left _ h)))
  · exact ownl_off N (I := I) (oI := oI) (.tail _ (.head _)) (by rw [cI]; decide) (fun q hq=>.tail _ (List.mem_append_right _ hq)) hown q h
theorem tl_to {h₀ h:Heap} {L:Addr} {o7:Obj} {x:List (Addr × Obj)} {P R own:List (Addr × Obj)} (N:News h₀ L h (x ++ (P ++ (L7 L,o7) :: (R ++ own)))):News h₀ L h (x ++ ((L7 L,o7) :: (P ++ R ++ own))) := fun p hp=>N p (by
  rcases List.mem_append.mp hp with hp | hp
  · exact List.mem_append_left _ hp
  · rcases List.mem_cons.mp hp with rfl | hp
    · exact List.mem_append_right _ (List.mem_append_right _ (.head _))
    · rw [List.append_assoc] at hp
      rcases List.mem_append.mp hp with hp | hp
      · exact List.mem_append_right _ (List.mem_append_left _ hp)
      · exact List.mem_append_right _ (List.mem_append_right _ (.tail _ hp)))
theorem tl_back {h₀ h:Heap} {L:Addr} {o7:Obj} {x:List (Addr × Obj)} {P R own:List (Addr × Obj)} (N:News h₀ L h (x ++ ((L7 L,o7) :: (P ++ R ++ own)))):News h₀ L h (x ++ (P ++ (L7 L,o7) :: (R ++ own))) := fun p hp=>N p (by
  rcases List.mem_append.mp hp with hp | hp
  · exact List.mem_append_left _ hp
  · rw [List.append_assoc]
    rcases List.mem_append.mp hp with hp | hp
    · exact List.mem_append_right _ (.tail _ (List.mem_append_left _ hp))
    · rcases List.mem_cons.mp hp with rfl | hp
      · exact List.mem_append_right _ (.head _)
      · exact List.mem_append_right _ (.tail _ (List.mem_append_right _ hp)))
local macro_rules | `(tactic| k_mem)=>`(tactic| first | exact ml2 | exact ml1)
theorem stage3a_core {prog:Program} {w:World} {p:Program} {loose:List Str} {mean:ExcName -> Option Value} {mg mb:Str -> Option Value} {fa:Addr} {cd:Value} {h₀:Heap} {L:Nat} {m₁:Str -> Option Value} {s:Shared} {Q:Flow -> Shared -> Prop} {E:Value -> Shared -> Prop}
    {o3 o7:Obj} {tz:Tok} {many size:Int} {R:List (Addr × Obj)}
    (M:MS many size)
    (B:Below callerA h₀ [] h₀) (F:Fr h₀ L s.heap m₁) (X:(KF w.params).In h₀) (T:Top p loose mean mg mb h₀)
    (N:News h₀ L s.heap ((L7 L,o7) :: (R ++ []))) (hR:∀ p ∈ R,p.1 ≠ L7 L) (m3:(L + 1 + 1 + 1,o3) ∈ R)
    (d7:o7.data = Data.cell none) (d3:o3.data = Data.cell (some (.int size tz)))
    (hnext:∀ D vs c own o7' v7 h' tk',LLs own vs (orders size.toNat) -> OwnL own -> o7'.data = .cell v7 -> Fr h₀ L h' (mO (.ofString "orders") m₁ D) -> News h₀ L h' ((D,W.listOf vs.toArray c) :: (L7 L,o7') :: (R ++ own)) ->
      wpAny (model prog w) (callerA.deeper (LE L fa cd)) (execs ((fB (stm 26)).drop 14) (LE L fa cd)) Q E { s with heap := h',toks := tk' }) :
    wpAny (model prog w) (callerA.deeper (LE L fa cd)) (execs ((fB (stm 26)).drop 12) (LE L fa cd)) Q E s := by
  w_on
  have hms := M.bounds
  k_steps
  refine Stop.of ?_
  (rename Fr _ _ _ _=>F9)
  refine For_rangeT F9 (fun _=>by with_unfolding_all rfl) rfl ?_
  k_steps
  (rename Fr _ _ _ _=>F8)
  (rename News _ _ _ _=>N8)
  (rename IsRange _ _ _ _ _ _ _ _=>R8)
  obtain ⟨N7,LL7⟩ := first_lists (S := [_]) (own := []) N8
  refine RangeLoop.mk (n := size.toNat) (OJ m₁ (.ofString "orders") R L (fun p=>orders p)) R8 (by lia) (by lia) F8 N7 (.mk _ _ _ _ _ _ LL7 (own1 _) d7) ?turn ?fin
  case turn =>
    clear N8 N7 LL7 F8 R8
    rintro p m nw I oI h tk t hp ⟨D,vs,c,own,o7',v7,hvs,hown,d7'⟩ F6 N6 off6 cI6
    k_steps
    refine Stop.of ?_
    refine' store_place F6 N6 ?dI d7' hown hR ?_
    case dI=>exact Ne.symm (off6 (L7 L,o7') (.tail _ (.head _)))
    intro h' o7'' F' N' d7''
    k_steps
    refine Stop.of ?_
    clear N6 F6
    refine Assign_ListComp_2 F' rfl (by with_unfolding_all rfl) (by with_unfolding_all rfl) (by decide) (by rfl) (by decide) (by rfl) (by rfl) (by decide) (by with_unfolding_all rfl) (by with_unfolding_all rfl) ?_
    k_steps
    have hp3:p < 3 := by lia
    obtain ⟨ho10,hz40⟩ := orders_small p hp3
    refine src2_lists (Dd := D) (its := vs) (oss := orders p) (fun o k=>o.take k ++ [p] ++ o.drop k) (fun o=>o.length + 1) rfl (by k_asm) (by k_asm) (by k_mem) (hvs.mono ?sub) hz40 ho10 ?it2 ?el ?fin2
    case sub=>exact fun q hq=>.tail _ (.tail _ (.tail _ (List.mem_append_right _ hq)))
    case it2 =>
      intro o ho a ws c1 ham hai own1 I1 oI1 C1 oC1 D1 m₂ ys h1 tk1 E' hC hx F5 N5 off5 ne5
      have hmA := List.mem_cons_of_mem (I1,oI1) (List.mem_cons_of_mem (C1,oC1) (List.mem_cons_of_mem (D1,LCg.lst ys) (List.mem_append_left own1 ham)))
      simp only [List.cons_append] at N5 hmA
      have hwl:ws.length = o.length := by rw [hai.length,List.length_map]
      have ho9 := ho10 o ho
      k_steps
      refine Stop.of ?_
      refine len_L o.length (News.isList (by k_asm) hmA) hwl (by lia) ?_
      k_steps
      exact ⟨_,_,_,_,_,_,rfl,rfl,by k_asm,by k_asm,by assumption⟩
    case el =>
      intro o ho a ws c1 ham hai k hk t0 own1 I1 oI1 C1 oC1 D1 I2 oI2 m₂ ys h1 tk1 E' hC hx hy F5 N5 off5 off52 ne5
      have hmA := List.mem_cons_of_mem (I1,oI1) (List.mem_cons_of_mem (C1,oC1) (List.mem_cons_of_mem (D1,LCg.lst ys) (List.mem_cons_of_mem (I2,oI2) (List.mem_append_left own1 ham))))
      simp only [List.cons_append] at N5 hmA off52
      have hwl:ws.length = o.length := by rw [hai.length,List.length_map]
      have ho9 := ho10 o ho
      have hw9:ws.length ≤ 9 := by rw [hwl]; exact Nat.le_of_succ_le_succ ho9
      k_steps
      refine Stop.of ?_
      refine' pk_upto (vs := ws) ?F ?N ?l ?z0 ?_ ?s ?t ?z
      case F | N=>k_asm
      case l=>exact News.isList (by k_asm) hmA
      case z0=>exact Int.natCast_nonneg _
      case s=>with_unfolding_all rfl
      case t=>kmk_pure
      case z=>(rw [sizeLine_eq]; lia)
      intro Da ha Fa Na la
      k_lt la
      k_steps
      refine Stop.of ?_
      refine' la_add (vs := ws.take _) (ws := [_]) ?pF ?pN ?pA ?pB ?pZ ?_
      case pF | pN=>k_asm
      case pA | pB=>kmk_list
      case pZ=>(simp only [List.length_take,List.length_singleton]; exact Nat.le_trans (Nat.succ_le_succ (Nat.le_trans (Nat.min_le_right _ _) hw9)) (by decide))
      intro Db hb Fb Nb lb
      k_lt lb
      k_steps
      refine Stop.of ?_
      refine' pk_from (vs := ws) ?F ?N ?l ?z0 ?_ ?s ?t ?z
      case F | N=>k_asm
      case l=>exact News.isList (by k_asm) (by repeat first | exact hmA | apply List.mem_cons_of_mem)
      case z0=>exact Int.natCast_nonneg _
      case s=>with_unfolding_all rfl
      case t=>kmk_pure
      case z=>(rw [sizeLine_eq]; lia)
      intro Dc9 hc Fc Nc lc
      k_lt lc
      k_steps
      refine Stop.of ?_
      refine' la_add (vs := ws.take _ ++ [_]) (ws := ws.drop _) ?pF ?pN ?pA ?pB ?pZ ?_
      case pF | pN=>k_asm
      case pA | pB=>kmk_list
      case pZ=>(simp only [List.length_append,List.length_take,List.length_drop,List.length_singleton]; exact Nat.le_trans (Nat.add_le_add (Nat.succ_le_succ (Nat.le_trans (Nat.min_le_right _ _) hw9)) (Nat.le_trans (Nat.sub_le _ _) hw9)) (by decide))
      intro Dd hd Fd Nd ld
      have e9:natI (o.take k ++ [p] ++ o.drop k) = (natI o).take k ++ [(p:Int)] ++ (natI o).drop k := by
        simp [natI,List.map_take,List.map_drop]
      refine ⟨Dd,_,0,hd,_,rfl,rfl,Fd,?_,news_keep [true,false,false,false,false] Nd,fun q hq=>ld q (.tail _ (.tail _ (.tail _ (.tail _ hq))))⟩
      rw [e9,Int.toNat_natCast]
      exact ((hai.take k).append (.cons _ _ .nil)).append (hai.drop k)
    case fin2 =>
      intro D9 ys own9 hown9 hy9 hlt9 hoff9 h9 tk9 F9 N9
      k_steps
      exact UnrEnd.intro F9 N9 ((D9,LCg.lst ys) :: (L7 L,o7'') :: (R ++ own9)) end_sub (end_off N9 hoff9 off6 cI6 hown9) (by rw [mO_again]; exact .mk _ _ _ _ _ _ hy9 hown9 d7'')
  case fin =>
    rintro m nw h tk ⟨D,vs,c,own,o7',v7,hvs,hown,d7'⟩ F6 N6
    dsimp only
    exact hnext D vs c own o7' _ _ _ hvs hown d7' F6 N6
noncomputable def RT (ps:Array Value) (Dr:Addr) (yr:List Value) (De:Addr) (we:List Value) (ce:Nat) (Dc:Addr) (cv:Array Value) (kk:Nat) (L:Addr) (o6 o5 o4 o3 o2 o1:Obj):List (Addr × Obj) :=
  [(123,tabObj ps),(Dr,LCg.lst yr),(De,W.listOf we.toArray ce),(Dc,W.listOf cv kk)] ++ [(L + 1 + 1 + 1 + 1 + 1 + 1,o6),(L + 1 + 1 + 1 + 1 + 1,o5),(L + 1 + 1 + 1 + 1,o4),(L + 1 + 1 + 1,o3),(L + 1 + 1,o2),(L + 1,o1)]
theorem rt_off {ps:Array Value} {Dr:Addr} {yr:List Value} {De:Addr} {we:List Value} {ce:Nat} {Dc:Addr} {cv:Array Value} {kk:Nat} {L:Addr} {o6 o5 o4 o3 o2 o1:Obj}
    (hL:@LT.lt Nat _ 123 L) (hDc:@LT.lt Nat _ (L7 L) Dc) (hDe:@LT.lt Nat _ Dc De) (hDr:@LT.lt Nat _ De Dr):∀ p ∈ RT ps Dr yr De we ce Dc cv kk L o6 o5 o4 o3 o2 o1,p.1 ≠ L7 L := by
  have a1:@LT.lt Nat _ 123 (L7 L) := Nat.lt_of_lt_of_le hL (Nat.le_add_right L 7)
  have a2 := Nat.lt_trans hDc hDe
  have a3 := Nat.lt_trans a2 hDr
  intro p hp
  unfold RT at hp
  simp only [List.cons_append,List.nil_append,List.mem_cons,List.not_mem_nil,or_false] at hp
  rcases hp with rfl | rfl | rfl | rfl | rfl | rfl | rfl | rfl | rfl | rfl
  · exact Nat.ne_of_lt a1
  · exact Nat.ne_of_gt a3
  · exact Nat.ne_of_gt a2
  · exact Nat.ne_of_gt hDc
  · exact Nat.ne_of_lt (Nat.lt_add_of_pos_right (n := L + 6) (k := 1) (by decide))
  · exact Nat.ne_of_lt (Nat.lt_add_of_pos_right (n := L + 5) (k := 2) (by decide))
  · exact Nat.ne_of_lt (Nat.lt_add_of_pos_right (n := L + 4) (k := 3) (by decide))
  · exact Nat.ne_of_lt (Nat.lt_add_of_pos_right (n := L + 3) (k := 4) (by decide))
  · exact Nat.ne_of_lt (Nat.lt_add_of_pos_right (n := L + 2) (k := 5) (by decide))
  · exact Nat.ne_of_lt (Nat.lt_add_of_pos_right (n := L + 1) (k := 6) (by decide))
theorem stage3a {prog:Program} {w:World} {p:Program} {loose:List Str} {mean:ExcName -> Option Value} {mg mb:Str -> Option Value} {fa:Addr} {cd:Value} {h₀:Heap} {L Dc De Dr:Nat} {m₁:Str -> Option Value} {s:Shared} {Q:Flow -> Shared -> Prop} {E:Value -> Shared -> Prop}
    {o1 o2 o3 o4 o5 o6 o7:Obj} {cv:Array Value} {tz:Tok} {kk ce:Nat} {yr we:List Value} {many size:Int} {ps:Array Value}
    (M:MS many size)
    (B:Below callerA h₀ [] h₀) (F:Fr h₀ L s.heap m₁) (X:(KF w.params).In h₀) (T:Top p loose mean mg mb h₀)
    (hL:@LT.lt Nat _ 123 L) (hDc:@LT.lt Nat _ (L7 L) Dc) (hDe:@LT.lt Nat _ Dc De) (hDr:@LT.lt Nat _ De Dr)
    (N:News h₀ L s.heap (TL ps Dr yr De we ce Dc cv kk L o7 o6 o5 o4 o3 o2 o1 []))
    (d7:o7.data = Data.cell none) (d3:o3.data = Data.cell (some (.int size tz)))
    (hnext:∀ D vs c own o7' v7 h' tk',LLs own vs (orders size.toNat) -> OwnL own -> o7'.data = .cell v7 -> Fr h₀ L h' (mO (.ofString "orders") m₁ D) -> News h₀ L h' ((D,W.listOf vs.toArray c) :: TL ps Dr yr De we ce Dc cv kk L o7' o6 o5 o4 o3 o2 o1 own) ->
      wpAny (model prog w) (callerA.deeper (LE L fa cd)) (execs ((fB (stm 26)).drop 14) (LE L fa cd)) Q E { s with heap := h',toks := tk' }) :
    wpAny (model prog w) (callerA.deeper (LE L fa cd)) (execs ((fB (stm 26)).drop 12) (LE L fa cd)) Q E s :=
  stage3a_core (R := RT ps Dr yr De we ce Dc cv kk L o6 o5 o4 o3 o2 o1) M B F X T (tl_to (x := []) (P := [_,_,_,_]) (R := [_,_,_,_,_,_]) (own := []) N) (rt_off hL hDc hDe hDr) (by repeat first | exact .head _ | refine .tail _ ?_) d7 d3
    fun D vs c own o7' v7 h' tk' l o d f n=>hnext D vs c own o7' v7 h' tk' l o d f (tl_back (x := [_]) (P := [_,_,_,_]) (R := [_,_,_,_,_,_]) n)
end Mine
end
section
open PySem PySem.W PyProof.Rows PySem.Spec PySem.Calls
namespace Mine
noncomputable abbrev LEb (L fa:Addr) (cd:Value):Env := envOfC (Str.ofString "law") (fS (stm 26)) L fa cd
noncomputable abbrev forB:Stmt -> List Stmt := fB
local macro_rules | `(tactic| k_mem)=>`(tactic| assumption)
theorem ask_one {prog:Program} {w:World} {p:Program} {loose:List Str} {mean:ExcName -> Option Value} {mg mb:Str -> Option Value} {fa:Addr} {cd:Value} {h₀:Heap} {L De b:Nat} {m:Str -> Option Value} {news:List (Addr × Obj)} {s:Shared} {Q:Flow -> Shared -> Prop} {E:Value -> Shared -> Prop}
    {o2 o4 o5:Obj} {tp tw tm:Tok} {we wt:List Value} {ce cb:Nat} {many:Int} {ev G:Str} {ze:List Str} {told:List Nat} {ns:List (List Nat)}
    (B:Below callerA h₀ [] h₀) (F:Fr h₀ L s.heap (fun y=>if y = Str.ofString "told" then some (.ref b) else if y = Str.ofString "prepared" then some (.str G tp) else m y)) (X:(KF w.params).In h₀) (T:Top p loose mean mg mb h₀) (N:News h₀ L s.heap news)
    (h2:(L + 1 + 1,o2) ∈ news) (h4:(L + 1 + 1 + 1 + 1,o4) ∈ news) (h5:(L + 1 + 1 + 1 + 1 + 1,o5) ∈ news) (hDe:(De,W.listOf we.toArray ce) ∈ news) (hb:(b,W.listOf wt.toArray cb) ∈ news)
    (d5:o5.data = Data.cell (some (.ref De))) (d4:o4.data = Data.cell (some (.str ev tw))) (d2:o2.data = Data.cell (some (.int many tm)))
    (hwe:Kp (StrsAre we ze)) (hwt:Kp (IntsAre wt (natI told)))
    (hl:told.length = 2 ∨ told.length = 3 ∨ told.length = 4 ∨ told.length = 6) (hi:∀ k ∈ told,k < ze.length) (hze:ze.length ≤ 3) (hev:ev.length ≤ 8) (hw:QWr (Txt.lower ev)) (hx:∀ x ∈ ze,QName x) (P:PageLike G (Txt.lower ev) ns)
    (hlaw:greedy (told.map fun k=>li (ze.getD k .empty)) ns = decide ((fallsOf (natI told):Int) < many))
    (hret:∀ h' tk' tq q,Fr h₀ L h' (fun y=>if y = Str.ofString "question" then some (.str q tq) else if y = Str.ofString "told" then some (.ref b) else if y = Str.ofString "prepared" then some (.str G tp) else m y) -> News h₀ L h' news -> Q .next { s with heap := h',toks := tk' }) :
    wpAny (model prog w) (callerA.deeper (LEb L fa cd)) (execs (forB (nth (forB (nth (fB (stm 26)) 14)) 0)) (LEb L fa cd)) Q E s := by
  w_on
  k_steps
  refine Stop.of ?_
  have hl6 := (tl6 hl).2
  have htl:wt.length = told.length := by rw [IntsAre.length hwt,List.length_map]
  have hwl:we.length = ze.length := StrsAre.length hwe
  refine LCg.ListComp_U (F₀ := by k_asm) (by with_unfolding_all rfl) (by decide) (by rfl) (by decide) (by rfl) ?_
  k_steps
  refine Stop.of ?_
  refine LCg.CompSrc.ledger (by rfl) (by k_asm) (by k_asm) hb (by rw [List.size_toArray,sizeLine_eq,htl]; exact Nat.le_trans hl6 (by decide)) (fun g9=>?_)
  refine comp_gen told (fun k v=>∃ t,v = .int ((k:Nat):Int) t) (fun k y=>∃ t,y = .str (ze.getD k .empty) t) (by rw [List.size_toArray,htl]) ?cP ?cT ?cF
  case cP =>
    intro i v hi' hv
    obtain ⟨n,t,e1,e2⟩ := IntsAre.at hwt i v (by simpa using hv)
    rw [List.getElem?_map] at e2
    obtain ⟨k,e3,rfl⟩ := Option.map_eq_some_iff.mp e2
    exact ⟨k,e3,t,e1⟩
  case cT =>
    intro k9 v9 I' oI' C' oC' D' m' ys' h' tk' E' hk9 hR9 hC' hx' F' N' off' ne'
    obtain ⟨t9,rfl⟩ := hR9
    have hk8 := hi k9 hk9
    k_steps
    refine Stop.of ?_
    obtain ⟨x8,t8,e8,e7⟩ := strs_at hwe k9 _ (List.getElem?_eq_getElem (hwl.symm ▸ hk8:k9 < we.length))
    have e6:x8 = ze.getD k9 .empty := by rw [List.getD_eq_getElem?_getD,e8]; rfl
    subst e6
    refine item_at (News.isList (by k_asm) (by k_mem)) (Int.natCast_nonneg _) (by lia) (by rw [Int.toNat_natCast,List.getElem?_eq_getElem (hwl.symm ▸ hk8:k9 < we.length),e7]) ?_
    exact LCg.CompEnd.intro (by k_asm) (by k_asm) _ (fun p hp=>hp) off' (Or.inr ⟨_,hb,rfl,_,rfl⟩) ⟨rfl,_,rfl⟩
  case cF =>
    intro ys hy D9 h9 tk9 F9 N9 o9
    have hs9 := hy.strs
    k_steps
    refine Stop.of ?_
    have hxs:∀ x ∈ told.map (fun k=>ze.getD k .empty),QName x := by
      intro x hx9
      obtain ⟨k,hk,rfl⟩ := List.mem_map.mp hx9
      have hk8 := hi k hk
      have e:ze.getD k .empty = ze[k] := by rw [List.getD_eq_getElem?_getD,List.getElem?_eq_getElem hk8]; rfl
      rw [e]
      exact hx _ (List.getElem_mem hk8)
    have hln:(told.map (fun k=>ze.getD k .empty)).length = told.length := List.length_map _
    refine' c_quest ?k1 ?k2 ?k3 ?k4 ?k5 ?kK ?kd ?ku D9 ys _ (Txt.lower ev) _ _ ?hl ?hs ?hn ?hz ?hw ?kR
    case k1 | k2 | k3 | k4 | k5=>k_asm
    case kK=>first | exact rfl | assumption
    case kd=>ktr_room
    case ku=>ktr_units
    case hl=>exact .head _
    case hs=>exact hs9
    case hn=>rw [hln]; exact hl6
    case hz=>exact fun x hx9=>(hxs x hx9).len
    case hw=>exact hw.len
    case kR =>
      intro t8 h8 tk8 F8 N8
      replace N8 := news_tail N8
      k_steps
      refine Stop.of ?_
      refine' c_ask ?k1 ?k2 ?k3 ?k4 ?k5 ?kK ?kd ?ku G (Txt.lower ev) _ ns _ _ ?hl ?hw ?hx ?hP ?kR
      case k1 | k2 | k3 | k4 | k5=>k_asm
      case kK=>first | exact rfl | assumption
      case kd=>ktr_room
      case ku=>ktr_units
      case hl=>rw [hln]; exact hl
      case hw=>exact hw
      case hx=>exact hxs
      case hP=>exact P
      case kR =>
        intro r7 h7 tk7 er7 F7 N7
        k_steps
        refine Stop.of ?_
        refine' c_falls ?k1 ?k2 ?k3 ?k4 ?k5 ?kK ?kd ?ku b wt (natI told) cb ?hl ?hw ?hn ?h0 ?kR
        case k1 | k2 | k3 | k4 | k5=>k_asm
        case kK=>first | exact rfl | assumption
        case kd=>ktr_room
        case ku=>ktr_units
        case hl=>exact hb
        case hw=>exact hwt
        case hn=>rw [List.length_map]; exact hl6
        case h0=>rw [List.length_map]; exact Nat.le_of_succ_le (tl6 hl).1
        case kR =>
          intro t6 h6 tk6 F6 N6
          have er6:r7 = decide ((fallsOf (natI told):Int) < many) := by
            rw [er7,List.map_map]
            exact hlaw
          subst er6
          k_steps
          · rename (_ != _) = true=>hq
            simp at hq
          · exact hret _ _ _ _ (by k_asm) (by k_asm)
end Mine
end
section
open PySem PySem.W PyProof.Rows PySem.Spec PySem.Calls
namespace Mine
theorem ListLoop.mk {prog:Program} {w:World} {A:Around} {h₀:Heap} {L:Addr} {env:Env} {target:PySem.Expr} {body:List Stmt} {Q:Flow -> Shared -> Prop} {s₁:Shared} {D:Addr} {vs:Array Value} {c:Nat} {m₀:Str -> Option Value} {news:List (Addr × Obj)} (J:Nat -> (Str -> Option Value) -> List (Addr × Obj) -> Prop)
    (F:Fr h₀ L s₁.heap m₀) (N:News h₀ L s₁.heap news) (hJ:J 0 m₀ news) (hsrc:∀ i m nw,J i m nw -> (D,W.listOf vs c) ∈ nw) (turn:ListTurn prog w A h₀ L env target body Q s₁ vs J) (fin:∀ m nw h tk,J vs.size m nw -> Fr h₀ L h m -> News h₀ L h nw -> Q .next { s₁ with heap := h,toks := tk }) :
    ListLoop prog w A h₀ L env target body Q (.ref D) s₁ := ⟨D,vs,c,m₀,news,J,rfl,F,N,hJ,hsrc,turn,fin⟩
theorem TupLoop.mk {prog:Program} {w:World} {A:Around} {h₀:Heap} {L:Addr} {env:Env} {target:PySem.Expr} {body:List Stmt} {Q:Flow -> Shared -> Prop} {s₁:Shared} {D:Addr} {vs:Array Value} {c:Nat} {m₀:Str -> Option Value} {news:List (Addr × Obj)} (J:Nat -> (Str -> Option Value) -> List (Addr × Obj) -> Prop)
    (F:Fr h₀ L s₁.heap m₀) (N:News h₀ L s₁.heap news) (hJ:J 0 m₀ news) (hsrc:∀ i m nw,J i m nw -> (D,tupO vs c) ∈ nw) (turn:TupTurn prog w A h₀ L env target body Q s₁ vs J) (fin:∀ m nw h tk,J vs.size m nw -> Fr h₀ L h m -> News h₀ L h nw -> Q .next { s₁ with heap := h,toks := tk }) :
    TupLoop prog w A h₀ L env target body Q (.ref D) s₁ := ⟨D,vs,c,m₀,news,J,rfl,F,N,hJ,hsrc,turn,fin⟩
theorem news_cons1 {h₀ h:Heap} {L:Addr} {x:Addr × Obj} {l:List (Addr × Obj)} (hx:h.get? x.1 = some x.2 ∧ x.1 ≠ L ∧ h₀.get? x.1 = none) (N:News h₀ L h l):News h₀ L h (x :: l) := fun p hp=>by
  rcases List.mem_cons.mp hp with rfl | hp
  · exact hx
  · exact N p hp
theorem TupLoop.two {prog:Program} {w:World} {A:Around} {h₀:Heap} {L:Addr} {env:Env} {target:PySem.Expr} {body:List Stmt} {Q:Flow -> Shared -> Prop} {s₁:Shared} {D:Addr} {va vb:Value} {c:Nat} {m₀:Str -> Option Value} {news:List (Addr × Obj)} (J:(Str -> Option Value) -> Prop)
    (F:Fr h₀ L s₁.heap m₀) (N:News h₀ L s₁.heap news) (hD:(D,tupO #[va,vb] c) ∈ news) (hJ:J m₀)
    (turn:∀ y,(y = va ∨ y = vb) -> ∀ m I oI h tk,J m -> Fr h₀ L h m -> News h₀ L h ((I,oI) :: news) -> (∀ p ∈ news,p.1 ≠ I) ->
      wpAny (model prog w) A (assign target env y) (fun _ s₃=>wpAny (model prog w) A (execs body env) (UnrPost h₀ L { s₁ with heap := h,toks := tk } I oI (fun m' nw' => nw' = news ∧ J m') Q) NoE s₃) NoE { s₁ with heap := h,toks := tk })
    (fin:∀ m h tk,J m -> Fr h₀ L h m -> News h₀ L h news -> Q .next { s₁ with heap := h,toks := tk }) :
    TupLoop prog w A h₀ L env target body Q (.ref D) s₁ := by
  refine TupLoop.mk (vs := #[va,vb]) (c := c) (fun _ m nw=>nw = news ∧ J m) F N ⟨rfl,hJ⟩ ?_ ?_ ?_
  · rintro i m nw ⟨rfl,_⟩
    exact hD
  · rintro i y m nw I oI h tk hy ⟨rfl,hm⟩ F' N' off _
    refine turn y ?_ m I oI h tk hm F' N' off
    match i,hy with
    | 0,hy=>exact .inl (by simpa using hy.symm)
    | 1,hy=>exact .inr (by simpa using hy.symm)
    | i + 2,hy=>simp at hy
  · rintro m nw h tk ⟨rfl,hm⟩ F' N'
    exact fin m h tk hm F' N'
local macro_rules | `(tactic| walk_at "execs cons")=>`(tactic| (k_here; k_dflt (refine stop_ex (Str.ofString "question") ?_)))
theorem stage3b {prog:Program} {w:World} {p:Program} {loose:List Str} {mean:ExcName -> Option Value} {mg mb:Str -> Option Value} {fa:Addr} {cd:Value} {h₀:Heap} {L Dc De Dr D:Nat} {m₁:Str -> Option Value} {s:Shared} {Q:Flow -> Shared -> Prop} {E:Value -> Shared -> Prop}
    {o1 o2 o3 o4 o5 o6 o7:Obj} {cv:Array Value} {tm tw tp:Tok} {kk ce c:Nat} {yr we vs:List Value} {many:Int} {ps:Array Value} {own:List (Addr × Obj)} {oss:List (List Nat)} {ev G:Str} {ze:List Str} {ns:List (List Nat)}
    (B:Below callerA h₀ [] h₀) (F:Fr h₀ L s.heap (mO (.ofString "orders") m₁ D)) (X:(KF w.params).In h₀) (T:Top p loose mean mg mb h₀) (hp:m₁ (Str.ofString "prepared") = some (.str G tp))
    (N:News h₀ L s.heap ((D,W.listOf vs.toArray c) :: TL ps Dr yr De we ce Dc cv kk L o7 o6 o5 o4 o3 o2 o1 own)) (hvs:LLs own vs oss)
    (d5:o5.data = Data.cell (some (.ref De))) (d4:o4.data = Data.cell (some (.str ev tw))) (d2:o2.data = Data.cell (some (.int many tm)))
    (hwe:Kp (StrsAre we ze)) (hze:ze.length ≤ 3) (hev:ev.length ≤ 8) (hw:QWr (Txt.lower ev)) (hx:∀ x ∈ ze,QName x) (P:PageLike G (Txt.lower ev) ns)
    (hlaw:∀ o ∈ oss,(o.length = 2 ∨ o.length = 3) ∧ (∀ k ∈ o,k < ze.length) ∧ ∀ told ∈ [o,o ++ o],greedy (told.map fun k=>li (ze.getD k .empty)) ns = decide ((fallsOf (natI told):Int) < many))
    (hnext:∀ v1 v2 v3 h' tk',Fr h₀ L h' (bindA (mO (.ofString "orders") m₁ D) v1 v2 v3) -> News h₀ L h' ((D,W.listOf vs.toArray c) :: TL ps Dr yr De we ce Dc cv kk L o7 o6 o5 o4 o3 o2 o1 own) ->
      wpAny (model prog w) (callerA.deeper (LEb L fa cd)) (execs ((fB (stm 26)).drop 15) (LEb L fa cd)) Q E { s with heap := h',toks := tk' }) :
    wpAny (model prog w) (callerA.deeper (LEb L fa cd)) (execs ((fB (stm 26)).drop 14) (LEb L fa cd)) Q E s := by
  w_on
  k_steps
  refine Stop.of ?_
  refine For_listT F (fun _=>by with_unfolding_all rfl) rfl ?_
  k_steps
  refine ListLoop.mk (vs := vs.toArray) (c := c) (fun i m nw=>nw = (D,W.listOf vs.toArray c) :: TL ps Dr yr De we ce Dc cv kk L o7 o6 o5 o4 o3 o2 o1 own ∧ ∃ v1 v2 v3,m = bindA (mO (.ofString "orders") m₁ D) v1 v2 v3) (by k_asm) (by k_asm) ⟨rfl,_,_,_,bindA_id _⟩ ?src ?turn ?fin
  case src =>
    rintro i m nw ⟨rfl,_⟩
    exact .head _
  case fin =>
    rintro m nw h tk ⟨rfl,v1,v2,v3,rfl⟩ F6 N6
    dsimp only
    exact hnext v1 v2 v3 _ _ F6 N6
  case turn =>
    rintro i y m nw I oI h tk hy ⟨rfl,v1,v2,v3,rfl⟩ F6 N6 off6 cI6
    obtain ⟨o,a,ws,ca,ho,ham,hai⟩ := hvs.at (by simpa using hy)
    obtain ⟨hol,hok,hog⟩ := hlaw o (List.mem_of_getElem? ho)
    k_steps
    refine Stop.of ?_
    (rename Fr _ _ _ _=>F5)
    rw [bindA_order] at F5
    refine For_tupT F5 (fun _=>by with_unfolding_all rfl) rfl ?_
    (rename News _ _ _ _=>N5)
    dsimp only [TL] at N5
    have hmem:∀ q ∈ own,q ∈ (I,oI) :: (D,W.listOf vs.toArray c) :: TL ps Dr yr De we ce Dc cv kk L o7 o6 o5 o4 o3 o2 o1 own := fun q hq=>by simp [hq]
    have hwl:ws.length = o.length := by rw [hai.length,List.length_map]
    k_steps
    refine Stop.of ?_
    refine' la_add (vs := ws) (ws := ws) ?pF ?pN ?pA ?pB ?pZ ?_
    case pF | pN=>k_asm
    case pA | pB=>exact News.isList (by k_asm) (hmem _ ham)
    case pZ=>lia
    intro Db hb Fb Nb lb
    k_lt lb
    k_steps
    (rename Fr _ _ _ _=>F8)
    (rename News _ _ _ _=>N8)
    refine TupLoop.two (fun m=>∃ v2 v3,m = bindA (mO (.ofString "orders") m₁ D) (some (.ref a)) v2 v3) F8 N8 (.head _) ⟨_,_,rfl⟩ ?turn2 ?fin2
    case fin2 =>
      rintro m h9 tk9 ⟨v2',v3',rfl⟩ F9 N9
      k_steps
      exact UnrEnd.intro F9 N9 ((D,W.listOf vs.toArray c) :: TL ps Dr yr De we ce Dc cv kk L o7 o6 o5 o4 o3 o2 o1 own) (fun q hq=>.tail _ (.tail _ hq)) off6 ⟨rfl,_,_,_,rfl⟩
    case turn2 =>
      rintro y hy2 m I2 oI2 h9 tk9 ⟨v2',v3',rfl⟩ F9 N9 off9
      have key:∃ (b:Nat) (wt:List Value) (cb:Nat) (told:List Nat),y = .ref b ∧ told ∈ [o,o ++ o] ∧ IntsAre wt (natI told) ∧ (h9.get? b = some (W.listOf wt.toArray cb) ∧ b ≠ L ∧ h₀.get? b = none) := by
        rcases hy2 with rfl | rfl
        · exact ⟨a,ws,ca,o,rfl,.head _,hai,N9 (a,W.listOf ws.toArray ca) (by repeat first | exact ham | apply List.mem_cons_of_mem)⟩
        · exact ⟨Db,ws ++ ws,0,o ++ o,rfl,.tail _ (.head _),by rw [show natI (o ++ o) = natI o ++ natI o from List.map_append]; exact hai.append hai,N9 (Db,W.listOf (ws ++ ws).toArray 0) (.tail _ (.tail _ (.head _)))⟩
      obtain ⟨b,wt,cb,told,rfl,htold,hwt,hb9⟩ := key
      have hwtK:Kp (IntsAre wt (natI told)) := hwt
      have hlen:told.length = 2 ∨ told.length = 3 ∨ told.length = 4 ∨ told.length = 6 := by
        simp only [List.mem_cons,List.not_mem_nil,or_false] at htold
        rcases htold with rfl | rfl
        · exact hol.imp_right .inl
        · rw [List.length_append]; exact hol.elim (fun e=>.inr (.inr (.inl (by rw [e])))) fun e=>.inr (.inr (.inr (by rw [e])))
      have hin:∀ k ∈ told,k < ze.length := by
        simp only [List.mem_cons,List.not_mem_nil,or_false] at htold
        rcases htold with rfl | rfl
        · exact hok
        · intro k hk
          rcases List.mem_append.mp hk with hk | hk <;> exact hok k hk
      have hog' := hog told htold
      clear hwt hy2
      replace N9 := news_cons1 (x := (b,W.listOf wt.toArray cb)) hb9 N9
      k_steps
      refine Stop.of ?_
      (rename Fr _ _ _ _=>F10)
      (rename News _ _ _ _=>N10)
      rw [bindA_told] at F10
      have mp:bindA (mO (.ofString "orders") m₁ D) (some (.ref a)) (some (.ref b)) v3' (.ofString "prepared") = some (.str G tp) := hp
      refine' ask_one ?B (fr_two (a := .ofString "told") (b := .ofString "prepared") F10 rfl mp) ?X ?T N10 ?h2 ?h4 ?h5 ?hDe (.head _) d5 d4 d2 hwe hwtK hlen hin hze hev hw hx P hog' ?hret
      case B | X | T=>k_asm
      case h2 | h4 | h5 | hDe=>k_mem
      case hret =>
        intro h11 tk11 tq q F11 N11
        have hp2:mO (.ofString "orders") m₁ D (Str.ofString "prepared") = some (.str G tp) := hp
        rw [bindA_asked _ _ _ _ _ _ hp2] at F11
        exact UnrEnd.intro F11 N11 _ (fun q hq=>.tail _ hq) off9 ⟨rfl,_,_,rfl⟩
end Mine
end
section
open PySem PySem.W PyProof.Rows PySem.Spec PySem.Calls
namespace Mine
local macro_rules | `(tactic| walk_at "z")=>`(tactic| skip)
local macro_rules | `(tactic| walk_at "storeName")=>`(tactic| (k_here; k_dflt (refine stop_store (Str.ofString "place") ?_)))
theorem MS.waysOk {many size:Int} (M:MS many size) {p:Nat} (hp:p < size.toNat):(∀ o ∈ ways many.toNat p,o.length ≤ 9) ∧ (ways many.toNat p).length ≤ 40 ∧ many.toNat ≤ 10 ∧ ((many.toNat:Nat):Int) = many := by
  rcases M with ⟨rfl,rfl⟩ | ⟨rfl,rfl⟩ | ⟨rfl,rfl⟩
  · have h:∀ p < 3,(∀ o ∈ ways 2 p,o.length ≤ 9) ∧ (ways 2 p).length ≤ 40 := by decide +kernel
    exact ⟨(h p hp).1,(h p hp).2,by decide,rfl⟩
  · have h:∀ p < 3,(∀ o ∈ ways 3 p,o.length ≤ 9) ∧ (ways 3 p).length ≤ 40 := by decide +kernel
    exact ⟨(h p hp).1,(h p hp).2,by decide,rfl⟩
  · have h:∀ p < 2,(∀ o ∈ ways 5 p,o.length ≤ 9) ∧ (ways 5 p).length ≤ 40 := by decide +kernel
    exact ⟨(h p hp).1,(h p hp).2,by decide,rfl⟩
theorem sub_own {h₀ h:Heap} {LL:Addr} {ps:Array Value} {Dr:Addr} {yr:List Value} {De:Addr} {we:List Value} {ce:Nat} {Dc:Addr} {cv:Array Value} {kk:Nat} {L:Addr} {o7 o6 o5 o4 o3 o2 o1:Obj} {x:Addr × Obj} {own:List (Addr × Obj)}
    (N:News h₀ LL h (x :: TL ps Dr yr De we ce Dc cv kk L o7 o6 o5 o4 o3 o2 o1 own)):News h₀ LL h (TL ps Dr yr De we ce Dc cv kk L o7 o6 o5 o4 o3 o2 o1 ((x :: own) ++ [])) := fun p hp=>N p (by
  rw [List.append_nil] at hp
  rcases List.mem_append.mp (show p ∈ TL ps Dr yr De we ce Dc cv kk L o7 o6 o5 o4 o3 o2 o1 [] ++ (x :: own) from hp) with hp | hp
  · exact .tail _ (List.mem_append_left own hp)
  · rcases List.mem_cons.mp hp with rfl | hp
    · exact .head _
    · exact .tail _ (List.mem_append_right (TL ps Dr yr De we ce Dc cv kk L o7 o6 o5 o4 o3 o2 o1 []) hp))
theorem off_own {h₀ h:Heap} {LL:Addr} {ps:Array Value} {Dr:Addr} {yr:List Value} {De:Addr} {we:List Value} {ce:Nat} {Dc:Addr} {cv:Array Value} {kk:Nat} {L:Addr} {o7 o6 o5 o4 o3 o2 o1:Obj} {D:Addr} {vs:Array Value} {c:Nat} {own:List (Addr × Obj)} {v:Option Value}
    (N:News h₀ LL h ((D,W.listOf vs c) :: TL ps Dr yr De we ce Dc cv kk L o7 o6 o5 o4 o3 o2 o1 own)) (d7:o7.data = .cell v) (hown:OwnL own) (hL:@LT.lt Nat _ 123 L) (hDc:@LT.lt Nat _ (L7 L) Dc) (hDe:@LT.lt Nat _ Dc De) (hDr:@LT.lt Nat _ De Dr) :
    ∀ p ∈ RT ps Dr yr De we ce Dc cv kk L o6 o5 o4 o3 o2 o1 ++ ((D,W.listOf vs c) :: own),p.1 ≠ L7 L := by
  have hm:h.get? (L7 L) = some o7 := (N (L7 L,o7) (.tail _ (.tail _ (.tail _ (.tail _ (.tail _ (.head _))))))).1
  intro p hp
  rcases List.mem_append.mp hp with hp | hp
  · exact rt_off hL hDc hDe hDr p hp
  · intro q
    have:∃ ws c,p.2 = W.listOf ws c := by
      rcases List.mem_cons.mp hp with rfl | hp
      · exact ⟨_,_,rfl⟩
      · exact hown p hp
    obtain ⟨ws,c',e⟩ := this
    have h1:h.get? p.1 = some p.2 := by
      rcases List.mem_cons.mp hp with rfl | hp
      · exact (N _ (.head _)).1
      · exact (N p (.tail _ (List.mem_append_right (TL ps Dr yr De we ce Dc cv kk L o7 o6 o5 o4 o3 o2 o1 []) hp))).1
    rw [q,hm] at h1
    rw [Option.some.inj h1,e] at d7
    cases d7
local macro_rules | `(tactic| k_mem)=>`(tactic| first | exact ml2 | exact ml1)
theorem stage3c_core {prog:Program} {w:World} {p:Program} {loose:List Str} {mean:ExcName -> Option Value} {mg mb:Str -> Option Value} {fa:Addr} {cd:Value} {h₀:Heap} {L:Nat} {m₁:Str -> Option Value} {s:Shared} {Q:Flow -> Shared -> Prop} {E:Value -> Shared -> Prop}
    {o2 o3 o7:Obj} {tm tz:Tok} {many size:Int} {R:List (Addr × Obj)} {v₇:Option Value}
    (M:MS many size)
    (B:Below callerA h₀ [] h₀) (F:Fr h₀ L s.heap m₁) (X:(KF w.params).In h₀) (T:Top p loose mean mg mb h₀)
    (N:News h₀ L s.heap ((L7 L,o7) :: (R ++ []))) (hR:∀ p ∈ R,p.1 ≠ L7 L) (m3:(L + 1 + 1 + 1,o3) ∈ R) (m2:(L + 1 + 1,o2) ∈ R)
    (d7:o7.data = Data.cell v₇) (d3:o3.data = Data.cell (some (.int size tz))) (d2:o2.data = Data.cell (some (.int many tm)))
    (hnext:∀ D vs c own o7' v7 h' tk',LLs own vs (ways many.toNat size.toNat) -> OwnL own -> o7'.data = .cell v7 -> Fr h₀ L h' (mO (.ofString "ways") m₁ D) -> News h₀ L h' ((D,W.listOf vs.toArray c) :: (L7 L,o7') :: (R ++ own)) ->
      wpAny (model prog w) (callerA.deeper (LE L fa cd)) (execs ((fB (stm 26)).drop 17) (LE L fa cd)) Q E { s with heap := h',toks := tk' }) :
    wpAny (model prog w) (callerA.deeper (LE L fa cd)) (execs ((fB (stm 26)).drop 15) (LE L fa cd)) Q E s := by
  w_on
  have hms := M.bounds
  k_steps
  refine Stop.of ?_
  (rename Fr _ _ _ _=>F9)
  refine For_rangeT F9 (fun _=>by with_unfolding_all rfl) rfl ?_
  k_steps
  (rename Fr _ _ _ _=>F8)
  (rename News _ _ _ _=>N8)
  (rename IsRange _ _ _ _ _ _ _ _=>R8)
  obtain ⟨N7,LL7⟩ := first_lists (S := [_]) (own := []) N8
  refine RangeLoop.mk (n := size.toNat) (OJ m₁ (.ofString "ways") R L (fun p=>ways many.toNat p)) R8 (by lia) (by lia) F8 N7 (.mk _ _ _ _ _ _ LL7 (own1 _) d7) ?turn ?fin
  case turn =>
    clear N8 N7 LL7 F8 R8
    rintro p m nw I oI h tk t hp ⟨D,vs,c,own,o7',v7,hvs,hown,d7'⟩ F6 N6 off6 cI6
    k_steps
    refine Stop.of ?_
    refine' store_place F6 N6 ?dI d7' hown hR ?_
    case dI=>exact Ne.symm (off6 (L7 L,o7') (.tail _ (.head _)))
    intro h' o7'' F' N' d7''
    k_steps
    refine Stop.of ?_
    clear N6 F6
    refine Assign_ListComp_2 F' rfl (by with_unfolding_all rfl) (by with_unfolding_all rfl) (by decide) (by rfl) (by decide) (by rfl) (by rfl) (by decide) (by with_unfolding_all rfl) (by with_unfolding_all rfl) ?_
    k_steps
    obtain ⟨ho10,hz40,hm5,em⟩ := M.waysOk hp
    refine src2_lists (Dd := D) (its := vs) (oss := ways many.toNat p) (fun o d=>o ++ [d]) (fun _=>many.toNat) rfl (by k_asm) (by k_asm) (by k_mem) (hvs.mono ?sub) hz40 (fun _ _=>hm5) ?it2 ?el ?fin2
    case sub=>exact fun q hq=>.tail _ (.tail _ (.tail _ (List.mem_append_right _ hq)))
    case it2 =>
      intro o ho a ws c1 ham hai own1 I1 oI1 C1 oC1 D1 m₂ ys h1 tk1 E' hC hx F5 N5 off5 ne5
      simp only [List.cons_append] at N5
      k_steps
      exact ⟨_,_,_,_,_,_,rfl,rfl,by k_asm,by k_asm,by rw [em]; assumption⟩
    case el =>
      intro o ho a ws c1 ham hai k hk t0 own1 I1 oI1 C1 oC1 D1 I2 oI2 m₂ ys h1 tk1 E' hC hx hy F5 N5 off5 off52 ne5
      have hmA := List.mem_cons_of_mem (I1,oI1) (List.mem_cons_of_mem (C1,oC1) (List.mem_cons_of_mem (D1,LCg.lst ys) (List.mem_cons_of_mem (I2,oI2) (List.mem_append_left own1 ham))))
      simp only [List.cons_append] at N5 hmA off52
      have hwl:ws.length = o.length := by rw [hai.length,List.length_map]
      have ho9 := ho10 o ho
      k_steps
      refine Stop.of ?_
      refine' la_add (vs := ws) (ws := [_]) ?pF ?pN ?pA ?pB ?pZ ?_
      case pF | pN=>k_asm
      case pA=>exact News.isList (by k_asm) (by repeat first | exact hmA | apply List.mem_cons_of_mem)
      case pB=>kmk_list
      case pZ=>(simp only [List.length_singleton]; lia)
      intro Dd hd Fd Nd ld
      have e9:natI (o ++ [k]) = natI o ++ [(k:Int)] := by simp [natI]
      refine ⟨Dd,_,0,hd,_,rfl,rfl,Fd,?_,news_keep [true,false] Nd,fun q hq=>ld q (.tail _ hq)⟩
      rw [e9]
      exact hai.append (.cons _ _ .nil)
    case fin2 =>
      intro D9 ys own9 hown9 hy9 hlt9 hoff9 h9 tk9 F9 N9
      k_steps
      exact UnrEnd.intro F9 N9 ((D9,LCg.lst ys) :: (L7 L,o7'') :: (R ++ own9)) end_sub (end_off N9 hoff9 off6 cI6 hown9) (by rw [mO_again]; exact .mk _ _ _ _ _ _ hy9 hown9 d7'')
  case fin =>
    rintro m nw h tk ⟨D,vs,c,own,o7',v7,hvs,hown,d7'⟩ F6 N6
    dsimp only
    exact hnext D vs c own o7' _ _ _ hvs hown d7' F6 N6
theorem stage3c {prog:Program} {w:World} {p:Program} {loose:List Str} {mean:ExcName -> Option Value} {mg mb:Str -> Option Value} {fa:Addr} {cd:Value} {h₀:Heap} {L Dc De Dr:Nat} {m₁:Str -> Option Value} {s:Shared} {Q:Flow -> Shared -> Prop} {E:Value -> Shared -> Prop}
    {o1 o2 o3 o4 o5 o6 o7:Obj} {cv:Array Value} {tm tz:Tok} {kk ce:Nat} {yr we:List Value} {many size:Int} {ps:Array Value} {D₀:Nat} {c₀:Nat} {vs₀:Array Value} {own₀:List (Addr × Obj)} {v₇:Option Value}
    (M:MS many size)
    (B:Below callerA h₀ [] h₀) (F:Fr h₀ L s.heap m₁) (X:(KF w.params).In h₀) (T:Top p loose mean mg mb h₀)
    (hL:@LT.lt Nat _ 123 L) (hDc:@LT.lt Nat _ (L + 1 + 1 + 1 + 1 + 1 + 1 + 1) Dc) (hDe:@LT.lt Nat _ Dc De) (hDr:@LT.lt Nat _ De Dr)
    (N:News h₀ L s.heap ((D₀,W.listOf vs₀ c₀) :: TL ps Dr yr De we ce Dc cv kk L o7 o6 o5 o4 o3 o2 o1 own₀)) (hown₀:OwnL own₀)
    (d7:o7.data = Data.cell v₇) (d3:o3.data = Data.cell (some (.int size tz))) (d2:o2.data = Data.cell (some (.int many tm)))
    (hnext:∀ D vs c own o7' v7 h' tk',LLs own vs (ways many.toNat size.toNat) -> OwnL own -> o7'.data = .cell v7 -> Fr h₀ L h' (mO (.ofString "ways") m₁ D) -> News h₀ L h' ((D,W.listOf vs.toArray c) :: TL ps Dr yr De we ce Dc cv kk L o7' o6 o5 o4 o3 o2 o1 (((D₀,W.listOf vs₀ c₀) :: own₀) ++ own)) ->
      wpAny (model prog w) (callerA.deeper (LE L fa cd)) (execs ((fB (stm 26)).drop 17) (LE L fa cd)) Q E { s with heap := h',toks := tk' }) :
    wpAny (model prog w) (callerA.deeper (LE L fa cd)) (execs ((fB (stm 26)).drop 15) (LE L fa cd)) Q E s :=
  stage3c_core (R := RT ps Dr yr De we ce Dc cv kk L o6 o5 o4 o3 o2 o1 ++ ((D₀,W.listOf vs₀ c₀) :: own₀)) M B F X T (tl_to (x := []) (P := [_,_,_,_]) (R := [_,_,_,_,_,_] ++ ((D₀,W.listOf vs₀ c₀) :: own₀)) (own := []) (sub_own N)) (off_own N d7 hown₀ hL hDc hDe hDr) (by repeat first | exact .head _ | refine .tail _ ?_) (by repeat first | exact .head _ | refine .tail _ ?_) d7 d3 d2
    fun D vs c own o7' v7 h' tk' l o d f n=>hnext D vs c own o7' v7 h' tk' l o d f ((tl_back (x := [_]) (P := [_,_,_,_]) (R := [_,_,_,_,_,_] ++ ((D₀,W.listOf vs₀ c₀) :: own₀)) n))
end Mine
end
section
open PySem PySem.W PyProof.Rows PySem.Spec PySem.Calls
namespace Mine
inductive ZN (way order:List Nat) (i:Nat):Value -> Value -> Prop
  | mk (d k:Nat) (td tk0:Tok):way[i]? = some d -> order[i]? = some k -> ZN way order i (.int (Int.ofNat d) td) (.int (Int.ofNat k) tk0)
theorem zip_nats {ww wo:List Value} {way order:List Nat} {i:Nat} {v0 v1:Value} (hww:IntsAre ww (natI way)) (how:IntsAre wo (natI order))
    (hP:∃ x y,ww.toArray[i]? = some x ∧ wo.toArray[i]? = some y ∧ (#[v0,v1]:Array Value) = #[x,y]):ZN way order i v0 v1 := by
  obtain ⟨x9,y9,hx9,hy9,hv9⟩ := hP
  obtain ⟨nd,td,ed1,ed2⟩ := IntsAre.at hww i x9 (by simpa using hx9)
  obtain ⟨nk,tk0,ek1,ek2⟩ := IntsAre.at how i y9 (by simpa using hy9)
  rw [List.getElem?_map] at ed2 ek2
  obtain ⟨d,ed3,rfl⟩ := Option.map_eq_some_iff.mp ed2
  obtain ⟨k,ek3,rfl⟩ := Option.map_eq_some_iff.mp ek2
  subst ed1 ek1
  obtain ⟨rfl,rfl⟩:v0 = .int (Int.ofNat d) td ∧ v1 = .int (Int.ofNat k) tk0 := by simpa using hv9
  exact .mk _ _ _ _ ed3 ek3
local macro_rules | `(tactic| k_mem)=>`(tactic| assumption)
local macro_rules | `(tactic| walk_at "call type:zip")=>`(tactic| (k_here; refine Stop.mk ?_))
noncomputable def named (rows:List Str) (size:Nat) (way order:List Nat):List Str := (way.zip order).map fun p=>rows.getD (size * p.1 + p.2) .empty
theorem way_one {prog:Program} {w:World} {p:Program} {loose:List Str} {mean:ExcName -> Option Value} {mg mb:Str -> Option Value} {fa:Addr} {cd:Value} {h₀:Heap} {L Da Dr wa oa:Nat} {m:Str -> Option Value} {rest:List (Addr × Obj)} {s:Shared} {Q:Flow -> Shared -> Prop} {E:Value -> Shared -> Prop}
    {o3 o4 o6:Obj} {tg tw tz:Tok} {yr wws ows:List Value} {wc oc n:Nat} {bs:Array Value} {size:Nat} {many:Nat} {ev G:Str} {rows:List Str} {way order:List Nat} {ns:List (List Nat)}
    (B:Below callerA h₀ [] h₀) (X:(KF w.params).In h₀) (T:Top p loose mean mg mb h₀)
    (F:Fr h₀ L s.heap (fun y=>if y = Str.ofString "way" then some (.ref wa) else if y = Str.ofString "order" then some (.ref oa) else if y = Str.ofString "answers" then some (.ref Da) else if y = Str.ofString "page" then some (.str G tg) else m y))
    (N:News h₀ L s.heap ((Da,W.listOf bs n) :: rest)) (hne:∀ p ∈ rest,p.1 ≠ Da) (hbs:bs.size ≤ 100)
    (h3:(L + 1 + 1 + 1,o3) ∈ rest) (h4:(L + 1 + 1 + 1 + 1,o4) ∈ rest) (h6:(L + 1 + 1 + 1 + 1 + 1 + 1,o6) ∈ rest) (hDr:(Dr,LCg.lst yr) ∈ rest) (hwa:(wa,W.listOf wws.toArray wc) ∈ rest) (hoa:(oa,W.listOf ows.toArray oc) ∈ rest)
    (d6:o6.data = Data.cell (some (.ref Dr))) (d4:o4.data = Data.cell (some (.str ev tw))) (d3:o3.data = Data.cell (some (.int (size:Int) tz)))
    (hyr:Kp (StrsAre yr rows)) (hww:Kp (IntsAre wws (natI way))) (how:Kp (IntsAre ows (natI order))) (hrl:rows.length = many * size) (hr10:rows.length ≤ 10) (hwl:way.length = size) (hol:order.length = size) (hsz:size = 2 ∨ size = 3) (hwm:∀ d ∈ way,d < many) (hom:∀ k ∈ order,k < size)
    (hw:QWr ev) (hx:∀ x ∈ rows,QName x) (P:PageLike G ev ns)
    (hret:∀ h' tk' Dn,Fr h₀ L h' (fun y=>if y = Str.ofString "names" then some (.ref Dn) else if y = Str.ofString "way" then some (.ref wa) else if y = Str.ofString "order" then some (.ref oa) else if y = Str.ofString "answers" then some (.ref Da) else if y = Str.ofString "page" then some (.str G tg) else m y) ->
      News h₀ L h' ((Da,W.listOf (bs.push (.bool (greedy ((named rows size way order).map li) ns))) (n + 1)) :: rest) -> Q .next { s with heap := h',toks := tk' }) :
    wpAny (model prog w) (callerA.deeper (LEb L fa cd)) (execs (forB (nth (forB (nth (fB (stm 26)) 18)) 1)) (LEb L fa cd)) Q E s := by
  w_on
  k_steps
  refine Stop.of ?_
  have hwwl:wws.length = size := by rw [IntsAre.length hww,List.length_map,hwl]
  have howl:ows.length = size := by rw [IntsAre.length how,List.length_map,hol]
  have hyl:yr.length = rows.length := StrsAre.length hyr
  refine Assign_ListComp_PT F rfl (by with_unfolding_all rfl) (by with_unfolding_all rfl) (by decide) (by rfl) (by decide) (by rfl) (by rfl) (by decide) (by with_unfolding_all rfl) (by with_unfolding_all rfl) ?_
  k_steps
  refine Stop.of ?_
  refine psrc_zip (fun i ys=>i ≤ size ∧ StrsAre ys ((named rows size way order).take i)) rfl (by k_asm) (by k_asm) (.tail _ hwa) (.tail _ hoa) ?hJ ?h0 ?turn ?fin
  case hJ =>
    intro i ys h
    have := StrsAre.length h.2
    rw [List.length_take] at this
    rw [sizeLine_eq]
    have hs3:size ≤ 3 := by rcases hsz with q | q <;> rw [q] <;> decide
    exact Nat.le_trans (Nat.le_of_eq this) (Nat.le_trans (Nat.min_le_left _ _) (Nat.le_trans h.1 (Nat.le_trans hs3 (by decide))))
  case h0=>exact ⟨Nat.zero_le _,.nil⟩
  case turn =>
    rintro h9 tk9 i v0 v1 C9 oC9 D9 m9 ys9 own9 h8 tk8 E9 hP hj9 hC9 hma hmb F8 N8 off8 ne8
    simp only [List.cons_append,List.nil_append] at N8
    obtain ⟨d,k,td,tk0,ed3,ek3⟩ := zip_nats hww how hP
    clear hP
    have hdm := hwm d (List.mem_of_getElem? ed3)
    have hks := hom k (List.mem_of_getElem? ek3)
    have hm5:many ≤ 5 := by
      rcases hsz with h | h <;> (rw [h] at hrl; lia)
    have hlt:size * d + k < rows.length := by
      rw [hrl,Nat.mul_comm many size]
      exact Nat.lt_of_lt_of_le (show size * d + k < size * (d + 1) from Nat.add_lt_add_left hks _) (Nat.mul_le_mul_left _ hdm)
    change m9 (Str.ofString "dress") = some (.int (d:Int) td) at hma
    change m9 (Str.ofString "place") = some (.int (k:Int) tk0) at hmb
    have hDr':(Dr,LCg.lst yr) ∈ (Da,W.listOf bs n) :: (rest ++ own9) := .tail _ (List.mem_append_left _ hDr)
    have h3':(L + 1 + 1 + 1,o3) ∈ (Da,W.listOf bs n) :: (rest ++ own9) := .tail _ (List.mem_append_left _ h3)
    have h6':(L + 1 + 1 + 1 + 1 + 1 + 1,o6) ∈ (Da,W.listOf bs n) :: (rest ++ own9) := .tail _ (List.mem_append_left _ h6)
    k_steps
    refine Stop.of ?_
    have hyx:size * d + k < yr.length := by rw [hyl]; exact hlt
    obtain ⟨x8,t8,e8,e7⟩ := strs_at hyr (size * d + k) _ (List.getElem?_eq_getElem hyx)
    have e6:x8 = rows.getD (size * d + k) .empty := by rw [List.getD_eq_getElem?_getD,e8]; rfl
    have en:((size:Int) * (d:Int) + (k:Int)).toNat = size * d + k := by
      rw [show (size:Int) * (d:Int) + (k:Int) = ((size * d + k:Nat):Int) by push_cast; rfl,Int.toNat_natCast]
    have hi0:i < size := by
      have := (List.getElem?_eq_some_iff.mp ed3).1
      exact hwl ▸ this
    subst e6
    refine item_at (News.isList (by k_asm) (.tail _ (.tail _ hDr'))) (by rw [show (size:Int) * (d:Int) + (k:Int) = ((size * d + k:Nat):Int) by push_cast; rfl]; exact Int.natCast_nonneg _) (by rw [show (size:Int) * (d:Int) + (k:Int) = ((size * d + k:Nat):Int) by push_cast; rfl]; exact lt63 (Nat.le_trans (Nat.le_of_lt hlt) hr10)) (by rw [en,List.getElem?_eq_getElem hyx,e7]) ?_
    refine ⟨_,_,rfl,by k_asm,by k_asm,by lia,?_⟩
    have ez:(way.zip order)[i]? = some (d,k) := List.getElem?_zip_eq_some.mpr ⟨ed3,ek3⟩
    rw [List.take_add_one]
    have eN:(named rows size way order)[i]? = some (rows.getD (size * d + k) .empty) := by
      unfold named
      rw [List.getElem?_map,ez]
      rfl
    rw [eN]
    exact strs_snoc hj9.2
  case fin =>
    rintro h9 tk9 D9 h8 tk8 ys9 ⟨-,hj9⟩ l9 F8 N8
    have hnl:(named rows size way order).length = size := by
      unfold named
      rw [List.length_map,List.length_zip,hwl,hol,Nat.min_self]
    have hsn:StrsAre ys9 (named rows size way order) := by
      have e:min (List.toArray wws).size (List.toArray ows).size = (named rows size way order).length := by rw [List.size_toArray,List.size_toArray,hwwl,howl,hnl,Nat.min_self]
      rw [e,List.take_length] at hj9
      exact hj9
    have hxs:∀ x ∈ named rows size way order,QName x := by
      intro x hx9
      obtain ⟨q,hq,rfl⟩ := List.mem_map.mp hx9
      have h1 := hwm q.1 (List.of_mem_zip hq).1
      have h2 := hom q.2 (List.of_mem_zip hq).2
      have hlt:size * q.1 + q.2 < rows.length := by
        rw [hrl,Nat.mul_comm many size]
        exact Nat.lt_of_lt_of_le (show size * q.1 + q.2 < size * (q.1 + 1) by rw [Nat.mul_add,Nat.mul_one]; exact Nat.add_lt_add_left (by assumption) _) (Nat.mul_le_mul_left _ h1)
      have e:rows.getD (size * q.1 + q.2) .empty = rows[size * q.1 + q.2] := by rw [List.getD_eq_getElem?_getD,List.getElem?_eq_getElem hlt]; rfl
      rw [e]
      exact hx _ (List.getElem_mem hlt)
    have h4':(L + 1 + 1 + 1 + 1,o4) ∈ (Da,W.listOf bs n) :: rest := .tail _ h4
    k_steps
    refine Stop.of ?_
    refine' c_quest ?k1 ?k2 ?k3 ?k4 ?k5 ?kK ?kd ?ku D9 ys9 (named rows size way order) ev _ _ ?hl ?hs ?hn ?hz ?hw ?kR
    case k1 | k2 | k3 | k4 | k5=>k_asm
    case kK=>first | exact rfl | assumption
    case kd=>ktr_room
    case ku=>ktr_units
    case hl=>exact .head _
    case hs=>exact hsn
    case hn=>rw [hnl]; lia
    case hz=>exact fun x hx9=>(hxs x hx9).len
    case hw=>exact hw.len
    case kR =>
      intro t7 h7 tk7 F7 N7
      k_steps
      refine Stop.of ?_
      refine' c_ask ?k1 ?k2 ?k3 ?k4 ?k5 ?kK ?kd ?ku G ev (named rows size way order) ns _ _ ?hl ?hw ?hx ?hP ?kR
      case k1 | k2 | k3 | k4 | k5=>k_asm
      case kK=>first | exact rfl | assumption
      case kd=>ktr_room
      case ku=>ktr_units
      case hl=>rw [hnl]; lia
      case hw=>exact hw
      case hx=>exact hxs
      case hP=>exact P
      case kR =>
        intro r6 h6 tk6 er6 F6 N6
        subst er6
        replace N6 := news_tail N6
        k_steps
        refine Stop.of ?_
        refine' append_hd ?pF N6 hne ?pZ ?_
        case pF=>k_asm
        case pZ=>rw [sizeLine_eq]; lia
        intro h5 F5 N5
        k_steps
        exact hret _ _ _ F5 N5
end Mine
end
section
open PySem PySem.W PyProof.Rows PySem.Spec PySem.Calls
namespace Mine
theorem bools_read (h:Heap):∀ bl:List Bool,ReadsAll h (bl.map Value.bool) (bl.map PyData.bool) []
  | []=>.nil
  | b :: r=>.cons (as := []) (.bool b) (bools_read h r)
theorem bools_all:∀ bl:List Bool,(bl.map PyData.bool).all Shape.bool.has = true
  | []=>rfl
  | b :: r=>by rw [List.map_cons,List.all_cons,bools_all r]; rfl
theorem count_in:∀ bl:List Bool,Spec.countIn (.bool true) (bl.map PyData.bool) = ((bl.count true:Nat):Int)
  | []=>rfl
  | b :: r=>by
    rw [List.map_cons,Spec.countIn,count_in r,List.count_cons]
    cases b <;> simp [Spec.same] <;> lia
theorem count_true {prog:Program} {w:World} {A:Around} {E:Value -> Shared -> Prop} {s:Shared} {l:Addr} {bl:List Bool} {Q:Value -> Shared -> Prop} (hl:s.heap.IsList l (bl.map Value.bool).toArray)
    (h:∀ t tk,Q (.int ((bl.count true:Nat):Int) t) { s with toks := tk }):wpAny (model prog w) A (call (.builtin "list.count") [.ref l,.bool true]) Q E s :=
  count_list_bools hl (bools_read s.heap bl) (bools_all bl) (by rw [count_in]; exact h _ _)
noncomputable def bindW (m₀:Str -> Option Value) (v1 v2 v3:Option Value):Str -> Option Value := fun y=>if y = Str.ofString "names" then v3 else if y = Str.ofString "way" then v2 else if y = Str.ofString "answers" then v1 else m₀ y
theorem bindW_id (m₀:Str -> Option Value) (v1:Option Value):(fun y=>if y = Str.ofString "answers" then v1 else m₀ y) = bindW m₀ v1 (m₀ (Str.ofString "way")) (m₀ (Str.ofString "names")) := by
  funext y
  unfold bindW
  have h1:Str.ofString "answers" ≠ Str.ofString "names" := by decide +kernel
  have h2:Str.ofString "answers" ≠ Str.ofString "way" := by decide +kernel
  by_cases ya:y = Str.ofString "answers"
  · rw [if_pos ya,ya,if_neg h1,if_neg h2]
  · rw [if_neg ya]
    repeat' split
    all_goals first | rfl | (subst_vars; rfl)
theorem bindW_way (m₀:Str -> Option Value) (v1 v2 v3 a2:Option Value):(fun y=>if y = Str.ofString "way" then a2 else bindW m₀ v1 v2 v3 y) = bindW m₀ v1 a2 v3 := by
  funext y
  unfold bindW
  have h1:Str.ofString "way" ≠ Str.ofString "names" := by decide +kernel
  by_cases ya:y = Str.ofString "way"
  · rw [if_pos ya,ya,if_neg h1,if_pos rfl]
  · rw [if_neg ya,if_neg ya,if_neg ya]
theorem bindW_back (M:Str -> Option Value) (v1 v2 v3 a3 ov pv:Option Value) (ho:M (Str.ofString "order") = ov) (hp:M (Str.ofString "page") = pv) :
    (fun y=>if y = Str.ofString "names" then a3 else if y = Str.ofString "way" then v2 else if y = Str.ofString "order" then ov else if y = Str.ofString "answers" then v1 else if y = Str.ofString "page" then pv else bindW M v1 v2 v3 y) = bindW M v1 v2 a3 := by
  funext y
  unfold bindW
  have h1:Str.ofString "order" ≠ Str.ofString "answers" := by decide +kernel
  by_cases ya:y = Str.ofString "names"
  · rw [if_pos ya,if_pos ya]
  · rw [if_neg ya,if_neg ya,if_neg ya]
    by_cases yb:y = Str.ofString "way"
    · rw [if_pos yb,if_pos yb]
    · simp only [if_neg yb]
      by_cases yc:y = Str.ofString "order"
      · rw [if_pos yc,yc,if_neg h1,ho]
      · rw [if_neg yc]
        by_cases yd:y = Str.ofString "answers"
        · simp only [if_pos yd]
        · simp only [if_neg yd]
          by_cases ye:y = Str.ofString "page"
          · rw [if_pos ye,ye,hp]
          · rw [if_neg ye]
theorem news_swap {h₀ h:Heap} {L:Addr} {a b:Addr × Obj} {l:List (Addr × Obj)} (N:News h₀ L h (a :: b :: l)):News h₀ L h (b :: a :: l) := fun q hq=>N q (by
  simp only [List.mem_cons] at hq ⊢
  rcases hq with h | h | h <;> simp [h])
noncomputable def chooseS (size:Nat) (n:Int):Int := if size = 2 then choose2 n else choose3 n
section
theorem c_choose (B:Below A₀ base outer h₀) (F:Fr h₀ L s.heap m) (X:(KF w.params).In h₀) (N:News h₀ L s.heap news) (T:Top p loose mean mg mb h₀) (hk:cs.kind = .function) (hd:dp + 12 < recursionLimit) (hu:un + 60 < cLine)
    (size:Nat) (hsz:size = 2 ∨ size = 3) (n:Int) (h0:0 ≤ n) (h1:n ≤ 10) (t t2:Tok)
    (hret:∀ (t:Tok) (h':Heap) (tk':Nat),Fr h₀ L h' m -> News h₀ L h' news -> Q (.int (chooseS size n) t) { s with heap := h',toks := tk' }) :
    wpAny (model prog w) (ktrTop dp un gd cn cs L a ccd cl outer) (call (.ref 280) [.int n t,.int (size:Int) t2]) Q E s := by
  rcases hsz with rfl | rfl
  · exact c_choices2 B F X N T hk hd hu n h0 h1 t t2 hret
  · exact c_choices3 B F X N T hk hd hu n h0 h1 t t2 hret
end
local macro_rules | `(tactic| k_mem)=>`(tactic| assumption)
local macro_rules | `(tactic| walk_at "execs cons")=>`(tactic| (k_here; k_dflt (refine stop_ex (Str.ofString "names") ?_)))
local macro_rules | `(tactic| walk_at "call builtin:list.count")=>`(tactic| (k_here; refine Stop.mk ?_))
theorem order_one {prog:Program} {w:World} {p:Program} {loose:List Str} {mean:ExcName -> Option Value} {mg mb:Str -> Option Value} {fa:Addr} {cd:Value} {h₀:Heap} {L Dr Dw oa:Nat} {m:Str -> Option Value} {rest:List (Addr × Obj)} {s:Shared} {Q:Flow -> Shared -> Prop} {E:Value -> Shared -> Prop}
    {o2 o3 o4 o6:Obj} {tg tw tz tm:Tok} {yr vsw ows:List Value} {cw oc:Nat} {size:Nat} {many:Nat} {ev G:Str} {rows:List Str} {wss:List (List Nat)} {order:List Nat} {ns:List (List Nat)}
    (B:Below callerA h₀ [] h₀) (X:(KF w.params).In h₀) (T:Top p loose mean mg mb h₀)
    (F:Fr h₀ L s.heap (fun y=>if y = Str.ofString "order" then some (.ref oa) else if y = Str.ofString "page" then some (.str G tg) else if y = Str.ofString "ways" then some (.ref Dw) else m y))
    (N:News h₀ L s.heap rest)
    (h2:(L + 1 + 1,o2) ∈ rest) (h3:(L + 1 + 1 + 1,o3) ∈ rest) (h4:(L + 1 + 1 + 1 + 1,o4) ∈ rest) (h6:(L + 1 + 1 + 1 + 1 + 1 + 1,o6) ∈ rest) (hDr:(Dr,LCg.lst yr) ∈ rest) (hDw:(Dw,W.listOf vsw.toArray cw) ∈ rest) (hoa:(oa,W.listOf ows.toArray oc) ∈ rest)
    (d6:o6.data = Data.cell (some (.ref Dr))) (d4:o4.data = Data.cell (some (.str ev tw))) (d3:o3.data = Data.cell (some (.int (size:Int) tz))) (d2:o2.data = Data.cell (some (.int (many:Int) tm)))
    (hyr:Kp (StrsAre yr rows)) (hvw:LLs rest vsw wss) (how:Kp (IntsAre ows (natI order))) (hrl:rows.length = many * size) (hr10:rows.length ≤ 10) (hm2:2 ≤ many ∧ many ≤ 5) (hol:order.length = size) (hsz:size = 2 ∨ size = 3) (hom:∀ k ∈ order,k < size)
    (hwss:wss.length ≤ 40) (hway:∀ way ∈ wss,way.length = size ∧ ∀ d ∈ way,d < many)
    (hw:QWr ev) (hx:∀ x ∈ rows,QName x) (P:PageLike G ev ns)
    (hfl:fallsOf (natI order) ≤ 2) (hlaw:(((wss.map fun way=>greedy ((named rows size way order).map li) ns).count true:Nat):Int) = chooseS size ((size:Int) + (many:Int) - 1 - (fallsOf (natI order):Int)))
    (hret:∀ h' tk' v1 v2 v3,Fr h₀ L h' (bindW (fun y=>if y = Str.ofString "order" then some (.ref oa) else if y = Str.ofString "page" then some (.str G tg) else if y = Str.ofString "ways" then some (.ref Dw) else m y) v1 v2 v3) -> News h₀ L h' rest -> Q .next { s with heap := h',toks := tk' }) :
    wpAny (model prog w) (callerA.deeper (LEb L fa cd)) (execs (forB (nth (fB (stm 26)) 18)) (LEb L fa cd)) Q E s := by
  w_on
  k_steps
  refine Stop.of ?_
  (rename Fr _ _ _ _=>F9)
  (rename News _ _ _ _=>N9)
  (rename (∀ p ∈ rest,Prod.fst p < _)=>l9)
  (rename Addr=>Da)
  rw [bindW_id] at F9
  refine For_listT F9 (fun _=>by with_unfolding_all rfl) rfl ?_
  have hl:vsw.length = wss.length := All2.length hvw
  k_steps
  have hneD := fun q hq=>Nat.ne_of_lt (l9 q hq)
  refine ListLoop.mk (vs := vsw.toArray) (c := cw) (fun i m' nw=>∃ (bl:List Bool) (n:Nat) (v2 v3:Option Value),m' = bindW (fun y=>if y = Str.ofString "order" then some (.ref oa) else if y = Str.ofString "page" then some (.str G tg) else if y = Str.ofString "ways" then some (.ref Dw) else m y) (some (.ref Da)) v2 v3 ∧ nw = (Da,W.listOf (bl.map Value.bool).toArray n) :: rest ∧ bl = (wss.take i).map fun way=>greedy ((named rows size way order).map li) ns)
    F9 N9 ⟨[],_,_,_,rfl,rfl,by rw [List.take_zero]; rfl⟩ ?src ?turn ?fin
  case src =>
    rintro i m' nw ⟨bl,n,v2,v3,rfl,rfl,-⟩
    exact .tail _ hDw
  case turn =>
    rintro i y m' nw I oI h tk hy ⟨bl,n,v2,v3,rfl,rfl,hbl⟩ F6 N6 off6 cI6
    obtain ⟨way,wa,wws,wc,hway9,ham,hai⟩ := hvw.at (by simpa using hy)
    obtain ⟨hwl,hwd⟩ := hway way (List.mem_of_getElem? hway9)
    k_steps
    refine Stop.of ?_
    (rename Fr _ _ _ _=>F5)
    (rename News _ _ _ _=>N5)
    rw [bindW_way] at F5
    have oI9:(@Ne Nat I Da) := Ne.symm (off6 (Da,W.listOf (bl.map Value.bool).toArray n) (.head _))
    have hbz:bl.length ≤ 40 := by
      rw [hbl,List.length_map,List.length_take]
      lia
    refine' way_one (bs := (bl.map Value.bool).toArray) (Dr := Dr) (wa := wa) (oa := oa) ?B ?X ?T (fr_put (a := .ofString "way") (fr_put (a := .ofString "order") (fr_put (a := .ofString "answers") (fr_put (a := .ofString "page") F5 (by with_unfolding_all rfl)) (by with_unfolding_all rfl)) (by with_unfolding_all rfl)) (by with_unfolding_all rfl))
      (news_swap N5) ?hne ?hbs (.tail _ h3) (.tail _ h4) (.tail _ h6) (.tail _ hDr) (.tail _ ham) (.tail _ hoa) d6 d4 d3 hyr hai how hrl hr10 hwl hol hsz hwd hom hw hx P ?hret
    case B | X | T=>k_asm
    case hne =>
      intro q hq
      rcases List.mem_cons.mp hq with rfl | hq
      · exact oI9
      · exact hneD q hq
    case hbs=>rw [List.size_toArray,List.length_map]; lia
    case hret =>
      intro h4 tk4 Dn F4 N4
      rw [bindW_back _ _ _ _ _ _ _ (by with_unfolding_all rfl) (by with_unfolding_all rfl)] at F4
      refine UnrEnd.intro F4 N4 ((Da,W.listOf ((bl ++ [greedy ((named rows size way order).map li) ns]).map Value.bool).toArray (n + 1)) :: rest) ?_ ?_ ⟨bl ++ [greedy ((named rows size way order).map li) ns],n + 1,_,_,rfl,rfl,?_⟩
      · intro q hq
        rw [List.map_append,List.map_singleton, ← List.push_toArray] at hq
        simp only [List.mem_cons] at hq ⊢
        rcases hq with h | h | h <;> simp [h]
      · intro q hq
        rcases List.mem_cons.mp hq with rfl | hq
        · exact Ne.symm oI9
        · exact off6 q (.tail _ hq)
      · rw [hbl,List.take_add_one,hway9,List.map_append]
        rfl
  case fin =>
    rintro m' nw h tk ⟨bl,n,v2,v3,rfl,rfl,hbl⟩ F6 N6
    dsimp only
    have hbl':bl = wss.map fun way=>greedy ((named rows size way order).map li) ns := by
      rw [hbl,List.size_toArray,hl,List.take_length]
    have hcnt:bl.count true ≤ 40 := by
      have h1 := List.count_le_length (a := true) (l := bl)
      rw [hbl',List.length_map] at h1
      rw [hbl']
      lia
    have h2':(L + 1 + 1,o2) ∈ (Da,W.listOf (bl.map Value.bool).toArray n) :: rest := .tail _ h2
    have h3':(L + 1 + 1 + 1,o3) ∈ (Da,W.listOf (bl.map Value.bool).toArray n) :: rest := .tail _ h3
    k_steps
    refine Stop.of ?_
    refine count_true (bl := bl) (News.isList (by k_asm) (.head _)) ?_
    intro t5 tk5
    k_steps
    refine Stop.of ?_
    refine' c_falls ?k1 ?k2 ?k3 ?k4 ?k5 ?kK ?kd ?ku oa ows (natI order) oc ?hl ?hw ?hn ?h0 ?kR
    case k1 | k2 | k3 | k4 | k5=>k_asm
    case kK=>first | exact rfl | assumption
    case kd=>ktr_room
    case ku=>ktr_units
    case hl=>exact .tail _ hoa
    case hw=>exact how
    case hn | h0=>rw [List.length_map]; lia
    case kR =>
      intro t4 h4 tk4 F4 N4
      k_steps
      refine Stop.of ?_
      refine' c_choose ?k1 ?k2 ?k3 ?k4 ?k5 ?kK ?kd ?ku size hsz _ ?h0 ?h1 _ _ ?kR
      case k1 | k2 | k3 | k4 | k5=>k_asm
      case kK=>first | exact rfl | assumption
      case kd=>ktr_room
      case ku=>ktr_units
      case h0 | h1=>lia
      case kR =>
        intro t3 h3 tk3 F3 N3
        rw [← hlaw, ← hbl']
        k_steps
        · exact absurd rfl (by assumption)
        · exact hret _ _ _ _ _ F3 (news_tail N3)
end Mine
end
section
open PySem PySem.W PyProof.Rows PySem.Spec PySem.Calls
namespace Mine
theorem ints_rev:∀ {vs:List Value} {xs:List Int},IntsAre vs xs -> IntsAre vs.reverse xs.reverse := fun h=>by
  induction h with
  | nil=>exact .nil
  | cons x t r ih =>
    rw [List.reverse_cons,List.reverse_cons]
    exact ih.append (.cons _ _ .nil)
noncomputable def mOrd (ov:Option Value) (M:Str -> Option Value):Str -> Option Value := fun y=>if y = Str.ofString "order" then ov else M y
theorem bindW_start (M:Str -> Option Value):M = bindW (mOrd (M (Str.ofString "order")) M) (M (Str.ofString "answers")) (M (Str.ofString "way")) (M (Str.ofString "names")) := by
  funext y
  unfold bindW mOrd
  repeat' split
  all_goals first | rfl | (subst_vars; rfl)
theorem bindW_order (M:Str -> Option Value) (ov v1 v2 v3 o2:Option Value):(fun y=>if y = Str.ofString "order" then o2 else bindW (mOrd ov M) v1 v2 v3 y) = bindW (mOrd o2 M) v1 v2 v3 := by
  funext y
  unfold bindW mOrd
  have h1:Str.ofString "order" ≠ Str.ofString "names" := by decide +kernel
  have h2:Str.ofString "order" ≠ Str.ofString "way" := by decide +kernel
  have h3:Str.ofString "order" ≠ Str.ofString "answers" := by decide +kernel
  by_cases ya:y = Str.ofString "order"
  · simp only [ya,if_neg h1,if_neg h2,if_neg h3,if_true]
  · simp only [if_neg ya]
theorem bindW_round (M:Str -> Option Value) (ov pv wv v1 v2 v3 a1 a2 a3:Option Value) (hp:M (Str.ofString "page") = pv) (hw:M (Str.ofString "ways") = wv) :
    bindW (fun y=>if y = Str.ofString "order" then ov else if y = Str.ofString "page" then pv else if y = Str.ofString "ways" then wv else bindW (mOrd ov M) v1 v2 v3 y) a1 a2 a3 = bindW (mOrd ov M) a1 a2 a3 := by
  funext y
  unfold bindW mOrd
  by_cases y1:y = Str.ofString "names"
  · simp only [if_pos y1]
  · by_cases y2:y = Str.ofString "way"
    · simp only [if_neg y1,if_pos y2]
    · by_cases y3:y = Str.ofString "answers"
      · simp only [if_neg y1,if_neg y2,if_pos y3]
      · by_cases y4:y = Str.ofString "order"
        · simp only [if_neg y1,if_neg y2,if_neg y3,if_pos y4]
        · simp only [if_neg y1,if_neg y2,if_neg y3,if_neg y4]
          by_cases y5:y = Str.ofString "page"
          · rw [if_pos y5,y5,hp]
          · rw [if_neg y5]
            by_cases y6:y = Str.ofString "ways"
            · rw [if_pos y6,y6,hw]
            · rw [if_neg y6]
theorem TupLoop.twoW {prog:Program} {w:World} {A:Around} {h₀:Heap} {L:Addr} {env:Env} {target:PySem.Expr} {body:List Stmt} {Q:Flow -> Shared -> Prop} {s₁:Shared} {D:Addr} {va vb:Value} {c:Nat} {M2:Str -> Option Value} {news:List (Addr × Obj)}
    (F:Fr h₀ L s₁.heap M2) (N:News h₀ L s₁.heap news) (hD:(D,tupO #[va,vb] c) ∈ news)
    (turn:∀ y,(y = va ∨ y = vb) -> ∀ ov v1 v2 v3 I oI h tk,Fr h₀ L h (bindW (mOrd ov M2) v1 v2 v3) -> News h₀ L h ((I,oI) :: news) -> (∀ p ∈ news,p.1 ≠ I) ->
      wpAny (model prog w) A (assign target env y) (fun _ s₃=>wpAny (model prog w) A (execs body env) (UnrPost h₀ L { s₁ with heap := h,toks := tk } I oI (fun m' nw' => nw' = news ∧ ∃ ov v1 v2 v3,m' = bindW (mOrd ov M2) v1 v2 v3) Q) NoE s₃) NoE { s₁ with heap := h,toks := tk })
    (fin:∀ ov v1 v2 v3 h tk,Fr h₀ L h (bindW (mOrd ov M2) v1 v2 v3) -> News h₀ L h news -> Q .next { s₁ with heap := h,toks := tk }) :
    TupLoop prog w A h₀ L env target body Q (.ref D) s₁ := by
  refine TupLoop.two (fun m=>∃ ov v1 v2 v3,m = bindW (mOrd ov M2) v1 v2 v3) F N hD ⟨_,_,_,_,bindW_start M2⟩ ?_ ?_
  · rintro y hy m I oI h tk ⟨ov,v1,v2,v3,rfl⟩ F' N' off
    exact turn y hy ov v1 v2 v3 I oI h tk F' N' off
  · rintro m h tk ⟨ov,v1,v2,v3,rfl⟩ F' N'
    exact fin ov v1 v2 v3 h tk F' N'
local macro_rules | `(tactic| walk_at "execs cons Assign cons")=>`(tactic| (k_here; k_dflt (refine stop_ex (Str.ofString "answers") ?_)))
theorem stage3d {prog:Program} {w:World} {p:Program} {loose:List Str} {mean:ExcName -> Option Value} {mg mb:Str -> Option Value} {fa:Addr} {cd:Value} {h₀:Heap} {L Dc De Dr D Dw:Nat} {M:Str -> Option Value} {s:Shared} {Q:Flow -> Shared -> Prop} {E:Value -> Shared -> Prop}
    {o1 o2 o3 o4 o5 o6 o7:Obj} {cv:Array Value} {u0 tm tw tz tg:Tok} {kk ce c cw:Nat} {yr we vs vsw:List Value} {many size:Nat} {c0:Int} {ps:Array Value} {own own2:List (Addr × Obj)} {oss wss:List (List Nat)} {ev G:Str} {rows:List Str} {ns:List (List Nat)}
    (B:Below callerA h₀ [] h₀) (F:Fr h₀ L s.heap M) (X:(KF w.params).In h₀) (T:Top p loose mean mg mb h₀)
    (mc:M (Str.ofString "cells") = some (.ref Dc)) (mo:M (Str.ofString "orders") = some (.ref D)) (mp:M (Str.ofString "page") = some (.str G tg)) (mw:M (Str.ofString "ways") = some (.ref Dw))
    (N:News h₀ L s.heap ((Dw,W.listOf vsw.toArray cw) :: TL ps Dr yr De we ce Dc cv kk L o7 o6 o5 o4 o3 o2 o1 (((D,W.listOf vs.toArray c) :: own) ++ own2))) (hvs:LLs own vs oss) (hvw:LLs own2 vsw wss)
    (d6:o6.data = Data.cell (some (.ref Dr))) (d4:o4.data = Data.cell (some (.str ev tw))) (d3:o3.data = Data.cell (some (.int (size:Int) tz))) (d2:o2.data = Data.cell (some (.int (many:Int) tm)))
    (hcv:cv[0]? = some (.int c0 u0)) (hc0:0 ≤ c0 ∧ c0 < 1000000)
    (hyr:Kp (StrsAre yr rows)) (hrl:rows.length = many * size) (hr10:rows.length ≤ 10) (hm2:2 ≤ many ∧ many ≤ 5) (hsz:size = 2 ∨ size = 3)
    (hoss:1 ≤ oss.length ∧ oss.length ≤ 40) (hord:∀ o ∈ oss,o.length = size ∧ (∀ k ∈ o,k < size) ∧ ∀ d ∈ [o,o.reverse],fallsOf (natI d) ≤ 2 ∧ (((wss.map fun way=>greedy ((named rows size way d).map li) ns).count true:Nat):Int) = chooseS size ((size:Int) + (many:Int) - 1 - (fallsOf (natI d):Int)))
    (hwss:wss.length ≤ 40) (hway:∀ way ∈ wss,way.length = size ∧ ∀ d ∈ way,d < many)
    (hw:QWr ev) (hx:∀ x ∈ rows,QName x) (P:PageLike G ev ns)
    (hret:∀ m' h' tk',Fr h₀ L h' m' -> News h₀ L h' [(123,tabObj ps)] -> Q (.ret (.bool true)) { s with heap := h',toks := tk' }) :
    wpAny (model prog w) (callerA.deeper (LEb L fa cd)) (execs ((fB (stm 26)).drop 17) (LEb L fa cd)) Q E s := by
  w_on
  have F1 := fr_put (a := .ofString "cells") (fr_put (a := .ofString "orders") (fr_put (a := .ofString "page") (fr_put (a := .ofString "ways") F mw) (by with_unfolding_all exact mp)) (by with_unfolding_all exact mo)) (by with_unfolding_all exact mc)
  clear F
  simp only [TL,List.cons_append] at N
  k_steps
  refine Stop.of ?_
  refine item_at (vs := cv.toList) (by rw [Array.toArray_toList]; exact ⟨_,(N (Dc,W.listOf cv kk) (by simp)).1,rfl,_,rfl⟩) (by decide) (by decide) (by rw [Array.getElem?_toList]; exact hcv) ?_
  k_steps
  refine Stop.of ?_
  have hvl:vs.length = oss.length := All2.length hvs
  refine len_L oss.length (News.isList (by k_asm) (by k_mem)) hvl (Nat.lt_of_le_of_lt hoss.2 (by decide)) ?_
  k_steps
  refine Stop.of ?_
  k_dflt (refine pk_mod (by first | decide | lia) ?_)
  intro kq tq qq eq aq bq
  k_steps
  refine Stop.of ?_
  rename _ = Int.fmod _ _=>ek
  rename (_:Int) < ((oss.length:Nat):Int)=>hk1
  (rename Int=>k9)
  have hk0:0 ≤ k9 := by assumption
  have hk2:k9.toNat < vs.length := by rw [hvl]; exact (Int.toNat_lt hk0).mpr hk1
  obtain ⟨o,ho,a,ws,ca,hva,ham,hai⟩:∃ o,_ ∧ ∃ a ws ca,_ ∧ _ ∧ _ := All2.get hvs _ _ (List.getElem?_eq_getElem hk2)
  refine item_at (News.isList (by k_asm) (by k_mem)) hk0 (Int.lt_trans hk1 (lt63 hoss.2)) (by rw [List.getElem?_eq_getElem hk2,hva]) ?_
  obtain ⟨hol,hok,hog⟩ := hord o (List.mem_of_getElem? ho)
  have hwl:ws.length = o.length := by rw [hai.length,List.length_map]
  clear ek hk1
  k_steps
  refine Stop.of ?_
  (rename Fr _ _ _ _=>F2)
  refine For_tupT F2 (fun _=>by with_unfolding_all rfl) rfl ?_
  k_steps
  refine Stop.of ?_
  refine' rev_slice (vs := ws) ?pF ?pN ?pl ?pz ?_ ?ps ?pt
  case pF | pN=>k_asm
  case pl=>exact News.isList (by k_asm) (by repeat first | exact ham | exact List.mem_append_left _ ham | apply List.mem_cons_of_mem)
  case pz=>lia
  case ps=>with_unfolding_all rfl
  case pt=>kmk_pure
  intro Db hb Fb Nb lb
  k_lt lb
  k_steps
  (rename Fr _ _ _ _=>F8)
  (rename News _ _ _ _=>N8)
  refine TupLoop.twoW F8 N8 (.head _) ?turn ?fin
  case fin =>
    rintro ov v1 v2 v3 h9 tk9 F9 N9
    k_steps
    exact hret _ _ _ F9 fun q hq=>N9 q (by
      rw [List.mem_singleton.mp hq]
      k_mem)
  case turn =>
    intro y hy2 ov v1 v2 v3 I2 oI2 h9 tk9 F9 N9 off9
    have key:∃ (b:Nat) (wt:List Value) (cb:Nat) (d:List Nat),y = .ref b ∧ d ∈ [o,o.reverse] ∧ IntsAre wt (natI d) ∧ (h9.get? b = some (W.listOf wt.toArray cb) ∧ b ≠ L ∧ h₀.get? b = none) := by
      rcases hy2 with rfl | rfl
      · exact ⟨a,ws,ca,o,rfl,.head _,hai,N9 (a,W.listOf ws.toArray ca) (by repeat first | exact ham | exact List.mem_append_left _ ham | apply List.mem_cons_of_mem)⟩
      · exact ⟨Db,ws.reverse,0,o.reverse,rfl,.tail _ (.head _),by rw [show natI o.reverse = (natI o).reverse from List.map_reverse]; exact ints_rev hai,N9 (Db,W.listOf ws.reverse.toArray 0) (.tail _ (.tail _ (.head _)))⟩
    obtain ⟨b,wt,cb,d,rfl,hd9,hwt,hb9⟩ := key
    have hwtK:Kp (IntsAre wt (natI d)) := hwt
    have hdl:d.length = size := by
      simp only [List.mem_cons,List.not_mem_nil,or_false] at hd9
      rcases hd9 with rfl | rfl
      · exact hol
      · rw [List.length_reverse]; exact hol
    have hdm:∀ k ∈ d,k < size := by
      simp only [List.mem_cons,List.not_mem_nil,or_false] at hd9
      rcases hd9 with rfl | rfl
      · exact hok
      · exact fun k hk=>hok k (List.mem_reverse.mp hk)
    obtain ⟨hfl9,hlaw9⟩ := hog d hd9
    clear hwt hy2
    replace N9 := news_cons1 (x := (b,W.listOf wt.toArray cb)) hb9 N9
    k_steps
    refine Stop.of ?_
    (rename Fr _ _ _ _=>F10)
    (rename News _ _ _ _=>N10)
    rw [bindW_order] at F10
    have hsub:∀ q ∈ own2,q ∈ own ++ own2 := fun q hq=>List.mem_append_right _ hq
    refine' order_one (Dr := Dr) (Dw := Dw) (oa := b) (o2 := o2) (o3 := o3) (o4 := o4) (o6 := o6) (vsw := vsw) (cw := cw) ?B ?X ?T (fr_put (a := .ofString "order") (fr_put (a := .ofString "page") (fr_put (a := .ofString "ways") F10 (by with_unfolding_all rfl)) (by with_unfolding_all rfl)) (by with_unfolding_all rfl)) N10 ?h2 ?h3 ?h4 ?h6 ?hDr ?hDw (.head _) d6 d4 d3 d2 hyr (hvw.mono ?sub) hwtK hrl hr10 hm2 hdl hsz hdm hwss hway hw hx P hfl9 hlaw9 ?hret
    case B | X | T=>k_asm
    case h2 | h3 | h4 | h6 | hDr | hDw=>k_mem
    case sub=>exact fun q hq=>by repeat first | exact hsub q hq | apply List.mem_cons_of_mem
    case hret =>
      intro h11 tk11 a1 a2 a3 F11 N11
      rw [bindW_round _ _ _ _ _ _ _ _ _ _ (by with_unfolding_all rfl) (by with_unfolding_all rfl)] at F11
      exact UnrEnd.intro F11 N11 _ (fun q hq=>.tail _ hq) off9 ⟨rfl,_,_,_,_,rfl⟩
end Mine
end
section
open PySem PySem.W PyProof.Rows PySem.Spec PySem.Calls
namespace Mine
theorem getD_natI (l:List Nat) (i:Nat):(natI l).getD i 0 = ((l.getD i 0:Nat):Int) := by
  rw [List.getD_eq_getElem?_getD,List.getD_eq_getElem?_getD,List.getElem?_map]
  cases l[i]? <;> rfl
theorem falls_nat (l:List Nat):fallsOf (natI l) = fallsN l := by
  unfold fallsOf fallsN
  rw [List.length_map]
  congr 1
  apply List.filter_congr
  intro i _
  rw [getD_natI,getD_natI]
  rw [decide_eq_decide]
  exact Int.ofNat_lt
theorem flat_const {α:Type} (l:List α):∀ {β γ:Type} (a:List β) (b:List γ),a.length = b.length -> (a.flatMap fun _=>l) = b.flatMap fun _=>l
  | _,_,[],[],_=>rfl
  | _,_,_ :: r,_ :: q,h=>by
    rw [List.flatMap_cons,List.flatMap_cons,flat_const l r q (by simpa using h)]
theorem map_range {α:Type} (l:List α) (d:α):(List.range l.length).map (fun i=>l.getD i d) = l := by
  apply List.ext_getElem?
  intro i
  rw [List.getElem?_map]
  by_cases h:i < l.length
  · rw [List.getElem?_range h,Option.map_some,List.getD_eq_getElem?_getD,List.getElem?_eq_getElem h]
    rfl
  · rw [List.getElem?_eq_none (by rw [List.length_range]; lia),List.getElem?_eq_none (by lia)]
    rfl
theorem getD_inj {l:List Str} (hn:l.Nodup) {i j:Nat} (hi:i < l.length) (hj:j < l.length) (h:li (l.getD i .empty) = li (l.getD j .empty)):i = j := by
  have e := li_inj h
  have gi:l.getD i .empty = l[i] := by rw [List.getD_eq_getElem?_getD,List.getElem?_eq_getElem hi]; rfl
  have gj:l.getD j .empty = l[j] := by rw [List.getD_eq_getElem?_getD,List.getElem?_eq_getElem hj]; rfl
  rw [gi,gj] at e
  exact (List.getElem_inj hn).mp e
theorem ms_in {many size:Int} (M:MS many size):(many.toNat,size.toNat) ∈ [(2,3),(3,3),(5,2)] := by
  rcases M with ⟨rfl,rfl⟩ | ⟨rfl,rfl⟩ | ⟨rfl,rfl⟩ <;> decide
theorem ord_facts:∀ ms ∈ [(2,3),(3,3),(5,2)], ∀ o ∈ orders ms.2,(o.length = 2 ∨ o.length = 3) ∧ o.length = ms.2 ∧ (∀ k ∈ o,k < ms.2) ∧ ∀ d ∈ [o,o.reverse],fallsN d ≤ 2 ∧ ((chooseN (ms.2 + ms.1 - 1 - fallsN d) ms.2:Nat):Int) = chooseS ms.2 ((ms.2:Int) + (ms.1:Int) - 1 - (fallsN d:Int)) := by decide +kernel
theorem way_facts:∀ ms ∈ [(2,3),(3,3),(5,2)],(ways ms.1 ms.2).length ≤ 40 ∧ (∀ way ∈ ways ms.1 ms.2,way.length = ms.2 ∧ ∀ d ∈ way,d < ms.1) ∧ 1 ≤ (orders ms.2).length ∧ (orders ms.2).length ≤ 40 := by decide +kernel
theorem law_ways {many size:Int} (M:MS many size):(ways many.toNat size.toNat).length ≤ 40 ∧ (∀ way ∈ ways many.toNat size.toNat,way.length = size.toNat ∧ ∀ d ∈ way,d < many.toNat) ∧ 1 ≤ (orders size.toNat).length ∧ (orders size.toNat).length ≤ 40 :=
  way_facts _ (ms_in M)
theorem law_one {zd:List Int} {ze:List Str} {many size:Int} (D:Dresses zd many) (E:Letters ze size) (M:MS many size):∀ o ∈ orders size.toNat,(o.length = 2 ∨ o.length = 3) ∧ (∀ k ∈ o,k < ze.length) ∧ ∀ told ∈ [o,o ++ o],greedy (told.map fun k=>li (ze.getD k .empty)) (zd.flatMap fun _=>ze.map li) = decide ((fallsOf (natI told):Int) < many) := by
  intro o ho
  have hms := M.bounds
  have hzl:ze.length = size.toNat := by have := E.len; lia
  have hdl:zd.length = many.toNat := by have := D.len; lia
  obtain ⟨h1,h2,h3,-⟩ := ord_facts _ (ms_in M) o ho
  have h3':∀ k ∈ o,k < ze.length := by rw [hzl]; exact h3
  refine ⟨h1,h3',fun told ht=>?_⟩
  have hf := fact1 _ (ms_in M) o ho told ht
  have hk:∀ k ∈ told,k < ze.length := by
    simp only [List.mem_cons,List.not_mem_nil,or_false] at ht
    rcases ht with rfl | rfl
    · exact h3'
    · intro k hk
      rcases List.mem_append.mp hk with hk | hk <;> exact h3' k hk
  have e1:(zd.flatMap fun _=>ze.map li) = (rowsIx many.toNat size.toNat).map fun k=>li (ze.getD k .empty) := by
    unfold rowsIx
    rw [List.map_flatMap,flat_const _ zd (List.range many.toNat) (by rw [List.length_range,hdl]), ← hzl]
    congr 1
    funext _
    rw [show (fun k=>li (ze.getD k .empty)) = li ∘ (fun k=>ze.getD k .empty) from rfl, ← List.map_map,map_range]
  rw [e1,greedy_map (fun k=>li (ze.getD k .empty)) told _ (fun n hn m hm h=>?_),hf,falls_nat,decide_eq_decide]
  · exact Int.lt_toNat
  · refine getD_inj E.nd ?_ (hk n hn) h
    unfold rowsIx at hm
    obtain ⟨_,_,hm⟩ := List.mem_flatMap.mp hm
    rw [hzl]
    exact List.mem_range.mp hm
theorem law_two {zd:List Int} {ze:List Str} {many size:Int} (D:Dresses zd many) (E:Letters ze size) (M:MS many size):∀ o ∈ orders size.toNat,o.length = size.toNat ∧ (∀ k ∈ o,k < size.toNat) ∧ ∀ d ∈ [o,o.reverse],fallsOf (natI d) ≤ 2 ∧
    ((((ways many.toNat size.toNat).map fun way=>greedy ((named (rowsOf zd ze) size.toNat way d).map li) ((rowsOf zd ze).map li)).count true:Nat):Int) = chooseS size.toNat ((size.toNat:Int) + (many.toNat:Int) - 1 - (fallsOf (natI d):Int)) := by
  intro o ho
  have hms := M.bounds
  have hzl:ze.length = size.toNat := by have := E.len; lia
  have hdl:zd.length = many.toNat := by have := D.len; lia
  have hrl:(rowsOf zd ze).length = many.toNat * size.toNat := by rw [rowsOf_len,hzl,hdl]
  obtain ⟨-,h2,h3,h4⟩ := ord_facts _ (ms_in M) o ho
  refine ⟨h2,h3,fun d hd=>?_⟩
  rw [falls_nat]
  obtain ⟨h5,h6⟩ := h4 d hd
  refine ⟨h5,?_⟩
  rw [← h6]
  have hf := fact2 _ (ms_in M) o ho d hd
  rw [← hf]
  congr 2
  refine List.map_congr_left fun way hway=>?_
  have hwd := (way_facts _ (ms_in M)).2.1 way hway
  have hdk:∀ k ∈ d,k < size.toNat := by
    simp only [List.mem_cons,List.not_mem_nil,or_false] at hd
    rcases hd with rfl | rfl
    · exact h3
    · exact fun k hk=>h3 k (List.mem_reverse.mp hk)
  have e1:(rowsOf zd ze).map li = (List.range (many.toNat * size.toNat)).map fun k=>li ((rowsOf zd ze).getD k .empty) := by
    rw [← hrl,show (fun k=>li ((rowsOf zd ze).getD k .empty)) = li ∘ (fun k=>(rowsOf zd ze).getD k .empty) from rfl, ← List.map_map,map_range]
  have e2:(named (rowsOf zd ze) size.toNat way d).map li = ((way.zip d).map fun p=>size.toNat * p.1 + p.2).map fun k=>li ((rowsOf zd ze).getD k .empty) := by
    unfold named
    rw [List.map_map,List.map_map]
    rfl
  rw [e1,e2]
  refine greedy_map (fun k=>li ((rowsOf zd ze).getD k .empty)) _ _ fun n hn m hm h=>?_
  refine getD_inj (rows_ok D E).nd (by rw [hrl]; exact List.mem_range.mp hm) ?_ h
  obtain ⟨q,hq,rfl⟩ := List.mem_map.mp hn
  have a1 := hwd.2 q.1 (List.of_mem_zip hq).1
  have a2 := hdk q.2 (List.of_mem_zip hq).2
  rw [hrl,Nat.mul_comm many.toNat size.toNat]
  exact Nat.lt_of_lt_of_le (show size.toNat * q.1 + q.2 < size.toNat * (q.1 + 1) by rw [Nat.mul_add,Nat.mul_one]; exact Nat.add_lt_add_left (by assumption) _) (Nat.mul_le_mul_left _ a1)
theorem stage3 {prog:Program} {w:World} {p:Program} {loose:List Str} {mean:ExcName -> Option Value} {mg mb:Str -> Option Value} {fa:Addr} {cd:Value} {h₀:Heap} {L Dc De Dr:Nat} {m₀:Str -> Option Value} {s:Shared} {Q:Flow -> Shared -> Prop} {E:Value -> Shared -> Prop}
    {o1 o2 o3 o4 o5 o6 o7:Obj} {c0:Int} {cv:Array Value} {u0 tp tg tw tm tz:Tok} {kk ce:Nat} {zd:List Int} {ze:List Str} {yr we:List Value} {many size:Int} {v ev:Str} {ps:Array Value}
    (kD:Dresses zd many) (kL:Letters ze size) (M:MS many size) (hesc:Kp ((v,ev) ∈ escTab))
    (B:Below callerA h₀ [] h₀) (F:Fr h₀ L s.heap (fun y=>if y = Str.ofString "prepared" then some (.str (preparedOf (pageOf ev (rowsOf zd ze))) tp) else if y = Str.ofString "page" then some (.str (pageOf ev (rowsOf zd ze)) tg) else if y = Str.ofString "cells" then some (.ref Dc) else m₀ y)) (X:(KF w.params).In h₀) (T:Top p loose mean mg mb h₀)
    (hL:@LT.lt Nat _ 123 L) (hDc:@LT.lt Nat _ (L + 1 + 1 + 1 + 1 + 1 + 1 + 1) Dc) (hDe:@LT.lt Nat _ Dc De) (hDr:@LT.lt Nat _ De Dr)
    (N:News h₀ L s.heap [(123,tabObj ps),(Dr,LCg.lst yr),(De,W.listOf we.toArray ce),(Dc,W.listOf cv kk),(L + 1 + 1 + 1 + 1 + 1 + 1 + 1,o7),(L + 1 + 1 + 1 + 1 + 1 + 1,o6),(L + 1 + 1 + 1 + 1 + 1,o5),(L + 1 + 1 + 1 + 1,o4),(L + 1 + 1 + 1,o3),(L + 1 + 1,o2),(L + 1,o1)])
    (d7:o7.data = Data.cell none) (d6:o6.data = Data.cell (some (.ref Dr))) (d5:o5.data = Data.cell (some (.ref De))) (d4:o4.data = Data.cell (some (.str ev tw))) (d3:o3.data = Data.cell (some (.int size tz))) (d2:o2.data = Data.cell (some (.int many tm)))
    (hyr:Kp (StrsAre yr (rowsOf zd ze))) (hwe:Kp (StrsAre we ze)) (hcv:cv[0]? = some (.int c0 u0)) (hc0:0 ≤ c0 ∧ c0 < 1000000) (hgb:AllBare s.gens)
    (hret:∀ m' ps h' tk' ga dr,AllBare ga -> Fr h₀ L h' m' -> News h₀ L h' [(123,tabObj ps)] -> Q (.ret (.bool true)) { s with heap := h',toks := tk',gens := ga,drawn := dr }) :
    wpAny (model prog w) (callerA.deeper (LEb L fa cd)) (execs ((fB (stm 26)).drop 12) (LEb L fa cd)) Q E s := by
  have hms := M.bounds
  have hMS := M
  have hzl := kL.len
  have hdl := kD.len
  obtain ⟨hw1,hw2⟩ := esc_wr hesc
  obtain ⟨hwl,hway,ho1,ho40⟩ := law_ways M
  have e1:((many.toNat:Nat):Int) = many := by lia
  have e2:((size.toNat:Nat):Int) = size := by lia
  have hrl:(rowsOf zd ze).length = many.toNat * size.toNat := by
    rw [rowsOf_len,show zd.length = many.toNat by lia,show ze.length = size.toNat by lia]
  have hr10:(rowsOf zd ze).length ≤ 10 := by
    have := rows_count kD kL M
    lia
  have hs23:size.toNat = 2 ∨ size.toNat = 3 := by lia
  refine stage3a M B F X T hL hDc hDe hDr (show News h₀ L s.heap (TL ps Dr yr De we ce Dc cv kk L o7 o6 o5 o4 o3 o2 o1 []) from N) d7 d3 ?_
  intro D vs c own o7' v7 h1 tk1 hvs hown d7' F1 N1
  refine stage3b B F1 X T (by with_unfolding_all rfl) N1 hvs d5 d4 d2 hwe (by lia) hw1.len hw2 (ze_q kL) (prep_like kD kL M hesc) (law_one kD kL M) ?_
  intro v1 v2 v3 h2 tk2 F2 N2
  refine stage3c M B F2 X T hL hDc hDe hDr N2 hown d7' d3 d2 ?_
  intro Dw vsw cw own2 o7'' v7' h3 tk3 hvw hown2 d7'' F3 N3
  refine stage3d (c0 := c0) (u0 := u0) (many := many.toNat) (size := size.toNat) (tz := tz) (tm := tm) B F3 X T (by with_unfolding_all rfl) (by with_unfolding_all rfl) (by with_unfolding_all rfl) (by with_unfolding_all rfl) N3 hvs hvw d6 d4 (by rw [e2]; exact d3) (by rw [e1]; exact d2) hcv hc0 hyr hrl hr10 (by lia) hs23 ⟨ho1,ho40⟩ (law_two kD kL M) hwl hway hw1 (rows_q kD kL) (page_like kD kL M hesc) ?_
  intro m' h' tk' F' N'
  exact hret m' ps h' tk' s.gens s.drawn hgb F' N'
end Mine
end
section
open PySem PySem.W PyProof.Rows PySem.Spec PySem.Calls
namespace Mine
local macro_rules | `(tactic| walk_at "execs cons")=>`(tactic| (k_here; k_dflt (refine stop_ex (Str.ofString "orders") ?_)))
local macro_rules | `(tactic| walk_at "subscriptTail Tuple")=>`(tactic| (k_here; refine Stop.mk ?_))
local macro_rules | `(tactic| walk_at "subscriptTail Constant")=>`(tactic| (k_here; refine Stop.mk ?_))
local macro_rules | `(tactic| walk_at "subscriptTail BinOp")=>`(tactic| (k_here; refine Stop.mk ?_))
local macro_rules | `(tactic| walk_at "call type:list")=>`(tactic| (k_here; refine Stop.mk ?_))
theorem three {n:Nat} {m s:Int} (h:(n:Int) = 1 + m - 1) (M:(m = 2 ∧ s = 3) ∨ (m = 3 ∧ s = 3) ∨ (m = 5 ∧ s = 2)):n = 2 ∨ n = 3 ∨ n = 5 := by
  have h := h.trans (show 1 + m - 1 = m by rw [Int.add_comm,Int.add_sub_cancel])
  rcases M with q | q | q
  · exact .inl (Int.ofNat.inj (h.trans q.1))
  · exact .inr (.inl (Int.ofNat.inj (h.trans q.1)))
  · exact .inr (.inr (Int.ofNat.inj (h.trans q.1)))
theorem two_ {n:Nat} {m s:Int} (h:(n:Int) = 6 + s - 6) (M:(m = 2 ∧ s = 3) ∨ (m = 3 ∧ s = 3) ∨ (m = 5 ∧ s = 2)):n = 2 ∨ n = 3 := by
  have h := h.trans (show 6 + s - 6 = s by rw [Int.add_comm,Int.add_sub_cancel])
  rcases M with q | q | q
  · exact .inr (Int.ofNat.inj (h.trans q.2))
  · exact .inr (Int.ofNat.inj (h.trans q.2))
  · exact .inl (Int.ofNat.inj (h.trans q.2))
theorem ints_head {vs:List Value} {c:Int} {r:List Int} (h:IntsAre vs (c :: r)):∃ u,vs[0]? = some (.int c u) := by
  cases h with
  | cons n t _=>exact ⟨t,rfl⟩
theorem stage2 {prog:Program} {w:World} {p:Program} {loose:List Str} {mean:ExcName -> Option Value} {mg mb:Str -> Option Value} {fa:Addr} {cd:Value} {h₀:Heap} {L Dc:Nat} {m₀:Str -> Option Value} {sh:Heap} {sga:Array GenState} {sdr:Drawn} {stk:Nat} {sos:OsState} {Q:Flow -> Shared -> Prop} {E:Value -> Shared -> Prop}
    {o1 o2 o3 o4 o5 o6 o7:Obj} {c0 c1 c2 c3 c4 c5 c6 c7 c8:Int} {cvs:List Value} {kk:Nat}
    (B:Below callerA h₀ [] h₀) (F:Fr h₀ L sh (fun y=>if y = Str.ofString "cells" then some (.ref Dc) else m₀ y)) (X:(KF w.params).In h₀) (T:Top p loose mean mg mb h₀) (hL:@LT.lt Nat _ 123 L) (hD:@LT.lt Nat _ (Lx7 L) Dc)
    (N:News h₀ L sh [(Dc,W.listOf (List.toArray cvs) kk),(Lx7 L,o7),(Lx6 L,o6),(Lx5 L,o5),(Lx4 L,o4),(Lx3 L,o3),(Lx2 L,o2),(Lx1 L,o1),(123,tabObj #[])])
    (d7:o7.data = Data.cell none) (d6:o6.data = Data.cell none) (d5:o5.data = Data.cell none) (d4:o4.data = Data.cell none) (d3:o3.data = Data.cell none) (d2:o2.data = Data.cell none)
    (hcells:IntsAre cvs [c0,c1,c2,c3,c4,c5,c6,c7,c8]) (hc:∀ n ∈ [c0,c1,c2,c3,c4,c5,c6,c7,c8],0 ≤ n ∧ n < 1000000) (hgb:AllBare sga)
    (hret:∀ m' ps h' tk' ga dr,AllBare ga -> Fr h₀ L h' m' -> News h₀ L h' [(123,tabObj ps)] -> Q (.ret (.bool true)) ⟨h',ga,dr,tk',sos⟩) :
    wpAny (model prog w) (callerA.deeper (LEb L fa cd)) (execs ((fB (stm 26)).drop 2) (LEb L fa cd)) Q E ⟨sh,sga,sdr,stk,sos⟩ := by
  have hasc := asc_of (x := 123) (l := [Lx1 L,Lx2 L,Lx3 L,Lx4 L,Lx5 L,Lx6 L,Lx7 L,Dc]) ⟨Nat.lt_succ_of_lt hL,Nat.lt_succ_self _,Nat.lt_succ_self _,Nat.lt_succ_self _,Nat.lt_succ_self _,Nat.lt_succ_self _,Nat.lt_succ_self _,hD⟩
  dsimp only [AscL,AllGt] at hasc
  have hasc0 := hasc.1
  have hasc1 := hasc.2.1
  have hasc2 := hasc.2.2.1
  have hasc3 := hasc.2.2.2.1
  have hasc4 := hasc.2.2.2.2.1
  have hasc5 := hasc.2.2.2.2.2.1
  have hasc6 := hasc.2.2.2.2.2.2.1
  have hasc7 := hasc.2.2.2.2.2.2.2.1
  clear hasc
  w_on
  have hc0 := hc c0 (.head _)
  obtain ⟨u0,hu0⟩ := ints_head hcells
  k_steps
  refine Stop.of ?_
  k_dflt (refine pk_mod (by first | decide | lia) ?_)
  intro kq tq qq eq aq bq
  k_steps
  refine Stop.of ?_
  refine' ms_item (B0 := Lx7 L) ?N ?hl ?c ?d ?a ?b ?cc ?B ?z0 ?z3 ?_
  case N=>k_asm
  case hl=>k_mem
  case c | d=>exact rfl
  case a | b | cc=>k_mem
  case B=>(refine ⟨?_,?_,?_⟩ <;> kpa_ne)
  case z0=>exact aq
  case z3=>exact bq
  intro r9 many9 size9 t9 u9 N9 hMS9 hr9
  have hr8 := lx_lt hr9
  have hms := hMS9.bounds
  k_steps
  refine Stop.of ?_
  k_dflt (refine pk_mod (by first | decide | lia) ?_)
  intro kq tq qq eq aq bq
  k_steps
  refine Stop.of ?_
  k_dflt (refine esc_str aq bq ?_)
  intro tq tkq
  k_steps
  refine Stop.of ?_
  refine' esc_tup (xs := [_,_,_,_,_,_,_]) ?N ?hl ?c ?d ?x ?z0 ?z3 ?_
  case N=>k_asm
  case hl=>k_mem
  case c | d=>exact rfl
  case x=>exact .cons _ _ (.cons _ _ (.cons _ _ (.cons _ _ (.cons _ _ (.cons _ _ (.cons _ _ .nil))))))
  case z0=>exact aq
  case z3=>exact bq
  intro tw ev hesc
  k_steps
  refine Stop.of ?_
  rename IsRange _ _ _ _ _ _ _ _=>rg9
  rename News _ _ _ _=>N5
  replace N5:News h₀ L _ [(Dc,_),(Lx7 L,_),(Lx6 L,_),(Lx5 L,_),(Lx4 L,_),(Lx3 L,_),(Lx2 L,_),(Lx1 L,_),(123,_)] := news_pick 7 [] N5
  refine list_rangeL (n := 39) rfl (by k_asm) (by k_asm) rg9 (by decide) (by decide) (by decide) ?_
  clear rg9
  intro D39 y39 c39 h39 tk39 F39 N39 l39 hI39
  k_lt l39
  k_steps
  refine Stop.of ?_
  have hMSu:(many9 = 2 ∧ size9 = 3) ∨ (many9 = 3 ∧ size9 = 3) ∨ (many9 = 5 ∧ size9 = 2) := hMS9
  rename IntsAre cvs _=>hcells
  refine' cut_slice ?F ?N ?l hcells ?x0 ?xy ?y ?z ?_ ?s ?t
  case F | N=>k_asm
  case l=>kmk_list
  case x0=>decide
  case xy=>lia
  case y=>(show (1:Int) + many9 ≤ 9; lia)
  case z=>(show (9:Nat) ≤ 100; decide)
  case s=>with_unfolding_all rfl
  case t=>kmk_pure
  intro Dk wk ks hK FK NK lK hkI hkL
  k_lt lK
  k_steps
  refine Stop.of ?_
  refine' c_pickI ?k1 ?k2 ?k3 ?k4 ?k5 ?kK ?kd ?ku _ _ _ _ _ _ ?ls ?vs ?ns _ _ ?hw ?hk3 ?ln ?kR
  case k1 | k2 | k3 | k4 | k5=>k_asm
  case kK=>first | exact rfl | assumption
  case kd=>ktr_room
  case ku=>ktr_units
  case vs=>exact hI39
  case ls=>k_mem
  case ns=>decide
  case hw=>exact hkI
  case hk3=>exact three hkL hMSu
  case ln=>k_mem
  case kR =>
    intro Dd wd zd cd9 hd tkd hdI hdP hdO Fd Nd ld
    have kD:Kp (Dresses zd many9) := dresses_of hdP hdO (by lia) (by lia)
    have kdI:Kp (IntsAre wd zd) := hdI
    clear hdP hdO hdI
    k_lt ld
    replace Nd := news_keep [true,false,false] Nd
    dsimp only [keepL] at Nd
    k_steps
    refine Stop.of ?_
    refine LCg.ListComp_U (F₀ := by k_asm) (by with_unfolding_all rfl) (by decide) (by rfl) (by decide) (by rfl) ?_
    k_steps
    refine Stop.of ?_
    rename IsRange _ _ _ _ _ _ _ _=>rg9
    refine LCg.CompSrc.range (n := 26) (by rfl) (by k_asm) (by k_asm) rg9 (by decide) (by decide) (by rw [sizeLine_eq]; decide) (fun g9=>?_)
    clear rg9
    refine comp_gen (List.range 26) (fun i v=>∃ t,v = .int (0 + (i:Int)) t) (fun i y=>∃ t,y = .str (letter i) t) (by decide) ?lP ?lT ?lF
    case lP=>exact fun i v hi hv=>⟨i,by rw [List.getElem?_range hi],hv⟩
    case lT =>
      intro a9 v9 I' oI' C' oC' D' m' ys' h' tk' E' ha9 hR9 hC' hx' F' N' off' ne'
      obtain ⟨t9,rfl⟩ := hR9
      have ha8:a9 < 26 := List.mem_range.mp ha9
      k_steps
      exact LCg.CompEnd.intro (by k_asm) (by k_asm) _ (fun p hp=>hp) off' trivial ⟨rfl,_,rfl⟩
    case lF =>
      intro ys hy D9 h9 tk9 F9 N9 o9
      have hs9 := hy.strs
      have q5 := off1_mem o9 (Lx5 L,o5) (by k_mem)
      have q6 := off1_mem o9 (Lx6 L,o6) (by k_mem)
      have q7 := off1_mem o9 (Lx7 L,o7) (by k_mem)
      k_steps
      refine Stop.of ?_
      rename IntsAre cvs _=>hcells
      refine' cut_slice ?F ?N ?l hcells ?x0 ?xy ?y ?z ?_ ?s ?t
      case F | N=>k_asm
      case l=>kmk_list
      case x0=>decide
      case xy=>lia
      case y=>(show (6:Int) + size9 ≤ 9; lia)
      case z=>(show (9:Nat) ≤ 100; decide)
      case s=>with_unfolding_all rfl
      case t=>kmk_pure
      intro Dj wj kj hJ FJ NJ lJ hjI hjL
      k_lt lJ
      k_steps
      refine Stop.of ?_
      refine' c_pickS ?k1 ?k2 ?k3 ?k4 ?k5 ?kK ?kd ?ku _ _ _ _ _ _ ?ls ?vs ?ns _ _ ?hw ?hk3 ?ln ?kR
      case k1 | k2 | k3 | k4 | k5=>k_asm
      case kK=>first | exact rfl | assumption
      case kd=>ktr_room
      case ku=>ktr_units
      case vs=>exact hs9
      case ls=>k_mem
      case ns=>decide
      case hw=>exact hjI
      case hk3=>exact two_ hjL hMSu
      case ln=>k_mem
      case kR =>
        intro De we ze ce he tke heI heP heO Fe Ne le
        have kL:Kp (Letters ze size9) := letters_of heP heO (by lia) (by lia)
        clear heP heO
        k_lt le
        replace Ne := news_keep [true,false,false] Ne
        dsimp only [keepL] at Ne
        k_steps
        refine Stop.of ?_
        refine wpAny_Assign_Name ?_ (by with_unfolding_all rfl)
        (rename Fr _ _ _ _=>Fq)
        (rename News _ _ _ _=>Nq)
        replace Nq:News h₀ L _ [(De,_),(Dd,_),(Dc,_),(Lx7 L,_),(Lx6 L,_),(Lx5 L,_),(Lx4 L,_),(Lx3 L,_),(Lx2 L,_),(Lx1 L,_),(123,_)] := Nq
        have zLen:zd.length ≤ 10 ∧ ze.length ≤ 10 := by
          have h1 := kD.len
          have h2 := kL.len
          lia
        refine ListComp_2 Fq (by with_unfolding_all rfl) (by decide) (by rfl) (by decide) (by rfl) (by rfl) (by decide) ?_
        k_steps
        refine src2_rows (Dd := Dd) (De := De) (its := wd) (its2 := we) (as := zd) (bs := ze) drs rfl (by k_asm) (by k_asm) (by k_mem) (by k_mem) kdI heI ?rz ?rit ?rel ?rfin
        case rz=>exact zLen
        case rit =>
          intro I oI C oC D m₂ ys h tk E' hC' F' N' off' ne'
          k_steps
          exact ⟨_,_,rfl,rfl,by k_asm,by k_asm⟩
        case rel =>
          intro a ha b hb ta tb I oI C oC D I2 oI2 m₂ ys h tk E' hC' hx' hy' F' N' off' ne'
          k_steps
          refine Stop.of ?_
          have ha9 := kD.mem a ha
          obtain ⟨c9,hc1,hc2,rfl⟩ := kL.mem b hb
          refine' c_dressed ?k1 ?k2 ?k3 ?k4 ?k5 ?kK ?kd ?ku a c9 _ _ ha9.1 ha9.2 hc1 hc2 ?kR
          case k1 | k2 | k3 | k4 | k5=>k_asm
          case kK=>first | exact rfl | assumption
          case kd=>ktr_room
          case ku=>ktr_units
          case kR =>
            intro t8 h8 tk8 F8 N8
            k_steps
            exact LCg.CompEnd.intro (by k_asm) (by k_asm) _ (fun p hp=>hp) off' trivial ⟨rfl,_,rfl⟩
        case rfin =>
          intro Dr yr hrS hrD hrO hr tkr Fr9 Nr9
          have lr := news_lt_of Nq hrD
          k_lt lr
          clear hrD hrO Nq
          have hrl:yr.length = 6 ∨ yr.length = 9 ∨ yr.length = 10 := by rw [hrS.length]; exact rows_count kD kL hMS9
          have hz10:yr.length ≤ 10 := by rcases hrl with h | h | h <;> rw [h] <;> decide
          have krS:Kp (StrsAre yr (rowsOf zd ze)) := hrS
          clear hrS
          k_steps
          refine Stop.of ?_
          rename News _ _ _ _=>Nv
          replace Nv:News h₀ L _ [(Dr,_),(De,_),(Dc,_),(Lx7 L,_),(Lx6 L,_),(Lx5 L,_),(Lx4 L,_),(Lx3 L,_),(Lx2 L,_),(Lx1 L,_),(123,_)] := news_pick 3 [0,1] Nv
          refine len_L yr.length (News.isList (by k_asm) (by k_mem)) rfl (by lia) ?_
          k_steps
          refine Stop.of ?_
          k_dflt (refine pk_mod (by first | decide | lia) ?_)
          intro kq tq qq eq aq bq
          k_steps
          refine Stop.of ?_
          refine' pk_from (vs := yr) ?F ?N ?l ?z0 ?_ ?s ?t ?z
          case F | N=>k_asm
          case l=>kmk_list
          case z0=>assumption
          case s=>with_unfolding_all rfl
          case t=>kmk_pure
          case z=>(rw [sizeLine_eq]; lia)
          intro D1 h1 F1 N1 l1
          k_lt l1
          k_steps
          refine Stop.of ?_
          refine' pk_upto (vs := yr) ?F ?N ?l ?z0 ?_ ?s ?t ?z
          case F | N=>k_asm
          case l=>kmk_list
          case z0=>assumption
          case s=>with_unfolding_all rfl
          case t=>kmk_pure
          case z=>(rw [sizeLine_eq]; lia)
          intro D2 h2 F2 N2 l2
          k_lt l2
          k_steps
          refine Stop.of ?_
          refine' la_add (vs := yr.drop _) (ws := yr.take _) ?F ?N ?a ?b ?z ?_
          case F | N=>k_asm
          case a | b=>kmk_list
          case z=>(simp only [List.length_drop,List.length_take]; exact Nat.le_trans (Nat.add_le_add (Nat.le_trans (Nat.sub_le _ _) hz10) (Nat.le_trans (Nat.min_le_right _ _) hz10)) (by first | decide | (rw [sizeLine_eq]; decide)))
          intro D3 h3 F3 N3 l3
          k_lt l3
          k_steps
          refine Stop.of ?_
          refine kba_turn (value' := .Name (Str.ofString "x") default) (fun _=>rfl) ?_
          refine' rev_slice (vs := yr.drop _ ++ yr.take _) ?F ?N ?l ?z ?_ ?s ?t
          case F | N=>k_asm
          case l=>kmk_list
          case z=>(simp only [List.length_append,List.length_drop,List.length_take]; first | exact Nat.le_trans (Nat.add_le_add (Nat.le_trans (Nat.sub_le _ _) hz10) (Nat.le_trans (Nat.min_le_right _ _) hz10)) (by first | decide | (rw [sizeLine_eq]; decide)) | lia)
          case s=>with_unfolding_all rfl
          case t=>kmk_pure
          intro D4 h4 F4 N4 l4
          k_lt l4
          replace N4 := news_keep [true,false,false,false,true,true] N4
          dsimp only [keepL] at N4
          replace N4 := news_rot12 N4
          k_steps
          refine Stop.of ?_
          have hR:Kp (RowsOk (rowsOf zd ze)) := rows_ok kD kL
          refine' c_page ?k1 ?k2 ?k3 N4 ?k5 ?kK ?kd ?ku _ _ (((rowsOf zd ze).drop _ ++ (rowsOf zd ze).take _).reverse) _ _ _ ?hl ?hxs _ ?hv ?hok ?hnd ?hm ?hne ?hgb ?kR
          case hv=>exact hesc
          case hxs=>exact strs_rev (strs_app (strs_drop krS _) (strs_take krS _))
          case k1 | k2 | k3 | k5=>k_asm
          case kK=>first | exact rfl | assumption
          case kd=>ktr_room
          case ku=>ktr_units
          case hl=>exact .head _
          case hok =>
            intro k hk
            rcases List.mem_cons.mp hk with rfl | hk
            · exact hR.ok _ (.head _)
            · exact hR.ok _ (.tail _ ((turned_perm _ _).mem_iff.mp hk))
          case hnd=>exact (turned_perm _ _).nodup_iff.mpr hR.nd
          case hm=>(rw [(turned_perm _ _).length_eq]; exact rows_count kD kL hMS9)
          case hne =>
            intro p hp
            revert p
            repeat (refine all_cons (show @Ne Nat _ 123 by k_ne) ?_)
            exact all_nil
          case hgb=>exact hgb
          case kR =>
            intro ks9 psT t8 h8 tk8 ga8 dr8 hga8 hp8 hs8 F8 N8
            have eks:ks9 = rowsOf zd ze := pw_unique (hp8.trans (turned_perm _ _)) hs8 hR.up
            subst eks
            clear hp8 hs8
            replace N8 := news_keep [true,false] N8
            dsimp only [keepL] at N8
            have hls := fun x hx=>(hR.ok x (.tail _ hx)).len
            have hev := esc_len hesc
            have hrc := rows_count kD kL hMS9
            k_steps
            refine Stop.of ?_
            refine LCg.ListComp_U (F₀ := by k_asm) (by with_unfolding_all rfl) (by decide) (by rfl) (by decide) (by rfl) ?_
            k_steps
            refine Stop.of ?_
            refine LCg.CompSrc.ledger (by rfl) (by k_asm) (by k_asm) (by k_mem) (by rw [List.size_toArray,sizeLine_eq]; lia) (fun g9=>?_)
            refine comp_gen (rowsOf zd ze) (fun x v=>∃ t,v = .str x t) (fun x y=>∃ t,y = .str (rowOf ev x) t) (by rw [List.size_toArray,StrsAre.length krS]) ?cP ?cT ?cF
            case cP=>exact fun i v _ hv=>by obtain ⟨x,t,e1,e2⟩ := strs_at krS i v (by simpa using hv); exact ⟨x,e1,t,e2⟩
            case cT =>
              intro a9 v9 I' oI' C' oC' D' m' ys' h' tk' E' ha9 hR9 hC' hx' F' N' off' ne'
              obtain ⟨t9,rfl⟩ := hR9
              have hz9 := hls _ ha9
              k_steps
              exact LCg.CompEnd.intro (by k_asm) (by k_asm) _ (fun p hp=>hp) off' (Or.inr ⟨_,by k_mem,rfl,_,rfl⟩) ⟨rfl,_,rfl⟩
            case cF =>
              intro ys hy D9 h9 tk9 F9 N9 o9
              have hs9 := hy.strs
              have hb9:(((rowsOf zd ze).map (rowOf ev)).map fun y=>y.length).sum ≤ 200 := by
                have h1 := sum_len_le ((rowsOf zd ze).map (rowOf ev)) 20 (fun y hy=>by obtain ⟨x,hx,rfl⟩ := List.mem_map.mp hy; exact rowOf_len hev (hls x hx))
                rw [List.length_map] at h1
                lia
              k_steps
              refine Stop.of ?_
              refine join_b 200 (News.isList (by k_asm) (by k_mem)) (by simpa using hs9) hb9 (by decide) ?_
              intro J9 t9 k9 eJ9 lJ9
              have hpe := page_eq ev (rowsOf zd ze)
              rw [← eJ9] at hpe
              k_steps
              · rename (_ != _) = true=>hq
                rw [hpe] at hq
                simp at hq
              refine Stop.of ?_
              refine' c_prep ?k1 ?k2 ?k3 ?k4 ?k5 ?kK ?kd ?ku _ _ ?hG ?hP ?kR
              case hG=>exact page_len hR (by lia) hev
              case hP=>exact page_prep kD kL hMS9 hesc
              case k1 | k2 | k3 | k4 | k5=>k_asm
              case kK=>first | exact rfl | assumption
              case kd=>ktr_room
              case ku=>ktr_units
              case kR =>
                intro tp hp tkp Fp Np
                replace Np := news_keep [false] Np
                dsimp only [keepL] at Np
                k_steps
                refine Stop.of ?_
                (rename Fr _ _ _ _=>Fz)
                (rename News _ _ _ _=>Nz)
                refine' stage3 (c0 := c0) (Dr := Dr) (De := De) (Dc := Dc) kD kL hMS9 hesc ?B ?F ?X ?T hL hD ?z1 ?z2 ?N ?d7 ?d6 ?d5 ?d4 ?d3 ?d2 krS heI ?cv hc0 ?gb ?zr
                case F=>exact fr_three Fz rfl rfl rfl
                case N=>exact Nz
                case B | X | T=>k_asm
                case z1 | z2=>kpa_ne
                case d7 | d6 | d5 | d4 | d3 | d2=>assumption
                case cv=>exact (List.getElem?_toArray ..).trans hu0
                case gb=>exact hga8
                case zr=>exact hret
end Mine
end
section
open PySem PySem.W PyProof.Rows PySem.Spec PySem.Calls
namespace Mine
theorem stage2b {prog:Program} {w:World} {p:Program} {loose:List Str} {mean:ExcName -> Option Value} {mg mb:Str -> Option Value} {fa:Addr} {cd:Value} {h₀:Heap} {L Dc:Nat} {m₀:Str -> Option Value} {s:Shared} {Q:Flow -> Shared -> Prop} {E:Value -> Shared -> Prop}
    {o1 o2 o3 o4 o5 o6 o7:Obj} {c0 c1 c2 c3 c4 c5 c6 c7 c8:Int} {cvs:List Value} {kk:Nat} {body:List Stmt} {env:Env}
    (eb:body = (fB (stm 26)).drop 2) (ee:env = LEb L fa cd)
    (B:Below callerA h₀ [] h₀) (F:Fr h₀ L s.heap (fun y=>if y = Str.ofString "cells" then some (.ref Dc) else m₀ y)) (X:(KF w.params).In h₀) (T:Top p loose mean mg mb h₀) (hL:@LT.lt Nat _ 123 L) (hD:@LT.lt Nat _ (L + 1 + 1 + 1 + 1 + 1 + 1 + 1) Dc)
    (N:News h₀ L s.heap [(Dc,W.listOf (List.toArray cvs) kk),(L + 1 + 1 + 1 + 1 + 1 + 1 + 1,o7),(L + 1 + 1 + 1 + 1 + 1 + 1,o6),(L + 1 + 1 + 1 + 1 + 1,o5),(L + 1 + 1 + 1 + 1,o4),(L + 1 + 1 + 1,o3),(L + 1 + 1,o2),(L + 1,o1),(123,tabObj #[])])
    (d7:o7.data = Data.cell none) (d6:o6.data = Data.cell none) (d5:o5.data = Data.cell none) (d4:o4.data = Data.cell none) (d3:o3.data = Data.cell none) (d2:o2.data = Data.cell none)
    (hcells:IntsAre cvs [c0,c1,c2,c3,c4,c5,c6,c7,c8]) (hc:∀ n ∈ [c0,c1,c2,c3,c4,c5,c6,c7,c8],0 ≤ n ∧ n < 1000000) (hgb:AllBare s.gens)
    (hret:∀ m' ps h' tk' ga dr,AllBare ga -> Fr h₀ L h' m' -> News h₀ L h' [(123,tabObj ps)] -> Q (.ret (.bool true)) { s with heap := h',toks := tk',gens := ga,drawn := dr }) :
    wpAny (model prog w) (callerA.deeper env) (execs body env) Q E s := by
  rw [eb,ee]
  have h := @stage2 prog w p loose mean mg mb fa cd h₀ L Dc m₀ s.heap s.gens s.drawn s.toks s.os Q E o1 o2 o3 o4 o5 o6 o7 c0 c1 c2 c3 c4 c5 c6 c7 c8 cvs kk B F X T hL hD N d7 d6 d5 d4 d3 d2 hcells hc hgb hret
  with_reducible exact h
end Mine
end
end
open Mine PySem PySem.W PyProof.Rows PySem.Spec PySem.Calls
namespace Mine
inductive BJ (i:Nat) (ys:List Value):Prop
  | mk (ns:List Int) (_:ys.length ≤ 9) (_:ys.length = i) (_:IntsAre ys ns) (_:∀ n ∈ ns,0 ≤ n ∧ n < 1000000)
theorem BJ.le {i:Nat} {ys:List Value} : BJ i ys -> ys.length ≤ 9
  | .mk _ h _ _ _=>h
theorem BJ.push {i:Nat} {ys:List Value} {k:Int} {t:Tok} (h:BJ i ys) (hi:i < 9) (h0:0 ≤ k) (h1:k < 1000000):BJ (i + 1) (ys ++ [.int k t]) := by
  obtain ⟨ns,_,b,c,d⟩ := h
  refine .mk _ ?_ ?_ (c.append (.cons k t .nil)) fun n hn=>?_
  · rw [List.length_append,b]; exact hi
  · rw [List.length_append,b]; rfl
  · rcases List.mem_append.mp hn with hn | hn
    · exact d n hn
    · rw [List.mem_singleton.mp hn]; exact ⟨h0,h1⟩
inductive Bs (i:Nat):Value -> Value -> Prop
  | mk (t tb:Tok) (b:Int):i < 9 -> 0 ≤ b -> b ≤ 1150 -> Bs i (.int i t) (.int b tb)
theorem enum_bases {i:Nat} {v0 v1:Value} {t0 t1 t2 t3 t4 t5 t6 t7 t8:Tok} (hP:∃ t x,(#[.int 1150 t0,.int 0 t1,.int 20 t2,.int 33 t3,.int 7 t4,.int 11 t5,.int 17 t6,.int 0 t7,.int 5 t8]:Array Value)[i]? = some x ∧ (#[v0,v1]:Array Value) = #[.int i t,x]):Bs i v0 v1 := by
  obtain ⟨t9,x9,hx9,hv9⟩ := hP
  obtain ⟨hi9,b9,tb9,rfl,hb0,hb1⟩ := bases_at hx9
  obtain ⟨rfl,rfl⟩:v0 = .int (i:Int) t9 ∧ v1 = .int b9 tb9 := by simpa using hv9
  exact .mk _ _ _ hi9 hb0 hb1
end Mine
local macro_rules | `(tactic| walk_at "eval ListComp")=>`(tactic| (k_here; refine Stop.mk ?_))
local macro_rules | `(tactic| walk_at "exec Assign cons ListComp")=>`(tactic| (k_here; refine Stop.mk ?_))
local macro_rules | `(tactic| walk_at "call type:enumerate")=>`(tactic| (k_here; refine Stop.mk ?_))
local macro_rules | `(tactic| walk_at "subscriptTail Name Slice ref ref")=>`(tactic| (k_here; refine Stop.mk ?_))
local macro_rules | `(tactic| walk_at "binaryOp Mod int int")=>`(tactic| (k_here; refine Stop.mk ?_))
theorem PySem.Challenge.cw_ti0079_01_holds : PySem.Challenge.rw_ti0079_01.Holds := by
  w_on
  refine holds_law Mine.said_all fun said => ?_
  refine holds_open (q := Mine.view) (loose := Mine.loose) (Xt := Mine.XtH) (XP := XL Mine.view []) (Yf := Hook.obs (kmHook Mine.KF Mine.as Mine.as_eq [123])) (Ya := Hook.val (kmHook Mine.KF Mine.as Mine.as_eq [123])) (YP := Hook.says (kmHook Mine.KF Mine.as Mine.as_eq [123])) (N := 400000) Mine.left (Hook.of (kmHook Mine.KF Mine.as Mine.as_eq [123])) (Hook.keeps (kmHook Mine.KF Mine.as Mine.as_eq [123])) (fun s e => xl_of s (Bool.and_eq_true_iff.mp e).1) XL.keeps (by rfl) (by rfl) (by rfl) (fun s e => recFacts_of (Bool.and_eq_true_iff.mp e).2) (by rfl) (by assumption) (by decide +kernel) ⟨rfl, rfl, rfl, rfl, rfl, by decide +kernel⟩ ?hw ?hc
  case hw => w_witness2
  case hc =>
    clear said
    k_fill
    intro w s₀ s₁ mg mb G Y fa o pm cd doc dV kV ho hd hcd hD hmg hg args vals as hpre hlay hrd hwl hlo
    have KX := km_in_of Y
    km_tabs Y
    have X := (Ground.X G).1
    have V := (Ground.X G).2
    refine Ground.open G ?_
    intro T B D TE TW
    try (refine guard_noD D (by decide +kernel) ?_; clear D)
    km_lay T hmg ho hd cd
    clear hmg
    wrow_args hpre hlay hrd hwl hlo
    all_goals (
      first | refine callC_kw (enter_call ?_) | refine enter_call ?_
      w_top on
      refine kn_postG hT9 (fun _ _ => rfl) ?_
      w_call any ho hd hcd hD T F
      clear hd
      kn_ghosts F T
      k_drop
      skip)
    k_steps
    refine Stop.of ?_
    (rename Fr _ _ _ _ => F9)
    refine Assign_ListComp_PT F9 rfl (by with_unfolding_all rfl) (by with_unfolding_all rfl) (by decide) (by rfl) (by decide) (by rfl) (by rfl) (by decide) (by with_unfolding_all rfl) (by with_unfolding_all rfl) ?_
    k_steps
    refine Stop.of ?_
    refine psrc_enum (o := { cls := .type "tuple", data := .seq _ _ }) Mine.BJ rfl (by k_asm) (by k_asm) (by k_mem) rfl rfl ?hJ ?h0 ?turn ?fin
    case hJ => exact fun i ys h => Nat.le_trans h.le (by rw [sizeLine_eq]; decide)
    case h0 => exact .mk [] (Nat.zero_le _) rfl .nil (fun _ h => nomatch h)
    case turn =>
      rintro h9 tk9 i v0 v1 C9 oC9 D9 m9 ys9 own9 h8 tk8 E9 hP hj9 hC9 hma hmb F8 N8 off8 ne8
      simp only [List.cons_append, List.nil_append] at N8
      have hE := Mine.enum_bases hP
      clear hP
      obtain ⟨t9, tb9, b9, hi9, hb0, hb1⟩ := hE
      dsimp only
      k_steps
      refine Stop.of ?_
      k_dflt (refine' step_slice ?F ?N ?l ?i ?z ?_ ?s ?t; (case F | N => k_asm); (case l => kmk_list); (case i => assumption); (case z => (rw [IntsAre.length (by assumption), sizeLine_eq]; lia)); (case s => with_unfolding_all rfl); (case t => kmk_pure))
      intro D7 ws7 ms7 h7 F7 N7 l7 hi7
      k_steps
      refine Stop.of ?_
      k_dflt (refine pk_mod (by first | decide | lia) ?_)
      intro kq tq qq eq aq bq
      k_steps
      refine ⟨_, _, rfl, by k_asm, by first | k_asm | (refine' cb_drop ?cbN ?cbS; (case cbN => k_asm); (case cbS => kcj_all)), hj9.push hi9 (by assumption) (by assumption)⟩
    case fin =>
      rintro h9 tk9 D9 h8 tk8 ys9 ⟨ns9, -, hj9, hj8, hj7⟩ l9 F8 N8
      dsimp only
      obtain ⟨c0, c1, c2, c3, c4, c5, c6, c7, c8, u0, u1, u2, u3, u4, u5, u6, u7, u8⟩ := nine hj8 hj9
      have l7 := ltN (l9 _ (.tail _ (.head _)))
      k_lt l9
      simp only [LCg.lst] at N8
      replace N8 := news_keep [true, false] N8
      dsimp only [keepL] at N8
      have hc9 := hj7
      (rename Top _ _ _ _ _ _ => T9)
      (rename Below _ _ _ _ => B9)
      (rename Frag.In _ _ => X9)
      with_reducible refine stage2b (Dc := D9) (fa := fa) (cd := cd) ?eb ?ee B9 F8 X9 T9 ?hL ?hD N8 ?d7 ?d6 ?d5 ?d4 ?d3 ?d2 hj8 hj7 ?gb ?ret
      case eb | ee => kernel_rfl
      case hL => assumption
      case hD => exact l7
      case d7 | d6 | d5 | d4 | d3 | d2 => assumption
      case gb => exact AllBare.of_eq hg
      case ret =>
        intro m' ps h' tk' ga dr hga F7 N7
        refine ⟨⟨goodW_bool F7 rfl (fun _ => by with_unfolding_all rfl) (by with_unfolding_all rfl), hga⟩, ?_⟩
        exact And.intro (GrownAt.of N7 (.head _)) True.intro
