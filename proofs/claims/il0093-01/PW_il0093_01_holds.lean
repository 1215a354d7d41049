import PyProof.Rows.All
import Wide.All
import OpenK.AllK
import Wide.FinOn
import KE.KPop
import KE.KDictIter
import KE.KStopIter
import OpenK.KOwn
import PyProof.Rows.TupMore
import KE.KStar
import KE.KBoundM
import PyProof.Rows.Range3
import PyProof.TupleOfGen
import Lean
import PySem.Challenge.RW_il0093_01
set_option tactic.hygienic false
set_option maxRecDepth 100000
set_option maxHeartbeats 8000000
set_option linter.all false
set_option genInjectivity false
set_option compiler.extract_closed false
set_option genSizeOf false
set_option Elab.async false
namespace Mine
open PySem PySem.W PySem.Spec PySem.Calls PyProof.Rows
open PySem renaming wpAny_bind->wBi,wpAny_pure->wP,wpAny->wA,Value->Vl,PyData->PyD,Shared->SD,Heap->Hp,Expr->Ep,Addr->Ad,Around->Ar,starEach->sE
section
noncomputable def iw(i:Nat):Stmt:=PySem.Challenge.pw_il0093_01.main.body.getD i default
noncomputable def kz(i j:Nat):Stmt:=match iw i with
 | .ClassDef _ _ _ b _ _ _ _ _ _ _=>b.getD j default
 |_=>default
noncomputable def bx:Stmt->Arguments×List Stmt×Scope
 | .FunctionDef _ a b _ _ _ sc _ _ _=>(a,b,sc)
 |_=>default
noncomputable abbrev s(x:String):Str:=Str.ofString x
noncomputable abbrev vs(x:String)(t:Tok):Vl:=.str (s x) t
noncomputable abbrev en(P:Params)(x:String)(t:Tok)(v:Vl):DictEntry:=⟨PyD.keyHash P (s x),.str (s x) t,v⟩
noncomputable abbrev l5(n q:String)(l:Arguments×List Stmt×Scope)(d:Vl)(m:String)(t:Tok)(c:Ad):Obj:=⟨.type "function",none,.func ⟨s n,s q,l.1,.stmts l.2.1,l.2.2,3,[],d,.none,.none,vs m t,none,.ref c,.none,0⟩,#[]⟩
local macro_rules | `(tactic| trivial) => `(tactic| (refine ⟨?t, ?h⟩; case h => (conv => lhs; whnf)))
noncomputable def Fc:{t:Arguments×List Stmt×Scope // bx (kz 4 1)=t}:=by trivial
noncomputable def E9:{t:Arguments×List Stmt×Scope // bx (kz 6 0)=t}:=by trivial
noncomputable def EU:{t:Arguments×List Stmt×Scope // bx (kz 6 1)=t}:=by trivial
noncomputable def Fv:{t:Arguments×List Stmt×Scope // bx (kz 6 2)=t}:=by trivial
noncomputable def Ez:{t:Arguments×List Stmt×Scope // bx (kz 6 3)=t}:=by trivial
noncomputable def FM:{t:Arguments×List Stmt×Scope // bx (kz 6 4)=t}:=by trivial
noncomputable def CG:{t:Arguments×List Stmt×Scope // bx (kz 6 7)=t}:=by trivial
noncomputable def Dv:{t:Arguments×List Stmt×Scope // bx (kz 6 8)=t}:=by trivial
noncomputable def DP:{t:Arguments×List Stmt×Scope // bx (iw 15)=t}:=by trivial
noncomputable def Dq:{t:Arguments×List Stmt×Scope // bx (iw 19)=t}:=by trivial
noncomputable def DU:{t:Arguments×List Stmt×Scope // bx (iw 20)=t}:=by trivial
noncomputable def DL:{t:Arguments×List Stmt×Scope // bx (iw 21)=t}:=by trivial
noncomputable def DR:{t:Arguments×List Stmt×Scope // bx (iw 22)=t}:=by trivial
noncomputable def Dt:{t:Arguments×List Stmt×Scope // bx (iw 24)=t}:=by trivial
noncomputable def CY:{t:Arguments×List Stmt×Scope // bx (iw 25)=t}:=by trivial
noncomputable def D3:{t:Arguments×List Stmt×Scope // bx (iw 27)=t}:=by trivial
noncomputable def D8:{t:Arguments×List Stmt×Scope // bx (iw 28)=t}:=by trivial
noncomputable def Cz:{t:Arguments×List Stmt×Scope // bx (iw 29)=t}:=by trivial
noncomputable def D4:{t:Arguments×List Stmt×Scope // bx (iw 30)=t}:=by trivial
noncomputable def Dx:{t:Arguments×List Stmt×Scope // bx (iw 31)=t}:=by trivial
noncomputable def D0:{t:Arguments×List Stmt×Scope // bx (iw 32)=t}:=by trivial
noncomputable def Db:{t:Arguments×List Stmt×Scope // bx (iw 33)=t}:=by trivial
noncomputable def Al:{t:Arguments×List Stmt×Scope // bx (iw 34)=t}:=by trivial
noncomputable abbrev O2(P:Params):Obj:=Obj.mk Vl.none none (Data.dict #[]) #[]
noncomputable abbrev O3(P:Params):Obj:=Obj.mk (Vl.type "dict") none (Data.dict #[en P "__name__" 165 (vs "law_il0093_01" 547),en P "__doc__" 166 Vl.none,en P "__package__" 167 Vl.none,en P "__loader__" 168 (Vl.builtin "__main__.__loader__#opaque"),en P "__spec__" 169 Vl.none,en P "__annotations__" 170 (Vl.ref 6),en P "__builtins__" 171 (Vl.ref 4),en P "__file__" 173 (vs "/claim/cut.py" 172),en P "__cached__" 174 Vl.none,en P "_wall" 193 (Vl.ref 21),en P "_NODE_OUT" 198 (Vl.int (-1) 197),en P "_NODE_DONE" 201 (Vl.int (-2) 200),en P "_NodeInfo" 238 (Vl.ref 40),en P "CycleError" 256 (Vl.ref 55),en P "TopologicalSorter" 375 (Vl.ref 137),en P "_plain_name" 386 (Vl.ref 148),en P "ABCMeta" 412 (Vl.ref 165),en P "_ABCLike" 455 (Vl.ref 198),en P "_abc_plain_meta" 462 (Vl.ref 207),en P "fspath" 474 (Vl.ref 214),en P "_check_arg_types" 487 (Vl.ref 221),en P "_get_sep" 496 (Vl.ref 228),en P "join" 507 (Vl.ref 235),en P "dirname" 517 (Vl.ref 242),en P "commonpath" 523 (Vl.ref 247),en P "_deduplicate_unhashable" 534 (Vl.ref 254),en P "_compare_args_orderless" 546 (Vl.ref 261),en P "_law_folders" 557 (Vl.ref 268),en P "_law_row" 563 (Vl.ref 273),en P "_law_run" 569 (Vl.ref 278),en P "_law_marks" 575 (Vl.ref 283),en P "_law_let" 587 (Vl.ref 290),en P "_law_orders" 593 (Vl.ref 295),en P "_law_led" 599 (Vl.ref 300),en P "law" 605 (Vl.ref 305)] 35) #[]
noncomputable abbrev Fe(P:Params):Obj:=Obj.mk (Vl.type "code") none (Data.fields #[vs "__init__" 218,vs "_NodeInfo.__init__" 219,vs "/claim/cut.py" 220,Vl.int 10 0,Vl.int 2 0,Vl.int 0 0,Vl.int 0 0,Vl.int 3 0,Vl.ref 30,Vl.bool true,Vl.int 181 0,Vl.ref 31,Vl.none,Vl.ref 32,Vl.ref 33,Vl.ref 34,Vl.int 223 0,Vl.int 10 0,vs "/claim/cut.py" 224]) #[]
noncomputable abbrev EC(P:Params):Obj:=l5 "__init__" "_NodeInfo.__init__" Fc.1 Vl.none "cpy313.graphlib" 194 35
noncomputable abbrev FE(P:Params):Obj:=Obj.mk (Vl.type "dict") none (Data.dict #[en P "__module__" 209 (vs "cpy313.graphlib" 194),en P "__firstlineno__" 213 (Vl.int 7 212),en P "__slots__" 217 (Vl.ref 29),en P "__init__" 225 (Vl.ref 36),en P "__static_attributes__" 229 (Vl.ref 37),en P "node" 231 (Vl.ref 41),en P "npredecessors" 233 (Vl.ref 42),en P "successors" 235 (Vl.ref 43),en P "__doc__" 236 Vl.none] 5) #[]
noncomputable abbrev EO(P:Params):Obj:=Obj.mk (Vl.type "type") none (Data.cls (ClassData.mk (s "_NodeInfo") [Vl.type "object"] [Vl.ref 40,Vl.type "object"] 39 (s "_NodeInfo") false [s "node",s "npredecessors",s "successors"] [] false none false)) #[none,none,some (vs "_NodeInfo" 202),some (vs "_NodeInfo" 210),some (Vl.builtin "object.__new__"),some (Vl.bool false)]
noncomputable abbrev EQ(P:Params):Obj:=Obj.mk (Vl.type "member_descriptor") none (Data.fields #[vs "node" 230,Vl.ref 40,Vl.builtin "proto.slot",Vl.builtin "proto.slot#set",Vl.int 2 0]) #[]
noncomputable abbrev E2(P:Params):Obj:=Obj.mk (Vl.type "member_descriptor") none (Data.fields #[vs "npredecessors" 232,Vl.ref 40,Vl.builtin "proto.slot",Vl.builtin "proto.slot#set",Vl.int 1 0]) #[]
noncomputable abbrev EX(P:Params):Obj:=Obj.mk (Vl.type "member_descriptor") none (Data.fields #[vs "successors" 234,Vl.ref 40,Vl.builtin "proto.slot",Vl.builtin "proto.slot#set",Vl.int 0 0]) #[]
noncomputable abbrev ET(P:Params):Obj:=Obj.mk (Vl.type "tuple") none (Data.seq #[Vl.type "ValueError"]) #[]
noncomputable abbrev E0(P:Params):Obj:=Obj.mk (Vl.type "dict") none (Data.dict #[en P "__module__" 246 (vs "cpy313.graphlib" 194),en P "__firstlineno__" 250 (Vl.int 14 249),en P "__static_attributes__" 251 (Vl.ref 53),en P "__weakref__" 253 (Vl.ref 56),en P "__doc__" 254 Vl.none] 3) #[]
noncomputable abbrev E8(P:Params):Obj:=Obj.mk (Vl.type "type") none (Data.cls (ClassData.mk (s "CycleError") [Vl.type "ValueError"] [Vl.ref 55,Vl.type "ValueError",Vl.type "Exception",Vl.type "BaseException",Vl.type "object"] 54 (s "CycleError") true [] [] false none false)) #[some (Vl.ref 46),none,some (vs "CycleError" 239),some (vs "CycleError" 247),some (Vl.builtin "ValueError.__new__"),some (Vl.bool true)]
noncomputable abbrev Fr(P:Params):Obj:=Obj.mk (Vl.type "getset_descriptor") none (Data.fields #[vs "__weakref__" 252,Vl.ref 55,Vl.builtin "ExceptionGroup.__weakref__",Vl.none]) #[]
noncomputable abbrev Ec(P:Params):Obj:=Obj.mk (Vl.type "tuple") none (Data.seq #[Vl.none]) #[]
noncomputable abbrev EM(P:Params):Obj:=Obj.mk (Vl.type "code") none (Data.fields #[vs "__init__" 269,vs "TopologicalSorter.__init__" 270,vs "/claim/cut.py" 271,Vl.int 18 0,Vl.int 2 0,Vl.int 0 0,Vl.int 0 0,Vl.int 3 0,Vl.ref 67,Vl.bool true,Vl.int 181 0,Vl.ref 68,Vl.none,Vl.ref 69,Vl.ref 70,Vl.ref 71,Vl.int 276 0,Vl.int 18 0,vs "/claim/cut.py" 277]) #[]
noncomputable abbrev FL(P:Params):Obj:=l5 "__init__" "TopologicalSorter.__init__" E9.1 (Vl.ref 66) "cpy313.graphlib" 194 72
noncomputable abbrev ED(P:Params):Obj:=Obj.mk (Vl.type "code") none (Data.fields #[vs "_get_nodeinfo" 279,vs "TopologicalSorter._get_nodeinfo" 280,vs "/claim/cut.py" 281,Vl.int 27 0,Vl.int 2 0,Vl.int 0 0,Vl.int 0 0,Vl.int 3 0,Vl.ref 74,Vl.bool true,Vl.int 181 0,Vl.ref 75,Vl.none,Vl.ref 76,Vl.ref 77,Vl.ref 78,Vl.int 285 0,Vl.int 27 0,vs "/claim/cut.py" 286]) #[]
noncomputable abbrev FA(P:Params):Obj:=l5 "_get_nodeinfo" "TopologicalSorter._get_nodeinfo" EU.1 Vl.none "cpy313.graphlib" 194 79
noncomputable abbrev E1(P:Params):Obj:=Obj.mk (Vl.type "code") none (Data.fields #[vs "add" 288,vs "TopologicalSorter.add" 289,vs "/claim/cut.py" 290,Vl.int 32 0,Vl.int 2 0,Vl.int 0 0,Vl.int 0 0,Vl.int 7 0,Vl.ref 81,Vl.bool true,Vl.int 181 0,Vl.ref 82,Vl.none,Vl.ref 83,Vl.ref 84,Vl.ref 85,Vl.int 297 0,Vl.int 32 0,vs "/claim/cut.py" 298]) #[]
noncomputable abbrev Fy(P:Params):Obj:=l5 "add" "TopologicalSorter.add" Fv.1 Vl.none "cpy313.graphlib" 194 86
noncomputable abbrev EG(P:Params):Obj:=Obj.mk (Vl.type "code") none (Data.fields #[vs "prepare" 300,vs "TopologicalSorter.prepare" 301,vs "/claim/cut.py" 302,Vl.int 41 0,Vl.int 1 0,Vl.int 0 0,Vl.int 0 0,Vl.int 3 0,Vl.ref 88,Vl.bool true,Vl.int 181 0,Vl.ref 89,Vl.none,Vl.none,Vl.none,Vl.ref 90,Vl.int 303 0,Vl.int 41 0,vs "/claim/cut.py" 304]) #[]
noncomputable abbrev FW(P:Params):Obj:=l5 "prepare" "TopologicalSorter.prepare" Ez.1 Vl.none "cpy313.graphlib" 194 91
noncomputable abbrev FC(P:Params):Obj:=Obj.mk (Vl.type "code") none (Data.fields #[vs "get_ready" 306,vs "TopologicalSorter.get_ready" 307,vs "/claim/cut.py" 308,Vl.int 49 0,Vl.int 1 0,Vl.int 0 0,Vl.int 0 0,Vl.int 3 0,Vl.ref 93,Vl.bool true,Vl.int 181 0,Vl.ref 94,Vl.none,Vl.ref 95,Vl.ref 96,Vl.ref 97,Vl.int 313 0,Vl.int 49 0,vs "/claim/cut.py" 314]) #[]
noncomputable abbrev Ft(P:Params):Obj:=l5 "get_ready" "TopologicalSorter.get_ready" FM.1 Vl.none "cpy313.graphlib" 194 98
noncomputable abbrev D6(P:Params):Obj:=Obj.mk (Vl.type "code") none (Data.fields #[vs "done" 330,vs "TopologicalSorter.done" 331,vs "/claim/cut.py" 332,Vl.int 68 0,Vl.int 1 0,Vl.int 0 0,Vl.int 0 0,Vl.int 7 0,Vl.ref 114,Vl.bool true,Vl.int 181 0,Vl.ref 115,Vl.none,Vl.ref 116,Vl.ref 117,Vl.ref 118,Vl.int 341 0,Vl.int 68 0,vs "/claim/cut.py" 342]) #[]
noncomputable abbrev CL(P:Params):Obj:=l5 "done" "TopologicalSorter.done" CG.1 Vl.none "cpy313.graphlib" 194 119
noncomputable abbrev C6(P:Params):Obj:=Obj.mk (Vl.type "code") none (Data.fields #[vs "_find_cycle" 344,vs "TopologicalSorter._find_cycle" 345,vs "/claim/cut.py" 346,Vl.int 91 0,Vl.int 1 0,Vl.int 0 0,Vl.int 0 0,Vl.int 3 0,Vl.ref 121,Vl.bool true,Vl.int 181 0,Vl.ref 122,Vl.none,Vl.ref 123,Vl.ref 124,Vl.ref 125,Vl.int 354 0,Vl.int 91 0,vs "/claim/cut.py" 355]) #[]
noncomputable abbrev DE(P:Params):Obj:=l5 "_find_cycle" "TopologicalSorter._find_cycle" Dv.1 Vl.none "cpy313.graphlib" 194 126
noncomputable abbrev DN(P:Params):Obj:=Obj.mk (Vl.type "dict") none (Data.dict #[en P "__module__" 264 (vs "cpy313.graphlib" 194),en P "__firstlineno__" 268 (Vl.int 16 267),en P "__init__" 278 (Vl.ref 73),en P "_get_nodeinfo" 287 (Vl.ref 80),en P "add" 299 (Vl.ref 87),en P "prepare" 305 (Vl.ref 92),en P "get_ready" 315 (Vl.ref 99),en P "is_active" 322 (Vl.ref 106),en P "__bool__" 329 (Vl.ref 113),en P "done" 343 (Vl.ref 120),en P "_find_cycle" 356 (Vl.ref 127),en P "static_order" 363 (Vl.ref 134),en P "__static_attributes__" 368 (Vl.ref 135),en P "__dict__" 370 (Vl.ref 138),en P "__weakref__" 372 (Vl.ref 139),en P "__doc__" 373 Vl.none] 4) #[]
noncomputable abbrev DQ(P:Params):Obj:=Obj.mk (Vl.type "type") none (Data.cls (ClassData.mk (s "TopologicalSorter") [Vl.type "object"] [Vl.ref 137,Vl.type "object"] 136 (s "TopologicalSorter") true [] [] false none false)) #[none,none,some (vs "TopologicalSorter" 257),some (vs "TopologicalSorter" 265),some (Vl.builtin "object.__new__"),some (Vl.bool true)]
noncomputable abbrev CA(P:Params):Obj:=Obj.mk (Vl.type "getset_descriptor") none (Data.fields #[vs "__dict__" 369,Vl.ref 137,Vl.builtin "function.__dict__",Vl.builtin "function.__dict__#set"]) #[]
noncomputable abbrev C4(P:Params):Obj:=Obj.mk (Vl.type "getset_descriptor") none (Data.fields #[vs "__weakref__" 371,Vl.ref 137,Vl.builtin "ExceptionGroup.__weakref__",Vl.none]) #[]
noncomputable abbrev DF(P:Params):Obj:=Obj.mk (Vl.type "code") none (Data.fields #[vs "fspath" 465,vs "fspath" 466,vs "/claim/cut.py" 467,Vl.int 153 0,Vl.int 1 0,Vl.int 0 0,Vl.int 0 0,Vl.int 3 0,Vl.ref 208,Vl.bool true,Vl.int 181 0,Vl.ref 209,Vl.none,Vl.ref 210,Vl.ref 211,Vl.ref 212,Vl.int 472 0,Vl.int 153 0,vs "/claim/cut.py" 473]) #[]
noncomputable abbrev DG(P:Params):Obj:=l5 "fspath" "fspath" DP.1 Vl.none "os" 463 213
noncomputable abbrev Df(P:Params):Obj:=Obj.mk (Vl.type "code") none (Data.fields #[vs "_get_sep" 490,vs "_get_sep" 491,vs "/claim/cut.py" 492,Vl.int 182 0,Vl.int 1 0,Vl.int 0 0,Vl.int 0 0,Vl.int 3 0,Vl.ref 222,Vl.bool true,Vl.int 181 0,Vl.ref 223,Vl.none,Vl.ref 224,Vl.ref 225,Vl.ref 226,Vl.int 494 0,Vl.int 182 0,vs "/claim/cut.py" 495]) #[]
noncomputable abbrev DM(P:Params):Obj:=l5 "_get_sep" "_get_sep" Dq.1 Vl.none "cpy313.posixpath" 488 227
noncomputable abbrev CH(P:Params):Obj:=Obj.mk (Vl.type "code") none (Data.fields #[vs "join" 497,vs "join" 498,vs "/claim/cut.py" 499,Vl.int 187 0,Vl.int 1 0,Vl.int 0 0,Vl.int 0 0,Vl.int 7 0,Vl.ref 229,Vl.bool true,Vl.int 181 0,Vl.ref 230,Vl.none,Vl.ref 231,Vl.ref 232,Vl.ref 233,Vl.int 505 0,Vl.int 187 0,vs "/claim/cut.py" 506]) #[]
noncomputable abbrev DH(P:Params):Obj:=l5 "join" "join" DU.1 Vl.none "cpy313.posixpath" 488 234
noncomputable abbrev Dn(P:Params):Obj:=Obj.mk (Vl.type "code") none (Data.fields #[vs "dirname" 508,vs "dirname" 509,vs "/claim/cut.py" 510,Vl.int 204 0,Vl.int 1 0,Vl.int 0 0,Vl.int 0 0,Vl.int 3 0,Vl.ref 236,Vl.bool true,Vl.int 181 0,Vl.ref 237,Vl.none,Vl.ref 238,Vl.ref 239,Vl.ref 240,Vl.int 515 0,Vl.int 204 0,vs "/claim/cut.py" 516]) #[]
noncomputable abbrev D7(P:Params):Obj:=l5 "dirname" "dirname" DL.1 Vl.none "cpy313.posixpath" 488 241
noncomputable abbrev Dg(P:Params):Obj:=Obj.mk (Vl.type "code") none (Data.fields #[vs "commonpath" 518,vs "commonpath" 519,vs "/claim/cut.py" 520,Vl.int 212 0,Vl.int 1 0,Vl.int 0 0,Vl.int 0 0,Vl.int 3 0,Vl.ref 243,Vl.bool true,Vl.int 181 0,Vl.ref 244,Vl.none,Vl.none,Vl.none,Vl.ref 245,Vl.int 521 0,Vl.int 212 0,vs "/claim/cut.py" 522]) #[]
noncomputable abbrev Cv(P:Params):Obj:=l5 "commonpath" "commonpath" DR.1 Vl.none "cpy313.posixpath" 488 246
noncomputable abbrev C9(P:Params):Obj:=Obj.mk (Vl.type "code") none (Data.fields #[vs "_deduplicate_unhashable" 526,vs "_deduplicate_unhashable" 527,vs "/claim/cut.py" 528,Vl.int 242 0,Vl.int 1 0,Vl.int 0 0,Vl.int 0 0,Vl.int 3 0,Vl.ref 248,Vl.bool true,Vl.int 181 0,Vl.ref 249,Vl.none,Vl.ref 250,Vl.ref 251,Vl.ref 252,Vl.int 532 0,Vl.int 242 0,vs "/claim/cut.py" 533]) #[]
noncomputable abbrev C1(P:Params):Obj:=l5 "_deduplicate_unhashable" "_deduplicate_unhashable" Dt.1 Vl.none "cpy313.typing" 524 253
noncomputable abbrev Dm(P:Params):Obj:=Obj.mk (Vl.type "code") none (Data.fields #[vs "_compare_args_orderless" 535,vs "_compare_args_orderless" 536,vs "/claim/cut.py" 537,Vl.int 248 0,Vl.int 2 0,Vl.int 0 0,Vl.int 0 0,Vl.int 3 0,Vl.ref 255,Vl.bool true,Vl.int 181 0,Vl.ref 256,Vl.none,Vl.ref 257,Vl.ref 258,Vl.ref 259,Vl.int 544 0,Vl.int 248 0,vs "/claim/cut.py" 545]) #[]
noncomputable abbrev DX(P:Params):Obj:=l5 "_compare_args_orderless" "_compare_args_orderless" CY.1 Vl.none "cpy313.typing" 524 260
noncomputable abbrev Ct(P:Params):Obj:=Obj.mk (Vl.type "code") none (Data.fields #[vs "_law_folders" 549,vs "_law_folders" 550,vs "/claim/cut.py" 551,Vl.int 259 0,Vl.int 1 0,Vl.int 0 0,Vl.int 0 0,Vl.int 3 0,Vl.ref 262,Vl.bool true,Vl.int 181 0,Vl.ref 263,Vl.none,Vl.ref 264,Vl.ref 265,Vl.ref 266,Vl.int 555 0,Vl.int 259 0,vs "/claim/cut.py" 556]) #[]
noncomputable abbrev Cw(P:Params):Obj:=l5 "_law_folders" "_law_folders" D3.1 Vl.none "law_il0093_01" 547 267
noncomputable abbrev DB(P:Params):Obj:=Obj.mk (Vl.type "code") none (Data.fields #[vs "_law_row" 558,vs "_law_row" 559,vs "/claim/cut.py" 560,Vl.int 265 0,Vl.int 3 0,Vl.int 0 0,Vl.int 0 0,Vl.int 3 0,Vl.ref 269,Vl.bool true,Vl.int 181 0,Vl.ref 270,Vl.none,Vl.none,Vl.none,Vl.ref 271,Vl.int 561 0,Vl.int 265 0,vs "/claim/cut.py" 562]) #[]
noncomputable abbrev Dd(P:Params):Obj:=l5 "_law_row" "_law_row" D8.1 Vl.none "law_il0093_01" 547 272
noncomputable abbrev CZ(P:Params):Obj:=Obj.mk (Vl.type "code") none (Data.fields #[vs "_law_run" 564,vs "_law_run" 565,vs "/claim/cut.py" 566,Vl.int 283 0,Vl.int 3 0,Vl.int 0 0,Vl.int 0 0,Vl.int 3 0,Vl.ref 274,Vl.bool true,Vl.int 181 0,Vl.ref 275,Vl.none,Vl.none,Vl.none,Vl.ref 276,Vl.int 567 0,Vl.int 283 0,vs "/claim/cut.py" 568]) #[]
noncomputable abbrev CE(P:Params):Obj:=l5 "_law_run" "_law_run" Cz.1 Vl.none "law_il0093_01" 547 277
noncomputable abbrev CK(P:Params):Obj:=Obj.mk (Vl.type "code") none (Data.fields #[vs "_law_marks" 570,vs "_law_marks" 571,vs "/claim/cut.py" 572,Vl.int 299 0,Vl.int 1 0,Vl.int 0 0,Vl.int 0 0,Vl.int 3 0,Vl.ref 279,Vl.bool true,Vl.int 181 0,Vl.ref 280,Vl.none,Vl.none,Vl.none,Vl.ref 281,Vl.int 573 0,Vl.int 299 0,vs "/claim/cut.py" 574]) #[]
noncomputable abbrev Di(P:Params):Obj:=l5 "_law_marks" "_law_marks" D4.1 Vl.none "law_il0093_01" 547 282
noncomputable abbrev DS(P:Params):Obj:=Obj.mk (Vl.type "code") none (Data.fields #[vs "_law_let" 576,vs "_law_let" 577,vs "/claim/cut.py" 578,Vl.int 304 0,Vl.int 2 0,Vl.int 0 0,Vl.int 0 0,Vl.int 3 0,Vl.ref 284,Vl.bool true,Vl.int 181 0,Vl.ref 285,Vl.none,Vl.ref 286,Vl.ref 287,Vl.ref 288,Vl.int 585 0,Vl.int 304 0,vs "/claim/cut.py" 586]) #[]
noncomputable abbrev Dp(P:Params):Obj:=l5 "_law_let" "_law_let" Dx.1 Vl.none "law_il0093_01" 547 289
noncomputable abbrev DY(P:Params):Obj:=Obj.mk (Vl.type "code") none (Data.fields #[vs "_law_orders" 588,vs "_law_orders" 589,vs "/claim/cut.py" 590,Vl.int 318 0,Vl.int 2 0,Vl.int 0 0,Vl.int 0 0,Vl.int 3 0,Vl.ref 291,Vl.bool true,Vl.int 181 0,Vl.ref 292,Vl.none,Vl.none,Vl.none,Vl.ref 293,Vl.int 591 0,Vl.int 318 0,vs "/claim/cut.py" 592]) #[]
noncomputable abbrev Cu(P:Params):Obj:=l5 "_law_orders" "_law_orders" D0.1 Vl.none "law_il0093_01" 547 294
noncomputable abbrev CO(P:Params):Obj:=Obj.mk (Vl.type "code") none (Data.fields #[vs "_law_led" 594,vs "_law_led" 595,vs "/claim/cut.py" 596,Vl.int 332 0,Vl.int 1 0,Vl.int 0 0,Vl.int 0 0,Vl.int 3 0,Vl.ref 296,Vl.bool true,Vl.int 181 0,Vl.ref 297,Vl.none,Vl.none,Vl.none,Vl.ref 298,Vl.int 597 0,Vl.int 332 0,vs "/claim/cut.py" 598]) #[]
noncomputable abbrev Dr(P:Params):Obj:=l5 "_law_led" "_law_led" Db.1 Vl.none "law_il0093_01" 547 299
noncomputable abbrev Dw(P:Params):Obj:=Obj.mk (Vl.type "code") none (Data.fields #[vs "law" 600,vs "law" 601,vs "/claim/cut.py" 602,Vl.int 341 0,Vl.int 1 0,Vl.int 0 0,Vl.int 0 0,Vl.int 3 0,Vl.ref 301,Vl.bool true,Vl.int 181 0,Vl.ref 302,Vl.none,Vl.none,Vl.none,Vl.ref 303,Vl.int 603 0,Vl.int 341 0,vs "/claim/cut.py" 604]) #[]
noncomputable abbrev Dz(P:Params):Obj:=l5 "law" "law" Al.1 Vl.none "law_il0093_01" 547 304
noncomputable abbrev K0(P:Params):Frag:=[(2,O2 P),(3,O3 P),(35,Fe P),(36,EC P),(39,FE P),(40,EO P),(41,EQ P),(42,E2 P)]
noncomputable abbrev K1(P:Params):Frag:=[(43,EX P),(46,ET P),(54,E0 P),(55,E8 P),(56,Fr P),(66,Ec P),(72,EM P),(73,FL P)]
noncomputable abbrev K2(P:Params):Frag:=[(79,ED P),(80,FA P),(86,E1 P),(87,Fy P),(91,EG P),(92,FW P),(98,FC P),(99,Ft P)]
noncomputable abbrev K3(P:Params):Frag:=[(119,D6 P),(120,CL P),(126,C6 P),(127,DE P),(136,DN P),(137,DQ P),(138,CA P),(139,C4 P)]
noncomputable abbrev K4(P:Params):Frag:=[(213,DF P),(214,DG P),(227,Df P),(228,DM P),(234,CH P),(235,DH P),(241,Dn P),(242,D7 P)]
noncomputable abbrev K5(P:Params):Frag:=[(246,Dg P),(247,Cv P),(253,C9 P),(254,C1 P),(260,Dm P),(261,DX P),(267,Ct P),(268,Cw P)]
noncomputable abbrev K6(P:Params):Frag:=[(272,DB P),(273,Dd P),(277,CZ P),(278,CE P),(282,CK P),(283,Di P),(289,DS P),(290,Dp P)]
noncomputable abbrev K7(P:Params):Frag:=[(294,DY P),(295,Cu P),(299,CO P),(300,Dr P),(304,Dw P),(305,Dz P)]
noncomputable def KK(P:Params):Frag:=K0 P ++(K1 P ++(K2 P ++(K3 P ++(K4 P ++(K5 P ++(K6 P ++(K7 P)))))))
noncomputable def KA:List Ad:=[2,3,35,36,39,40,41,42,43,46,54,55,56,66,72,73,79,80,86,87,91,92,98,99,119,120,126,127,136,137,138,139,213,214,227,228,234,235,241,242,246,247,253,254,260,261,267,268,272,273,277,278,282,283,289,290,294,295,299,300,304,305]
end
noncomputable def q0:Program:=view PySem.Challenge.pw_il0093_01 [34]
noncomputable def tz:List Str:=[s "_wall",s "_NODE_OUT",s "_NODE_DONE",s "_NodeInfo",s "CycleError",s "TopologicalSorter",s "_plain_name",s "ABCMeta",s "_ABCLike",s "_abc_plain_meta",s "fspath",s "_check_arg_types",s "_get_sep",s "join",s "dirname",s "commonpath",s "_deduplicate_unhashable",s "_compare_args_orderless",s "_law_folders",s "_law_row",s "_law_run",s "_law_marks",s "_law_let",s "_law_orders",s "_law_led"]
theorem left:LeftO PySem.Challenge.pw_il0093_01 q0 tz (fun s=>xlAt q0 [] s&&recOk (RowW.records (OpenRow.toRowW PySem.Challenge.rw_il0093_01.row)) s) (fun s=>KA.map s.heap.get?) (fun w=>(KK w.params).map fun p=>some p.2) 5000:=by
 intro w
 unfold openEnds topFrom fencedOpening
 rw[PySem.W.Fast.te14082659384304107361,PySem.W.Fast.te10274390034422433532,PySem.W.Fast.te14364793385576792824,PySem.W.Fast.te14289696077712309145,PySem.W.Fast.te4187177175401517315]
 kernel_rfl
noncomputable def d0:DefRec:=⟨s "law",Al.1.1,Al.1.2.1,Al.1.2.2,⟨341,0,355,15⟩⟩
noncomputable abbrev H0:Hook:=kHook KK KA (fun O=>by kernel_rfl)
theorem hd(walk:WalkO q0 tz (XL q0 []) H0.says (OpenRow.toRowW PySem.Challenge.rw_il0093_01.row) d0 [] (fun f vs=>PySem.call f vs)):PySem.Challenge.rw_il0093_01.Holds:=by
 w_on
 refine holds_law (by kernel_rfl) fun said=>?_
 refine holds_open (q:=q0) (loose:=tz) (Xt:=fun s=>xlAt q0 [] s&&recOk (RowW.records (OpenRow.toRowW PySem.Challenge.rw_il0093_01.row)) s) (XP:=XL q0 []) (Yf:=Hook.obs H0) (Ya:=Hook.val H0) (YP:=Hook.says H0) (N:=5000) (d:=d0) (kwd:=[]) left (Hook.of H0) (Hook.keeps H0) (fun s e=>xl_of s (Bool.and_eq_true_iff.mp e).1) XL.keeps (by kernel_rfl) (by kernel_rfl) (by rfl) (fun s e=>recFacts_of (Bool.and_eq_true_iff.mp e).2) (by rfl) said (by kernel_rfl) ⟨rfl,rfl,rfl,rfl,rfl,by kernel_rfl⟩ ?hw walk
 case hw=>w_witness2
def tq(a:Array Lean.Syntax):Lean.Syntax:=.node .none ``Lean.Parser.Tactic.tacticSeq #[.node .none ``Lean.Parser.Tactic.tacticSeq1Indented #[.node .none `null a]]
def rq:Lean.Syntax:=.node .none ``Lean.Parser.Tactic.tacticRfl #[.atom .none "rfl"]
def Rf:=tq #[rq]
def Dc:=tq #[.node .none ``Lean.Parser.Tactic.decide #[.atom .none "decide",.node .none ``Lean.Parser.Tactic.optConfig #[.node .none `null #[]]]]
def If:=tq #[.node .none ``Lean.Parser.Tactic.intro #[.atom .none "intro",.node .none `null #[.node .none ``Lean.Parser.Term.hole #[.atom .none "_"]]],.atom .none ";",rq]
def Wf:=tq #[.node .none ``Lean.Parser.Tactic.withUnfoldingAll #[.atom .none "with_unfolding_all",Rf]]
structure A3(a0 a1 a2:Prop):Prop where (h0:a0) (h1:a1) (h2:a2)
structure A4(a0 a1 a2 a3:Prop):Prop where (h0:a0) (h1:a1) (h2:a2) (h3:a3)
structure A5(a0 a1 a2 a3 a4:Prop):Prop where (h0:a0) (h1:a1) (h2:a2) (h3:a3) (h4:a4)
structure A6(a0 a1 a2 a3 a4 a5:Prop):Prop where (h0:a0) (h1:a1) (h2:a2) (h3:a3) (h4:a4) (h5:a5)
structure A7(a0 a1 a2 a3 a4 a5 a6:Prop):Prop where (h0:a0) (h1:a1) (h2:a2) (h3:a3) (h4:a4) (h5:a5) (h6:a6)
structure A8(a0 a1 a2 a3 a4 a5 a6 a7:Prop):Prop where (h0:a0) (h1:a1) (h2:a2) (h3:a3) (h4:a4) (h5:a5) (h6:a6) (h7:a7)
structure A9(a0 a1 a2 a3 a4 a5 a6 a7 a8:Prop):Prop where (h0:a0) (h1:a1) (h2:a2) (h3:a3) (h4:a4) (h5:a5) (h6:a6) (h7:a7) (h8:a8)
structure CM(a0 a1 a2 a3 a4 a5 a6 a7 a8 a9:Prop):Prop where (h0:a0) (h1:a1) (h2:a2) (h3:a3) (h4:a4) (h5:a5) (h6:a6) (h7:a7) (h8:a8) (h9:a9)
inductive X2{α0:Sort u0}{α1:Sort u1}(P:α0->α1->Prop):Prop|mk (x0:α0) (x1:α1) (h:P x0 x1):X2 P
inductive X3{α0:Sort u0}{α1:Sort u1}{α2:Sort u2}(P:α0->α1->α2->Prop):Prop|mk (x0:α0) (x1:α1) (x2:α2) (h:P x0 x1 x2):X3 P
inductive X4{α0:Sort u0}{α1:Sort u1}{α2:Sort u2}{α3:Sort u3}(P:α0->α1->α2->α3->Prop):Prop|mk (x0:α0) (x1:α1) (x2:α2) (x3:α3) (h:P x0 x1 x2 x3):X4 P
inductive X5{α0:Sort u0}{α1:Sort u1}{α2:Sort u2}{α3:Sort u3}{α4:Sort u4}(P:α0->α1->α2->α3->α4->Prop):Prop|mk (x0:α0) (x1:α1) (x2:α2) (x3:α3) (x4:α4) (h:P x0 x1 x2 x3 x4):X5 P
inductive X6{α0:Sort u0}{α1:Sort u1}{α2:Sort u2}{α3:Sort u3}{α4:Sort u4}{α5:Sort u5}(P:α0->α1->α2->α3->α4->α5->Prop):Prop|mk (x0:α0) (x1:α1) (x2:α2) (x3:α3) (x4:α4) (x5:α5) (h:P x0 x1 x2 x3 x4 x5):X6 P
inductive X7{α0:Sort u0}{α1:Sort u1}{α2:Sort u2}{α3:Sort u3}{α4:Sort u4}{α5:Sort u5}{α6:Sort u6}(P:α0->α1->α2->α3->α4->α5->α6->Prop):Prop|mk (x0:α0) (x1:α1) (x2:α2) (x3:α3) (x4:α4) (x5:α5) (x6:α6) (h:P x0 x1 x2 x3 x4 x5 x6):X7 P
inductive X8{α0:Sort u0}{α1:Sort u1}{α2:Sort u2}{α3:Sort u3}{α4:Sort u4}{α5:Sort u5}{α6:Sort u6}{α7:Sort u7}(P:α0->α1->α2->α3->α4->α5->α6->α7->Prop):Prop|mk (x0:α0) (x1:α1) (x2:α2) (x3:α3) (x4:α4) (x5:α5) (x6:α6) (x7:α7) (h:P x0 x1 x2 x3 x4 x5 x6 x7):X8 P
inductive X9{α0:Sort u0}{α1:Sort u1}{α2:Sort u2}{α3:Sort u3}{α4:Sort u4}{α5:Sort u5}{α6:Sort u6}{α7:Sort u7}{α8:Sort u8}(P:α0->α1->α2->α3->α4->α5->α6->α7->α8->Prop):Prop|mk (x0:α0) (x1:α1) (x2:α2) (x3:α3) (x4:α4) (x5:α5) (x6:α6) (x7:α7) (x8:α8) (h:P x0 x1 x2 x3 x4 x5 x6 x7 x8):X9 P
theorem jG{α:Type}{l:List α}(h:l.length=1):∃x,l=[x]:=List.length_eq_one_iff.mp h
theorem wD{α:Type}{l:List α}(h:l.length=2):X2 fun x y=>l=[x,y]:=by
 cases l with
 |nil=>cases h
 |cons x t=>
  obtain⟨y,e⟩:=jG (Nat.succ.inj h)
  exact⟨x,y,e▸rfl⟩
theorem B4{α:Type}{l:List α}(h:l.length=3):X3 fun x y z=>l=[x,y,z]:=by
 cases l with
 |nil=>cases h
 |cons x t=>
  obtain⟨y,z,e⟩:=wD (Nat.succ.inj h)
  exact⟨x,y,z,e▸rfl⟩
theorem cG{α:Type}{P:α->Prop}{a:α}(h:P a):∀y∈[a],P y:=fun y q=>List.mem_singleton.mp q▸h
theorem fL{α:Type}{P:α->Prop}{a b:α}(h:P a)(k:P b):∀y∈[a,b],P y:=fun y q=>(List.mem_cons.mp q).elim (fun e=>e▸h) (cG k y)
theorem nB{α:Type}{P:α->Prop}{a b c:α}(h:P a)(k:P b)(l:P c):∀y∈[a,b,c],P y:=fun y q=>(List.mem_cons.mp q).elim (fun e=>e▸h) (fL k l y)
theorem Da{α:Type}{P:α->Prop}{a b c d:α}(h:P a)(k:P b)(l:P c)(m:P d):∀y∈[a,b,c,d],P y:=fun y q=>(List.mem_cons.mp q).elim (fun e=>e▸h) (nB k l m y)
@[elab_as_elim] theorem Eh{α:Sort u}{a b:α}{motive:α->Prop}(h:a=b)(k:motive b):motive a:=h▸k
@[elab_as_elim] theorem Ed{α:Sort u}{a b:α}{motive:α->Prop}(h:a=b)(k:motive a):motive b:=h▸k
section
variable{a b c d e f k:Nat}{i j m:Int}
theorem o1(h:a - b=c +1):a - (b +1)=c:=congrArg Nat.pred h
theorem o3(h:0<=i)(k:i<3):i.toNat<3:=(Int.toNat_lt h).mpr k
theorem Ef(h:0<=i/\i<3):i.toNat<3:=o3 h.1 h.2
theorem o4(h:a +(b +1)<c):a +1 +b<c:=Nat.succ_add a b▸h
theorem o6 (k)(hk:k<=100)(h:a +100*(b +1)<c):a +k +100*b<c:=
 Nat.lt_of_le_of_lt (Nat.le_trans (Nat.le_of_eq (Nat.add_right_comm a k _)) (Nat.add_le_add_left hk (a +100*b))) h
theorem o5(h:a +100*(b +1)<c):a +100<c:=Nat.lt_of_le_of_lt (Nat.le_add_right _ _) (o6 100 (Nat.le_refl _) h)
theorem Fz(h:a +100*(b +1)<c):a +1<c:=Nat.lt_of_le_of_lt (Nat.le_add_right _ _) (o6 1 (by decide) h)
theorem o7(h:a - b=0)(k:b<=a):b=a:=Nat.le_antisymm k (Nat.le_of_sub_eq_zero h)
theorem o9(h:a - (b +1)=0)(k:b +1<=a):a - 1=b:=congrArg Nat.pred (o7 h k).symm
theorem Dk(h:a<=b +c)(k:b<=d +1):a<=d +(c +1):=Nat.le_trans h (Nat.le_trans (Nat.add_le_add_right k c) (Nat.le_of_eq (Nat.succ_add d c)))
theorem D1(h:a<=b +c)(k:b<=d +1):a<=d +1 +c:=Nat.le_trans h (Nat.add_le_add_right k c)
theorem CF(h:a +1 +b=c):a +(b +1)=c:=(Nat.succ_add a b).symm.trans h
theorem B2(h:c=b +1 +a):c=b +(a +1):=h.trans (Nat.succ_add b a)
theorem FO{P Q:Prop}(h:P)(k:Q):P/\Q:=⟨h,k⟩
theorem Cy(h:a +1=b)(k:c +b<=100000):c +1 +a<=100000:=by cases h;exact Nat.succ_add c a▸k
theorem Bj(h:a +1=b)(k:c +b<=100000):c +a<=100000:=by cases h;exact Nat.le_of_succ_le k
theorem DW(h:a +1=b)(k:c<=d +1):c +a<=d +b:=by cases h;exact Nat.le_trans (Nat.add_le_add_right k a) (Nat.le_of_eq (Nat.succ_add d a))
theorem Cr(h:a +1=b):c +a +1=c +b:=by cases h;rfl
theorem Cs(h:a +1=b):1<=b:=h▸Nat.succ_le_succ (Nat.zero_le _)
theorem D9(h:a<=64)(k:b +100*(c +1)<d):b +1 +min e a<d:=
 Nat.lt_of_le_of_lt (Nat.le_trans (Nat.add_le_add_left (Nat.le_trans (Nat.min_le_right e a) h) (b +1)) (by rw[Nat.add_assoc];exact Nat.add_le_add_left (by decide) b)) (o5 k)
theorem D5(h:a<=64)(k:b +100<d):b +min a e<d:=Nat.lt_of_le_of_lt (Nat.add_le_add_left (Nat.le_trans (Nat.min_le_left a e) (Nat.le_trans h (by decide))) b) k
theorem DC(h:a<=64)(k:b +100<c):b +1 +min f a<c:=
 Nat.lt_of_le_of_lt (Nat.le_trans (Nat.add_le_add_left (Nat.le_trans (Nat.min_le_right f a) h) (b +1)) (by rw[Nat.add_assoc];exact Nat.add_le_add_left (by decide) b)) k
theorem C5(h:(a:Int)=b):a=b:=Int.ofNat.inj h
theorem Ek(h:a<b)(k:d<=e +min a b):d<=e +a:=Nat.le_trans k (Nat.add_le_add_left (Nat.min_le_left _ _) _)
theorem Co(h:a +(b +1)<=c):a +1 +b<=c:=Nat.succ_add a b▸h
theorem C8(h:a +(b +1)<=c):a +b<=c:=Nat.le_of_succ_le h
theorem jy(h:a +b<=c):a<=c:=Nat.le_trans (Nat.le_add_right a b) h
theorem AH(h:a +b<=c):b<=c:=Nat.le_trans (Nat.le_add_left b a) h
theorem Er(h:a +(b +1)<=10)(k:c<=1):a +c +b<=10:=Nat.le_trans (Nat.add_le_add_right (Nat.add_le_add_left k a) b) (Co h)
theorem Ew(h:a +(b +1)<=100000)(k:c<=a +1):c +b<=100000:=Nat.le_trans (Nat.add_le_add_right k b) (Co h)
theorem Fh(h:(a:Int)<b):a<b:=Int.ofNat_lt.mp h
theorem zb(h:a<OfNat.ofNat k):(a:Int)<@OfNat.ofNat Int k _:=Int.ofNat_lt.mpr h
theorem BT(h:a<=OfNat.ofNat k):(a:Int)<=@OfNat.ofNat Int k _:=Int.ofNat_le.mpr h
theorem EB(h:a=1):a<=1000:=h▸by decide
theorem En(h:a<b +1)(k:c +1=a):c<b:=by cases k;exact Nat.lt_of_succ_lt_succ h
theorem Eb(h:a<b):a<=b - 1:=Nat.le_sub_one_of_lt h
theorem EL(h:0<a)(k:b<=a - 1):b<a:=Nat.lt_of_le_of_lt k (Nat.sub_lt h Nat.zero_lt_one)
theorem EZ(h:a<b)(k:b<=d):min a b<=d:=Nat.le_trans (Nat.min_le_right _ _) k
theorem FR(h:a<b)(k:c=min a b):c=a:=k.trans (Nat.min_eq_left (Nat.le_of_lt h))
theorem FG(h:0<=i)(k:i.toNat<b):0<=i/\i<b:=⟨h,(Int.toNat_lt h).mp k⟩
theorem E6(h:a<=100*b)(k:c<=100):c +a<=100*(b +1):=by rw[Nat.add_comm];exact Nat.add_le_add h k
theorem Eu(h:a=b)(k:b +(c +1)<d):a +c<d:=by cases h;exact Nat.lt_of_succ_lt k
theorem Fk(h:a<=b +100)(k:b +100*(c +1)<d):a +100*c<d:=Nat.lt_of_le_of_lt (Nat.add_le_add_right h _) (o6 100 (Nat.le_refl _) k)
theorem Ea(h:a=b):(a:Int)=b:=congrArg _ h
theorem Fl:(a:Int)=b↔a=b:=Int.ofNat_inj
theorem EK(h:a<=b)(k:c<=b):max c a<=b:=Nat.max_le.mpr ⟨k,h⟩
theorem EE(h:a<=b):1 +c +a<=1 +c +b:=Nat.add_le_add_left h _
theorem EH(h:a<=b)(k:c<=a +1):c<=b +1:=Nat.le_trans k (Nat.succ_le_succ h)
theorem Ej(h:(a +1) +b=c):b<c:=h▸Nat.lt_add_of_pos_left (Nat.succ_pos a)
theorem FQ(h:0 +a=b):a=b:=(Nat.zero_add a).symm.trans h
theorem Ei(h:a<b):(0:Int)<b - a:=Int.sub_pos_of_lt (Int.ofNat_lt.mpr h)
theorem FJ(h:a<b)(k:¬c<b):a<c:=Nat.lt_of_lt_of_le h (Nat.le_of_not_lt k)
theorem FB(h:a +1<=10):20 - (a +1) +1=20 - a:=(by decide:∀a,a<10->20 - (a +1) +1=20 - a) a h
theorem EP(h:0<a):(-1 +(a:Int)).toNat=a - 1:=(congrArg Int.toNat (Int.add_comm _ _)).trans (Int.toNat_sub a 1)
theorem Fw(h:0<a):(0:Int)<= -1 +a:=by rw[Int.add_comm];exact Int.sub_nonneg_of_le (Int.ofNat_le.mpr h)
theorem FT:(1 +1*(a:Int)).toNat=a +1:=by rw[Int.one_mul,Int.add_comm];rfl
theorem Fb:(0 +(a:Int)*1).toNat=0 +a:=by rw[Int.mul_one,Int.zero_add,Nat.zero_add];rfl
theorem FH:(-1 +((a:Int) +1)).toNat=a:=by rw[Int.add_comm,Int.add_assoc];rfl
theorem EY:a +b +c*b=a +(c*b +b):=by rw[Nat.add_assoc,Nat.add_comm b]
theorem EV:a +(1 +b)<=a +b +1:=by rw[Nat.add_comm 1];exact Nat.le_refl _
theorem EA(h:a<=b*c)(k:b*(c +1)=b*c +b):a<=b*(c +1):=k▸Nat.le_trans h (Nat.le_add_right _ _)
theorem EN(h:a<=b*c)(k:b*(c +1)=b*c +b)(l:d<=a +b):d<=b*(c +1):=k▸Nat.le_trans l (Nat.add_le_add_right h b)
theorem Fd(h:a<3)(k:b<3)(l:a≠b):(a=0/\b=1)\/(a=1/\b=0)\/(a=0/\b=2)\/(a=2/\b=0)\/(a=1/\b=2)\/(a=2/\b=1):=
 (by decide:∀a b:Fin 3,a.1≠b.1->(a.1=0/\b.1=1)\/(a.1=1/\b.1=0)\/(a.1=0/\b.1=2)\/(a.1=2/\b.1=0)\/(a.1=1/\b.1=2)\/(a.1=2/\b.1=1)) ⟨a,h⟩ ⟨b,k⟩ l
theorem ES(h:a<30):a / 30=0:=Nat.div_eq_of_lt h
theorem Ee:((a +1:Nat):Int)=a +1:=rfl
theorem Fu:(1:Int)<=(a:Int) +1:=Int.add_le_add_right (Int.natCast_nonneg a) 1
theorem Ff:¬(a:Int)=0↔¬a=0:=not_congr Int.ofNat_inj
theorem E4(h:a<=20):30*(a +1)<=800:=Nat.le_trans (Nat.mul_le_mul_left 30 (Nat.succ_le_succ h)) (by decide)
theorem FK:(a:Int) - (b +1:Nat)=a - b - 1:=by rw[Int.sub_sub];rfl
theorem E7:(a:Int) - (b +1)=a - b - 1:=(Int.sub_sub _ _ _).symm
theorem EI(h:(a +b)<=900)(k:c<b)(l:d<=a +c):d<=1000:=Nat.le_trans l (Nat.le_trans (Nat.add_le_add_left (Nat.le_of_lt k) a) (Nat.le_trans h (by decide)))
theorem Fo(h:a +1=b)(k:c +b<=100000)(l:d<=c):d +a<=100000:=Nat.le_trans (Nat.add_le_add_right l a) (Bj h k)
theorem Ey(h:a<=b)(k:a<=c)(l:c<=a):0<b - a↔c<b:=by cases Nat.le_antisymm k l;exact Nat.sub_pos_iff_lt
theorem ER(h:a<3)(k:b<3)(l:b≠a)(m:c<3)(n:c≠b)(o:d<3)(p:d≠c)(q:¬c=a)(r:¬d=b):d=a:=
 (by decide:∀a b c d:Fin 3,(b.1≠a.1/\c.1≠b.1)/\(d.1≠c.1/\c.1≠a.1)/\d.1≠b.1->d.1=a.1) ⟨a,h⟩ ⟨b,k⟩ ⟨c,m⟩ ⟨d,o⟩ ⟨⟨l,n⟩,⟨p,q⟩,r⟩
theorem Fq(h:c<=10*b)(k:d<=c +e +1)(l:e=1):d<=10*(b +1):=by cases l;exact Nat.le_trans k (Nat.le_trans (Nat.add_le_add_right h 2) (Nat.add_le_add_left (by decide) _))
theorem E5(h:c<=10*b):c<=10*(b +1):=Nat.le_trans h (Nat.le_add_right _ 10)
theorem FV(h:a +b<=c +d)(k:e<=100*f)(l:f=3)(m:c +d=e):a<=300:=by cases l;exact Nat.le_trans (jy h) (Nat.le_trans (Nat.le_of_eq m) k)
theorem FS(h:a<=b +c)(k:d=1 +e +c)(l:b<=f +1 +e):a<=f +d:=by cases k;exact Nat.le_trans h (Nat.le_trans (Nat.add_le_add_right l c) (Nat.le_of_eq (by rw[Nat.add_assoc f,Nat.add_assoc f])))
theorem Fi(k:a=1 +b +c):d +b +c<=d +a:=by cases k;rw[Nat.add_assoc d,Nat.add_assoc 1];exact Nat.add_le_add_left (Nat.le_add_left _ _) d
theorem Fa(h:¬(a<=b/\c<=b))(k:¬(c<=a/\b<=a)):a<=c:=Nat.le_of_not_lt fun l=>k ⟨Nat.le_of_lt l,Nat.le_of_not_lt fun m=>h ⟨Nat.le_of_lt m,Nat.le_trans (Nat.le_of_lt l) (Nat.le_of_lt m)⟩⟩
theorem FU(h:¬(a<=b/\c<=b))(k:¬(c<=a/\b<=a)):b<=c:=Nat.le_of_not_lt fun l=>h ⟨Nat.le_of_not_lt fun m=>k ⟨Nat.le_trans (Nat.le_of_lt l) (Nat.le_of_lt m),Nat.le_of_lt m⟩,Nat.le_of_lt l⟩
theorem E3(h:a<=300)(k:b<=300*f)(l:c<=a)(m:d<=c):b +d<=300*(f +1):=Nat.add_le_add k (Nat.le_trans m (Nat.le_trans l h))
theorem EW(h:a*(b +1)<=800)(k:c<=a*d)(l:a*(d +1)=a*d +a)(m:a*(d +1)<=a*(b +1)):c +a<=850:=Nat.le_trans (Nat.add_le_add_right k a) (Nat.le_trans (Nat.le_of_eq l.symm) (Nat.le_trans m (Nat.le_trans h (by decide))))
theorem C3(h:0<=i):(a:Int) +i=((a +i).toNat:Nat):=(Int.toNat_of_nonneg (Int.add_nonneg (Int.natCast_nonneg _) h)).symm
theorem CB(h:a<=156)(k:0<=i)(l:i<=12000000):((a:Int) +i).toNat<100000000:=(Int.toNat_lt (Int.add_nonneg (Int.natCast_nonneg _) k)).mpr (Int.lt_of_le_of_lt (Int.add_le_add (Int.ofNat_le.mpr h) l) (by decide))
theorem CW(h:a<=900)(k:c<=a)(l:d=c +1):d<=2000:=by cases l;exact Nat.le_trans (Nat.succ_le_succ (Nat.le_trans k h)) (by decide)
theorem DZ(h:a<=900)(k:c<=a):c +1<=1000000:=Nat.le_trans (Nat.succ_le_succ (Nat.le_trans k h)) (by decide)
theorem C0(h:a<=100)(k:b<=100)(l:c<=100):a +(b +(c +0))<=300:=Nat.add_le_add h (Nat.add_le_add k l)
theorem CJ(h:d<b)(k:a +b<=90):800 +d<=1000:=Nat.le_trans (Nat.add_le_add_left (Nat.le_trans (Nat.le_of_lt h) (AH k)) 800) (by decide)
theorem C2(h:d<b)(k:a +b<=90)(l:e<=a +d):e<100:=Nat.lt_of_le_of_lt (Nat.le_trans l (Nat.le_trans (Nat.add_le_add_left (Nat.le_of_lt h) a) k)) (by decide)
theorem Dj:((((a +1:Nat):Int) - 1 +1) - 1).toNat=a:=by rw[Int.sub_add_cancel];exact Int.toNat_sub (a +1) 1
theorem Fx:((a:Int) - 0 - 1 +1).toNat=a:=by rw[Int.sub_zero,Int.sub_add_cancel];rfl
theorem Dy(h:a +b<=1000000)(k:c +d<=b):a +c +d<=1000000:=by rw[Nat.add_assoc];exact Nat.le_trans (Nat.add_le_add_left k a) h
theorem CC(h:a<=100)(k:b<=20)(l:c=a)(m:d=b):c +d<=1000000:=by cases l;cases m;exact Nat.le_trans (Nat.add_le_add h k) (by decide)
theorem Dh:(a:Int)=1↔a=1:=⟨fun h=>Int.ofNat.inj h,fun h=>congrArg _ h⟩
theorem Fj(h:d<c)(k:c=b +1)(l:a +1 +b=4):(d:Int)<1000000000:=zb (Nat.lt_of_lt_of_le h (Nat.le_trans (Nat.le_of_eq k) (Nat.le_trans (l▸(by rw[Nat.add_right_comm];exact Nat.add_le_add_right (Nat.le_add_left b a) 1):b +1<=4) (by decide))))
theorem CU(h:a +b<=80)(k:c<=a +1):c +b<=90:=Nat.le_trans (Nat.add_le_add_right k b) (Nat.le_trans (Nat.le_of_eq (Nat.succ_add a b)) (Nat.le_trans (Nat.succ_le_succ h) (by decide)))
theorem BR{P:Prop}(h:b +a<=100000/\P):b<=1000000:=Nat.le_trans (jy h.1) (by decide)
theorem Ds(h:1<=a)(k:b +a<=100000):b +1<1000000000:=Nat.lt_of_le_of_lt (Nat.le_trans (Nat.add_le_add_left h b) k) (by decide)
theorem Cq(h:a<=100*b)(k:b<=100):0 +a<=100000:=by rw[Nat.zero_add];exact Nat.le_trans h (Nat.le_trans (Nat.mul_le_mul_left 100 k) (by decide))
theorem D2(h:a<=20)(k:b<=a):0 +b<=700:=by rw[Nat.zero_add];exact Nat.le_trans k (Nat.le_trans h (by decide))
theorem CX{P:Prop}(h:a<=5/\P)(k:c<=5):c +a<=1000000:=Nat.le_trans (Nat.add_le_add k h.1) (by decide)
theorem C7{x y p q:Int}(h1:x=p\/x=q)(h3:p=x\/p=y)(h5:x<=y)(h6:p<=q):x=p:=h1.elim id fun e=>h3.elim Eq.symm fun e'=>e.trans (Int.le_antisymm (e▸e'▸h5) h6)
end
local macro_rules
  | `(tactic| rewrite [$e:term]) => `(tactic| first | with_reducible refine Mine.Eh $e ?_ | with_reducible refine Mine.Eh ($e ..) ?_ | rewrite (occs := .all) [$e:term])
  | `(tactic| rewrite [<- $e:term]) => `(tactic| first | with_reducible refine Mine.Ed $e ?_ | with_reducible refine Mine.Ed ($e ..) ?_ | rewrite (occs := .all) [<- $e:term])
  | `(tactic| rewrite [$a, $b]) => `(tactic| (rewrite [$a]; rewrite [$b]))
  | `(tactic| rewrite [$a, $b, $c]) => `(tactic| (rewrite [$a]; rewrite [$b, $c]))
  | `(tactic| rewrite [$a, $b, $c, $d]) => `(tactic| (rewrite [$a]; rewrite [$b, $c, $d]))
  | `(tactic| rewrite [$a, $b, $c, $d, $e]) => `(tactic| (rewrite [$a]; rewrite [$b, $c, $d, $e]))
  | `(tactic| rewrite [$a, $b, $c, $d, $e, $f]) => `(tactic| (rewrite [$a]; rewrite [$b, $c, $d, $e, $f]))
  | `(tactic| rewrite [$a, $b, $c, $d, $e, $f, $g]) => `(tactic| (rewrite [$a]; rewrite [$b, $c, $d, $e, $f, $g]))
  | `(tactic| rewrite [$a, $b, $c, $d, $e, $f, $g, $h]) => `(tactic| (rewrite [$a]; rewrite [$b, $c, $d, $e, $f, $g, $h]))
noncomputable abbrev VS:=Vl->SD->Prop
noncomputable abbrev cF(o:Ep)(name:Str)(pl:Sem Bool)(pa pc:Pos)(es:List Ep)(env:Env):Prop:=eval (.Call (.Attribute o name pa) es [] pc) env=(do
 let ov <-eval o env
 standAt pa.atName
 let(f,first) <-holding [ov] (getMethod ov name pl)
 callWith pc f first (backTo pc (sE es env)) [])
noncomputable abbrev aA(s:SD)(h:Hp)(tk:Nat):SD:={s with heap:=h,toks:=tk}
theorem cu(h:Hp)(p:Ad->Prop):∃g:Hp,(∀b,p b->g.get? b=h.get? b)/\∀b,¬p b->g.get? b=none:=by
 classical
 refine⟨⟨h.objs.mapIdx fun i o=>if p i then o else{cls:=.none,data:=.freed},h.life⟩,fun b hb=>?_,fun b hb=>?_⟩
 ·unfold Hp.get?
  simp only[Array.getElem?_mapIdx]
  cases h.objs[b]? with
  |none=>rfl
  |some o=>simp only[Option.map_some,hb,if_true]
 ·unfold Hp.get?
  simp only[Array.getElem?_mapIdx]
  cases h.objs[b]? with
  |none=>rfl
  |some o=>simp only[Option.map_some,hb,if_false]
theorem dg{h h':Hp}(k:h.UpToSlots h'){vs:List Vl}{ds:List PyD}{as:List Ad}:ReadsAll h vs ds as->ReadsAll h' vs ds as:=
 ReadsAll.rec (motive_1:=fun v d as O=>Reads h' v d as) (motive_2:=fun vs ds as O=>ReadsAll h' vs ds as) .none .bool .int .str
  (fun h1 h2 h3 O ih=>let⟨_,e⟩:=k _ _ h1 (fun O q=>by rw[h3]at q;cases q);.list e h2 h3 ih)
  (fun h1 h2 h3 O ih=>let⟨_,e⟩:=k _ _ h1 (fun O q=>by rw[h3]at q;cases q);.tuple e h2 h3 ih)
  (fun h1 h2 h3 O O ih ih'=>let⟨_,e⟩:=k _ _ h1 (fun O q=>by rw[h3]at q;cases q);.dict e h2 h3 ih ih')
  .nil (fun O O a b=>.cons a b)
theorem mf{h h':Hp}(k:h.UpToSlots h'){v:Vl}{d:PyD}{as:List Ad}(x:Reads h v d as):Reads h' v d as:=by
 have:=dg k (.cons x .nil)
 rw[List.append_nil]at this
 cases this with|cons a b=>cases b;rw[List.append_nil]at*;exact a
theorem be{h h':Hp}(k:h.StaysIn h'):h.UpToSlots h':=Hp.UpToSlots.of_keeps k
theorem fU{h h':Hp}{a:Ad}{vs:Array Vl}(k:h.UpToSlots h')(x:h.IsList a vs):h'.IsList a vs:=by
 obtain⟨o,ho,hc,n,hd⟩:=x
 obtain⟨sl,e⟩:=k a o ho (fun O q=>by rw[hd]at q;cases q)
 exact⟨_,e,hc,n,hd⟩
noncomputable def PL(h:Hp)(a:Ad)(vs:Array Vl):Prop:=∃o,h.get? a=some o/\A3 (o.cls= .type "list") (o.dict=none) (∃n,o.data= .seq vs n)
theorem PL.isList{h:Hp}{a:Ad}{vs:Array Vl}(x:PL h a vs):h.IsList a vs:=let⟨o,ho,hc,_,n,hd⟩:=x;⟨o,ho,hc,n,hd⟩
theorem PL.up{h h':Hp}{a:Ad}{vs:Array Vl}(k:h.UpToSlots h')(x:PL h a vs):PL h' a vs:=by
 obtain⟨o,ho,hc,hq,n,hd⟩:=x
 obtain⟨sl,e⟩:=k a o ho (fun O q=>by rw[hd]at q;cases q)
 exact⟨_,e,hc,hq,n,hd⟩
theorem kr{h h':Hp}{a:Ad}{v:Option Vl}(k:h.UpToSlots h')(x:h.IsCell a v):h'.IsCell a v:=by
 obtain⟨o,ho,hd⟩:=x
 obtain⟨sl,e⟩:=k a o ho (fun O q=>by rw[hd]at q;cases q)
 exact⟨_,e,hd⟩
theorem bJ{h h' hb hb':Hp}(k:h.UpToSlots h')(fresh:∀a o,h.get? a=some o->(∀vs,o.data≠ .fields vs)->hb.get? a=none->hb'.get? a=none):∀{l:List Env},h.FunFrames hb l->h'.FunFrames hb' l
 |[],_=>trivial
 |_::_,⟨hk,⟨L,o,hf,hn,ho,hd⟩,hr⟩=>by
  obtain⟨sl,e⟩:=k L o ho hd
  exact⟨hk,⟨L,_,hf,fresh L o ho hd hn,e,hd⟩,bJ k fresh hr⟩
noncomputable def eO(h:Hp)(a:Ad):Prop:=∀o,h.get? a=some o->∃vs,o.data= .fields vs
theorem eO.early{h h':Hp}{a:Ad}(k:h.UpToSlots h')(x:eO h' a):eO h a:=fun o ho=>by
 apply Classical.byContradiction
 intro hn
 obtain⟨sl,e⟩:=k a o ho fun vs q=>hn ⟨vs,q⟩
 obtain⟨vs,q⟩:=x _ e
 exact hn ⟨vs,q⟩
theorem bQ(h:Hp):eO h h.objs.size:=fun o ho=>absurd (Hp.lt_size ho) (Nat.lt_irrefl _)
theorem eO.of_none{h:Hp}{a:Ad}(e:h.get? a=none):eO h a:=fun o ho=>by rw[e]at ho;cases ho
noncomputable def p9(h h':Hp):Prop:=∀b o,h.get? b=some o->(∀vs,o.data≠ .fields vs)->h'.get? b=some o
theorem p9.up{h h':Hp}(k:p9 h h'):h.UpToSlots h':=fun b o e hd=>⟨o.slots,k b o e hd⟩
theorem fB{h h':Hp}(k:h.StaysIn h'):p9 h h':=fun b o e O=>k b o e
structure FP where
 P:Hp->Vl->Prop
 up:∀{h h':Hp}{v:Vl},p9 h h'->P h v->P h' v
noncomputable def DV(d:PyD):FP:=⟨fun h v=>∃as,Reads h v d as,fun k x=>x.imp fun O r=>mf k.up r⟩
noncomputable def RV(u:Vl):FP:=⟨fun O v=>v=u,fun O x=>x⟩
inductive LV where
 |fz (F:FP)
 |own (ds:List PyD)
noncomputable abbrev LS:=List (Str×LV)
structure ay(h hb h' hb':Hp):Prop where
 up:h.UpToSlots h'
 sub:hb.StaysIn hb'
 stay:hb'.StaysIn h'
 fresh:∀a o,h.get? a=some o->(∀vs,o.data≠ .fields vs)->hb.get? a=none->hb'.get? a=none
theorem ay.refl{h hb:Hp}(k:hb.StaysIn h):ay h hb h hb:=⟨.refl _,fun O O e=>e,k,fun O O O O e=>e⟩
theorem ay.trans{h hb h1 hb1 h2 hb2:Hp}(x:ay h hb h1 hb1)(y:ay h1 hb1 h2 hb2):ay h hb h2 hb2:=
 ⟨x.up.trans y.up,fun b o e=>y.sub b o (x.sub b o e),y.stay,fun a o ha hd e=>let⟨_,e'⟩:=x.up a o ha hd;y.fresh a _ e' hd (x.fresh a o ha hd e)⟩
theorem ay.frames{h hb h' hb':Hp}(x:ay h hb h' hb'){l:List Env}(f:h.FunFrames hb l):h'.FunFrames hb' l:=bJ x.up x.fresh f
theorem FP.stays(F:FP){h h':Hp}{v:Vl}(k:h.StaysIn h')(x:F.P h v):F.P h' v:=F.up (fB k) x
theorem iV{h hb h':Hp}(up:h.UpToSlots h')(stay:hb.StaysIn h')(P:Ad->Prop)(hP:∀a,P a->eO h a):
  ∃hb',A3 (ay h hb h' hb') (∀a,P a->hb'.get? a=h'.get? a) (∀a,hb.get? a=none->¬P a->hb'.get? a=none):=by
 obtain⟨g,g1,g2⟩:=cu h' fun a=>(hb.get? a).isSome=true\/P a
 refine⟨g,⟨up,fun b o e=>?_,fun b o e=>?_,fun a o ha hd e=>?_⟩,fun a ha=>g1 a (.inr ha),fun a e hn=>g2 a ?_⟩
 ·rw[g1 b (.inl (by rw[e];rfl))];exact stay b o e
 ·by_cases q:(hb.get? b).isSome=true\/P b
  ·rw[g1 b q]at e;exact e
  ·rw[g2 b q]at e;cases e
 ·refine g2 a ?_
  rintro(q|q)
  ·rw[e]at q;cases q
  ·obtain⟨vs,q'⟩:=hP a q o ha
   exact absurd q' (hd vs)
 ·rintro(q|q)
  ·rw[e]at q;cases q
  ·exact hn q
noncomputable def dY(env:Env)(h:Hp)(x:Str)(v:Vl):Prop:=
 (env.kindOf x=some .local/\∃m,h.Ns env.locals m/\m x=some v)\/
 ((env.kindOf x=some .cell\/env.kindOf x=some .free/\(x==("__classdict__":Str))=false)/\∃c,env.cells.lookup x=some c/\h.IsCell c (some v))
theorem dY.up{env:Env}{h h':Hp}{x:Str}{v:Vl}(k:h.UpToSlots h')(r:dY env h x v):dY env h' x v:=by
 rcases r with⟨a,m,b,c⟩|⟨a,c,b,d⟩
 ·exact .inl ⟨a,m,k.ns b,c⟩
 ·exact .inr ⟨a,c,b,kr k d⟩
noncomputable def zB(hb h:Hp):LV->Vl->Prop
 | .fz F,v=>F.P hb v
 | .own ds,v=>X3 fun a vs bs=>A3 (v= .ref a) (PL h a vs) (ReadsAll hb vs.toList ds bs)
theorem zB.step{h hb h' hb':Hp}(x:ay h hb h' hb'){lv:LV}{v:Vl}(l:zB hb h lv v):zB hb' h' lv v:=by
 cases lv with
 |fz F=>exact F.stays x.sub l
 |own ds=>
  obtain⟨a,vs,bs,rfl,h1,h2⟩:=l
  exact⟨a,vs,bs,rfl,h1.up x.up,ReadsAll.keeps x.sub h2⟩
structure dc(hg hb h:Hp)(env:Env)(fr:List Env)(ρ:LS):Prop where
 g:hg.StaysIn hb
 b:hb.StaysIn h
 f:h.FunFrames hb fr
 k:env.scope.kind= .function
 gl:env.globals=mainGlobals
 bl:env.builtins=builtinsNs
 v:∀x lv,ρ.lookup x=some lv->∃v,dY env h x v/\zB hb h lv v
theorem dc.step{hg hb h hb' h':Hp}{env:Env}{fr:List Env}{ρ:LS}(S:dc hg hb h env fr ρ)(x:ay h hb h' hb'):dc hg hb' h' env fr ρ:=
 ⟨fun b o e=>x.sub b o (S.g b o e),x.stay,x.frames S.f,S.k,S.gl,S.bl,fun y lv e=>let⟨v,r,l⟩:=S.v y lv e;⟨v,r.up x.up,l.step x⟩⟩
structure br(A:Ar)(fr:List Env)(n:Nat):Prop where
 h:A.handled=none
 d:A.depth +n<recursionLimit
 u:A.units +100*n<cLine
 f:A.frames=some fr
theorem br.units{A:Ar}{fr:List Env}{n:Nat}(o:br A fr n):A.units<cLine:=Nat.lt_of_le_of_lt (Nat.le_add_right _ _) o.u
theorem br.room{A:Ar}{fr:List Env}{n:Nat}(o:br A fr n):A.depth<recursionLimit:=Nat.lt_of_le_of_lt (Nat.le_add_right _ _) o.d
theorem br.less{A:Ar}{fr:List Env}{n m:Nat}(o:br A fr n)(h:m<=n):br A fr m:=
 ⟨o.h,Nat.lt_of_le_of_lt (Nat.add_le_add_left h _) o.d,Nat.lt_of_le_of_lt (Nat.add_le_add_left (Nat.mul_le_mul_left _ h) _) o.u,o.f⟩
noncomputable abbrev RK:=Hp->Hp->Hp->Vl->Prop
noncomputable def RF(F:FP):RK:=fun O hb' O v=>F.P hb' v
noncomputable def RB(d:PyD):RK:=fun O O h' v=>∃as,Reads h' v d as
noncomputable def RL(ds:List PyD):RK:=fun O hb' h' v=>X3 fun a vs bs=>A3 (v= .ref a) (h'.IsList a vs) (ReadsAll hb' vs.toList ds bs)
noncomputable def RN(ds:List PyD):RK:=fun h hb' h' v=>X3 fun a vs bs=>A5 (v= .ref a) (PL h' a vs) (ReadsAll hb' vs.toList ds bs) (hb'.get? a=none) (eO h a)
class di(R:RK):Prop where
 stab:∀{h₀ h hb h' hb':Hp}{v:Vl},ay h hb h' hb'->R h₀ hb h v->R h₀ hb' h' v
 early:∀{h₀ h₁ hb h:Hp}{v:Vl},h₀.UpToSlots h₁->R h₁ hb h v->R h₀ hb h v
noncomputable instance Ck(F:FP):di (RF F):=⟨fun y r=>F.stays y.sub r,fun O r=>r⟩
noncomputable instance Cj(d:PyD):di (RB d):=⟨fun y r=>r.imp fun O r=>mf y.up r,fun O r=>r⟩
noncomputable instance Cp(ds:List PyD):di (RL ds):=⟨fun y r=>by
 obtain⟨a,vs,bs,rfl,h1,h2⟩:=r
 exact⟨a,vs,bs,rfl,fU y.up h1,ReadsAll.keeps y.sub h2⟩,fun O r=>r⟩
noncomputable instance Cg(ds:List PyD):di (RN ds):=⟨fun y r=>by
 obtain⟨a,vs,bs,rfl,h1,h2,h3,h4⟩:=r
 obtain⟨o,ho,_,_,_,hd⟩:=id h1
 exact⟨a,vs,bs,rfl,h1.up y.up,ReadsAll.keeps y.sub h2,y.fresh a o ho (fun O q=>by rw[hd]at q;cases q) h3,h4⟩,fun l r=>by
 obtain⟨a,vs,bs,rfl,h1,h2,h3,h4⟩:=r
 exact⟨a,vs,bs,rfl,h1,h2,h3,h4.early l⟩⟩
structure lr where
 R:RK
 k:di R
noncomputable def rF(F:FP):lr:=⟨RF F,inferInstance⟩
noncomputable def rL(ds:List PyD):lr:=⟨RL ds,inferInstance⟩
inductive bF(h₀ hb h:Hp):List Vl->List lr->Prop
 |nil:bF h₀ hb h [] []
 |cons {v:Vl} {vs:List Vl} {R:lr} {Rs:List lr}:R.R h₀ hb h v->bF h₀ hb h vs Rs->bF h₀ hb h (v::vs) (R::Rs)
def Cd(prog:Program)(w:World)(hg:Hp)(n:Nat)(f:Vl)(Rs:List lr)(R:RK):Prop:=
 ∀(A:Ar)(fr:List Env)(h₀ hb:Hp)(s:SD)(vs:List Vl)(Q:VS)(E:VS),br A fr n->hg.StaysIn hb->hb.StaysIn s.heap->s.heap.FunFrames hb fr->
  bF h₀ hb s.heap vs Rs->(∀v h' hb' tk,ay s.heap hb h' hb'->R s.heap hb' h' v->Q v (aA s h' tk))->wA (model prog w) A (call f vs) Q E s
def Gr(K:Frag)(hg:Hp):Prop:=K.In hg/\X5 fun p loose mean mg mb=>Top p loose mean mg mb hg
noncomputable def PG:Program:=@Classical.epsilon _ ⟨PySem.Challenge.rw_il0093_01.row.prog⟩ fun p=>p=PySem.Challenge.rw_il0093_01.row.prog
theorem BP:PG=PySem.Challenge.rw_il0093_01.row.prog:=Classical.epsilon_spec (p:=fun p=>p=PySem.Challenge.rw_il0093_01.row.prog) ⟨_,rfl⟩
def zM(w:World):Prop:=∀(hg:Hp)(n:Nat)(sc:List Int),Gr (KK w.params) hg->sc.length<=63->Cd PG w hg (n +13) (.ref 305) [rF (DV (.list (sc.map .int)))] (RF (DV (.bool true)))
noncomputable def W0:World:=@Classical.epsilon _ ⟨⟨fun O O=>0,{strHash:=fun O=>0,shareClass:=fun O=>0,mergeTok:=id,idOf:=fun O=>0,idOfShared:=fun O O=>8,followText:=fun O=>true,idOfImm:=fun O=>16}⟩⟩ fun w=>¬zM w
theorem zx(h:zM W0)(w:World):zM w:=Classical.byContradiction fun k=>Classical.epsilon_spec (p:=fun w=>¬zM w) ⟨w,k⟩ h
noncomputable abbrev MD:Model:=model PG W0
noncomputable def KZ:Frag:=KK W0.params
variable{hg:Hp}{n:Nat}{env:Env}{ρ ρ':LS}{e:Ep}{pos pa pc:Pos}
section
variable(hg:Hp)
noncomputable def Ev(n:Nat)(env:Env)(ρ:LS)(e:Ep)(R:RK):Prop:=
 ∀(A:Ar)(fr:List Env)(hb:Hp)(s:SD)(Q:VS)(E:VS),br A fr n->dc hg hb s.heap env fr ρ->
  (∀v h' hb' tk,ay s.heap hb h' hb'->R s.heap hb' h' v->Q v (aA s h' tk))->wA MD A (eval e env) Q E s
noncomputable def Tv(n:Nat)(env:Env)(ρ:LS)(e:Ep)(b:Bool):Prop:=
 ∀(A:Ar)(fr:List Env)(hb:Hp)(s:SD)(Q:Bool->SD->Prop)(E:VS),br A fr n->dc hg hb s.heap env fr ρ->
  (∀h' hb' tk,ay s.heap hb h' hb'->Q b (aA s h' tk))->wA MD A (isTrue e env (eval e env)) Q E s
noncomputable def ic(n:Nat)(f:Vl->Vl->Sem Vl)(R1 R2 R:RK):Prop:=
 ∀(A:Ar)(fr:List Env)(h₀ h₁ hb:Hp)(s:SD)(a b:Vl)(Q:VS)(E:VS),br A fr n->hg.StaysIn hb->hb.StaysIn s.heap->s.heap.FunFrames hb fr->
  R1 h₀ hb s.heap a->R2 h₁ hb s.heap b->
  (∀v h' hb' tk,ay s.heap hb h' hb'->R s.heap hb' h' v->Q v (aA s h' tk))->wA MD A (f a b) Q E s
end
section
variable{l r:Ep}{R R1 R2:RK}
noncomputable def tD(R R':RK):Prop:=∀{h hb h' hb':Hp}{v:Vl},ay h hb h' hb'->R h hb' h' v->∃hb'',ay h hb h' hb''/\R' h hb'' h' v
theorem Ev.weak{R':RK}(x:Ev hg n env ρ e R)(k:tD R R'):Ev hg n env ρ e R':=fun A fr hb s Q E ok S h=>
 x A fr hb s Q E ok S fun v h' hb' tk st r=>let⟨hb'',st',r'⟩:=k st r;h v h' hb'' tk st' r'
theorem zS{d:PyD}:tD (RF (DV d)) (RB d):=fun st r=>⟨_,st,r.imp fun O r=>Reads.keeps st.stay r⟩
theorem zf{ds:List PyD}:tD (RN ds) (RL ds):=fun st r=>by
 obtain⟨a,vs,bs,rfl,h1,h2,_⟩:=r
 exact⟨_,st,a,vs,bs,rfl,h1.isList,h2⟩
theorem zo{ds:List PyD}:tD (RF (DV (.list ds))) (RL ds):=fun st r=>by
 obtain⟨_,r⟩:=r
 obtain⟨a,o,vs,k,bs,rfl,ho,hc,hd,hr,_⟩:=reads_list_inv r
 exact⟨_,st,a,vs,bs,rfl,⟨o,st.stay _ _ ho,hc,k,hd⟩,hr⟩
theorem zH{ds:List PyD}:tD (RL ds) (RB (.list ds)):=fun st r=>by
 obtain⟨a,vs,bs,rfl,⟨o,ho,hc,n,hd⟩,h2⟩:=r
 exact⟨_,st,_,.list ho hc hd (ReadsAll.keeps st.stay h2)⟩
theorem zT{ds:List PyD}:tD (RN ds) (RB (.list ds)):=fun st r=>by
 obtain⟨a,vs,bs,rfl,⟨o,ho,hc,_,n,hd⟩,h2,_⟩:=r
 exact⟨_,st,_,.list ho hc hd (ReadsAll.keeps st.stay h2)⟩
theorem zP{ds:List PyD}:tD (RN ds) (RF (DV (.list ds))):=fun{h hb h' hb' v} st r=>by
 obtain⟨a,vs,bs,rfl,⟨o,ho,hc,_,n,hd⟩,h2,h3,h4⟩:=r
 obtain⟨hb'',x,y,_⟩:=iV (P:=fun b=>b=a\/(hb'.get? b≠none/\hb.get? b=none)) st.up (fun b o e=>st.stay b o (st.sub b o e)) (fun b hb=>by
  rcases hb with rfl|⟨q1,q2⟩
  ·exact h4
  ·intro o ho
   apply Classical.byContradiction
   intro hn
   exact q1 (st.fresh b o ho (fun vs q=>hn ⟨vs,q⟩) q2))
 have up:hb'.StaysIn hb'':=fun b o e=>by
  by_cases q:hb.get? b=none
  ·rw(occs:=.all) [y b (.inr ⟨by rw(occs:=.all) [e];exact fun z=>(nomatch z),q⟩)];exact st.stay b o e
  ·obtain⟨o',q'⟩:=Option.ne_none_iff_exists'.mp q
   have e2:=st.sub b o' q'
   rw[e]at e2;injection e2 with e2;subst e2
   exact x.sub b _ q'
 exact⟨hb'',x,_,.list ((y a (.inl rfl)).trans ho) hc hd (ReadsAll.keeps up h2)⟩
end
local macro_rules | `(tactic| omega) => `(tactic| first | decide | omega +splitNatSub)
section
variable{l r:Ep}{R R1 R2:RK}
theorem cQ{h:Hp}{i:Int}{t:Tok}:(DV (.int i)).P h (.int i t):=⟨_,.int i t⟩
theorem d7{h:Hp}{x:Str}{t:Tok}:(DV (.str x)).P h (.str x t):=⟨_,.str x t⟩
theorem bp{h:Hp}{b:Bool}:(DV (.bool b)).P h (.bool b):=⟨_,.bool b⟩
theorem Ak{h:Hp}:(DV .none).P h .none:=⟨_,.none⟩
theorem aj{h:Hp}{i:Int}{v:Vl}(x:(DV (.int i)).P h v):∃t,v= .int i t:=by obtain⟨_,r⟩:=x;cases r;exact⟨_,rfl⟩
theorem az{h:Hp}{i:Str}{v:Vl}(x:(DV (.str i)).P h v):∃t,v= .str i t:=by obtain⟨_,r⟩:=x;cases r;exact⟨_,rfl⟩
theorem de{h:Hp}{i:Bool}{v:Vl}(x:(DV (.bool i)).P h v):v= .bool i:=by obtain⟨_,r⟩:=x;cases r;rfl
theorem e8{h:Hp}{v:Vl}(x:(DV .none).P h v):v= .none:=by obtain⟨_,r⟩:=x;cases r;rfl
theorem aJ{i:Int}{k:Nat}:Ev hg n env ρ (.Constant (.int i) k pos) (RF (DV (.int i))):=fun A fr hb s Q E O S h=>
 wpAny_Constant_int (h _ _ _ _ (.refl S.b) cQ)
theorem du{x:Str}{k:Nat}:Ev hg n env ρ (.Constant (.str x) k pos) (RF (DV (.str x))):=fun A fr hb s Q E O S h=>
 wpAny_Constant_str (h _ _ _ _ (.refl S.b) d7)
theorem dP{b:Bool}{k:Nat}:Ev hg n env ρ (.Constant (.bool b) k pos) (RF (DV (.bool b))):=fun A fr hb s Q E O S h=>
 wpAny_Constant_bool (h _ _ _ s.toks (.refl S.b) bp)
theorem jj{k:Nat}:Ev hg n env ρ (.Constant .none k pos) (RF (DV .none)):=fun A fr hb s Q E O S h=>
 wpAny_Constant_none (h _ _ _ s.toks (.refl S.b) Ak)
theorem cP{A:Ar}{s:SD}{Q:VS}{E:VS}{x:Str}{v:Vl}(hk:env.scope.kind= .function)(rd:dY env s.heap x v)(h:Q v s)
  (hd:(x==("__debug__":Str))=false):wA MD A (eval (.Name x pos) env) Q E s:=by
 refine wpAny_Name ?_ hd
 rcases rd with⟨a,m,b,c⟩|⟨a,c,b,d⟩
 ·exact wpAny_loadName_local hk a b c h
 ·rcases a with a|⟨a,nc⟩
  ·exact wpAny_loadName_cell hk a b d h
  ·exact wpAny_loadName_free hk a b d h nc
theorem aa{x:Str}{F:FP}(hx:ρ.lookup x=some (.fz F))(hd:autoParam ((x==("__debug__":Str))=false) Dc):Ev hg n env ρ (.Name x pos) (RF F):=fun A fr hb s Q E O S h=>by
 obtain⟨v,rd,l⟩:=S.v x _ hx
 exact cP S.k rd (h v s.heap hb s.toks (.refl S.b) l) hd
theorem b8{x:Str}{ds:List PyD}(hx:ρ.lookup x=some (.own ds))(hd:autoParam ((x==("__debug__":Str))=false) Dc):Ev hg n env ρ (.Name x pos) (RL ds):=fun A fr hb s Q E O S h=>by
 obtain⟨v,rd,l⟩:=S.v x _ hx
 obtain⟨a,vs,bs,rfl,h1,hr⟩:=l
 exact cP S.k rd (h _ s.heap hb s.toks (.refl S.b) ⟨a,vs,bs,rfl,h1.isList,hr⟩) hd
theorem ck{K:Frag}(G:Gr K hg){x:Str}{v:Vl}(e:nsIn K mainGlobals x=some (some v))(hx:env.kindOf x=some .globalImplicit)(hd:autoParam ((x==("__debug__":Str))=false) Dc):
  Ev hg n env ρ (.Name x pos) (RF (RV v)):=fun A fr hb s Q E O S h=>by
 obtain⟨X,p,loose,mean,mg,mb,T⟩:=G
 have st:hg.StaysIn s.heap:=fun b o q=>S.b b o (S.g b o q)
 exact Name_function_global S.k hx (loadGlobal_global (by rw[S.gl];exact T.g.keeps st) (mg_of X T.g e) (h v s.heap hb s.toks (.refl S.b) rfl)) hd
theorem bg{K:Frag}(G:Gr K hg){x:Str}{v:Vl}(e:nsIn K mainGlobals x=some none)(hv:bootBuiltins x=some v)(hx:env.kindOf x=some .globalImplicit)(hn:x≠"__name__")(hd:autoParam ((x==("__debug__":Str))=false) Dc):
  Ev hg n env ρ (.Name x pos) (RF (RV v)):=fun A fr hb s Q E O S h=>by
 obtain⟨X,p,loose,mean,mg,mb,T⟩:=G
 have st:hg.StaysIn s.heap:=fun b o q=>S.b b o (S.g b o q)
 exact Name_function_global S.k hx (loadGlobal_builtin (by rw[S.gl];exact T.g.keeps st) (mg_none_of X T.g e) (by rw[S.bl];exact T.b.keeps st) ((T.builtins x hn).trans hv) (h v s.heap hb s.toks (.refl S.b) rfl)) hd
theorem bO [di R1] [di R]{op:Operator}(hl:Ev hg n env ρ l R1)(hr:Ev hg n env ρ r R2)(ho:ic hg n (binaryOp op) R1 R2 R):
  Ev hg n env ρ (.BinOp l op r pos) R:=fun A fr hb s Q E ok S h=>
 wpAny_BinOp (hl A fr hb s _ E ok S fun a h₁ hb1 tk1 st1 r1=>hr A fr hb1 _ _ E ok (S.step st1) fun b h2 hb2 tk2 st2 r2=>
  ho A fr s.heap h₁ hb2 _ a b _ E ok ((S.step st1).step st2).g st2.stay ((S.step st1).step st2).f (di.stab st2 r1) r2 fun v h' hb' tk st3 r3=>
   h v h' hb' tk (st1.trans (st2.trans st3)) (di.early (st1.trans st2).up r3))
theorem AJ [di R1] [di R]{op:CmpOp}(hl:Ev hg n env ρ l R1)(hr:Ev hg n env ρ r R2)(ho:ic hg n (compareOp op) R1 R2 R)(hm:autoParam (behindInMarks op r=false) Wf):
  Ev hg n env ρ (.Compare l [op] [r] pos) R:=fun A fr hb s Q E ok S h=>
 wpAny_Compare1 (hm:=hm) (hl A fr hb s _ E ok S fun a h₁ hb1 tk1 st1 r1=>hr A fr hb1 _ _ E ok (S.step st1) fun b h2 hb2 tk2 st2 r2=>
  ho A fr s.heap h₁ hb2 _ a b _ E ok ((S.step st1).step st2).g st2.stay ((S.step st1).step st2).f (di.stab st2 r1) r2 fun v h' hb' tk st3 r3=>
   h v h' hb' tk (st1.trans (st2.trans st3)) (di.early (st1.trans st2).up r3))
theorem lL{f:Vl->Vl->Sem Vl}{a b c:Int}(hf:∀(A:Ar)(s:SD)(t u:Tok)(Q:VS)(E:VS),Q (.int c s.toks) {s with toks:=s.toks +1}->wA MD A (f (.int a t) (.int b u)) Q E s):
  ic hg n f (RF (DV (.int a))) (RF (DV (.int b))) (RF (DV (.int c))):=fun A fr h₀ h₁ hb s x y Q E O O st O rx ry h=>by
 obtain⟨t,rfl⟩:=aj rx
 obtain⟨u,rfl⟩:=aj ry
 exact hf A s t u Q E (h _ _ _ _ (.refl st) cQ)
theorem iW{a b:Int}:ic hg n (binaryOp .Add) (RF (DV (.int a))) (RF (DV (.int b))) (RF (DV (.int (a +b)))):=lL fun O O O O O O h=>P.add_int h
theorem lN{a b:Int}(hb:b≠0):ic hg n (binaryOp .Mod) (RF (DV (.int a))) (RF (DV (.int b))) (RF (DV (.int (a.fmod b)))):=lL fun O O O O O O h=>IsLeap.wpAny_mod_int hb h
theorem tC{a b:Int}(hb:b≠0)(hp:Builtin.divisionGoesByPylong a b=false):ic hg n (binaryOp .FloorDiv) (RF (DV (.int a))) (RF (DV (.int b))) (RF (DV (.int (a.fdiv b)))):=lL fun O O O O O O h=>floordiv_int hb h (.inl hp)
theorem t9{a b:Int}(hn:0<=b)(hsz:(Builtin.Int.intBits a:Int)*b<=2^27):ic hg n (binaryOp .Pow) (RF (DV (.int a))) (RF (DV (.int b))) (RF (DV (.int (a^b.toNat)))):=lL fun O O O O O O h=>pow_int hn hsz h
theorem dK{x y:Str}(hsz:x.length +y.length<=sizeLine):ic hg n (binaryOp .Add) (RF (DV (.str x))) (RF (DV (.str y))) (RF (DV (.str (x ++y)))):=fun A fr h₀ h₁ hb s u v Q E O O st O rx ry h=>by
 obtain⟨t,rfl⟩:=az rx
 obtain⟨t',rfl⟩:=az ry
 exact PyProof.Rows.add_str (fun t' tk=>h _ s.heap hb tk (.refl st) d7) hsz
theorem nG{a b u:Nat}(h:a<=64)(hu:u +100<cLine):u +min a b<cLine:=by exact D5 ‹_› ‹_›
theorem Ay{d d':PyD}(h1:d.canLay0=true)(h2:d'.canLay0=true)(h3:d.depth<=64):ic hg (n +1) (compareOp .Eq) (RB d) (RB d') (RF (DV (.bool (PyD.eqv d d')))):=
 fun A fr h₀ h₁ hb s u v Q E ok _ st _ ⟨_,rx⟩ ⟨_,ry⟩ h=>SeqAt.compareEq_reads rx ry h1 h2 (nG h3 (by have:=ok.u;exact o5 ‹_›)) (h _ s.heap hb s.toks (.refl st) bp)
theorem yi{d d':PyD}(h1:d.canLay0=true)(h2:d'.canLay0=true)(h3:d.depth<=64):ic hg (n +1) (compareOp .NotEq) (RB d) (RB d') (RF (DV (.bool (!PyD.eqv d d')))):=
 fun A fr h₀ h₁ hb s u v Q E ok _ st _ ⟨_,rx⟩ ⟨_,ry⟩ h=>SeqAt.compareNe_reads rx ry h1 h2 (nG h3 (by have:=ok.u;exact o5 ‹_›)) (h _ s.heap hb s.toks (.refl st) bp)
theorem BL{d:PyD}{xs:List PyD}(h1:d.canLay0=true)(h2:PyD.canLayAll0 xs=true)(h3:d.depth<=64):ic hg (n +1) (compareOp .In) (RB d) (RB (.list xs)) (RF (DV (.bool (xs.any fun y=>PyD.eqv y d)))):=
 fun A fr h₀ h₁ hb s u v Q E ok _ st _ ⟨_,rx⟩ ⟨_,ry⟩ h=>SeqAt.in_list_reads ry rx h2 h1 (by have:=ok.u;exact D9 ‹_› ‹_›) (h _ s.heap hb s.toks (.refl st) bp)
theorem mv{d:PyD}{xs:List PyD}(h1:d.canLay0=true)(h2:PyD.canLayAll0 xs=true)(h3:d.depth<=64):ic hg (n +1) (compareOp .NotIn) (RB d) (RB (.list xs)) (RF (DV (.bool (!xs.any fun y=>PyD.eqv y d)))):=
 fun A fr h₀ h₁ hb s u v Q E ok _ st _ ⟨_,rx⟩ ⟨_,ry⟩ h=>SeqAt.notIn_list_reads ry rx h2 h1 (by have:=ok.u;exact D9 ‹_› ‹_›) (h _ s.heap hb s.toks (.refl st) bp)
end
noncomputable def RA(h:Hp)(vs:List Vl)(ds:List PyD):Prop:=∃bs,ReadsAll h vs ds bs
noncomputable def RD(h:Hp)(v:Vl)(d:PyD):Prop:=∃bs,Reads h v d bs
theorem RA.nil{h:Hp}:RA h [] []:=⟨_,.nil⟩
theorem RA.cons{h:Hp}{v:Vl}{d:PyD}{vs:List Vl}{ds:List PyD}(a:RD h v d)(b:RA h vs ds):RA h (v::vs) (d::ds):=let⟨_,a⟩:=a;let⟨_,b⟩:=b;⟨_,.cons a b⟩
theorem RA.inv{h:Hp}{vs:List Vl}{d:PyD}{ds:List PyD}(x:RA h vs (d::ds)):X2 fun v us=>A3 (vs=v::us) (RD h v d) (RA h us ds):=by
 obtain⟨_,x⟩:=x;cases x with|cons a b=>exact⟨_,_,rfl,⟨_,a⟩,⟨_,b⟩⟩
theorem RA.inv0{h:Hp}{vs:List Vl}(x:RA h vs []):vs=[]:=by obtain⟨_,x⟩:=x;cases x;rfl
theorem RA.keeps{h h':Hp}{vs:List Vl}{ds:List PyD}(k:h.StaysIn h')(x:RA h vs ds):RA h' vs ds:=x.imp fun O r=>ReadsAll.keeps k r
theorem RD.keeps{h h':Hp}{v:Vl}{d:PyD}(k:h.StaysIn h')(x:RD h v d):RD h' v d:=x.imp fun O r=>Reads.keeps k r
theorem RA.append{h:Hp}:∀{ds:List PyD}{vs us:List Vl}{es:List PyD},RA h vs ds->RA h us es->RA h (vs ++us) (ds ++es)
 |[],vs,us,es,a,b=>by rw[a.inv0];exact b
 |d::ds,vs,us,es,a,b=>by obtain⟨v,ws,rfl,p,q⟩:=a.inv;exact .cons p (RA.append q b)
theorem RA.drop{h:Hp}:∀(k:Nat){ds:List PyD}{vs:List Vl},RA h vs ds->RA h (vs.drop k) (ds.drop k)
 |0,_,_,a=>a
 |k +1,[],vs,a=>by rw[a.inv0];exact .nil
 |k +1,d::ds,vs,a=>by obtain⟨v,ws,rfl,p,q⟩:=a.inv;exact RA.drop k q
theorem RA.take{h:Hp}:∀(k:Nat){ds:List PyD}{vs:List Vl},RA h vs ds->RA h (vs.take k) (ds.take k)
 |0,_,_,a=>.nil
 |k +1,[],vs,a=>by rw[a.inv0];exact .nil
 |k +1,d::ds,vs,a=>by obtain⟨v,ws,rfl,p,q⟩:=a.inv;exact .cons p (RA.take k q)
theorem RA.get{h:Hp}:∀{ds:List PyD}{vs:List Vl}{k:Nat}{d:PyD},RA h vs ds->ds[k]?=some d->∃v,vs[k]?=some v/\RD h v d
 |[],_,k,d,_,e=>by simp at e
 |d'::ds,vs,k,d,a,e=>by
  obtain⟨v,ws,rfl,p,q⟩:=a.inv
  cases k with
  |zero=>simp at e;subst e;exact⟨v,rfl,p⟩
  |succ k=>exact RA.get (vs:=ws) q (by simpa using e)
theorem RA.length{h:Hp}:∀{ds:List PyD}{vs:List Vl},RA h vs ds->vs.length=ds.length
 |[],vs,a=>by rw[a.inv0];rfl
 |d::ds,vs,a=>by obtain⟨v,ws,rfl,p,q⟩:=a.inv;simp[RA.length q]
theorem pB:sizeLine=16777216:=rfl
theorem aE{k:Nat}(h:k<=1000000):k<=sizeLine:=by rw[pB];exact Nat.le_trans ‹_› (by decide)
section
variable{l r:Ep}{R R1 R2:RK}
theorem aL{h hb:Hp}(o:Obj)(k:hb.StaysIn h):ay h hb (h.push o) hb:=
 ⟨Hp.UpToSlots.of_keeps fun O O e=>Hp.get?_push_of_some _ e,fun O O e=>e,fun b x e=>Hp.get?_push_of_some _ (k b x e),fun O O O O e=>e⟩
theorem dq{h hb:Hp}(o:Obj)(k:hb.StaysIn h)(hf:autoParam (o.isFreed=false) Rf):∃hb',ay h hb (h.push o) hb'/\hb'.get? h.objs.size=some o:=by
 obtain⟨hb',st,a,_⟩:=iV (h:=h) (hb:=hb) (h':=h.push o) (Hp.UpToSlots.of_keeps fun O O e=>Hp.get?_push_of_some _ e) (fun b x e=>Hp.get?_push_of_some _ (k b x e)) (fun a=>a=h.objs.size) (fun a e=>e▸bQ h)
 exact⟨hb',st,(a _ rfl).trans (Hp.get?_push_size _ hf)⟩
noncomputable def Cc(hg:Hp)(n:Nat)(env:Env)(ρ:LS)(es:List Ep)(ds:List PyD):Prop:=
 ∀(pos:Pos)(A:Ar)(fr:List Env)(hb:Hp)(s:SD)(Q:List Vl->SD->Prop)(E:VS),br A fr n->dc hg hb s.heap env fr ρ->
  (∀vs h' hb' tk,ay s.heap hb h' hb'->RA hb' vs ds->Q vs (aA s h' tk))->wA MD A (spliced (backTo pos (sE es env))) Q E s
theorem au:Cc hg n env ρ [] []:=fun pos A fr hb s Q E ok S h=>wpAny_items_nil (h [] s.heap hb s.toks (.refl S.b) .nil)
theorem ak{d:PyD}{es:List Ep}{ds:List PyD}(he:Ev hg n env ρ e (RF (DV d)))(hs:Cc hg n env ρ es ds)
  (hn:autoParam (sE (e::es) env=(false,eval e env)::sE es env) Rf):Cc hg n env ρ (e::es) (d::ds):=fun pos A fr hb s Q E ok S h=>
 wpAny_items_cons (he:=hn) (he A fr hb s _ E ok S fun v h₁ hb1 tk1 st1 r1=>hs pos A fr hb1 _ _ E ok (S.step st1) fun vs h2 hb2 tk2 st2 r2=>
  h (v::vs) h2 hb2 tk2 (st1.trans st2) (.cons (RD.keeps st2.sub r1) r2))
theorem aO{es:List Ep}{ds:List PyD}(hs:Cc hg n env ρ es ds)(hz:ds.length<=1000000:=by first|decide|simp):Ev hg n env ρ (.List es pos) (RN ds):=fun A fr hb s Q E ok S h=>
 wpAny_List (hs pos A fr hb s _ E ok S fun vs h₁ hb1 tk1 st1 r1=>⟨by rw[r1.length];exact aE hz,by
  obtain⟨bs,r1⟩:=r1
  exact h _ _ hb1 _ (st1.trans (aL _ st1.stay)) ⟨_,vs.toArray,bs,rfl,⟨_,Hp.get?_push_size _ rfl,rfl,rfl,_,rfl⟩,r1,Hp.StaysIn.fresh st1.stay,(bQ _).early st1.up⟩⟩)
theorem cW{es:List Ep}{ds:List PyD}{k:Nat}(hs:Cc hg n env ρ es ds)(hz:ds.length<=1000000:=by first|decide|simp):Ev hg n env ρ (.Tuple es k pos) (RF (DV (.tuple ds))):=fun A fr hb s Q E ok S h=>
 wpAny_Tuple (hs pos A fr hb s _ E ok S fun vs h₁ hb1 tk1 st1 r1=>⟨by rw[r1.length];exact aE hz,by
  obtain⟨hb2,st2,e2⟩:=dq (h:=h₁) (hb:=hb1) {cls:=.type "tuple",data:=.seq vs.toArray} st1.stay
  obtain⟨bs,r1⟩:=r1
  exact h _ _ hb2 _ (st1.trans st2) ⟨_,.tuple e2 rfl rfl (ReadsAll.keeps st2.sub r1)⟩⟩)
theorem yd{A:Ar}{s:SD}{Q:VS}{E:VS}{value slice:Ep}{o i:Vl}{T id:String}(hT:s.TypeIs o T)
  (hl:typeLookup (.type T) "__getitem__"=pure (some (.builtin id)))(h:wA MD A (getItem o i) Q E s):wA MD A (subscriptTail value slice o i) Q E s:=by
 unfold subscriptTail
 refine wBi ?_
 rw[getitemInPython_of_ne hT.not_modules]
 refine wBi (wpAny_specialOf hT hl ?_)
 have fin:∀ops:List Vl,wA MD A (operate ops (getItem o i)) (fun r s3=>wA MD A (letTemporaryGo value o r>>=fun O=>pure r) Q E s3) E s:=fun ops=>
  wpAny_operating (wpAny_mono h (fun r s3 h3=>wBi (wpAny_letTemporaryGo (wP h3))) fun O O x=>x)
 have key:wA MD A (subscripted slice false o i) (fun r s3=>wA MD A (letTemporaryGo value o r>>=fun O=>pure r) Q E s3) E s:=by
  unfold subscripted
  split
  ·exact fin _
  ·contradiction
  ·exact fin _
 exact wP (wBi key)
noncomputable def m5(hg:Hp)(n:Nat)(R1 R2 R:RK):Prop:=
 ∀(A:Ar)(fr:List Env)(h₀ h₁ hb:Hp)(s:SD)(a b:Vl)(Q:VS)(E:VS),br A fr n->hg.StaysIn hb->hb.StaysIn s.heap->s.heap.FunFrames hb fr->
  R1 h₀ hb s.heap a->R2 h₁ hb s.heap b->
  (∀v h' hb' tk,ay s.heap hb h' hb'->R s.heap hb' h' v->Q v (aA s h' tk))->
  X2 fun T id=>A3 (s.TypeIs a T) (typeLookup (.type T) "__getitem__"=pure (some (.builtin id))) (wA MD A (getItem a b) Q E s)
theorem bq [di R1] [di R](hl:Ev hg n env ρ l R1)(hr:Ev hg n env ρ r R2)(ho:m5 hg n R1 R2 R):
  Ev hg n env ρ (.Subscript l r pos) R:=fun A fr hb s Q E ok S h=>
 Subscript_ (hl A fr hb s _ E ok S fun a h₁ hb1 tk1 st1 r1=>hr A fr hb1 _ _ E ok (S.step st1) fun b h2 hb2 tk2 st2 r2=>by
  obtain⟨T,id,hT,hl,hw⟩:=ho A fr s.heap h₁ hb2 (aA s h2 tk2) a b Q E ok ((S.step st1).step st2).g st2.stay ((S.step st1).step st2).f (di.stab st2 r1) r2 fun v h' hb' tk st3 r3=>
   h v h' hb' tk (st1.trans (st2.trans st3)) (di.early (st1.trans st2).up r3)
  exact yd hT hl hw)
theorem yt{i:Int}{m:Nat}(h0:0<=i)(h:i.toNat<m):seqIndex? i m=some i.toNat:=by
 unfold seqIndex?
 rw[if_neg (show¬i<0 by omega),if_pos (by simp;exact FG ‹_› ‹_›)]
theorem cp{ds:List PyD}{i:Int}{d:PyD}(h0:0<=i)(hx:ds[i.toNat]?=some d)(hi:i<1000000000):m5 hg n (RL ds) (RF (DV (.int i))) (RF (DV d)):=fun A fr h₀ h₁ hb s a b Q E ok O st O ra rb h=>by
 obtain⟨a,vs,bs,rfl,h1,h2⟩:=ra
 obtain⟨t,rfl⟩:=aj rb
 obtain⟨v,hv,hd⟩:=RA.get ⟨bs,h2⟩ hx
 exact⟨"list",_,h1.typeIs,slot_list_getitem.lookup,wpAny_getItem_list h1 h0 (Int.lt_trans hi (by decide)) (by simpa using hv) (h v s.heap hb s.toks (.refl st) hd)⟩
theorem tj{ds:List PyD}{i:Int}{d:PyD}(h0:0<=i)(hx:ds[i.toNat]?=some d)(hi:i<1000000000):m5 hg n (RF (DV (.tuple ds))) (RF (DV (.int i))) (RF (DV d)):=fun A fr h₀ h₁ hb s a b Q E ok O st O ra rb h=>by
 obtain⟨_,ra⟩:=ra
 obtain⟨a,o,vs,k,rfl,ho,hc,hd,hr⟩:=reads_tuple_inv ra
 obtain⟨t,rfl⟩:=aj rb
 have hlen:=RA.length ⟨_,hr⟩
 obtain⟨v,hv,hd'⟩:=RA.get ⟨_,hr⟩ hx
 have ht:IsTup s.heap a vs:=⟨o,st _ _ ho,hc,k,hd⟩
 have hlt:i.toNat<vs.size:=by
  have:=(List.getElem?_eq_some_iff.mp hv).1
  simpa using this
 refine⟨"tuple",_,ht.typeIs,slot_tuple_getitem.lookup,getItem_tuple ht (Int.le_trans (by decide) h0) (Int.lt_trans hi (by decide)) (j:=i.toNat) ?_ (by simpa using hv) (h v s.heap hb s.toks (.refl st) hd')⟩
 exact yt h0 hlt
theorem jE{x:Str}{i:Int}{c:Nat}(h0:0<=i)(hx:x.cps[i.toNat]?=some c)(hi:i<1000000000):m5 hg n (RF (DV (.str x))) (RF (DV (.int i))) (RF (DV (.str ⟨#[c]⟩))):=fun A fr h₀ h₁ hb s a b Q E ok O st O ra rb h=>by
 obtain⟨t,rfl⟩:=az ra
 obtain⟨u,rfl⟩:=aj rb
 have hlt:i.toNat<x.cps.size:=(Array.getElem?_eq_some_iff.mp hx).1
 refine⟨"str",_,typeIs_str _ _ _,F.slot_str_getitem.lookup,P.getItem_str ?_ (c:=c) ?_ (h _ _ _ _ (.refl st) d7)⟩
 ·simp only[Bool.or_eq_false_iff,decide_eq_false_iff_not]
  refine⟨fun q=>?_,fun q=>?_⟩
  ·have:(-(2^63):Int)<0:=by decide
   omega
  ·have:(1000000000:Int)<2^63:=by decide
   omega
 ·rw[yt h0 (show i.toNat<x.length from hlt)];exact hx
end
section
variable{l r:Ep}{R R1 R2:RK}
theorem RA.pick{h:Hp}{vs:List Vl}{ds:List PyD}(x:RA h vs ds):∀idx:List Nat,RA h (idx.filterMap fun i=>vs[i]?) (idx.filterMap fun i=>ds[i]?)
 |[]=>.nil
 |i::idx=>by
  have ih:=RA.pick x idx
  cases hd:ds[i]? with
  |none=>
   have hv:vs[i]?=none:=by
    rw[List.getElem?_eq_none_iff]at hd⊢
    rw[x.length];exact hd
   rw[List.filterMap_cons,List.filterMap_cons,hv,hd];exact ih
  |some d=>
   obtain⟨v,hv,r⟩:=x.get hd
   rw[List.filterMap_cons,List.filterMap_cons,hv,hd];exact .cons r ih
noncomputable def RS(lo hi st:Option Int):RK:=fun O O h' v=>X4 fun a vl vu vs=>A5 (v= .ref a) (h'.IsSliceOf a vl vu vs) (IsPart vl lo) (IsPart vu hi) (IsPart vs st)
noncomputable def Pt(hg:Hp)(n:Nat)(env:Env)(ρ:LS)(e:Option Ep)(i:Option Int):Prop:=
 ∀(A:Ar)(fr:List Env)(hb:Hp)(s:SD)(Q:VS)(E:VS),br A fr n->dc hg hb s.heap env fr ρ->
  (∀v h' hb' tk,ay s.heap hb h' hb'->IsPart v i->Q v (aA s h' tk))->wA MD A (evalPart e env) Q E s
theorem bU:Pt hg n env ρ none none:=fun A fr hb s Q E ok S h=>wpAny_evalPart_none (h _ s.heap hb s.toks (.refl S.b) .none)
theorem c9{i:Int}(he:Ev hg n env ρ e (RF (DV (.int i)))):Pt hg n env ρ (some e) (some i):=fun A fr hb s Q E ok S h=>
 wpAny_evalPart_some (he A fr hb s _ E ok S fun v h' hb' tk st r=>by obtain⟨t,rfl⟩:=aj r;exact h _ h' hb' tk st (.int i t))
theorem cY{a b c:Option Ep}{lo hi sp:Option Int}{p:Pos}(ha:Pt hg n env ρ a lo)(hb:Pt hg n env ρ b hi)(hc:Pt hg n env ρ c sp):Ev hg n env ρ (.Slice a b c p) (RS lo hi sp):=
 fun A fr hb0 s Q E ok S h=>wpAny_Slice (ha A fr hb0 s _ E ok S fun v h₁ hb1 tk1 st1 r1=>hb A fr hb1 _ _ E ok (S.step st1) fun u h2 hb2 tk2 st2 r2=>hc A fr hb2 _ _ E ok ((S.step st1).step st2) fun t h3 hb3 tk3 st3 r3=>
  h _ _ hb3 tk3 (st1.trans (st2.trans (st3.trans (aL _ st3.stay)))) ⟨_,v,u,t,rfl,Hp.IsSliceOf.new _ _ _ _,r1,r2,r3⟩)
noncomputable def fV(ds:List PyD)(lo hi:Option Int):List PyD:=(ds.drop (lo.elim 0 (clipAt ds.length))).take (hi.elim ds.length (clipAt ds.length) - lo.elim 0 (clipAt ds.length))
theorem tI(ds:List PyD)(k:Nat):fV ds (some (k:Int)) none=ds.drop k:=by
 unfold fV
 simp only[Option.elim,clipAt_nat]
 rcases Nat.le_total k ds.length with h|h
 ·rw[Nat.min_eq_left h,List.take_of_length_le (by simp)]
 ·rw[Nat.min_eq_right h,List.drop_of_length_le h];simp
theorem lY(ds:List PyD)(k:Nat):fV ds none (some (k:Int))=ds.take k:=by
 unfold fV
 simp only[Option.elim,clipAt_nat,List.drop_zero,Nat.sub_zero]
 rcases Nat.le_total k ds.length with h|h
 ·rw[Nat.min_eq_left h]
 ·rw[Nat.min_eq_right h,List.take_of_length_le (Nat.le_refl _),List.take_of_length_le h]
theorem eH{ds:List PyD}{lo hi:Option Int}(hz:ds.length<=1000000):m5 hg n (RL ds) (RS lo hi none) (RN (fV ds lo hi)):=fun A fr h₀ h₁ hb s a b Q E ok O st O ra rb h=>by
 obtain⟨a,vs,bs,rfl,h1,h2⟩:=ra
 obtain⟨b,vl,vu,vt,rfl,hs,pl,pu,pt⟩:=rb
 have hlen:vs.size=ds.length:=by simpa using RA.length ⟨bs,h2⟩
 refine⟨"list",_,h1.typeIs,slot_list_getitem.lookup,wpAny_getItem_list_slice h1 hs pl pu pt (by simp) ?_ (by rw[hlen];exact aE hz)⟩
 obtain⟨bs',h3⟩:RA hb ((vs.toList.drop (lo.elim 0 (clipAt vs.size))).take (hi.elim vs.size (clipAt vs.size) - lo.elim 0 (clipAt vs.size))) (fV ds lo hi):=by
  rw[hlen];exact RA.take _ (RA.drop _ ⟨bs,h2⟩)
 refine h _ _ hb s.toks (aL _ st) ⟨_,slicePick vs lo hi none,bs',rfl,⟨_,Hp.get?_push_size _ rfl,rfl,rfl,_,rfl⟩,?_,Hp.StaysIn.fresh st,bQ _⟩
 rw[slicePick_plain];exact h3
noncomputable def uR(ds:List PyD)(lo hi st:Option Int):List PyD:=(sliceRange (sliceBounds lo hi st ds.length).1 (sliceBounds lo hi st ds.length).2.1 (sliceBounds lo hi st ds.length).2.2).filterMap fun i=>ds[i]?
theorem qs{ds:List PyD}{lo hi sp:Option Int}(h0:sp≠some 0)(hz:ds.length<=1000000):m5 hg n (RL ds) (RS lo hi sp) (RN (uR ds lo hi sp)):=fun A fr h₀ h₁ hb s a b Q E ok O st O ra rb h=>by
 obtain⟨a,vs,bs,rfl,h1,h2⟩:=ra
 obtain⟨b,vl,vu,vt,rfl,hs,pl,pu,pt⟩:=rb
 have hlen:vs.size=ds.length:=by simpa using RA.length ⟨bs,h2⟩
 refine⟨"list",_,h1.typeIs,slot_list_getitem.lookup,wpAny_getItem_list_slice h1 hs pl pu pt h0 ?_ (by rw[hlen];exact aE hz)⟩
 obtain⟨bs',h3⟩:=RA.pick (h:=hb) ⟨bs,h2⟩ (sliceRange (sliceBounds lo hi sp ds.length).1 (sliceBounds lo hi sp ds.length).2.1 (sliceBounds lo hi sp ds.length).2.2)
 refine h _ _ hb s.toks (aL _ st) ⟨_,slicePick vs lo hi sp,bs',rfl,⟨_,Hp.get?_push_size _ rfl,rfl,rfl,_,rfl⟩,?_,Hp.StaysIn.fresh st,bQ _⟩
 unfold slicePick
 rw[hlen]
 unfold uR
 simpa using h3
theorem uX{v:Vl}{i:Option Int}(x:IsPart v i):∃l:Option (Int×Tok),v=partValue l/\l.map (·.1)=i:=by
 cases x with
 |none=>exact⟨none,rfl,rfl⟩
 |int i t=>exact⟨some (i,t),rfl,rfl⟩
theorem fF{x:Str}{lo hi:Option Int}(hz:x.length<=1000000):m5 hg n (RF (DV (.str x))) (RS lo hi none) (RF (DV (.str (Txt.slice x lo hi)))):=fun A fr h₀ h₁ hb s a b Q E ok O st O ra rb h=>by
 obtain⟨t,rfl⟩:=az ra
 obtain⟨b,vl,vu,vt,rfl,hs,pl,pu,pt⟩:=rb
 cases pt
 obtain⟨lo',rfl,rfl⟩:=uX pl
 obtain⟨hi',rfl,rfl⟩:=uX pu
 obtain⟨o,ho,hc,hd⟩:=hs
 refine⟨"str",_,typeIs_str _ _ _,F.slot_str_getitem.lookup,wpAny_getItem_str_slice (l:=lo') (u:=hi') (st:=none) ⟨o,ho,hc,hd⟩ rfl ?_⟩
 exact post_val_or_str ⟨Nat.le_trans (Txt.slice_le x _ _) (aE hz),fun t' k=>h _ s.heap hb k (.refl st) d7⟩
theorem kW{ds es:List PyD}(hz:ds.length +es.length<=1000000):ic hg n (binaryOp .Add) (RL ds) (RL es) (RN (ds ++es)):=fun A fr h₀ h₁ hb s a b Q E ok O st O ra rb h=>by
 obtain⟨a,vs,bs,rfl,hl,h2⟩:=ra
 obtain⟨b,us,cs,rfl,hl',h4⟩:=rb
 obtain⟨⟨cls,dd,data,sl⟩,ho,hc,k,hd⟩:=id hl
 obtain⟨⟨cls2,dd2,data2,sl2⟩,ho2,hc2,k2,hd2⟩:=id hl'
 simp only at hc hd hc2 hd2
 subst hc hd hc2 hd2
 have hv:vs.size=ds.length:=by simpa using RA.length ⟨bs,h2⟩
 have hu:us.size=es.length:=by simpa using RA.length ⟨cs,h4⟩
 obtain⟨bs',h5⟩:=RA.append (h:=hb) ⟨bs,h2⟩ ⟨cs,h4⟩
 refine concat_meets ⟨_,ho,rfl⟩ ⟨_,ho2,rfl⟩ noFill_list_add seq_list_add PySem.F.slot_list_add PySem.F.entry_list_add (PySem.F.args_list_add_2 _ _) (list_addW a b vs us k k2 dd dd2 sl sl2 (by rw[hv,hu];exact aE hz)) ⟨ho,ho2,?_⟩
 exact h _ _ hb s.toks (aL _ st) ⟨_,vs ++us,bs',rfl,⟨_,Hp.get?_push_size _ rfl,rfl,rfl,_,rfl⟩,by simpa using h5,Hp.StaysIn.fresh st,bQ _⟩
theorem bF.stab{h₀ hb h hb' h':Hp}(st:ay h hb h' hb'):∀{vs:List Vl}{Rs:List lr},bF h₀ hb h vs Rs->bF h₀ hb' h' vs Rs
 :=fun x=>by
  induction x with
  |nil=>exact .nil
  |@cons _ _ R _ a b ih=>exact .cons (R.k.stab st a) ih
theorem bF.early{h₀ h₁ hb h:Hp}(l:h₀.UpToSlots h₁):∀{vs:List Vl}{Rs:List lr},bF h₁ hb h vs Rs->bF h₀ hb h vs Rs
 :=fun x=>by
  induction x with
  |nil=>exact .nil
  |@cons _ _ R _ a b ih=>exact .cons (R.k.early l a) ih
theorem bF.inv{h₀ hb h:Hp}{vs:List Vl}{R:lr}{Rs:List lr}(x:bF h₀ hb h vs (R::Rs)):X2 fun v us=>A3 (vs=v::us) (R.R h₀ hb h v) (bF h₀ hb h us Rs):=by
 cases x with|cons a b=>exact⟨_,_,rfl,a,b⟩
theorem bF.inv0{h₀ hb h:Hp}{vs:List Vl}(x:bF h₀ hb h vs []):vs=[]:=by cases x;rfl
noncomputable def pT(hg:Hp)(n:Nat)(env:Env)(ρ:LS)(es:List Ep)(Rs:List lr):Prop:=
 ∀(pos:Pos)(A:Ar)(fr:List Env)(hb:Hp)(s:SD)(Q:List Vl->SD->Prop)(E:VS),br A fr n->dc hg hb s.heap env fr ρ->
  (∀vs h' hb' tk,ay s.heap hb h' hb'->bF s.heap hb' h' vs Rs->Q vs (aA s h' tk))->wA MD A (spliced (backTo pos (sE es env))) Q E s
theorem ao:pT hg n env ρ [] []:=fun pos A fr hb s Q E ok S h=>wpAny_items_nil (h [] s.heap hb s.toks (.refl S.b) .nil)
theorem cJ{R:lr}{es:List Ep}{Rs:List lr}(he:Ev hg n env ρ e R.R)(hs:pT hg n env ρ es Rs)
  (hn:autoParam (sE (e::es) env=(false,eval e env)::sE es env) Rf):pT hg n env ρ (e::es) (R::Rs):=fun pos A fr hb s Q E ok S h=>
 wpAny_items_cons (he:=hn) (he A fr hb s _ E ok S fun v h₁ hb1 tk1 st1 r1=>hs pos A fr hb1 _ _ E ok (S.step st1) fun vs h2 hb2 tk2 st2 r2=>
  h (v::vs) h2 hb2 tk2 (st1.trans st2) (.cons (R.k.stab st2 r1) (r2.early st1.up)))
theorem bu{F:FP}{es:List Ep}{Rs:List lr}(he:Ev hg n env ρ e (RF F))(hs:pT hg n env ρ es Rs)(hn:autoParam (sE (e::es) env=(false,eval e env)::sE es env) Rf):pT hg n env ρ (e::es) (rF F::Rs):=cJ (R:=rF F) he hs hn
theorem gH{ds:List PyD}{es:List Ep}{Rs:List lr}(he:Ev hg n env ρ e (RL ds))(hs:pT hg n env ρ es Rs)(hn:autoParam (sE (e::es) env=(false,eval e env)::sE es env) Rf):pT hg n env ρ (e::es) (rL ds::Rs):=cJ (R:=rL ds) he hs hn
def gO(hg:Hp)(n:Nat)(f:Vl)(Rs:List lr)(R:RK):Prop:=Cd PG W0 hg n f Rs R
inductive ft(hg:Hp):Vl->Prop
 |builtin (id:String):ft hg (.builtin id)
 |type (T:String):ft hg (.type T)
 |fn {a:Ad} {o:Obj} {fd:FuncData}:hg.get? a=some o->o.data= .func fd->ft hg (.ref a)
theorem bh{f:Vl}(c:ft hg f){A:Ar}{s:SD}{Q:VS}{E:VS}{first:List Vl}{x:Sem Vl}{rest:List (Bool×Sem Vl)}
  (hplain:rest.any (·.1)=false)(h:wA MD A (spliced ((false,x)::rest)) (fun vs s1=>hg.StaysIn s1.heap/\wA MD A (call f (first ++vs)) Q E s1) E s):
  wA MD A (callWith pos f first ((false,x)::rest) []) Q E s:=by
 cases c with
 |builtin id=>exact Calls.callWith_builtin hplain (Calls.evalArgs_plain (wpAny_mono h (fun O O q=>q.2) fun O O e=>e))
 |type T=>exact PySem.callWith_type hplain (Calls.evalArgs_plain (wpAny_mono h (fun O O q=>q.2) fun O O e=>e))
 |fn ho hd=>exact callWith_function_kw (Calls.evalArgs_plain (wpAny_mono h (fun O O q=>⟨⟨q.1 _ _ ho,hd⟩,q.2⟩) fun O O e=>e))
theorem aB [di R]{x:Str}{p:Pos}{f:Vl}{e:Ep}{es:List Ep}{Rs:List lr}(hf:Ev hg n env ρ (.Name x p) (RF (RV f)))(c:ft hg f)(ha:pT hg n env ρ (e::es) Rs)
  (hc:gO hg n f Rs R)(hn:autoParam (sE (e::es) env=(false,eval e env)::sE es env) Rf)(hplain:autoParam ((backTo pos (sE es env)).any (·.1)=false) Rf):
  Ev hg n env ρ (.Call (.Name x p) (e::es) [] pos) R:=fun A fr hb s Q E ok S h=>by
 refine wpAny_Call_NameR (hf A fr hb s _ E ok S fun v h₁ hb1 tk1 st1 r1=>?_)
 obtain rfl:v=f:=r1
 have hargs:=ha pos A fr hb1 (aA s h₁ tk1) (fun vs s2=>hg.StaysIn s2.heap/\wA MD A (call v ([] ++vs)) Q E s2) E ok (S.step st1) fun vs h2 hb2 tk2 st2 r2=>by
  have S2:=(S.step st1).step st2
  exact⟨fun b o q=>S2.b b o (S2.g b o q),hc A fr h₁ hb2 _ vs Q E ok S2.g S2.b S2.f r2 fun v h' hb' tk st3 r3=>h v h' hb' tk (st1.trans (st2.trans st3)) (di.early (st1.trans st2).up r3)⟩
 rw[hn]at hargs⊢
 exact bh c hplain hargs
end
section
variable{l r:Ep}{R R1 R2:RK}
theorem aX [di R1]{op:CmpOp}{b:Bool}(hl:Ev hg n env ρ l R1)(hr:Ev hg n env ρ r R2)(ho:ic hg n (compareOp op) R1 R2 (RF (DV (.bool b))))(hm:autoParam (behindInMarks op r=false) Wf):
  Tv hg n env ρ (.Compare l [op] [r] pos) b:=fun A fr hb s Q E ok S h=>
 wpAny_isTrue_Compare1 (hm:=hm) (hl A fr hb s _ E ok S fun a h₁ hb1 tk1 st1 r1=>hr A fr hb1 _ _ E ok (S.step st1) fun b' h2 hb2 tk2 st2 r2=>
  ho A fr s.heap h₁ hb2 _ a b' _ E ok ((S.step st1).step st2).g st2.stay ((S.step st1).step st2).f (di.stab st2 r1) r2 fun v h' hb' tk st3 r3=>by
   rw[de r3]
   exact wpAny_truthy_bool (h h' hb' tk (st1.trans (st2.trans st3))))
theorem uc{b:Bool}(he:Tv hg n env ρ e b):Tv hg n env ρ (.UnaryOp .Not e pos) (!b):=fun A fr hb s Q E ok S h=>
 wpAny_isTrue_Not (he A fr hb s _ E ok S fun h' hb' tk st=>h h' hb' tk st)
theorem cw{b:Bool}(he:Ev hg n env ρ e (RF (DV (.bool b))))(hq:autoParam (∀whole,isTrue e env whole=(do let v <-whole;standAt e.pos;holding [v] (truthy v))) If):Tv hg n env ρ e b:=fun A fr hb s Q E ok S h=>
 wpAny_isTrue_value (he:=hq _) (he A fr hb s _ E ok S fun v h' hb' tk st r=>by rw[de r];exact wpAny_truthy_bool (h h' hb' tk st))
theorem ug{x:Str}(he:Ev hg n env ρ e (RF (DV (.str x))))(hz:x.length<=1000000)(hq:autoParam (∀whole,isTrue e env whole=(do let v <-whole;standAt e.pos;holding [v] (truthy v))) If):Tv hg n env ρ e (x.length !=0):=fun A fr hb s Q E ok S h=>
 wpAny_isTrue_value (he:=hq _) (he A fr hb s _ E ok S fun v h' hb' tk st r=>by
  obtain⟨t,rfl⟩:=az r
  refine P.truthy_str (fun q=>?_) ?_
  ·have:(1000000:Int)<2^63:=by decide
   omega
  ·have e1:((x.length:Int) !=0)=(x.length !=0):=by
    rw[Bool.eq_iff_iff];simp only[bne_iff_ne,ne_eq];exact Ff
   rw[e1]
   exact h h' hb' _ st)
noncomputable def l9(hg:Hp)(n:Nat)(env:Env)(ρ:LS)(op:BoolOp)(es:List Ep)(b:Bool):Prop:=
 ∀(A:Ar)(fr:List Env)(hb:Hp)(s:SD)(Q:Bool->SD->Prop)(E:VS),br A fr n->dc hg hb s.heap env fr ρ->
  (∀h' hb' tk,ay s.heap hb h' hb'->Q b (aA s h' tk))->wA MD A (allTrue op es env) Q E s
theorem An:l9 hg n env ρ .And [] true:=fun A fr hb s Q E ok S h=>wpAny_allTrue_And_nil (h s.heap hb s.toks (.refl S.b))
theorem y4:l9 hg n env ρ .Or [] false:=fun A fr hb s Q E ok S h=>wpAny_allTrue_Or_nil (h s.heap hb s.toks (.refl S.b))
theorem rQ{es:List Ep}{b c:Bool}(he:Tv hg n env ρ e b)(hs:b=true->l9 hg n env ρ .And es c):l9 hg n env ρ .And (e::es) (b&&c):=fun A fr hb s Q E ok S h=>
 wpAny_allTrue_And_cons (he A fr hb s _ E ok S fun h₁ hb1 tk1 st1=>by
  cases b with
  |false=>exact h h₁ hb1 tk1 st1
  |true=>exact hs rfl A fr hb1 _ Q E ok (S.step st1) fun h' hb' tk st=>h h' hb' tk (st1.trans st))
theorem jg{es:List Ep}{b c:Bool}(he:Tv hg n env ρ e b)(hs:b=false->l9 hg n env ρ .Or es c):l9 hg n env ρ .Or (e::es) (b||c):=fun A fr hb s Q E ok S h=>
 wpAny_allTrue_Or_cons (he A fr hb s _ E ok S fun h₁ hb1 tk1 st1=>by
  cases b with
  |true=>exact h h₁ hb1 tk1 st1
  |false=>exact hs rfl A fr hb1 _ Q E ok (S.step st1) fun h' hb' tk st=>h h' hb' tk (st1.trans st))
theorem jX{op:BoolOp}{es:List Ep}{b:Bool}(h:l9 hg n env ρ op es b):Tv hg n env ρ (.BoolOp op es pos) b:=fun A fr hb s Q E ok S k=>wpAny_isTrue_BoolOp (h A fr hb s Q E ok S k)
theorem uy{b:Bool}{x y:Ep}(ht:Tv hg n env ρ e b)(hx:b=true->Ev hg n env ρ x R)(hy:b=false->Ev hg n env ρ y R) [di R]:Ev hg n env ρ (.IfExp e x y pos) R:=fun A fr hb s Q E ok S h=>
 wpAny_IfExp (ht A fr hb s _ E ok S fun h₁ hb1 tk1 st1=>by
  cases b with
  |true=>exact hx rfl A fr hb1 _ Q E ok (S.step st1) fun v h' hb' tk st r=>h v h' hb' tk (st1.trans st) (di.early st1.up r)
  |false=>exact hy rfl A fr hb1 _ Q E ok (S.step st1) fun v h' hb' tk st r=>h v h' hb' tk (st1.trans st) (di.early st1.up r))
structure It(A:Ar)(tgt:Ep)(I:Ad)(fp wr:List Ad)(hbI:Hp)(ds:List PyD)(St:Nat->Hp->Prop):Prop where
 frame:∀i h h',St i h->(∀b∈fp,∀o,h.get? b=some o->(∀vs,o.data≠ .fields vs)->∃sl,h'.get? b=some {o with slots:=sl})->(∀b∈wr,∀o,h.get? b=some o->h'.get? b=some o)->St i h'
 fld:∀i h,St i h->∀b∈wr,X2 fun o vs=>h.get? b=some o/\o.data= .fields vs
 next:∀i d hb (s:SD) (Q:VS) (E:VS),ds[i]?=some d->St i s.heap->hbI.StaysIn hb->hb.StaysIn s.heap->(∀b∈wr,hb.get? b=none)->
  (∀v h' hb' tk,ay s.heap hb h' hb'->(∀b o,b∉wr->s.heap.get? b=some o->h'.get? b=some o)->(∀b∈wr,hb'.get? b=none)->RD hb' v d->St (i +1) h'->Q v (aA s h' tk))->
  wA MD A (pyNext (.ref I)) (fun r s₁=>∃v,r=some v/\wA MD A (letOwnedTupleGo tgt (.ref I) v) (fun O s₂=>Q v s₂) E s₁) E s
 done:∀(s:SD)(Q:Option Vl->SD->Prop)(E:VS),St ds.length s.heap->
  (∀h' tk,(∀b o,b∉wr->s.heap.get? b=some o->h'.get? b=some o)->Q none (aA s h' tk))->wA MD A (pyNext (.ref I)) Q E s
 self:∀i (s:SD) (Q:VS) (E:VS),St i s.heap->Q (.ref I) s->wA MD A (pyIter (.ref I)) Q E s
theorem cZ{h h' hb:Hp}{wr:List Ad}(st:hb.StaysIn h)(k:∀b o,b∉wr->h.get? b=some o->h'.get? b=some o)(fld:∀b∈wr,X2 fun o vs=>h.get? b=some o/\o.data= .fields vs)(hw:∀b∈wr,hb.get? b=none):ay h hb h' hb:=
 ⟨fun b o e hd=>by
  by_cases q:b∈wr
  ·obtain⟨o',vs,e',d'⟩:=fld b q
   rw[e]at e';injection e' with e';subst e'
   exact absurd d' (hd vs)
  ·exact⟨o.slots,k b o q e⟩,fun O O e=>e,fun b o e=>k b o (fun q=>by rw[hw b q]at e;cases e) (st b o e),fun O O O O e=>e⟩
noncomputable def cz:Ep->Prop
 | .Name .. =>True
 | .Tuple .. =>True
 |_=>False
theorem uB{A:Ar}{s:SD}{Q:Unit->SD->Prop}{E:VS}{tgt:Ep}(ht:cz tgt){I:Ad}{o:Obj}{v:Vl}{T:String}{a b:Vl}(ho:s.heap.get? I=some o)(hc:o.cls= .type T)(hd:o.data= .fields #[a,b])
  (hT:(["enumerate","zip","dict_itemiterator","dict_reverseitemiterator","odict_iterator","itertools.zip_longest","itertools.pairwise"].contains T)=false)(h:Q () s):wA MD A (letOwnedTupleGo tgt (.ref I) v) Q E s:=by
 cases tgt<;>first|exact ht.elim|skip
 ·exact wP h
 ·unfold letOwnedTupleGo
  dsimp only
  cases v<;>first|exact wP h|skip
  refine wBi (wpAny_load ho ?_)
  rw[hc,hd]
  dsimp only
  rw[hT]
  exact wP h
theorem pO{A:Ar}(hh:A.handled=none){tgt:Ep}(ht:cz tgt){I ax:Ad}(hne:ax≠I){vs:Array Vl}{hbI:Hp}{ds:List PyD}(hr:RA hbI vs.toList ds):
  It A tgt I [ax] [I] hbI ds (fun i h=>h.IsListIter I ax i/\h.IsList ax vs) where
 frame:=fun i h h' st up k=>by
  obtain⟨⟨o,ho,hc,hd⟩,⟨o2,ho2,hc2,k2,hd2⟩⟩:=st
  obtain⟨sl,e⟩:=up ax (.head _) o2 ho2 (fun O q=>by rw[hd2]at q;cases q)
  exact⟨⟨o,k I (.head _) o ho,hc,hd⟩,⟨_,e,hc2,k2,hd2⟩⟩
 fld:=fun i h st b hb=>by
  obtain⟨⟨o,ho,hc,hd⟩,hl⟩:=st
  rw[List.mem_singleton.mp hb]
  exact⟨o,_,ho,hd⟩
 next:=fun i d hb s Q E hi st hs hst hw hQ=>by
  obtain⟨v,hv,hd⟩:=hr.get hi
  refine wpAny_pyNext_list_item st.1 st.2 (x:=v) (by simpa using hv) fun h' hit' hs'=>?_
  obtain⟨o,ho,hc,hdd⟩:=id hit'
  obtain⟨o0,ho0,_,hd0⟩:=id st.1
  have k:∀b o,b∉[I]->s.heap.get? b=some o->h'.get? b=some o:=fun b o hb e=>hs'.extBut b o (fun q=>hb (by simp[q])) e
  refine⟨v,rfl,uB ht ho hc hdd (by decide) ?_⟩
  exact hQ v h' hb s.toks (cZ hst k (fun b hb=>⟨o0,_,by rw[List.mem_singleton.mp hb];exact ho0,hd0⟩) hw) k hw (hd.keeps hs) ⟨hit',st.2.extBut hs'.extBut hne⟩
 done:=fun s Q E st hQ=>by
  refine wpAny_pyNext_list_end hh st.1 st.2 ?_ fun h' he'=>hQ h' s.toks fun b o hb e=>he' b o (fun h=>hb (by simp[h])) e
  have:=hr.length
  simp only[Array.length_toList]at this
  simp[this]
 self:=fun O O O O st hQ=>wpAny_pyIter_listiter st.1 hQ
theorem mt{A:Ar}(hh:A.handled=none){tgt:Ep}(ht:cz tgt){I ax:Ad}(hne:ax≠I){vs:Array Vl}{hbI:Hp}{ds:List PyD}(hr:RA hbI vs.toList ds):
  It A tgt I [ax] [I] hbI ds (fun i h=>h.IsTupleIter I ax i/\h.IsTuple ax vs) where
 frame:=fun i h h' st up k=>by
  obtain⟨⟨o,ho,hc,hd⟩,⟨o2,ho2,hc2,k2,hd2⟩⟩:=st
  obtain⟨sl,e⟩:=up ax (.head _) o2 ho2 (fun O q=>by rw[hd2]at q;cases q)
  exact⟨⟨o,k I (.head _) o ho,hc,hd⟩,⟨_,e,hc2,k2,hd2⟩⟩
 fld:=fun i h st b hb=>by
  obtain⟨⟨o,ho,hc,hd⟩,hl⟩:=st
  rw[List.mem_singleton.mp hb]
  exact⟨o,_,ho,hd⟩
 next:=fun i d hb s Q E hi st hs hst hw hQ=>by
  obtain⟨v,hv,hd⟩:=hr.get hi
  refine wpAny_pyNext_tuple_item st.1 st.2 (x:=v) (by simpa using hv) fun h' hit' hs'=>?_
  obtain⟨o,ho,hc,hdd⟩:=id hit'
  obtain⟨o0,ho0,_,hd0⟩:=id st.1
  have k:∀b o,b∉[I]->s.heap.get? b=some o->h'.get? b=some o:=fun b o hb e=>hs'.extBut b o (fun q=>hb (by simp[q])) e
  refine⟨v,rfl,uB ht ho hc hdd (by decide) ?_⟩
  exact hQ v h' hb s.toks (cZ hst k (fun b hb=>⟨o0,_,by rw[List.mem_singleton.mp hb];exact ho0,hd0⟩) hw) k hw (hd.keeps hs) ⟨hit',st.2.extBut hs'.extBut hne⟩
 done:=fun s Q E st hQ=>by
  refine wpAny_pyNext_tuple_end hh st.1 st.2 ?_ fun h' he'=>hQ h' s.toks fun b o hb e=>he' b o (fun h=>hb (by simp[h])) e
  have:=hr.length
  simp only[Array.length_toList]at this
  simp[this]
 self:=fun O O O O st hQ=>wpAny_pyIter_tupleiter st.1 hQ
end
section
mutual
inductive Bd:Ep->PyD->LS->Prop
 |name {x:Str} {p:Pos} {d:PyD}:Bd (.Name x p) d [(x,.fz (DV d))]
 |tuple {es:List Ep} {k:Nat} {p:Pos} {ds:List PyD} {σ:LS}:kO es ds σ->Bd (.Tuple es k p) (.tuple ds) σ
inductive kO:List Ep->List PyD->LS->Prop
 |nil:kO [] [] []
 |cons {e:Ep} {es:List Ep} {d:PyD} {ds:List PyD} {σ τ:LS}:Bd e d σ->kO es ds τ->kO (e::es) (d::ds) (τ ++σ)
end
theorem Bd.plain{e:Ep}{d:PyD}{σ:LS}(b:Bd e d σ):cz e:=by cases b<;>trivial
theorem cX{σ τ:LS}{x:Str}:(τ ++σ).lookup x=(τ.lookup x).or (σ.lookup x):=by
 induction τ with
 |nil=>rfl
 |cons p τ ih=>
  obtain⟨y,lv⟩:=p
  rw[List.cons_append,List.lookup_cons,List.lookup_cons]
  cases x==y<;>simp[ih]
theorem ng{σ:LS}{x:Str}{lv:LV}(h:σ.lookup x=some lv):x∈σ.map (·.1):=by
 induction σ with
 |nil=>cases h
 |cons p σ ih=>
  obtain⟨y,l⟩:=p
  rw[List.lookup_cons]at h
  by_cases q:(x==y)=true
  ·rw[List.map_cons,eq_of_beq q];exact .head _
  ·simp only[q]at h
   exact .tail _ (ih h)
section
variable{l r:Ep}{R R1 R2:RK}
noncomputable def Ci(hb:Hp)(σ:LS)(m0 m:Str->Option Vl):Prop:=
 (∀x lv,σ.lookup x=some lv->X2 fun F u=>A3 (lv= .fz F) (m x=some u) (F.P hb u))/\∀x,σ.lookup x=none->m x=m0 x
theorem eW{h hb:Hp}{v:Vl}{ds:List PyD}(st:hb.StaysIn h)(r:RD hb v (.tuple ds)):X2 fun a vs=>A3 (v= .ref a) (h.IsTuple a vs) (RA hb vs.toList ds):=by
 obtain⟨_,r⟩:=r
 obtain⟨a,o,vs,k,rfl,ho,hc,hd,hr⟩:=reads_tuple_inv r
 exact⟨a,vs,rfl,⟨o,st _ _ ho,hc,k,hd⟩,⟨_,hr⟩⟩
structure jn(C:Ad)(hb h h':Hp):Prop where
 k:∀b o,b≠C->h.get? b=some o->h'.get? b=some o
 st:hb.StaysIn h'
theorem pS{e:Ep}{d:PyD}{σ:LS}(b:Bd e d σ)(es:List Ep)(env:Env):assignEach (e::es) env=(false,assign e env)::assignEach es env:=by
 cases b<;>rfl
theorem j5{es:List Ep}{ds:List PyD}{σ:LS}(env:Env):∀(_:kO es ds σ),(assignEach es env).length=ds.length/\(assignEach es env).findIdx? (·.1)=none
 | .nil=>⟨rfl,rfl⟩
 | .cons a b=>by
  have ih:=j5 env b
  rw[pS a]
  refine⟨by simp[ih.1],?_⟩
  rw[List.findIdx?_cons]
  simp[ih.2]
mutual
theorem sC{A:Ar}(hh:A.handled=none)(hk:env.scope.kind= .function):∀{e:Ep}{d:PyD}{σ:LS}(_:Bd e d σ)(_:∀x∈σ.map (·.1),env.kindOf x=some .local){hb:Hp}{s:SD}{v:Vl}{m:Str->Option Vl}{Q:Unit->SD->Prop}{E:VS}
  (_:s.heap.Ns env.locals m)(_:RD hb v d)(_:hb.StaysIn s.heap)(_:hb.get? env.locals=none)
  (_:∀h' tk m',h'.Ns env.locals m'->jn env.locals hb s.heap h'->Ci hb σ m m'->Q () (aA s h' tk)),wA MD A (assign e env v) Q E s
 |_,d,_,.name (x:=x)=>fun hl {hb s v m Q E} hn hr hst hL h=>by
  refine wpAny_assign_Name (wpAny_storeName_local (hl x (by simp)) hn (fun h' hn' hs'=>h h' _ _ hn' ⟨fun b o hb' e=>hs'.extBut b o hb' e,fun b o e=>hs'.extBut b o (fun q=>by rw[q,hL]at e;cases e) (hst b o e)⟩ ⟨fun y lv q=>?_,fun y q=>?_⟩)
   (by show(env.scope.kind== .class||(env.scope.kind== .module&&env.locals !=env.globals))=false;rw[hk];rfl))
  ·rw[List.lookup_cons]at q
   by_cases e:(y==x)=true
   ·rw[e]at q;cases q
    exact⟨_,v,rfl,by simp[eq_of_beq e],hr⟩
   ·simp only[e]at q;cases q
  ·rw[List.lookup_cons]at q
   by_cases e:(y==x)=true
   ·rw[e]at q;cases q
   ·have:¬y=x:=fun z=>e (by simp[z])
    simp[this]
 |_,_,_,.tuple (ds:=ds) bs=>fun hl {hb s v m Q E} hn hr hst hL h=>by
  obtain⟨a,vs,rfl,ht,hra⟩:=eW hst hr
  obtain⟨e1,e2⟩:=j5 env bs
  have hsz:vs.size=ds.length:=by have:=hra.length;simpa using this
  refine wpAny_assign_Tuple hh ht (e1.trans hsz.symm) e2 fun h₁ k1=>?_
  have k:s.heap.StaysIn h₁:=fun b o e=>k1 b o (Nat.ne_of_lt (Hp.lt_size e)) e
  refine kN hh hk bs hl (hn.keeps k) hra (fun b o e=>k b o (hst b o e)) hL fun h' tk m' a b c=>h h' tk m' a ⟨fun x o hx e=>b.k x o hx (k x o e),b.st⟩ c
theorem kN{A:Ar}(hh:A.handled=none)(hk:env.scope.kind= .function):∀{es:List Ep}{ds:List PyD}{σ:LS}(_:kO es ds σ)(_:∀x∈σ.map (·.1),env.kindOf x=some .local){hb:Hp}{s:SD}{vs:List Vl}{m:Str->Option Vl}{Q:Unit->SD->Prop}{E:VS}
  (_:s.heap.Ns env.locals m)(_:RA hb vs ds)(_:hb.StaysIn s.heap)(_:hb.get? env.locals=none)
  (_:∀h' tk m',h'.Ns env.locals m'->jn env.locals hb s.heap h'->Ci hb σ m m'->Q () (aA s h' tk)),wA MD A (assignInOrder ((assignEach es env).map (·.2)) vs) Q E s
 |_,_,_,.nil=>fun hl {hb s vs m Q E} hn hr hst hL h=>by
  rw[hr.inv0]
  exact wpAny_assignInOrder_none (h s.heap s.toks m hn ⟨fun O O O e=>e,hst⟩ ⟨fun O O q=>(nomatch q),fun O O=>rfl⟩)
 |_,_,_,.cons (σ:=σ) (τ:=τ) b bs=>fun hl {hb s vs m Q E} hn hr hst hL h=>by
  obtain⟨v,us,rfl,h1,h2⟩:=hr.inv
  rw[pS b]
  refine wpAny_assignInOrder_more (sC hh hk b (fun x hx=>hl x (by rw[List.map_append];exact List.mem_append_right _ hx)) hn h1 hst hL fun h₁ tk1 m1 a1 b1 c1=>?_)
  refine kN hh hk bs (fun x hx=>hl x (by rw[List.map_append];exact List.mem_append_left _ hx)) a1 h2 b1.st hL fun h' tk m' a' b' c'=>h h' tk m' a' ⟨fun x o hx e=>b'.k x o hx (b1.k x o hx e),b'.st⟩ ⟨fun x lv q=>?_,fun x q=>?_⟩
  ·rw[cX]at q
   cases ht:τ.lookup x with
   |some l=>rw[ht]at q;exact c'.1 x lv (by rw[ht];exact q)
   |none=>
    rw[ht]at q
    obtain⟨F,u,e1,e2,e3⟩:=c1.1 x lv q
    exact⟨F,u,e1,(c'.2 x ht).trans e2,e3⟩
  ·rw[cX]at q
   cases ht:τ.lookup x with
   |some l=>rw[ht]at q;cases q
   |none=>
    rw[ht]at q
    exact(c'.2 x ht).trans (c1.2 x q)
end
end
end
section
variable{l r:Ep}{R R1 R2:RK}
structure AK where
 P:List PyD->Hp->Hp->Ad->Prop
 loose:Bool
 step:loose=true->∀{out:List PyD}{h hb h' hb':Hp}{D:Ad},ay h hb h' hb'->P out hb h D->P out hb' h' D
 base:∀{out:List PyD}{h hb hb':Hp}{D:Ad},hb.StaysIn hb'->P out hb h D->P out hb' h D
 at':∀{out:List PyD}{h hb h':Hp}{D:Ad},(∀o,h.get? D=some o->h'.get? D=some o)->P out hb h D->P out hb h' D
 keep:∀{out:List PyD}{h hb g:Hp}{D:Ad},p9 hb g->P out hb h D->P out g h D
 data:∀{out:List PyD}{h hb:Hp}{D:Ad},P out hb h D->∃o,h.get? D=some o/\(∀vs,o.data≠ .fields vs)/\∀v,o.data≠ .cell v
noncomputable def Cm:AK where
 P:=fun out hb h D=>∃ys,PL h D ys/\RA hb ys.toList out
 loose:=true
 step:=fun _ _ _ _ _ _ _ st ⟨ys,a,b⟩=>⟨ys,a.up st.up,b.keeps st.sub⟩
 base:=fun k ⟨ys,a,b⟩=>⟨ys,a,b.keeps k⟩
 at':=fun k ⟨ys,⟨o,ho,r⟩,b⟩=>⟨ys,⟨o,k o ho,r⟩,b⟩
 keep:=fun k ⟨ys,a,b⟩=>⟨ys,a,b.imp fun O r=>dg k.up r⟩
 data:=fun⟨ys,⟨o,ho,_,_,_,hd⟩,_⟩=>⟨o,ho,(fun vs q=>by rw[hd]at q;cases q),(fun vs q=>by rw[hd]at q;cases q)⟩
structure CR(K:AK)(hg h₀ hb₀ hb h:Hp)(env:Env)(fr:List Env)(ρ:LS)(D:Ad)(out:List PyD):Prop where
 s:dc hg hb h env fr ρ
 st:ay h₀ hb₀ h hb
 c:A3 (∃m,h.Ns env.locals m) (hb.get? env.locals=none) (eO h₀ env.locals)
 d:A4 (K.P out hb h D) (hb.get? D=none) (eO h₀ D) (D≠env.locals)
 o:∀y ds,ρ.lookup y=some (.own ds)->X3 fun a vs bs=>A4 (dY env h y (.ref a)) (PL h a vs) (ReadsAll hb vs.toList ds bs) (¬eO h₀ a)
 f0:h₀.FunFrames hb₀ fr
theorem cv{h:Hp}{a:Ad}{m:Str->Option Vl}(x:h.Ns a m):∃o,h.get? a=some o/\∀vs,o.data≠ .fields vs:=by
 obtain⟨o,es,ep,ho,hd,_⟩:=x
 exact⟨o,ho,fun vs q=>by rw[hd]at q;cases q⟩
theorem dv{h:Hp}{a:Ad}{ys:Array Vl}(x:PL h a ys):∃o,h.get? a=some o/\∀vs,o.data≠ .fields vs:=by
 obtain⟨o,ho,_,_,_,hd⟩:=x
 exact⟨o,ho,fun vs q=>by rw[hd]at q;cases q⟩
theorem dW{h:Hp}{a b:Ad}{ys:Array Vl}{m:Str->Option Vl}(x:PL h a ys)(y:h.Ns b m):a≠b:=by
 rintro rfl
 obtain⟨o,ho,_,_,_,hd⟩:=x
 obtain⟨o',es,ep,ho',hd',_⟩:=y
 rw[ho]at ho';injection ho' with ho';subst ho'
 rw[hd]at hd';cases hd'
theorem CR.step{K:AK}{h₀ hb₀ hb h hb' h':Hp}{fr:List Env}{D:Ad}{out:List PyD}(x:CR K hg h₀ hb₀ hb h env fr ρ D out)(st:ay h hb h' hb')(hk:K.loose=true\/∀o,h.get? D=some o->h'.get? D=some o):CR K hg h₀ hb₀ hb' h' env fr ρ D out:=by
 obtain⟨⟨m,hm⟩,c2,c3⟩:=x.c
 obtain⟨d1,d2,d3,d4⟩:=x.d
 obtain⟨oc,hoc,hdc⟩:=cv hm
 obtain⟨od,hod,hdd,_⟩:=K.data d1
 exact⟨x.s.step st,x.st.trans st,⟨⟨m,st.up.ns hm⟩,st.fresh _ _ hoc hdc c2,c3⟩,⟨hk.elim (fun q=>K.step q st d1) fun q=>K.at' q (K.base st.sub d1),st.fresh _ _ hod hdd d2,d3,d4⟩,fun y ds e=>let⟨a,vs,bs,r,p,q,nn⟩:=x.o y ds e;⟨a,vs,bs,r.up st.up,p.up st.up,ReadsAll.keeps st.sub q,nn⟩,x.f0⟩
theorem CR.less{K:AK}{h₀ hb₀ hb h:Hp}{fr:List Env}{D:Ad}{out:List PyD}{ρ':LS}(x:CR K hg h₀ hb₀ hb h env fr ρ D out)(k:∀y lv,ρ'.lookup y=some lv->ρ.lookup y=some lv):CR K hg h₀ hb₀ hb h env fr ρ' D out:=
 ⟨⟨x.s.g,x.s.b,x.s.f,x.s.k,x.s.gl,x.s.bl,fun y lv e=>x.s.v y lv (k y lv e)⟩,x.st,x.c,x.d,fun y ds e=>x.o y ds (k y _ e),x.f0⟩
theorem sK{h₀ h h':Hp}{C:Ad}(up:h₀.UpToSlots h)(new:eO h₀ C)(k:∀b o,b≠C->h.get? b=some o->h'.get? b=some o):h₀.UpToSlots h':=fun b o e hd=>by
 obtain⟨sl,e'⟩:=up b o e hd
 refine⟨sl,k b _ (fun q=>?_) e'⟩
 subst q
 obtain⟨vs,q⟩:=new o e
 exact hd vs q
theorem fZ{hb h h':Hp}{C:Ad}(st:hb.StaysIn h)(c:hb.get? C=none)(k:∀b o,b≠C->h.get? b=some o->h'.get? b=some o):hb.StaysIn h':=fun b o e=>k b o (fun q=>by rw[q,c]at e;cases e) (st b o e)
theorem cC{hb h h':Hp}{C:Ad}{oC oC':Obj}(h1:h.get? C=some oC)(h2:h'.get? C=some oC')(hd:∀vs,oC'.data≠ .fields vs)(k:∀b o,b≠C->h.get? b=some o->h'.get? b=some o):∀{l:List Env},h.FunFrames hb l->h'.FunFrames hb l
 |[],_=>trivial
 |_::_,⟨hk,⟨L,o,hf,hn,ho,hd'⟩,hr⟩=>by
  by_cases q:L=C
  ·subst q
   exact⟨hk,⟨L,oC',hf,hn,h2,hd⟩,cC h1 h2 hd k hr⟩
  ·exact⟨hk,⟨L,o,hf,hn,k L o q ho,hd'⟩,cC h1 h2 hd k hr⟩
theorem dF{h:Hp}{a:Ad}{m m':Str->Option Vl}(x:h.Ns a m)(y:h.Ns a m'):m=m':=by
 obtain⟨o,es,ep,ho,hd,_,hf⟩:=x
 obtain⟨o',es',ep',ho',hd',_,hf'⟩:=y
 rw[ho]at ho';injection ho' with ho';subst ho'
 rw[hd]at hd';cases hd'
 funext n
 rw[<-hf n,<-hf' n]
theorem CR.bind{K:AK}{A:Ar}{h₀ hb₀ hb h h':Hp}{fr:List Env}{D:Ad}{out:List PyD}{σ:LS}{m m':Str->Option Vl}(x:CR K hg h₀ hb₀ hb h env fr ρ D out)
  (hl:∀y∈σ.map (·.1),env.kindOf y=some .local)(hn:h.Ns env.locals m)(hn':h'.Ns env.locals m')(g:jn env.locals hb h h')(i:Ci hb σ m m')
  :CR K hg h₀ hb₀ hb h' env fr (σ ++ρ) D out:=by
 obtain⟨_,c2,c3⟩:=x.c
 obtain⟨d1,d2,d3,hDC⟩:=x.d
 obtain⟨oc,hoc,_⟩:=cv hn
 obtain⟨oc',hoc',hdc'⟩:=cv hn'
 have rd:∀y v,dY env h y v->(∀u,m' y=some u->m y=some u->True)->(env.kindOf y=some .local->m' y=m y)->dY env h' y v:=fun y v r O q=>by
  rcases r with⟨a,m1,b,c⟩|⟨a,c,b,hc⟩
  ·exact .inl ⟨a,m',hn',by rw[q a,dF hn b];exact c⟩
  ·refine .inr ⟨a,c,b,?_⟩
   obtain⟨o,ho,hd⟩:=hc
   refine⟨o,g.k c o (fun z=>?_) ho,hd⟩
   subst z
   obtain⟨o',es,ep,ho',hd',_⟩:=hn
   rw[ho]at ho';injection ho' with ho';subst ho'
   rw[hd]at hd';cases hd'
 refine⟨⟨x.s.g,g.st,cC hoc hoc' hdc' g.k x.s.f,x.s.k,x.s.gl,x.s.bl,fun y lv e=>?_⟩,⟨sK x.st.up c3 g.k,x.st.sub,g.st,x.st.fresh⟩,⟨⟨m',hn'⟩,c2,c3⟩,⟨K.at' (fun o ho=>g.k D o hDC ho) d1,d2,d3,hDC⟩,fun y ds e=>?_,x.f0⟩
 ·rw[cX]at e
  cases hσ:σ.lookup y with
  |some lv'=>
   rw[hσ]at e;cases e
   obtain⟨F,u,rfl,hu,hF⟩:=i.1 y _ hσ
   exact⟨u,.inl ⟨hl y (ng hσ),m',hn',hu⟩,hF⟩
  |none=>
   rw[hσ]at e
   obtain⟨v,r,l⟩:=x.s.v y lv e
   refine⟨v,rd y v r (fun O O O=>trivial) (fun O=>i.2 y hσ),?_⟩
   cases lv with
   |fz F=>exact l
   |own ds=>
    obtain⟨a,vs,bs,rfl,h1,h2⟩:=l
    refine⟨a,vs,bs,rfl,?_,h2⟩
    obtain⟨o,ho,r⟩:=id h1
    exact⟨o,g.k a o (dW h1 hn) ho,r⟩
 ·rw[cX]at e
  cases hσ:σ.lookup y with
  |some lv'=>
   rw[hσ]at e;cases e
   obtain⟨F,u,q,_⟩:=i.1 y _ hσ
   cases q
  |none=>
   rw[hσ]at e
   obtain⟨a,vs,bs,r,p,q,nn⟩:=x.o y ds e
   refine⟨a,vs,bs,rd y _ r (fun O O O=>trivial) (fun O=>i.2 y hσ),?_,q,nn⟩
   obtain⟨o,ho,r'⟩:=id p
   exact⟨o,g.k a o (dW p hn) ho,r'⟩
noncomputable def Kb(X:List Ad)(h h':Hp):Prop:=∀b o,b∉X->h.get? b=some o->(∀vs,o.data≠ .fields vs)->∃sl,h'.get? b=some {o with slots:=sl}
theorem Kb.trans{X:List Ad}{h h₁ h2:Hp}(x:Kb X h h₁)(y:Kb X h₁ h2):Kb X h h2:=fun b o hb e hd=>let⟨_,e1⟩:=x b o hb e hd;let⟨sl,e2⟩:=y b _ hb e1 hd;⟨sl,e2⟩
theorem Kb.of_up{X:List Ad}{h h':Hp}(x:h.UpToSlots h'):Kb X h h':=fun b o O e hd=>x b o e hd
theorem Kb.of_but{X:List Ad}{C:Ad}{h h':Hp}(hC:C∈X)(k:∀b o,b≠C->h.get? b=some o->h'.get? b=some o):Kb X h h':=fun b o hb e hd=>⟨o.slots,k b o (fun q=>hb (q▸hC)) e⟩
noncomputable def pY(K:AK)(hg:Hp)(n:Nat)(env:Env)(ρ ρ':LS)(t:Vl->Sem Unit)(outs:List PyD):Prop:=
 ∀(A:Ar)(fr:List Env)(h₀ hb₀ hb:Hp)(s:SD)(D:Ad)(out:List PyD)(Q:Unit->SD->Prop)(E:VS),br A fr n->CR K hg h₀ hb₀ hb s.heap env fr ρ D out->out.length +outs.length<=1000000->
  (∀h' hb' tk,CR K hg h₀ hb₀ hb' h' env fr ρ' D (out ++outs)->hb.StaysIn hb'->Kb [env.locals,D] s.heap h'->Q () (aA s h' tk))->wA MD A (t (.ref D)) Q E s
noncomputable abbrev qO(hg:Hp)(n:Nat)(env:Env)(ρ ρ':LS)(t:Vl->Sem Unit)(outs:List PyD):Prop:=pY Cm hg n env ρ ρ' t outs
theorem iq{A:Ar}{E:VS}{s:SD}{D:Ad}{ys:Array Vl}{x:Vl}{Q:VS}(hl:PL s.heap D ys)(hz:ys.size<=1000000)
  (hQ:∀h',PL h' D (ys.push x)->(∀b o,b≠D->s.heap.get? b=some o->h'.get? b=some o)->Q .none {s with heap:=h'}):
  wA MD A (call (.builtin "list.append") [.ref D,x]) Q E s:=by
 obtain⟨o,ho,hc,hq,n,hd⟩:=id hl
 obtain⟨n',hd'⟩:=Obj.data_mapSeq hd (·.push x)
 refine wpAny_call_entry slot_list_append hl.isList.typeIs entry_list_append ?_ (args_list_append _ _)
 show wA _ _ (updateSeq D (·.push x)>>=fun O=>ret .none) _ _ s
 refine wBi ?_
 refine wpAny_updateSeq ho hd (wP ⟨.none,rfl,hQ _ ?_ (Hp.SameBut.update ..).extBut⟩) (aE hz) (by rw[Array.size_push];exact Nat.succ_le_succ (aE hz))
 refine⟨_,Hp.get?_update_self _ ho (Obj.isFreed_of_seq hd'),(Obj.cls_mapSeq ..).trans hc,?_,n',hd'⟩
 obtain⟨c,d,dt,sl⟩:=o
 cases dt<;>first|exact hq|(cases hd)
theorem CR.filled{K:AK}{h₀ hb₀ hb h h':Hp}{fr:List Env}{D:Ad}{out out':List PyD}{ρ':LS}(x:CR K hg h₀ hb₀ hb h env fr ρ D out)(p:K.P out' hb h' D)(k:∀b o,b≠D->h.get? b=some o->h'.get? b=some o)(hρ:∀y lv,ρ'.lookup y=some lv->ρ.lookup y=some lv):CR K hg h₀ hb₀ hb h' env fr ρ' D out':=by
 obtain⟨d1,d2,d3,hDC⟩:=x.d
 obtain⟨⟨m,hm⟩,c2,c3⟩:=x.c
 obtain⟨od,hod,_,hcd⟩:=K.data d1
 obtain⟨od',hod',hdd',_⟩:=K.data p
 have hm':h'.Ns env.locals m:=by obtain⟨o,es,ep,ho,r⟩:=hm;exact⟨o,es,ep,k _ o hDC.symm ho,r⟩
 have rd:∀y v,dY env h y v->dY env h' y v:=fun y v r=>by
  rcases r with⟨a,m1,b,c⟩|⟨a,c,b,hc⟩
  ·exact .inl ⟨a,m,hm',by rw[dF hm b];exact c⟩
  ·obtain⟨o,ho,hd⟩:=hc
   refine .inr ⟨a,c,b,o,k c o (fun z=>?_) ho,hd⟩
   subst z
   rw[hod]at ho;injection ho with ho;subst ho
   exact hcd _ hd
 refine⟨⟨x.s.g,fZ x.s.b d2 k,cC hod hod' hdd' k x.s.f,x.s.k,x.s.gl,x.s.bl,fun y lv e=>?_⟩,⟨sK x.st.up d3 k,x.st.sub,fZ x.s.b d2 k,x.st.fresh⟩,⟨⟨m,hm'⟩,c2,c3⟩,⟨p,d2,d3,hDC⟩,fun y ds e=>?_,x.f0⟩
 ·cases lv with
  |fz F=>
   obtain⟨u,r,l⟩:=x.s.v y _ (hρ _ _ e)
   exact⟨u,rd y u r,l⟩
  |own ds=>
   obtain⟨a,vs,bs,r,⟨o,ho,r'⟩,q,nn⟩:=x.o y ds (hρ _ _ e)
   exact⟨_,rd y _ r,a,vs,bs,rfl,⟨o,k a o (fun z=>nn (z▸d3)) ho,r'⟩,q⟩
 ·obtain⟨a,vs,bs,r,⟨o,ho,r'⟩,q,nn⟩:=x.o y ds (hρ _ _ e)
  exact⟨a,vs,bs,rd y _ r,⟨o,k a o (fun z=>nn (z▸d3)) ho,r'⟩,q,nn⟩
theorem gz{d:PyD}{ρ':LS}(he:Ev hg n env ρ e (RF (DV d)))(hρ:∀y lv,ρ'.lookup y=some lv->ρ.lookup y=some lv):
  qO hg n env ρ ρ' (fun acc=>do let _ <-call (.builtin "list.append") [acc,<-eval e env]) [d]:=fun A fr h₀ hb₀ hb s D out Q E ok x hz h=>by
 refine wBi (he A fr hb s _ E ok x.s fun v h₁ hb1 tk1 st1 r1=>wBi ?_)
 have x1:=x.step st1 (.inl rfl)
 obtain⟨⟨ys,d1,d1'⟩,d2,d3,d4⟩:=x1.d
 have hlen:ys.size=out.length:=by simpa using d1'.length
 refine iq d1 (by rw[hlen];simp at hz;exact Nat.le_trans ‹_› (by decide)) fun h' hl' k=>wP ?_
 exact h h' hb1 tk1 (x1.filled ⟨ys.push v,hl',by simpa using RA.append d1' (RA.cons r1 RA.nil)⟩ k hρ) st1.sub ((Kb.of_up st1.up).trans (Kb.of_but (by simp) k))
end
section
variable{l r:Ep}{R R1 R2:RK}
theorem fR{hb h:Hp}(wr:List Ad)(fld:∀b∈wr,X2 fun o vs=>h.get? b=some o/\o.data= .fields vs)(st:hb.StaysIn h):
  ∃g:Hp,A4 (g.StaysIn hb) (p9 hb g) (∀b∈wr,g.get? b=none) (∀b,b∉wr->g.get? b=hb.get? b):=by
 obtain⟨g,g1,g2⟩:=cu hb fun b=>b∉wr
 refine⟨g,fun b o e=>?_,fun b o e hd=>?_,fun b hb=>g2 b (fun q=>q hb),g1⟩
 ·by_cases q:b∈wr
  ·rw[g2 b (fun z=>z q)]at e;cases e
  ·rw[g1 b q]at e;exact e
 ·by_cases q:b∈wr
  ·obtain⟨o',vs,e',d'⟩:=fld b q
   rw[st b o e]at e';injection e' with e';subst e'
   exact absurd d' (hd vs)
  ·exact(g1 b q).trans e
theorem am{hb g:Hp}(k:g.StaysIn hb){a:Ad}(e:hb.get? a=none):g.get? a=none:=by
 cases q:g.get? a with
 |none=>rfl
 |some o'=>rw[k a o' q]at e;cases e
theorem eC{h hb g:Hp}(k:g.StaysIn hb):∀{l:List Env},h.FunFrames hb l->h.FunFrames g l
 |[],_=>trivial
 |_::_,⟨hk,⟨L,o,hf,hn,ho,hd⟩,hr⟩=>⟨hk,⟨L,o,hf,am k hn,ho,hd⟩,eC k hr⟩
theorem CR.unfreeze{K:AK}{h₀ hb₀ hb hb1 h g:Hp}{fr:List Env}{D:Ad}{out:List PyD}(x:CR K hg h₀ hb₀ hb h env fr ρ D out)(wr:List Ad)
  (g1:g.StaysIn hb)(g2:p9 hb g)(g3:∀b∈wr,g.get? b=none)(g4:∀b,b∉wr->g.get? b=hb.get? b)(s1:hg.StaysIn hb1)(s0:hb₀.StaysIn hb1)(s2:hb1.StaysIn hb)(hw:∀b∈wr,hb1.get? b=none):
  CR K hg h₀ hb₀ g h env fr ρ D out/\hb1.StaysIn g:=by
 have k:hb1.StaysIn g:=fun b o e=>by
  by_cases q:b∈wr
  ·rw[hw b q]at e;cases e
  ·rw[g4 b q];exact s2 b o e
 obtain⟨⟨m,hm⟩,c2,c3⟩:=x.c
 obtain⟨d1,d2,d3,d4⟩:=x.d
 refine⟨⟨⟨fun b o e=>k b o (s1 b o e),fun b o e=>x.s.b b o (g1 b o e),eC g1 x.s.f,x.s.k,x.s.gl,x.s.bl,fun y lv e=>?_⟩,
  ⟨x.st.up,fun b o e=>k b o (s0 b o e),fun b o e=>x.s.b b o (g1 b o e),fun a o ha hd e=>am g1 (x.st.fresh a o ha hd e)⟩,⟨⟨m,hm⟩,am g1 c2,c3⟩,⟨K.keep g2 d1,am g1 d2,d3,d4⟩,fun y ds e=>?_,x.f0⟩,k⟩
 ·obtain⟨v,r,l⟩:=x.s.v y lv e
  refine⟨v,r,?_⟩
  cases lv with
  |fz F=>exact F.up g2 l
  |own ds=>
   obtain⟨a,vs,bs,rfl,p,q⟩:=l
   exact⟨a,vs,bs,rfl,p,dg g2.up q⟩
 ·obtain⟨a,vs,bs,r,p,q,nn⟩:=x.o y ds e
  exact⟨a,vs,bs,r,p,dg g2.up q,nn⟩
noncomputable def yB(hg:Hp)(n:Nat)(env:Env)(ρ:LS)(ifs:List Ep)(b:Bool):Prop:=
 ∀(A:Ar)(fr:List Env)(hb:Hp)(s:SD)(Q:Bool->SD->Prop)(E:VS),br A fr n->dc hg hb s.heap env fr ρ->
  (∀h' hb' tk,ay s.heap hb h' hb'->Q b (aA s h' tk))->
  wA MD A (forIn ifs true fun c r=>if r=true then do let ok <-isTrue c env (eval c env);pure (ForInStep.yield ok)else pure (ForInStep.yield r)) Q E s
theorem ew:yB hg n env ρ [] true:=fun A fr hb s Q E ok S h=>wpAny_tests_nil (h s.heap hb s.toks (.refl S.b))
theorem og{b:Bool}(ht:Tv hg n env ρ e b):yB hg n env ρ [e] b:=fun A fr hb s Q E ok S h=>wpAny_tests_one (ht A fr hb s Q E ok S h)
inductive Ce:Ep->FP->LS->Prop
 |of {e:Ep} {d:PyD} {σ:LS}:Bd e d σ->Ce e (DV d) σ
 |name {x:Str} {p:Pos} {F:FP}:Ce (.Name x p) F [(x,.fz F)]
set_option tactic.hygienic true in
theorem vP{A:Ar}(hh:A.handled=none)(hk:env.scope.kind= .function){e:Ep}{F:FP}{σ:LS}(b:Ce e F σ)(hl:∀x∈σ.map (·.1),env.kindOf x=some .local){hb:Hp}{s:SD}{v:Vl}{m:Str->Option Vl}{Q:Unit->SD->Prop}{E:VS}
  (hn:s.heap.Ns env.locals m)(hr:F.P hb v)(hst:hb.StaysIn s.heap)(hL:hb.get? env.locals=none)
  (h:∀h' tk m',h'.Ns env.locals m'->jn env.locals hb s.heap h'->Ci hb σ m m'->Q () (aA s h' tk)):wA MD A (assign e env v) Q E s:=by
 cases b with
 |of b=>exact sC hh hk b hl hn hr hst hL h
 |name=>
  rename_i x p
  refine wpAny_assign_Name (wpAny_storeName_local (hl x (by simp)) hn (fun h' hn' hs'=>h h' _ _ hn' ⟨fun b o hb' e=>hs'.extBut b o hb' e,fun b o e=>hs'.extBut b o (fun q=>by rw[q,hL]at e;cases e) (hst b o e)⟩ ⟨fun y lv q=>?_,fun y q=>?_⟩)
   (by show(env.scope.kind== .class||(env.scope.kind== .module&&env.locals !=env.globals))=false;rw[hk];rfl))
  ·rw[List.lookup_cons]at q
   by_cases e:(y==x)=true
   ·rw[e]at q;cases q
    exact⟨_,v,rfl,by simp[eq_of_beq e],hr⟩
   ·simp only[e]at q;cases q
  ·rw[List.lookup_cons]at q
   by_cases e:(y==x)=true
   ·rw[e]at q;cases q
   ·have:¬y=x:=fun z=>e (by simp[z])
    simp[this]
structure BS(A:Ar)(tgt:Ep)(I:Ad)(fp wr:List Ad)(hbI:Hp)(Fs:List FP)(St:Nat->Hp->Prop):Prop where
 frame:∀i h h',St i h->(∀b∈fp,∀o,h.get? b=some o->(∀vs,o.data≠ .fields vs)->∃sl,h'.get? b=some {o with slots:=sl})->(∀b∈wr,∀o,h.get? b=some o->h'.get? b=some o)->St i h'
 fld:∀i h,St i h->∀b∈wr,X2 fun o vs=>h.get? b=some o/\o.data= .fields vs
 next:∀i F hb (s:SD) (Q:VS) (E:VS),Fs[i]?=some F->St i s.heap->hbI.StaysIn hb->hb.StaysIn s.heap->(∀b∈wr,hb.get? b=none)->
  (∀v h' hb' tk,ay s.heap hb h' hb'->(∀b o,b∉wr->s.heap.get? b=some o->h'.get? b=some o)->(∀b∈wr,hb'.get? b=none)->F.P hb' v->St (i +1) h'->Q v (aA s h' tk))->
  wA MD A (pyNext (.ref I)) (fun r s₁=>∃v,r=some v/\wA MD A (letOwnedTupleGo tgt (.ref I) v) (fun O s₂=>Q v s₂) E s₁) E s
 done:∀(hb:Hp)(s:SD)(Q:Option Vl->SD->Prop)(E:VS),hbI.StaysIn hb->hb.StaysIn s.heap->St Fs.length s.heap->
  (∀h' tk,(∀b o,b∉wr->s.heap.get? b=some o->h'.get? b=some o)->Q none (aA s h' tk))->wA MD A (pyNext (.ref I)) Q E s
 self:∀i (s:SD) (Q:VS) (E:VS),St i s.heap->Q (.ref I) s->wA MD A (pyIter (.ref I)) Q E s
theorem It.f{A:Ar}{tgt:Ep}{I:Ad}{fp wr:List Ad}{hbI:Hp}{ds:List PyD}{St:Nat->Hp->Prop}(x:It A tgt I fp wr hbI ds St):BS A tgt I fp wr hbI (ds.map DV) St:=
 ⟨x.frame,x.fld,fun i F hb s Q E e=>by
  rw[List.getElem?_map]at e
  cases q:ds[i]? with
  |none=>rw[q]at e;cases e
  |some d=>rw[q]at e;cases e;exact x.next i d hb s Q E q,fun hb s Q E O O h=>x.done s Q E (by rw[List.length_map]at h;exact h),x.self⟩
structure iG(K:AK)(hg:Hp)(n:Nat)(env:Env)(ρ:LS)(tgt:Ep)(ifs:List Ep)(inner:Vl->Sem Unit)(F:FP)(outs:List PyD)(σ:LS)(b:Bool):Prop where
 bd:Ce tgt F σ
 loc:∀y∈σ.map (·.1),env.kindOf y=some .local
 apart:∀y lv,ρ.lookup y=some lv->(σ ++ρ).lookup y=some lv
 tests:yB hg n env (σ ++ρ) ifs b
 yes:b=true->pY K hg n env (σ ++ρ) ρ inner outs
 no:b=false->outs=[]
noncomputable abbrev Az(hg:Hp)(n:Nat)(env:Env)(ρ:LS)(tgt:Ep)(ifs:List Ep)(inner:Vl->Sem Unit)(F:FP)(outs:List PyD)(σ:LS)(b:Bool):Prop:=iG Cm hg n env ρ tgt ifs inner F outs σ b
noncomputable abbrev cn(hg:Hp)(n:Nat)(env:Env)(ρ:LS)(tgt:Ep)(ifs:List Ep)(inner:Vl->Sem Unit)(d:PyD)(outs:List PyD)(σ:LS)(b:Bool):Prop:=iG Cm hg n env ρ tgt ifs inner (DV d) outs σ b
theorem oJ{K:AK}{A:Ar}{fr:List Env}{h₀ hb₀ hb hbI:Hp}{s:SD}{D I:Ad}{fp wr:List Ad}{ds:List (FP×List PyD)}{out:List PyD}{St:Nat->Hp->Prop}{tgt:Ep}{ifs:List Ep}{inner:Vl->Sem Unit}{i:Nat}
  {Next Fin:SD->Prop}{E:VS}(ok:br A fr n)(IT:BS A tgt I fp wr hbI (ds.map (·.1)) St)(hC:env.locals∉fp)(hD:D∉fp)
  (hl:K.loose=true\/ifs=[]/\∀d∈ds,∃σ,iG K hg n env ρ tgt ifs inner d.1 d.2 σ true)(turn:∀d∈ds,X2 fun σ b=>iG K hg n env ρ tgt ifs inner d.1 d.2 σ b)
  (x:CR K hg h₀ hb₀ hb s.heap env fr ρ D out)(hI:hbI.StaysIn hb)(hw:∀b∈wr,hb.get? b=none)(st:St i s.heap)(hi:i<=ds.length)(hz:∀d,ds[i]?=some d->out.length +d.2.length<=1000000)
  (hnext:∀d,ds[i]?=some d->∀h' hb' tk,CR K hg h₀ hb₀ hb' h' env fr ρ D (out ++d.2)->hb.StaysIn hb'->(∀b∈wr,hb'.get? b=none)->St (i +1) h'->Kb [env.locals,D] s.heap h'->Next (aA s h' tk))
  (hfin:i=ds.length->∀h' tk,CR K hg h₀ hb₀ hb h' env fr ρ D out->Kb [env.locals,D] s.heap h'->Fin (aA s h' tk)):
  wA MD A (pyNext (.ref I)) (fun r s₁=>match r with
   |none=>Fin s₁
   |some v=>wA MD A (letOwnedTupleGo tgt (.ref I) v) (fun O s₂=>wA MD A (assign tgt env v) (fun O s3=>
     wA MD A (forIn ifs true fun c r=>if r=true then do let ok <-isTrue c env (eval c env);pure (ForInStep.yield ok)else pure (ForInStep.yield r)) (fun ok s4=>
      if ok=true then wA MD A (inner (.ref D)) (fun O s5=>Next s5) E s4 else Next s4) E s3) E s₂) E s₁) E s:=by
 obtain⟨oD,hoD,dD,_⟩:=K.data x.d.1
 have noW:(∀b∈wr,X2 fun o vs=>s.heap.get? b=some o/\o.data= .fields vs)->D∉wr:=fun f q=>by
  obtain⟨o,vs,e,d⟩:=f D q
  rw[hoD]at e;injection e with e;subst e
  exact dD vs d
 cases hd:ds[i]? with
 |none=>
  have e:i=ds.length:=Nat.le_antisymm hi (List.getElem?_eq_none_iff.mp hd)
  refine IT.done hb s _ E hI x.s.b (by rw[List.length_map];exact e▸st) fun h' tk k=>?_
  have sb:=cZ x.s.b k (IT.fld i _ st) hw
  exact hfin e h' tk (x.step sb (.inr fun o ho=>k D o (noW (IT.fld i _ st)) ho)) (Kb.of_up sb.up)
 |some d=>
  obtain⟨σ,b,T,hT⟩:X2 fun σ b=>iG K hg n env ρ tgt ifs inner d.1 d.2 σ b/\(K.loose=true\/ifs=[]/\b=true):=by
   rcases hl with hl|⟨hi,tr⟩
   ·obtain⟨σ,b,T⟩:=turn d (List.mem_of_getElem? hd)
    exact⟨σ,b,T,.inl hl⟩
   ·obtain⟨σ,T⟩:=tr d (List.mem_of_getElem? hd)
    exact⟨σ,true,T,.inr ⟨hi,rfl⟩⟩
  refine wpAny_mono (IT.next i d.1 hb s (fun v s₂=>wA MD A (assign tgt env v) (fun O s3=>
     wA MD A (forIn ifs true fun c r=>if r=true then do let ok <-isTrue c env (eval c env);pure (ForInStep.yield ok)else pure (ForInStep.yield r)) (fun ok s4=>
      if ok=true then wA MD A (inner (.ref D)) (fun O s5=>Next s5) E s4 else Next s4) E s3) E s₂) E (by rw[List.getElem?_map,hd];rfl) st hI x.s.b hw fun v h₁ hb1 tk1 s₁ k1 hw1 rd st1=>?_) (fun r s₁ hr=>by obtain⟨v,rfl,hr⟩:=hr;exact hr) fun O O z=>z
  have x1:=x.step s₁ (.inr fun o ho=>k1 D o (noW (IT.fld i _ st)) ho)
  obtain⟨⟨m,hm⟩,c2,c3⟩:=id x1.c
  refine vP ok.h x1.s.k T.bd T.loc hm rd x1.s.b c2 fun h2 tk2 m2 hm2 g₂ i2=>?_
  have x2:=x1.bind (A:=A) T.loc hm hm2 g₂ i2
  obtain⟨oc,hoc,hdc⟩:=cv hm
  have fld1:=IT.fld (i +1) _ st1
  have wr2:∀b∈wr,∀o,h₁.get? b=some o->h2.get? b=some o:=fun b hb o e=>g₂.k b o (fun q=>by
   obtain⟨o',vs,e',d'⟩:=fld1 b hb
   rw[q,hoc]at e';injection e' with e';subst e'
   exact hdc vs d') e
  have st2:St (i +1) h2:=IT.frame _ _ _ st1 (fun b hb o e O=>⟨o.slots,g₂.k b o (fun q=>hC (q▸hb)) e⟩) wr2
  have fld2:=IT.fld (i +1) _ st2
  obtain⟨hbB,sB,wB,_⟩:=iV (h:=h2) (hb:=hb1) (h':=h2) (.refl _) x2.s.b (fun b=>b∈wr) fun b hb o e=>by
   obtain⟨o',vs,e',d'⟩:=fld2 b hb
   rw[e]at e';injection e' with e';subst e'
   exact⟨vs,d'⟩
  have xB:=x2.step sB (.inr fun o ho=>ho)
  have te:∀(Q:Bool->SD->Prop),(∀h3 hb3 tk3,ay h2 hbB h3 hb3->(K.loose=true\/∀o,h2.get? D=some o->h3.get? D=some o)->Q b (aA s h3 tk3))->
    wA MD A (forIn ifs true fun c r=>if r=true then do let ok <-isTrue c env (eval c env);pure (ForInStep.yield ok)else pure (ForInStep.yield r)) Q E (aA s h2 tk2):=fun Q q=>by
   rcases hT with hl|⟨rfl,rfl⟩
   ·exact T.tests A fr hbB _ _ E ok xB.s fun h3 hb3 tk3 s3=>q h3 hb3 tk3 s3 (.inl hl)
   ·exact wpAny_tests_nil (q h2 hbB tk2 (.refl xB.s.b) (.inr fun O e=>e))
  refine te _ fun h3 hb3 tk3 s3 e3=>?_
  have x3:=xB.step s3 e3
  have K3:Kb [env.locals,D] s.heap h3:=((Kb.of_up s₁.up).trans (Kb.of_but (by simp) g₂.k)).trans (Kb.of_up s3.up)
  have fin:∀h4 hb4 tk4,CR K hg h₀ hb₀ hb4 h4 env fr ρ D (out ++d.2)->hb3.StaysIn hb4->Kb [env.locals,D] h3 h4->Next (aA s h4 tk4):=fun h4 hb4 tk4 x4 sub4 K4=>by
   have wr4:∀b∈wr,∀o,h2.get? b=some o->h4.get? b=some o:=fun b hb o e=>x4.s.b b o (sub4 b o (s3.sub b o (by rw[wB b hb];exact e)))
   have st4:St (i +1) h4:=IT.frame _ _ _ st2 (fun b hb o e hd=>by
    obtain⟨sl,e3⟩:=s3.up b o e hd
    obtain⟨sl',e4⟩:=K4 b _ (by simp only[List.mem_cons,List.not_mem_nil,or_false,not_or];exact⟨fun q=>hC (q▸hb),fun q=>hD (q▸hb)⟩) e3 hd
    exact⟨sl',e4⟩) wr4
   obtain⟨g,g1,g2,g3,g4⟩:=fR wr (IT.fld _ _ st4) x4.s.b
   obtain⟨x5,k5⟩:=x4.unfreeze wr g1 g2 g3 g4 x1.s.g x1.st.sub (fun b o e=>sub4 b o (s3.sub b o (sB.sub b o e))) hw1
   exact hnext d hd h4 g tk4 x5 (fun b o e=>k5 b o (s₁.sub b o e)) g3 st4 (K3.trans K4)
  cases b with
  |false=>
   simp only[Bool.false_eq_true,if_false]
   refine fin h3 hb3 tk3 ?_ (fun O O e=>e) (Kb.of_up (.refl _))
   rw[T.no rfl,List.append_nil]
   exact x3.less T.apart
  |true=>
   simp only[if_true]
   exact T.yes rfl A fr h₀ hb₀ hb3 _ D out _ E ok x3 (hz d hd) fun h4 hb4 tk4 x4 sub4 K4=>fin h4 hb4 tk4 x4 sub4 K4
end
section
variable{l r:Ep}{R R1 R2:RK}
noncomputable def ls(hg:Hp)(n:Nat)(env:Env)(ρ:LS)(e tgt:Ep)(ds:List PyD):Prop:=
 ∀(A:Ar)(fr:List Env)(hb:Hp)(s:SD)(Q:VS)(E:VS),br A fr n->dc hg hb s.heap env fr ρ->
  (∀I fp wr St h' hb' tk,ay s.heap hb h' hb'->It A tgt I fp wr hb' ds St->St 0 h'->(∀b∈wr,hb'.get? b=none)->(∀b∈fp,∃o,h'.get? b=some o/\∀vs,o.data≠ .fields vs)->Q (.ref I) (aA s h' tk))->
  wA MD A (eval e env) (fun x s₁=>wA MD A (pyIter x) Q E s₁) E s
theorem bo{tgt:Ep}{ds:List PyD}(he:Ev hg n env ρ e (RL ds))(ht:cz tgt:=by trivial):ls hg n env ρ e tgt ds:=fun A fr hb s Q E ok S h=>
 he A fr hb s _ E ok S fun v h₁ hb1 tk1 st1 r1=>by
  obtain⟨a,vs,bs,rfl,hl,hr⟩:=r1
  obtain⟨o,ho,hc,k,hd⟩:=id hl
  have hne:a≠h₁.objs.size:=Nat.ne_of_lt (Hp.lt_size ho)
  refine wpAny_pyIter_list hl (h _ [a] [h₁.objs.size] _ _ hb1 _ (st1.trans (aL _ st1.stay)) (pO ok.h ht hne ⟨bs,hr⟩) ⟨⟨_,Hp.get?_push_size _ rfl,rfl,rfl⟩,hl.push _⟩ (fun b hb=>?_) fun b hb=>?_)
  ·rw[List.mem_singleton.mp hb];exact Hp.StaysIn.fresh st1.stay
  ·rw[List.mem_singleton.mp hb];exact⟨o,Hp.get?_push_of_some _ ho,fun O q=>by rw[hd]at q;cases q⟩
theorem lJ{tgt:Ep}{ds:List PyD}(he:Ev hg n env ρ e (RF (DV (.tuple ds))))(ht:cz tgt:=by trivial):ls hg n env ρ e tgt ds:=fun A fr hb s Q E ok S h=>
 he A fr hb s _ E ok S fun v h₁ hb1 tk1 st1 r1=>by
  obtain⟨a,vs,rfl,hl,hr⟩:=eW st1.stay r1
  obtain⟨o,ho,hc,k,hd⟩:=id hl
  have hne:a≠h₁.objs.size:=Nat.ne_of_lt (Hp.lt_size ho)
  refine wpAny_pyIter_tuple hl (h _ [a] [h₁.objs.size] _ _ hb1 _ (st1.trans (aL _ st1.stay)) (mt ok.h ht hne hr) ⟨⟨_,Hp.get?_push_size _ rfl,rfl,rfl⟩,hl.push _⟩ (fun b hb=>?_) fun b hb=>?_)
  ·rw[List.mem_singleton.mp hb];exact Hp.StaysIn.fresh st1.stay
  ·rw[List.mem_singleton.mp hb];exact⟨o,Hp.get?_push_of_some _ ho,fun O q=>by rw[hd]at q;cases q⟩
theorem nM{α:Type}{item:α->List PyD}{ds:List α}{i:Nat}{d:α}(h:ds[i]?=some d):(ds.take (i +1)).flatMap item=(ds.take i).flatMap item ++item d:=by
 rw[List.take_add_one,h]
 simp
theorem pR{α:Type}{item:α->List PyD}{ds:List α}(i:Nat):((ds.take i).flatMap item).length<=(ds.flatMap item).length:=by
 conv=>rhs;rw[<-List.take_append_drop i ds]
 rw[List.flatMap_append,List.length_append]
 exact Nat.le_add_right _ _
theorem jU{K:AK}{A:Ar}{fr:List Env}{h₀ hb₀ hb hbI:Hp}{s:SD}{D I:Ad}{fp wr:List Ad}{ds:List (FP×List PyD)}{out:List PyD}{St:Nat->Hp->Prop}{tgt ce:Ep}{ifs:List Ep}{k:Nat}{inner:Vl->Sem Unit}
  {Rr:Result->SD->Prop}(ok:br A fr n)(IT:BS A tgt I fp wr hbI (ds.map (·.1)) St)(hC:env.locals∉fp)(hD:D∉fp)
  (hl:K.loose=true\/ifs=[]/\∀d∈ds,∃σ,iG K hg n env ρ tgt ifs inner d.1 d.2 σ true)(turn:∀d∈ds,X2 fun σ b=>iG K hg n env ρ tgt ifs inner d.1 d.2 σ b)
  (tree:∀(s:SD)(Next Fin:SD->Prop),(∀E:Vl->SD->Prop,wA MD A (pyNext (.ref I)) (fun r s₁=>match r with
   |none=>Fin s₁
   |some v=>wA MD A (letOwnedTupleGo tgt (.ref I) v) (fun O s₂=>wA MD A (assign tgt env v) (fun O s3=>
     wA MD A (forIn ifs true fun c r=>if r=true then do let ok <-isTrue c env (eval c env);pure (ForInStep.yield ok)else pure (ForInStep.yield r)) (fun ok s4=>
      if ok=true then wA MD A (inner (.ref D)) (fun O s5=>Next s5) E s4 else Next s4) E s3) E s₂) E s₁) E s)->
    (∀s',Next s'->codeAny MD A (.compLoop ce k (.ref I) (.ref D) env) Rr s')->(∀s',Fin s'->Rr (.ok .next) s')->codeAny MD A (.compLoop ce k (.ref I) (.ref D) env) Rr s)
  (x:CR K hg h₀ hb₀ hb s.heap env fr ρ D out)(hI:hbI.StaysIn hb)(hw:∀b∈wr,hb.get? b=none)(st:St 0 s.heap)(hz:out.length +(ds.flatMap (·.2)).length<=1000000)
  (hR:∀h' hb' tk,CR K hg h₀ hb₀ hb' h' env fr ρ D (out ++ds.flatMap (·.2))->hb.StaysIn hb'->Kb [env.locals,D] s.heap h'->Rr (.ok .next) (aA s h' tk)):
  codeAny MD A (.compLoop ce k (.ref I) (.ref D) env) Rr s:=by
 have main:∀(m i:Nat)(h:Hp)(hb1:Hp)(tk:Nat),m +i=ds.length->CR K hg h₀ hb₀ hb1 h env fr ρ D (out ++(ds.take i).flatMap (·.2))->hb.StaysIn hb1->(∀b∈wr,hb1.get? b=none)->St i h->Kb [env.locals,D] s.heap h->
   codeAny MD A (.compLoop ce k (.ref I) (.ref D) env) Rr (aA s h tk):=by
  intro m
  induction m with
  |zero=>
   intro i h hb1 tk hi x1 sub hw1 st1 Kk
   have hi':i=ds.length:=by exact FQ ‹_›
   refine tree _ (fun O=>False) (fun s'=>X2 fun h' tk=>A3 (s'=(aA s h' tk)) (CR K hg h₀ hb₀ hb1 h' env fr ρ D (out ++ds.flatMap (·.2))) (Kb [env.locals,D] s.heap h')) (fun E=>?_) (fun O q=>q.elim) ?_
   ·refine oJ ok IT hC hD hl turn x1 (fun b o e=>sub b o (hI b o e)) hw1 st1 (Nat.le_of_eq hi') (fun d hd=>?_) (fun d hd=>?_) fun O h' tk' x' K'=>⟨h',tk',rfl,?_,Kk.trans K'⟩
    ·rw[hi',List.getElem?_eq_none (Nat.le_refl _)]at hd;cases hd
    ·rw[hi',List.getElem?_eq_none (Nat.le_refl _)]at hd;cases hd
    ·rw[hi',List.take_length]at x';exact x'
   ·rintro s' ⟨h',tk',rfl,x',K'⟩
    exact hR h' hb1 tk' x' sub K'
  |succ m ih=>
   intro i h hb1 tk hi x1 sub hw1 st1 Kk
   refine tree _ (fun s'=>X3 fun h' hb' tk=>A6 (s'=(aA s h' tk)) (CR K hg h₀ hb₀ hb' h' env fr ρ D (out ++(ds.take (i +1)).flatMap (·.2))) (hb.StaysIn hb') (∀b∈wr,hb'.get? b=none) (St (i +1) h') (Kb [env.locals,D] s.heap h')) (fun O=>False) (fun E=>?_) ?_ fun O q=>q.elim
   ·refine oJ ok IT hC hD hl turn x1 (fun b o e=>sub b o (hI b o e)) hw1 st1 (by omega) (fun d hd=>?_) (fun d hd h' hb' tk' x' sub' hw' st' K'=>⟨h',hb',tk',rfl,?_,fun b o e=>sub' b o (sub b o e),hw',st',Kk.trans K'⟩) fun q=>absurd q (by omega)
    ·have:=pR (item:=fun q:FP×List PyD=>q.2) (ds:=ds) (i +1)
     rw[nM hd,List.length_append]at this
     rw[List.length_append];exact Dy ‹_› ‹_›
    ·rw[nM hd,<-List.append_assoc];exact x'
   ·rintro s' ⟨h',hb',tk',rfl,x',sub',hw',st',K'⟩
    exact ih (i +1) h' hb' tk' (by exact CF ‹_›) x' sub' hw' st' K'
 have:=main ds.length 0 s.heap hb s.toks (by exact Nat.add_zero _) (by simpa using x) (fun O O e=>e) hw st (Kb.of_up (.refl _))
 exact this
noncomputable def db(ce:Ep)(k:Nat)(tgt:Ep)(ifs:List Ep)(inner:Env->Vl->Sem Unit):Prop:=
 ∀{A:Ar}{env:Env}{D I:Ad}{Rr:Result->SD->Prop}(s:SD)(Next Fin:SD->Prop),
  (∀E:Vl->SD->Prop,wA MD A (pyNext (.ref I)) (fun r s₁=>match r with
   |none=>Fin s₁
   |some v=>wA MD A (letOwnedTupleGo tgt (.ref I) v) (fun O s₂=>wA MD A (assign tgt env v) (fun O s3=>
     wA MD A (forIn ifs true fun c r=>if r=true then do let ok <-isTrue c env (eval c env);pure (ForInStep.yield ok)else pure (ForInStep.yield r)) (fun ok s4=>
      if ok=true then wA MD A (inner env (.ref D)) (fun O s5=>Next s5) E s4 else Next s4) E s3) E s₂) E s₁) E s)->
  (∀s',Next s'->codeAny MD A (.compLoop ce k (.ref I) (.ref D) env) Rr s')->(∀s',Fin s'->Rr (.ok .next) s')->codeAny MD A (.compLoop ce k (.ref I) (.ref D) env) Rr s
noncomputable def vg(elt:Ep)(env:Env)(acc:Vl):Sem Unit:=do let _ <-call (.builtin "list.append") [acc,<-eval elt env]
noncomputable def n7(ce:Ep)(k:Nat)(iter:Ep)(env:Env)(acc:Vl):Sem Unit:=do
 let x <-eval iter env
 standAt iter.pos
 let x <-foldedSetIterable iter env x
 let _ <-runOwn (.compStart ce k (<-holding [x] (pyIter x)) acc env) env
theorem jP{tgt iter:Ep}{k:Nat}{ifs:List Ep}{inner:Env->Vl->Sem Unit}(ce:Ep)(hce:∀env I D,MD.den (.compLoop ce k (.ref I) (.ref D) env)=(compTurn ce k (.ref I) (.ref D) env).onRaise fun x=>do noteFrame x env;theTreesLotGoes x)
  (hun:∀(A:Ar) env I D,A.under (.compLoop ce k (.ref I) (.ref D) env)=A)(he:∀env I D,compTurn ce k (.ref I) (.ref D) env=(do
   standAt iter.pos
   match<-pyNext (.ref I)with
   |none=>pure (.done .next)
   |some v=>
    letOwnedTupleGo tgt (.ref I) v
    assign tgt env v
    let mut ok:=true
    for c in ifs do
     if ok then ok <-isTrue c env (eval c env)
    if ok then
     inner env (.ref D)
    again (.compLoop ce k (.ref I) (.ref D) env))):db ce k tgt ifs inner:=fun{A env D I Rr} s Next Fin h h1 h2=>by
 refine codeAny_of_tree ?_
 rw[hce,hun]
 refine wpAny_noted ?_
 rw[he]
 refine wBi (wpAny_standAt (wBi (wpAny_mono (h _) (fun r s₁ hr=>?_) fun O O z=>z)))
 cases r with
 |none=>exact wP (h2 _ hr)
 |some v=>
  refine wBi (wpAny_mono hr (fun O s₂ h₂=>wBi (wpAny_mono h₂ (fun O s3 h3=>wBi (wpAny_mono h3 (fun ok s4 h4=>?_) fun O O z=>z)) fun O O z=>z)) fun O O z=>z)
  cases ok with
  |false=>exact wP ⟨rfl,h1 _ h4⟩
  |true=>exact wBi (wpAny_mono h4 (fun O s5 h5=>wP ⟨rfl,h1 _ h5⟩) fun O O z=>z)
theorem bv{tgt iter elt:Ep}{ifs:List Ep}{scope:Scope}:db (.ListComp elt [⟨tgt,iter,ifs,0⟩] scope pos) 0 tgt ifs (vg elt):=jP (iter:=iter) _ (fun O O O=>rfl) (fun O O O O=>rfl) fun O O O=>rfl
noncomputable def s8(elt:Ep)(env:Env)(acc:Vl):Sem Unit:=do
 let v <-eval elt env
 standAt elt.pos
 let _ <-call (.builtin "set.add") [acc,v]
theorem ya{tgt iter elt:Ep}{ifs:List Ep}{scope:Scope}:db (.SetComp elt [⟨tgt,iter,ifs,0⟩] scope pos) 0 tgt ifs (s8 elt):=jP (iter:=iter) _ (fun O O O=>rfl) (fun O O O O=>rfl) fun O O O=>rfl
noncomputable def qb(k v:Ep)(env:Env)(acc:Vl):Sem Unit:=do
 let kv <-eval k env
 let vv <-holding [kv] (eval v env)
 match acc with
 | .ref d=>do
  standAt {k.pos with endLine:=v.pos.endLine,endCol:=v.pos.endCol}
  holding [kv,vv] (dictSet d kv vv)
 |_=>unsupported "internal:dictcomp"
theorem v7{tgt iter k v:Ep}{ifs:List Ep}{scope:Scope}:db (.DictComp k v [⟨tgt,iter,ifs,0⟩] scope pos) 0 tgt ifs (qb k v):=jP (iter:=iter) _ (fun O O O=>rfl) (fun O O O O=>rfl) fun O O O=>rfl
theorem qN{tgt iter tgt2 iter2 elt:Ep}{ifs ifs2:List Ep}{scope:Scope}:db (.ListComp elt [⟨tgt,iter,ifs,0⟩,⟨tgt2,iter2,ifs2,0⟩] scope pos) 0 tgt ifs (n7 (.ListComp elt [⟨tgt,iter,ifs,0⟩,⟨tgt2,iter2,ifs2,0⟩] scope pos) 1 iter2):=jP (iter:=iter) _ (fun O O O=>rfl) (fun O O O O=>rfl) fun O O O=>by
 simp only[n7,bind_assoc]
 rfl
theorem qn{tgt iter tgt2 iter2 elt:Ep}{ifs ifs2:List Ep}{scope:Scope}:db (.ListComp elt [⟨tgt,iter,ifs,0⟩,⟨tgt2,iter2,ifs2,0⟩] scope pos) 1 tgt2 ifs2 (vg elt):=jP (iter:=iter2) _ (fun O O O=>rfl) (fun O O O O=>rfl) fun O O O=>rfl
end
section
variable{l r:Ep}{R R1 R2:RK}
theorem iT{ρ:LS}{y:Str}{lv:LV}(h:ρ.lookup y=some lv):(y,lv)∈ρ:=by
 induction ρ with
 |nil=>cases h
 |cons p ρ ih=>
  obtain⟨z,l⟩:=p
  rw[List.lookup_cons]at h
  by_cases q:(y==z)=true
  ·simp only[q]at h;cases h
   rw[eq_of_beq q];exact .head _
  ·simp only[q]at h
   exact .tail _ (ih h)
noncomputable def nz(env:Env)(scope:Scope)(cl:List (Str×Ad))(ρ ρc:LS):Prop:=
 ∀p∈ρc,A4 (ρ.lookup p.1=some p.2) (env.kindOf p.1=some .cell\/env.kindOf p.1=some .free) (((compEnvC scope cl 0 env).kindOf p.1=some .cell\/(compEnvC scope cl 0 env).kindOf p.1=some .free)/\(p.1==("__classdict__":Str))=false) (cl.lookup p.1=env.cells.lookup p.1)
theorem vd{scope:Scope}{cl:List (Str×Ad)}{ρc:LS}(K:nz env scope cl ρ ρc){y:Str}{lv:LV}(hy:ρc.lookup y=some lv)(C:Ad){h h':Hp}{v:Vl}(up:h.UpToSlots h')(r:dY env h y v):dY (compEnvC scope cl C env) h' y v:=by
 obtain⟨_,k1,⟨k2,k3⟩,k4⟩:=K _ (iT hy)
 rcases r with⟨a,_⟩|⟨a,c,b,hc⟩
 ·rcases k1 with k1|k1<;>(rw[k1]at a;cases a)
 ·refine .inr ⟨?_,c,(k4.trans b),kr up hc⟩
  rcases k2 with k2|k2
  ·exact .inl k2
  ·exact .inr ⟨k2,k3⟩
theorem et{h₀ hb₀ h hb h':Hp}{C:Ad}(x:ay h₀ hb₀ h hb)(new:eO h₀ C)(c:hb.get? C=none)(k:∀b o,b≠C->h.get? b=some o->h'.get? b=some o):ay h₀ hb₀ h' hb:=
 ⟨sK x.up new k,x.sub,fZ x.stay c k,x.fresh⟩
noncomputable def qG(hg:Hp)(n:Nat)(env:Env)(ρ:LS)(e tgt:Ep)(Fs:List FP):Prop:=
 ∀(A:Ar)(fr:List Env)(hb:Hp)(s:SD)(Q:VS)(E:VS),br A fr n->dc hg hb s.heap env fr ρ->
  (∀I fp wr St h' hb' tk,ay s.heap hb h' hb'->BS A tgt I fp wr hb' Fs St->St 0 h'->(∀b∈wr,hb'.get? b=none)->(∀b∈fp,∃o,h'.get? b=some o/\∀vs,o.data≠ .fields vs)->Q (.ref I) (aA s h' tk))->
  wA MD A (eval e env) (fun x s₁=>wA MD A (pyIter x) Q E s₁) E s
theorem ls.g{tgt:Ep}{ds:List PyD}(x:ls hg n env ρ e tgt ds):qG hg n env ρ e tgt (ds.map DV):=fun A fr hb s Q E ok S h=>
 x A fr hb s Q E ok S fun I fp wr St h' hb' tk st IT s0 hw hfp=>h I fp wr St h' hb' tk st IT.f s0 hw hfp
noncomputable def uQ(ce:Ep):Prop:=∀{A:Ar}{env:Env}{it acc:Vl}{s:SD}{R:Result->SD->Prop},codeAny MD A (.compLoop ce 0 it acc env) R s->
 wA MD A (pyIter it) (fun it' s'=>codeAny MD A (.compLoop ce 0 it' acc env) R s') (notedBy MD A env fun x s'=>R (.error x) s') s->codeAny MD A (.compStart ce 0 it acc env) R s
structure uG(K:AK)(newAcc:Sem Vl)(o:Obj):Prop where
 new:∀{A:Ar}{s:SD}{Q:VS}{E:VS},Q (.ref s.heap.objs.size) {s with heap:=s.heap.push o}->wA MD A newAcc Q E s
 p:∀{hb h:Hp}{D:Ad},h.get? D=some o->K.P [] hb h D
 fr:o.isFreed=false
theorem iP{K:AK}{ce tgt iter:Ep}{newAcc:Sem Vl}{o0:Obj}{ifs:List Ep}{rest:List Comprehension}{inner:Env->Vl->Sem Unit}{scope:Scope}{cl:List (Str×Ad)}{use:Option (Vl->Sem Unit)}{ρc:LS}{ds:List (FP×List PyD)}{p:Pos}{A:Ar}{fr:List Env}{hb:Hp}{s:SD}{Q:VS}{E:VS}
  (tree:db ce 0 tgt ifs inner)(hce:clausesOf ce=⟨tgt,iter,ifs,0⟩::rest)(start:uQ ce)(N:uG K newAcc o0)
  (hit:qG hg n env ρ iter tgt (ds.map (·.1)))(hclos:closureFor scope env=pure cl)(hcap:nz env scope cl ρ ρc)(hcell:∀y∈scope.names,y.2≠ .cell)(hkind:scope.kind= .function)
  (hnames:∀y∈scope.names,y.2= .local->scope.names.lookup y.1=some .local)(hs:∀x,foldedSetIterable iter env x=pure x)
  (hl:K.loose=true\/ifs=[]/\∀C,∀d∈ds,∃σ,iG K hg n (compEnvC scope cl C env) ρc tgt ifs (inner (compEnvC scope cl C env)) d.1 d.2 σ true)(turn:∀C,∀d∈ds,X2 fun σ b=>iG K hg n (compEnvC scope cl C env) ρc tgt ifs (inner (compEnvC scope cl C env)) d.1 d.2 σ b)
  (hz:(ds.flatMap (·.2)).length<=1000000)(ok:br A fr n)(S:dc hg hb s.heap env fr ρ)
  (Kk:∀C D h' hb' tk m,ay s.heap hb h' hb'->K.P (ds.flatMap (·.2)) hb' h' D->D≠C->hb'.get? D=none->eO s.heap D->h'.Ns C m->hb'.get? C=none->eO s.heap C->
   compPost MD A E use Q (.ref D) C (.ok .next) (aA s h' tk)):
  wA MD A (comprehension ce scope env p newAcc false (eval iter env) use) Q E s:=by
 refine wpAny_comprehension_free hce hs hclos hkind hnames (hit A fr hb s _ E ok S fun I fp wr St h₁ hb1 tk1 st1 IT s0 hw hfp=>?_)
 refine N.new (wpAny_newFunctionEnv hcell (by intro y hy;simp at hy) (fun h₂ hns hsb=>?_) hkind)
 dsimp only at hns hsb⊢
 generalize hH:h₁.push o0=H at hns hsb⊢
 have hHsz:H.objs.size=h₁.objs.size +1:=by rw[<-hH,Hp.size_push]
 have kH:h₁.StaysIn H:=fun b o e=>hH▸Hp.get?_push_of_some _ e
 have k2:∀b o,b≠H.objs.size->H.get? b=some o->h₂.get? b=some o:=fun b o hb e=>hsb.extBut b o hb (Hp.get?_push_of_some _ e)
 have old:h₁.StaysIn h₂:=fun b o e=>k2 b o (Nat.ne_of_lt (Hp.lt_size (kH b o e))) (kH b o e)
 have neD:h₁.objs.size≠H.objs.size:=by rw[hHsz];exact Nat.ne_of_lt (Nat.lt_succ_self _)
 have hD:h₂.get? h₁.objs.size=some o0:=k2 _ _ neD (hH▸Hp.get?_push_size _ N.fr)
 have newD:eO s.heap h₁.objs.size:=(bQ h₁).early st1.up
 have newC:eO s.heap H.objs.size:=((bQ H).early (be kH)).early st1.up
 have baseH:hb1.get? H.objs.size=none:=Hp.StaysIn.fresh fun b o e=>kH b o (st1.stay b o e)
 have stepAll:ay h₁ hb1 h₂ hb1:=⟨be old,fun O O e=>e,fun b o e=>old b o (st1.stay b o e),fun O O O O e=>e⟩
 have S1:=(S.step st1).step stepAll
 have x:CR K hg s.heap hb hb1 h₂ (compEnvC scope cl H.objs.size env) fr ρc h₁.objs.size []:=by
  refine⟨⟨S1.g,S1.b,S1.f,?_,S1.gl,S1.bl,fun y lv hy=>?_⟩,st1.trans stepAll,⟨⟨_,hns⟩,baseH,newC⟩,⟨N.p hD,Hp.StaysIn.fresh st1.stay,newD,neD⟩,fun y ds' hy=>?_,S.f⟩
  ·show(relabel scope env).kind=_
   exact hkind
  ·obtain⟨v,rd,lo⟩:=S1.v y lv (hcap _ (iT hy)).1
   exact⟨v,vd hcap hy _ (.refl _) rd,lo⟩
  ·obtain⟨v,rd,lo⟩:=S.v y _ (hcap _ (iT hy)).1
   obtain⟨a,vs,bs,rfl,p,q⟩:=lo
   refine⟨a,vs,bs,vd hcap hy _ (st1.trans stepAll).up rd,p.up (st1.trans stepAll).up,ReadsAll.keeps st1.sub q,fun nn=>?_⟩
   obtain⟨o,ho,hd⟩:=dv p
   obtain⟨vs',e⟩:=nn o ho
   exact hd vs' e
 have hfpn:∀b∈fp,b<h₁.objs.size:=fun b hb=>by
  obtain⟨o,ho,_⟩:=hfp b hb
  exact Hp.lt_size ho
 have s0':St 0 h₂:=IT.frame _ _ _ s0 (fun b hb o e O=>⟨o.slots,old b o e⟩) fun b hb o e=>old b o e
 have loop:∀tk,codeAny MD A (.compLoop ce 0 (.ref I) (.ref h₁.objs.size) (compEnvC scope cl H.objs.size env))
   (compPost MD A E use Q (.ref h₁.objs.size) H.objs.size) (aA s h₂ tk):=fun tk=>by
  refine jU (s:=(aA s h₂ tk)) (inner:=inner (compEnvC scope cl H.objs.size env)) ok IT
   (fun q=>absurd (hfpn _ q) (by show¬H.objs.size<_;rw[hHsz];omega)) (fun q=>absurd (hfpn _ q) (Nat.lt_irrefl _)) (hl.imp id fun q=>⟨q.1,q.2 H.objs.size⟩) (turn H.objs.size)
   (fun s Next Fin h h1 h2=>tree s Next Fin h h1 h2) x (fun O O e=>e) hw s0' (by simpa using hz) fun h' hb' tk' x' sub K'=>?_
  obtain⟨⟨m,hm⟩,c2,c3⟩:=x'.c
  obtain⟨d1,d2,d3,d4⟩:=x'.d
  exact Kk _ _ h' hb' tk' m x'.st d1 d4 d2 d3 hm c2 c3
 exact start (loop _) (IT.self 0 _ _ _ s0' (loop _))
theorem w9:uG Cm (newList []) {cls:=.type "list",data:=.seq ([]:List Vl).toArray}:=
 ⟨fun h=>wpAny_newObj_type h,fun h=>⟨#[],⟨_,h,rfl,rfl,_,rfl⟩,.nil⟩,rfl⟩
theorem nK{elt tgt iter:Ep}{ifs:List Ep}{rest:List Comprehension}{inner:Env->Vl->Sem Unit}{scope:Scope}{cl:List (Str×Ad)}{use:Option (Vl->Sem Unit)}{ρc:LS}{ds:List (FP×List PyD)}{p:Pos}{A:Ar}{fr:List Env}{hb:Hp}{s:SD}{Q:VS}{E:VS}
  (tree:db (.ListComp elt (⟨tgt,iter,ifs,0⟩::rest) scope pos) 0 tgt ifs inner)
  (hit:qG hg n env ρ iter tgt (ds.map (·.1)))(hclos:closureFor scope env=pure cl)(hcap:nz env scope cl ρ ρc)(hcell:∀y∈scope.names,y.2≠ .cell)(hkind:scope.kind= .function)
  (hnames:∀y∈scope.names,y.2= .local->scope.names.lookup y.1=some .local)(hs:∀x,foldedSetIterable iter env x=pure x)
  (turn:∀C,∀d∈ds,X2 fun σ b=>Az hg n (compEnvC scope cl C env) ρc tgt ifs (inner (compEnvC scope cl C env)) d.1 d.2 σ b)
  (hz:(ds.flatMap (·.2)).length<=1000000)(ok:br A fr n)(S:dc hg hb s.heap env fr ρ)
  (K:∀C D h' hb' tk m ys,ay s.heap hb h' hb'->PL h' D ys->RA hb' ys.toList (ds.flatMap (·.2))->hb'.get? D=none->eO s.heap D->h'.Ns C m->hb'.get? C=none->eO s.heap C->
   compPost MD A E use Q (.ref D) C (.ok .next) (aA s h' tk)):
  wA MD A (comprehension (.ListComp elt (⟨tgt,iter,ifs,0⟩::rest) scope pos) scope env p (newList []) false (eval iter env) use) Q E s:=
 iP tree rfl (fun a b=>codeAny_compStart_list a b) w9 hit hclos hcap hcell hkind hnames hs (.inl rfl) turn hz ok S fun C D h' hb' tk m st ⟨ys,d1,d1'⟩ _ d2 d3 hm c2 c3=>K C D h' hb' tk m ys st d1 d1' d2 d3 hm c2 c3
theorem nT{elt tgt iter:Ep}{ifs:List Ep}{rest:List Comprehension}{inner:Env->Vl->Sem Unit}{scope:Scope}{cl:List (Str×Ad)}{ρc:LS}{ds:List (FP×List PyD)}
  (tree:db (.ListComp elt (⟨tgt,iter,ifs,0⟩::rest) scope pos) 0 tgt ifs inner)
  (hit:qG hg n env ρ iter tgt (ds.map (·.1)))(hclos:closureFor scope env=pure cl)(hcap:nz env scope cl ρ ρc)
  (turn:∀C,∀d∈ds,X2 fun σ b=>Az hg n (compEnvC scope cl C env) ρc tgt ifs (inner (compEnvC scope cl C env)) d.1 d.2 σ b)
  (hz:(ds.flatMap (·.2)).length<=1000000)(hcell:autoParam (∀y∈scope.names,y.2≠ .cell) Dc)(hkind:autoParam (scope.kind= .function) Rf)
  (hnames:autoParam (∀y∈scope.names,y.2= .local->scope.names.lookup y.1=some .local) Dc)(hs:autoParam (∀x,foldedSetIterable iter env x=pure x) If):
  Ev hg n env ρ (.ListComp elt (⟨tgt,iter,ifs,0⟩::rest) scope pos) (RN (ds.flatMap (·.2))):=fun A fr hb s Q E ok S h=>by
 rw[eval_ListComp]
 refine nK (use:=none) tree hit hclos hcap hcell hkind hnames hs turn hz ok S fun C D h' hb' tk m ys st d1 d1' d2 d3 hm c2 c3=>⟨m,hm,fun h'' sb=>?_⟩
 obtain⟨bs,d1'⟩:=d1'
 have hne:D≠C:=dW d1 hm
 obtain⟨o,ho,r⟩:=d1
 exact h _ h'' hb' tk (et st c3 c2 sb.extBut) ⟨D,ys,bs,rfl,⟨o,sb.extBut D o hne ho,r⟩,d1',d2,d3⟩
theorem gu{ds:List PyD}{item:PyD->List PyD}:(ds.map fun d=>(DV d,item d)).map (·.1)=ds.map DV/\(ds.map fun d=>(DV d,item d)).flatMap (·.2)=ds.flatMap item:=by
 refine⟨by rw[List.map_map];rfl,?_⟩
 induction ds with
 |nil=>rfl
 |cons d ds ih=>simp only[List.map_cons,List.flatMap_cons,ih]
theorem dw{elt tgt iter:Ep}{ifs:List Ep}{rest:List Comprehension}{inner:Env->Vl->Sem Unit}{scope:Scope}{cl:List (Str×Ad)}{ρc:LS}{ds:List PyD}{item:PyD->List PyD}
  (tree:db (.ListComp elt (⟨tgt,iter,ifs,0⟩::rest) scope pos) 0 tgt ifs inner)
  (hit:ls hg n env ρ iter tgt ds)(hclos:closureFor scope env=pure cl)(hcap:nz env scope cl ρ ρc)
  (turn:∀C,∀d∈ds,X2 fun σ b=>cn hg n (compEnvC scope cl C env) ρc tgt ifs (inner (compEnvC scope cl C env)) d (item d) σ b)
  (hz:(ds.flatMap item).length<=1000000)(hcell:autoParam (∀y∈scope.names,y.2≠ .cell) Dc)(hkind:autoParam (scope.kind= .function) Rf)
  (hnames:autoParam (∀y∈scope.names,y.2= .local->scope.names.lookup y.1=some .local) Dc)(hs:autoParam (∀x,foldedSetIterable iter env x=pure x) If):
  Ev hg n env ρ (.ListComp elt (⟨tgt,iter,ifs,0⟩::rest) scope pos) (RN (ds.flatMap item)):=by
 obtain⟨e1,e2⟩:=gu (ds:=ds) (item:=item)
 rw[<-e2]at hz⊢
 refine nT tree (by rw[e1];exact hit.g) hclos hcap (fun C d hd=>?_) hz hcell hkind hnames hs
 obtain⟨d',hd',rfl⟩:=List.mem_map.mp hd
 exact turn C d' hd'
theorem mX{elt tgt iter:Ep}{ifs:List Ep}{rest:List Comprehension}{inner:Env->Vl->Sem Unit}{scope:Scope}{cl:List (Str×Ad)}{use:Option (Vl->Sem Unit)}{ρc:LS}{ds:List PyD}{item:PyD->List PyD}{p:Pos}{A:Ar}{fr:List Env}{hb:Hp}{s:SD}{Q:VS}{E:VS}
  (tree:db (.ListComp elt (⟨tgt,iter,ifs,0⟩::rest) scope pos) 0 tgt ifs inner)
  (hit:ls hg n env ρ iter tgt ds)(hclos:closureFor scope env=pure cl)(hcap:nz env scope cl ρ ρc)(hcell:∀y∈scope.names,y.2≠ .cell)(hkind:scope.kind= .function)
  (hnames:∀y∈scope.names,y.2= .local->scope.names.lookup y.1=some .local)(hs:∀x,foldedSetIterable iter env x=pure x)
  (turn:∀C,∀d∈ds,X2 fun σ b=>cn hg n (compEnvC scope cl C env) ρc tgt ifs (inner (compEnvC scope cl C env)) d (item d) σ b)
  (hz:(ds.flatMap item).length<=1000000)(ok:br A fr n)(S:dc hg hb s.heap env fr ρ)
  (K:∀C D h' hb' tk m ys,ay s.heap hb h' hb'->PL h' D ys->RA hb' ys.toList (ds.flatMap item)->hb'.get? D=none->eO s.heap D->h'.Ns C m->hb'.get? C=none->eO s.heap C->
   compPost MD A E use Q (.ref D) C (.ok .next) (aA s h' tk)):
  wA MD A (comprehension (.ListComp elt (⟨tgt,iter,ifs,0⟩::rest) scope pos) scope env p (newList []) false (eval iter env) use) Q E s:=by
 obtain⟨e1,e2⟩:=gu (ds:=ds) (item:=item)
 rw[<-e2]at hz K
 refine nK tree (by rw[e1];exact hit.g) hclos hcap hcell hkind hnames hs (fun C d hd=>?_) hz ok S K
 obtain⟨d',hd',rfl⟩:=List.mem_map.mp hd
 exact turn C d' hd'
theorem b9{tgt elt:Ep}{env':Env}{d d':PyD}{σ:LS}(bd:Bd tgt d σ)(loc:∀y∈σ.map (·.1),env'.kindOf y=some .local)(apart:∀y lv,ρ.lookup y=some lv->(σ ++ρ).lookup y=some lv)
  (he:Ev hg n env' (σ ++ρ) elt (RF (DV d'))):X2 fun σ b=>cn hg n env' ρ tgt [] (vg elt env') d [d'] σ b:=
 ⟨σ,true,.of bd,loc,apart,ew,fun O=>gz he apart,fun q=>by cases q⟩
theorem eg{tgt elt t:Ep}{env':Env}{d d':PyD}{σ:LS}{b:Bool}(bd:Bd tgt d σ)(loc:∀y∈σ.map (·.1),env'.kindOf y=some .local)(apart:∀y lv,ρ.lookup y=some lv->(σ ++ρ).lookup y=some lv)
  (ht:Tv hg n env' (σ ++ρ) t b)(he:b=true->Ev hg n env' (σ ++ρ) elt (RF (DV d'))):X2 fun σ b'=>cn hg n env' ρ tgt [t] (vg elt env') d (if b=true then[d']else[]) σ b':=
 ⟨σ,b,.of bd,loc,apart,og ht,fun q=>by rw[if_pos q];exact gz (he q) apart,fun q=>by rw[q];rfl⟩
theorem wt{elt tgt iter:Ep}{ifs:List Ep}{g0:Comprehension}{rest:List Comprehension}{inner:Env->Vl->Sem Unit}{scope:Scope}{ds:List PyD}{item:PyD->List PyD}{ρ':LS}
  (tree:db (.ListComp elt (g0::⟨tgt,iter,ifs,0⟩::rest) scope pos) 1 tgt ifs inner)
  (he:Ev hg n env ρ iter (RF (DV (.list ds))))(ht:cz tgt)(hρ:∀y lv,ρ'.lookup y=some lv->ρ.lookup y=some lv)(hs:∀x,foldedSetIterable iter env x=pure x)
  (turn:∀d∈ds,X2 fun σ b=>cn hg n env ρ tgt ifs (inner env) d (item d) σ b):
  qO hg n env ρ ρ' (n7 (.ListComp elt (g0::⟨tgt,iter,ifs,0⟩::rest) scope pos) 1 iter env) (ds.flatMap item):=fun A fr h₀ hb₀ hb s D out Q E ok x hz h=>by
 unfold n7
 obtain⟨pi1,pi2⟩:=gu (ds:=ds) (item:=item)
 refine wBi (he A fr hb s _ E ok x.s fun v h₁ hb1 tk1 st1 r1=>wBi (wpAny_standAt (wBi (wpAny_of_eq (hs v) (wBi (wpAny_holding ?_))))))
 obtain⟨_,r1⟩:=r1
 obtain⟨a,o,vs,k,bs,rfl,ho,hc,hd,hr,_⟩:=reads_list_inv r1
 have x1:=x.step st1 (.inl rfl)
 have ho1:=st1.stay _ _ ho
 have hl:h₁.IsList a vs:=⟨o,ho1,hc,k,hd⟩
 have hne:a≠h₁.objs.size:=Nat.ne_of_lt (Hp.lt_size ho1)
 refine wpAny_pyIter_list hl ?_
 have st2:ay h₁ hb1 (h₁.push {cls:=.type "list_iterator",data:=.fields #[.ref a,rawInt 0]}) hb1:=aL _ st1.stay
 have x2:=x1.step st2 (.inl rfl)
 have IT:=pO ok.h ht hne ⟨bs,hr⟩
 have hit:((h₁.push {cls:=.type "list_iterator",data:=.fields #[.ref a,rawInt 0]}).IsListIter h₁.objs.size a 0/\(h₁.push {cls:=.type "list_iterator",data:=.fields #[.ref a,rawInt 0]}).IsList a vs):=⟨⟨_,Hp.get?_push_size _ rfl,rfl,rfl⟩,hl.push _⟩
 have aC:env.locals∉[a]:=fun q=>by
  have:=x1.c.2
  rw[List.mem_singleton.mp q,ho]at this;cases this
 have aD:D∉[a]:=fun q=>by
  have:=x1.d.2
  rw[List.mem_singleton.mp q,ho]at this;cases this
 have loop:∀tk,codeAny MD A (.compLoop (.ListComp elt (g0::⟨tgt,iter,ifs,0⟩::rest) scope pos) 1 (.ref h₁.objs.size) (.ref D) env)
   (fun r s'=>match r with| .ok f=>Q () s'| .error e=>cameBackBy MD A env E e s') {s with heap:=h₁.push {cls:=.type "list_iterator",data:=.fields #[.ref a,rawInt 0]},toks:=tk}:=fun tk=>by
  refine jU (s:={s with heap:=h₁.push {cls:=.type "list_iterator",data:=.fields #[.ref a,rawInt 0]},toks:=tk}) (ds:=ds.map fun d=>(DV d,item d)) (inner:=inner env) ok (by rw[pi1];exact IT.f) aC aD (.inl rfl) (fun d hd=>by obtain⟨d',hd',rfl⟩:=List.mem_map.mp hd;exact turn d' hd')
   (fun s Next Fin h h1 h2=>tree s Next Fin h h1 h2) x2 (fun O O e=>e) (fun b hb=>by rw[List.mem_singleton.mp hb];exact Hp.StaysIn.fresh st1.stay) hit (by rw[pi2];exact hz) fun h' hb' tk' x' sub K'=>?_
  rw[pi2]at x'
  exact h h' hb' tk' (x'.less hρ) (fun b o e=>sub b o (st1.sub b o e)) (((Kb.of_up st1.up).trans (Kb.of_up st2.up)).trans K')
 have start:∀tk,codeAny MD A (.compStart (.ListComp elt (g0::⟨tgt,iter,ifs,0⟩::rest) scope pos) 1 (.ref h₁.objs.size) (.ref D) env)
   (fun r s'=>match r with| .ok f=>Q () s'| .error e=>cameBackBy MD A env E e s') {s with heap:=h₁.push {cls:=.type "list_iterator",data:=.fields #[.ref a,rawInt 0]},toks:=tk}:=fun tk=>by
  refine codeAny_of_tree ?_
  show wA _ _ ((compStart (.ListComp elt (g0::⟨tgt,iter,ifs,0⟩::rest) scope pos) 1 (.ref h₁.objs.size) (.ref D) env).onRaise (fun x=>do noteFrame x env;standAt theWindowsPlace)) _ _ _
  refine wpAny_notedAt ?_
  unfold compStart
  show wA _ _ (ask>>=_) _ _ _
  refine wBi (wpAny_askSetting (wpAny_ite ?_))
  split
  ·exact wP (And.intro rfl (loop _))
  ·refine wBi (wpAny_rule ?_)
   show wA _ _ (standAt iter.pos>>=_) _ _ _
   exact wBi (wpAny_standAt (wBi (IT.self 0 _ _ _ hit (wP (And.intro rfl (loop _))))))
 have hA:A.mark none=A:=by
  obtain⟨_⟩:=A
  rfl
 refine wBi (wpAny_runOwn ?_)
 rw[hA]
 exact codeAny_mono (start _) fun r s' hr=>by cases r<;>first|exact wP hr|exact hr
end
section
variable{A:Ar}{E:VS}{s:SD}
theorem jD{it t:Ad}{i:Nat}{items:Array Vl}{x:Vl}{Q:VS}(hit:s.heap.IsTupleIter it t i)(ht:s.heap.IsTuple t items)(hx:items[i]?=some x)
  (hQ:∀h',h'.IsTupleIter it t (i +1)->Hp.SameBut it s.heap h'->Q x {s with heap:=h'}):wA MD A (Builtin.SmallTypes.nextOf (.ref it)) Q E s:=by
 obtain⟨o,ho,hc,hd⟩:=id hit
 obtain⟨ol,hol,_,nl,hdl⟩:=ht
 unfold Builtin.SmallTypes.nextOf
 refine wBi (wpAny_callSpecial?_slot (name:=Str.ofString "__next__") hit.typeIs F.slot_tuple_iterator_next
  (wpAny_call_entry F.slot_tuple_iterator_next hit.typeIs F.entry_tuple_iterator_next ?_ (F.args_tuple_iterator_next_1 _)))
 show wA _ _ (field (.ref it) 0>>=_) _ _ s
 refine wBi (wpAny_field ho hd (x:=.ref t) rfl ?_)
 show wA _ _ (if(Vl.ref t==Vl.none)=true then _ else _) _ _ s
 rw[if_neg (show¬((Vl.ref t==Vl.none)=true) from Bool.false_ne_true)]
 show wA _ _ (field (.ref it) 1>>=_) _ _ s
 refine wBi (wpAny_field ho hd (x:=.int i 0) rfl ?_)
 show wA _ _ (seqItems? (.ref t)>>=_) _ _ s
 refine wBi (wpAny_seqItems hol hdl ?_)
 simp only[Int.toNat_natCast,hx]
 refine wBi (wpAny_setField ho hd (by simp) (wP ⟨x,rfl,wP (hQ _ ?_ (Hp.SameBut.update ..))⟩))
 exact⟨_,Hp.get?_update_self _ ho (Obj.isFreed_of_fields (Obj.data_mapFields hd _)),(Obj.cls_mapFields ..).trans hc,by rw[Obj.data_mapFields hd];simp[rawInt]⟩
theorem kf{it t:Ad}{i:Nat}{items:Array Vl}{Q:VS}(hh:A.handled=none)(hit:s.heap.IsTupleIter it t i)(ht:s.heap.IsTuple t items)(hx:items[i]?=none)
  (hE:∀h' e,Hp.ExtBut it s.heap h'->(∃o,h'.get? e=some o/\o.cls= .type "StopIteration")->E (.ref e) {s with heap:=h'}):wA MD A (Builtin.SmallTypes.nextOf (.ref it)) Q E s:=by
 obtain⟨o,ho,hc,hd⟩:=id hit
 obtain⟨ol,hol,_,nl,hdl⟩:=ht
 unfold Builtin.SmallTypes.nextOf
 refine wBi (wpAny_callSpecial?_slot (name:=Str.ofString "__next__") hit.typeIs F.slot_tuple_iterator_next
  (wpAny_call_entry F.slot_tuple_iterator_next hit.typeIs F.entry_tuple_iterator_next ?_ (F.args_tuple_iterator_next_1 _)))
 show wA _ _ (field (.ref it) 0>>=_) _ _ s
 refine wBi (wpAny_field ho hd (x:=.ref t) rfl ?_)
 show wA _ _ (if(Vl.ref t==Vl.none)=true then _ else _) _ _ s
 rw[if_neg (show¬((Vl.ref t==Vl.none)=true) from Bool.false_ne_true)]
 show wA _ _ (field (.ref it) 1>>=_) _ _ s
 refine wBi (wpAny_field ho hd (x:=.int i 0) rfl ?_)
 show wA _ _ (seqItems? (.ref t)>>=_) _ _ s
 refine wBi (wpAny_seqItems hol hdl ?_)
 simp only[Int.toNat_natCast,hx]
 refine wBi (wpAny_rule (wBi (wpAny_setField ho hd (by simp) ?_)))
 show wA _ _ (newExc (.type "StopIteration") []>>=_) _ _ _
 refine wBi ?_
 simp only[newExc,newTuple]
 refine wBi (wpAny_newObj_type ?_ (by size_fits))
 refine wBi (m:=firstArgMember _ _) (wpAny_of_eq (a:=Vl.none) (by first|rfl|(simp only[firstArgMember];rfl)) ?_)
 refine wpAny_newObj_type ?_ (by size_fits)
 simp only[raiseNew]
 refine wBi (wpAny_handled ?_)
 first|rw[show A.in1.handled=none from hh]|rw[hh]
 refine wBi (wP (wpAny_throw ?_))
 exact hE _ _ (((Hp.SameBut.update ..).extBut.push _).push _) ⟨_,Hp.get?_push_size _ rfl,rfl⟩
theorem vW{e it:Ad}{i:Nat}{x old:Vl}{P:Hp->Prop}{Q:VS}(he:IsEnum s.heap e it i old)(hne:e≠it)
  (nx:∀(A:Ar)(Q:VS),(∀h',Hp.SameBut it s.heap h'->P h'->Q x {s with heap:=h'})->wA MD A (Builtin.SmallTypes.nextOf (.ref it)) Q E s)
  (hQ:∀h' h₁,Hp.SameBut it s.heap h₁->P h₁->IsEnumOut h' e it ((i:Int) +1) x s.heap.objs.size->h'.get? s.heap.objs.size=some {cls:=.type "tuple",data:=.seq #[.int i s.toks,x]}->
   (∀b o,b≠e->h₁.get? b=some o->h'.get? b=some o)->Q (.ref s.heap.objs.size) (aA s h' (s.toks +1))):
  wA MD A (Builtin.«enumerate.__next__» ⟨[.ref e],[]⟩) (fun fin s'=>∃v,fin= .done (.ret v)/\Q v s') E s:=by
 obtain⟨hp,g,d,tk,os⟩:=s
 show wA _ _ (field (.ref e) 2>>=_) _ _ _
 refine wBi (wpAny_field he rfl (x:=.ref it) rfl ?_)
 refine wBi (nx _ _ fun h₁ hs1 hex=>?_)
 replace hs1:Hp.SameBut it hp h₁:=hs1
 have e1:IsEnum h₁ e it i old:=(hs1.2 e hne).trans he
 have hez:e≠hp.objs.size:=Nat.ne_of_lt (Hp.lt_size he)
 show wA _ _ (field (.ref e) 3>>=_) _ _ ⟨h₁,g,d,tk,os⟩
 refine wBi (wpAny_field e1 rfl (x:=rawInt i) rfl ?_)
 show wA _ _ (field (.ref e) 4>>=_) _ _ ⟨h₁,g,d,tk,os⟩
 refine wBi (wpAny_field e1 rfl (x:=.none) rfl ?_)
 show wA _ _ (mkInt i>>=_) _ _ ⟨h₁,g,d,tk,os⟩
 refine wBi (wpAny_mkInt ?_)
 show wA _ _ (setField (.ref e) 3 (rawInt ((i:Int) +1))>>=_) _ _ ⟨h₁,g,d,tk +1,os⟩
 refine wBi (wpAny_setField_rec e1 (by simp) fun h2 e2 hs2=>?_)
 replace hs2:Hp.SameBut e h₁ h2:=hs2
 show wA _ _ (setField (.ref e) 4 .none>>=_) _ _ ⟨h2,g,d,tk +1,os⟩
 refine wBi (wpAny_setField_rec e2 (by simp) fun h3 e3 hs3=>?_)
 replace hs3:Hp.SameBut e h2 h3:=hs3
 replace e3:IsEnum h3 e it ((i:Int) +1) old:=e3
 show wA _ _ (newTuple [.int i tk,x]>>=_) _ _ ⟨h3,g,d,tk +1,os⟩
 refine wBi (wpAny_newTuple ?_)
 have hz:h3.objs.size=hp.objs.size:=by rw[hs3.1,hs2.1,hs1.1]
 have t4:=Hp.get?_push_size (o:={cls:=.type "tuple",data:=.seq #[.int i tk,x]}) h3 rfl
 have e4:IsEnum (h3.push {cls:=.type "tuple",data:=.seq #[.int i tk,x]}) e it ((i:Int) +1) old:=Hp.get?_push_of_some _ e3
 have k4:∀b o,b≠e->h₁.get? b=some o->(h3.push {cls:=.type "tuple",data:=.seq #[.int i tk,x]}).get? b=some o:=fun b o hb q=>Hp.get?_push_of_some _ (hs3.extBut b o hb (hs2.extBut b o hb q))
 generalize h3.push {cls:=.type "tuple",data:=.seq #[.int i tk,x]}=h4 at t4 e4 k4⊢
 rw[hz]at t4⊢
 show wA _ _ (Builtin.SmallTypes.ownedTupleIsFree (.ref e)>>=_) _ _ ⟨h4,g,d,tk +1,os⟩
 refine wBi ?_
 unfold Builtin.SmallTypes.ownedTupleIsFree
 refine wBi (wpAny_field e4 rfl (x:=.none) rfl (wP ?_))
 simp only[if_true]
 refine wBi (wpAny_rule (wBi (wpAny_field e4 rfl (x:=old) rfl ?_)))
 refine wBi (wpAny_setField_rec e4 (by simp) fun h5 e5 hs5=>?_)
 replace hs5:Hp.SameBut e h4 h5:=hs5
 replace e5:IsEnum h5 e it ((i:Int) +1) x:=e5
 show wA _ _ (Builtin.SmallTypes.ownedTupleHandOut (.ref e) (.ref hp.objs.size)>>=_) _ _ ⟨h5,g,d,tk +1,os⟩
 refine wBi ?_
 unfold Builtin.SmallTypes.ownedTupleHandOut
 refine wBi (wpAny_setField_rec e5 (by simp) fun h6 e6 hs6=>?_)
 replace hs6:Hp.SameBut e h5 h6:=hs6
 replace e6:IsEnumOut h6 e it ((i:Int) +1) x hp.objs.size:=e6
 refine wpAny_setField_rec e6 (by simp) fun h7 e7 hs7=>?_
 replace hs7:Hp.SameBut e h6 h7:=hs7
 have k7:∀b o,b≠e->h4.get? b=some o->h7.get? b=some o:=fun b o hb q=>hs7.extBut b o hb (hs6.extBut b o hb (hs5.extBut b o hb q))
 exact wBi (wpAny_letGo (wP ⟨_,rfl,hQ h7 h₁ hs1 hex e7 (k7 _ _ hez.symm t4) fun b o hb q=>k7 b o hb (k4 b o hb q)⟩))
theorem mY{e it:Ad}{i:Nat}{x old:Vl}{P:Hp->Prop}{Q:Option Vl->SD->Prop}(he:IsEnum s.heap e it i old)(hne:e≠it)
  (nx:∀(A:Ar)(E:VS)(Q:VS),(∀h',Hp.SameBut it s.heap h'->P h'->Q x {s with heap:=h'})->wA MD A (Builtin.SmallTypes.nextOf (.ref it)) Q E s)
  (hQ:∀h' h₁,Hp.SameBut it s.heap h₁->P h₁->IsEnumOut h' e it ((i:Int) +1) x s.heap.objs.size->h'.get? s.heap.objs.size=some {cls:=.type "tuple",data:=.seq #[.int i s.toks,x]}->
   (∀b o,b≠e->h₁.get? b=some o->h'.get? b=some o)->Q (some (.ref s.heap.objs.size)) (aA s h' (s.toks +1))):
  wA MD A (pyNext (.ref e)) Q E s:=by
 have hT:s.TypeIs (.ref e) "enumerate":=⟨_,he,rfl⟩
 unfold pyNext
 refine wBi (wpAny_attempt (wpAny_callSpecial?_slot (name:=Str.ofString "__next__") hT F.slot_enumerate_next
  (wpAny_call_entry F.slot_enumerate_next hT F.entry_enumerate_next ?_ (F.args_enumerate_next_1 _))))
 exact vW he hne (fun A Q=>nx A _ Q) fun h' h₁ a b c d e=>wP (hQ h' h₁ a b c d e)
theorem m6{e it t:Ad}{i:Nat}{items:Array Vl}{old:Vl}{Q:Option Vl->SD->Prop}(hh:A.handled=none)(he:IsEnum s.heap e it i old)(hit:s.heap.IsTupleIter it t i)(ht:s.heap.IsTuple t items)(hx:items[i]?=none)
  (hQ:∀h',Hp.ExtBut it s.heap h'->Q none {s with heap:=h'}):wA MD A (pyNext (.ref e)) Q E s:=by
 have hT:s.TypeIs (.ref e) "enumerate":=⟨_,he,rfl⟩
 unfold pyNext
 refine wBi (wpAny_attempt (wpAny_callSpecial?_slot (name:=Str.ofString "__next__") hT F.slot_enumerate_next
  (wpAny_call_entry F.slot_enumerate_next hT F.entry_enumerate_next ?_ (F.args_enumerate_next_1 _))))
 show wA _ _ (field (.ref e) 2>>=_) _ _ _
 refine wBi (wpAny_field he rfl (x:=.ref it) rfl ?_)
 refine wBi (kf hh hit ht hx fun h' x he' hx'=>?_)
 obtain⟨o,ho,hc⟩:=hx'
 refine wBi (wpAny_isInstance (T:="StopIteration") (b:=true) ⟨o,ho,hc⟩ isSubtype_stop ?_)
 exact wP (hQ _ he')
set_option tactic.hygienic true in
theorem jZ(l:Ad)(o:Obj)(hc:o.cls= .type "tuple")(items:Array Vl)(n:Nat)(hd:o.data= .seq items n):
  Meets (Builtin.«enumerate.__new__» ⟨[.type "enumerate",.ref l],[]⟩) (fun O R s=>s.heap.get? l=some o/\R (.ok (.ret (.ref (s.heap.push {cls:=.type "tuple_iterator",data:=.fields #[.ref l,rawInt 0]}).objs.size)))
    {s with heap:=(s.heap.push {cls:=.type "tuple_iterator",data:=.fields #[.ref l,rawInt 0]}).push {cls:=.type "enumerate",data:=.fields #[.none,.bool false,.ref s.heap.objs.size,rawInt 0,.none,.none]}}):=
 .of_wp fun pg wd A R s h=>by
  obtain⟨hp,g,d,tk,os⟩:=s;obtain⟨hl,h⟩:=h
  have hsub:=sub_enumerate
  have hL:Hp.IsTuple (SD.heap ⟨hp,g,d,tk,os⟩) l items:=⟨_,hl,hc,n,hd⟩
  wp_walk
  refine wpAny_stack_any fun st=>wP ?_
  split
  ·rename_i c _ _ _ _ _
   cases(c==Vl.type "enumerate")
   ·wp_walk using wpAny_pyIter_tuple hL
    exact⟨_,rfl,h⟩
   ·wp_walk using wpAny_pyIter_tuple hL
    exact⟨_,rfl,h⟩
  ·wp_walk using wpAny_pyIter_tuple hL
   exact⟨_,rfl,h⟩
theorem k9{l:Ad}{items:Array Vl}{Q:VS}(hL:s.heap.IsTuple l items)
  (h:∀h',IsEnum h' (s.heap.objs.size +1) s.heap.objs.size 0 .none->h'.IsTupleIter s.heap.objs.size l 0->
   (∀b o,s.heap.get? b=some o->h'.get? b=some o)->Q (.ref (s.heap.objs.size +1)) {s with heap:=h'}):
  wA MD A (call (.type "enumerate") [.ref l]) Q E s:=by
 obtain⟨o,hl,hc,n,hd⟩:=hL
 refine callType_new F.called_enumerate (by decide) (F.typeCall_enumerate_1 _) (F.newCall_enumerate_1 _) (fun obj=>F.args_object_init_2 obj _) F.entry_enumerate_new
  (jZ l o hc items n hd) ⟨hl,?_⟩
 have hz:(s.heap.push {cls:=.type "tuple_iterator",data:=.fields #[.ref l,rawInt 0]}).objs.size=s.heap.objs.size +1:=Hp.size_push ..
 show _/\_
 rw[hz]
 have he:IsEnum ((s.heap.push {cls:=.type "tuple_iterator",data:=.fields #[.ref l,rawInt 0]}).push
   {cls:=.type "enumerate",data:=.fields #[.none,.bool false,.ref s.heap.objs.size,rawInt 0,.none,.none]}) (s.heap.objs.size +1) s.heap.objs.size 0 .none:=by
  have:=Hp.get?_push_size (s.heap.push {cls:=.type "tuple_iterator",data:=.fields #[.ref l,rawInt 0]})
   (o:={cls:=.type "enumerate",data:=.fields #[.none,.bool false,.ref s.heap.objs.size,rawInt 0,.none,.none]}) rfl
  rw[hz]at this;exact this
 exact⟨⟨_,he,rfl⟩,h _ he ⟨_,Hp.get?_push_of_some _ (Hp.get?_push_size _ rfl),rfl,rfl⟩ fun b o x=>Hp.get?_push_of_some _ (Hp.get?_push_of_some _ x)⟩
end
noncomputable def bN(ds:List PyD):List PyD:=ds.mapIdx fun i d=>.tuple [.int (i:Nat),d]
theorem lq(ds:List PyD):(bN ds).length=ds.length:=by simp[bN]
theorem em{ds:List PyD}{i:Nat}{d:PyD}(h:(bN ds)[i]?=some d):∃d',ds[i]?=some d'/\d= .tuple [.int (i:Nat),d']:=by
 simp only[bN,List.getElem?_mapIdx,Option.map_eq_some_iff]at h
 obtain⟨d',h1,h2⟩:=h
 exact⟨d',h1,h2.symm⟩
section
variable{l r:Ep}{R R1 R2:RK}
theorem uD{A:Ar}{elts:List Ep}{k:Nat}{p:Pos}{e it l:Ad}(hei:e≠it)(hle:l≠e)(hli:l≠it){items:Array Vl}{hbI:Hp}{ds:List PyD}(hr:RA hbI items.toList ds)(SI:Nat->Hp->Prop)
  (nx:∀i x (s:SD) (A:Ar) (E:VS) (Q:VS),SI i s.heap->items[i]?=some x->(∀h',Hp.SameBut it s.heap h'->SI (i +1) h'->Q x {s with heap:=h'})->wA MD A (Builtin.SmallTypes.nextOf (.ref it)) Q E s)
  (dn:∀(i:Nat) old (s:SD) (Q:Option Vl->SD->Prop) (E:VS),IsEnum s.heap e it i old->SI i s.heap->items[i]?=none->(∀h',Hp.ExtBut it s.heap h'->Q none {s with heap:=h'})->wA MD A (pyNext (.ref e)) Q E s)
  (ex:∀i h,SI i h->X2 fun o vs=>h.get? it=some o/\o.data= .fields vs)
  (fr:∀i h h',SI i h->(∀o,h.get? l=some o->(∀vs,o.data≠ .fields vs)->∃sl,h'.get? l=some {o with slots:=sl})->(∀o,h.get? it=some o->h'.get? it=some o)->SI i h')
  (ol:∀i h,SI i h->∃o,h.get? l=some o/\∀vs,o.data≠ .fields vs):
  It A (.Tuple elts k p) e [l] [e,it] hbI (bN ds) (fun i h=>(∃old,IsEnum h e it i old)/\SI i h) where
 frame:=fun i h h' st up keep=>by
  obtain⟨⟨old,he⟩,si⟩:=st
  exact⟨⟨old,keep e (by simp) _ he⟩,fr i h h' si (fun o ho hd=>up l (by simp) o ho hd) fun o ho=>keep it (by simp) o ho⟩
 fld:=fun i h st b hb=>by
  obtain⟨⟨old,he⟩,si⟩:=st
  rcases List.mem_cons.mp hb with rfl|hb
  ·exact⟨_,_,he,rfl⟩
  ·rw[List.mem_singleton.mp hb];exact ex i h si
 next:=fun i d hb s Q E hi st hs hst hw hQ=>by
  obtain⟨⟨old,he⟩,si⟩:=st
  obtain⟨d',hd',rfl⟩:=em hi
  obtain⟨x,hx,hxd⟩:=hr.get hd'
  refine mY (P:=SI (i +1)) he hei (fun A E Q hq=>nx i x s A E Q si (by simpa using hx) hq) fun h' h₁ hs1 si1 ho hT k1=>?_
  refine⟨_,rfl,wpAny_letOwnedTupleGo_enum ho fun h2 he2 hs2=>?_⟩
  replace hs2:Hp.SameBut e h' h2:=hs2
  have hez:e<s.heap.objs.size:=Hp.lt_size he
  obtain⟨oi,vi,hoi,hdi⟩:=ex i _ si
  have hiz:it<s.heap.objs.size:=Hp.lt_size hoi
  have k2:∀b o,b≠e->h₁.get? b=some o->h2.get? b=some o:=fun b o hb q=>hs2.extBut b o hb (k1 b o hb q)
  have kk:∀b o,b∉[e,it]->s.heap.get? b=some o->h2.get? b=some o:=fun b o hb q=>k2 b o (fun z=>hb (by simp[z])) (hs1.extBut b o (fun z=>hb (by simp[z])) q)
  have sb:=cZ hst kk (fun b hb=>by
   rcases List.mem_cons.mp hb with rfl|hb
   ·exact⟨_,_,he,rfl⟩
   ·rw[List.mem_singleton.mp hb];exact⟨_,_,hoi,hdi⟩) hw
  obtain⟨hb',st',a1,a2⟩:=iV sb.up sb.stay (fun a=>a=s.heap.objs.size) (fun a e=>e▸bQ s.heap)
  have hT2:h2.get? s.heap.objs.size=some {cls:=.type "tuple",data:=.seq #[.int i s.toks,x]}:=hs2.extBut _ _ (Nat.ne_of_gt hez) hT
  have hw':∀b∈[e,it],hb'.get? b=none:=fun b hb=>a2 b (hw b hb) (by
   rcases List.mem_cons.mp hb with rfl|hb
   ·exact Nat.ne_of_lt hez
   ·rw[List.mem_singleton.mp hb];exact Nat.ne_of_lt hiz)
  obtain⟨bs,hra⟩:RA hb' [.int i s.toks,x] [.int (i:Nat),d']:=.cons ⟨_,.int _ _⟩ (.cons ((hxd.keeps hs).keeps st'.sub) .nil)
  refine hQ _ h2 hb' _ st' kk hw' ⟨_,.tuple ((a1 _ rfl).trans hT2) rfl rfl hra⟩ ⟨⟨x,by simpa using he2⟩,fr (i +1) h₁ h2 si1 (fun o ho hd=>⟨o.slots,k2 l o hle ho⟩) fun o ho=>k2 it o hei.symm ho⟩
 done:=fun s Q E st hQ=>by
  obtain⟨⟨old,he⟩,si⟩:=st
  rw[lq]at he si
  refine dn _ old s _ E he si ?_ fun h' he'=>hQ h' s.toks fun b o hb q=>he' b o (fun z=>hb (by simp[z])) q
  have:=hr.length
  simp only[Array.length_toList]at this
  simp[this]
 self:=fun O O O O st hQ=>by
  obtain⟨⟨old,he⟩,si⟩:=st
  exact wpAny_pyIter_enum he hQ
theorem sz{A:Ar}(hh:A.handled=none){elts:List Ep}{k:Nat}{p:Pos}{e it l:Ad}(hei:e≠it)(hle:l≠e)(hli:l≠it){items:Array Vl}{hbI:Hp}{ds:List PyD}(hr:RA hbI items.toList ds):
  It A (.Tuple elts k p) e [l] [e,it] hbI (bN ds) (fun i h=>(∃old,IsEnum h e it i old)/\h.IsListIter it l i/\h.IsList l items):=
 uD hei hle hli hr (fun i h=>h.IsListIter it l i/\h.IsList l items)
  (fun i x s A E Q si hx hq=>wpAny_nextOf_list_item si.1 si.2 hx fun h' a b=>hq h' b ⟨a,si.2.extBut b.extBut hli⟩)
  (fun i old s Q E he si hx hq=>wpAny_pyNext_enum_end hh he si.1 si.2 hx hq)
  (fun i h si=>by obtain⟨⟨o,ho,_,hd⟩,_⟩:=si;exact⟨o,_,ho,hd⟩)
  (fun i h h' si up kp=>by
   obtain⟨⟨o,ho,hc,hd⟩,⟨o2,ho2,hc2,k2,hd2⟩⟩:=si
   obtain⟨sl,q⟩:=up o2 ho2 (fun O q=>by rw[hd2]at q;cases q)
   exact⟨⟨o,kp o ho,hc,hd⟩,⟨_,q,hc2,k2,hd2⟩⟩)
  (fun i h si=>by obtain⟨_,⟨o2,ho2,hc2,k2,hd2⟩⟩:=si;exact⟨o2,ho2,fun O q=>by rw[hd2]at q;cases q⟩)
theorem xT{A:Ar}(hh:A.handled=none){elts:List Ep}{k:Nat}{p:Pos}{e it l:Ad}(hei:e≠it)(hle:l≠e)(hli:l≠it){items:Array Vl}{hbI:Hp}{ds:List PyD}(hr:RA hbI items.toList ds):
  It A (.Tuple elts k p) e [l] [e,it] hbI (bN ds) (fun i h=>(∃old,IsEnum h e it i old)/\h.IsTupleIter it l i/\h.IsTuple l items):=
 uD hei hle hli hr (fun i h=>h.IsTupleIter it l i/\h.IsTuple l items)
  (fun i x s A E Q si hx hq=>jD si.1 si.2 hx fun h' a b=>hq h' b ⟨a,si.2.extBut b.extBut hli⟩)
  (fun i old s Q E he si hx hq=>m6 hh he si.1 si.2 hx hq)
  (fun i h si=>by obtain⟨⟨o,ho,_,hd⟩,_⟩:=si;exact⟨o,_,ho,hd⟩)
  (fun i h h' si up kp=>by
   obtain⟨⟨o,ho,hc,hd⟩,⟨o2,ho2,hc2,k2,hd2⟩⟩:=si
   obtain⟨sl,q⟩:=up o2 ho2 (fun O q=>by rw[hd2]at q;cases q)
   exact⟨⟨o,kp o ho,hc,hd⟩,⟨_,q,hc2,k2,hd2⟩⟩)
  (fun i h si=>by obtain⟨_,⟨o2,ho2,hc2,k2,hd2⟩⟩:=si;exact⟨o2,ho2,fun O q=>by rw[hd2]at q;cases q⟩)
noncomputable def wY(k:Nat):List PyD:=(List.range k).map fun i=>.int (i:Nat)
theorem y9{A:Ar}(hh:A.handled=none){x:Str}{p:Pos}{I:Ad}{hbI:Hp}{k:Nat}:
  It A (.Name x p) I [] [I] hbI (wY k) (fun i h=>IsRangeIter h I (i:Nat) ((k:Int) - (i:Nat)) 1) where
 frame:=fun i h h' st O kp=>kp I (by simp) _ st
 fld:=fun i h st b hb=>by rw[List.mem_singleton.mp hb];exact⟨_,_,st,rfl⟩
 next:=fun i d hb s Q E hi st hs hst hw hQ=>by
  have hik:i<k:=by have:=(List.getElem?_eq_some_iff.mp hi).1;simpa [wY]using this
  have hd:d= .int (i:Nat):=by simp[wY,hik]at hi;exact hi.symm
  refine wpAny_pyNext_range_item st (by exact Ei ‹_›) fun h' hit' hs'=>?_
  have kk:∀b o,b∉[I]->s.heap.get? b=some o->h'.get? b=some o:=fun b o hb q=>hs'.extBut b o (fun z=>hb (by simp[z])) q
  refine⟨_,rfl,wP ?_⟩
  subst hd
  refine hQ _ h' hb _ (cZ hst kk (fun b hb=>by rw[List.mem_singleton.mp hb];exact⟨_,_,st,rfl⟩) hw) kk hw ⟨_,.int _ _⟩ ?_
  have e1:((i +1:Nat):Int)=(i:Int) +1:=by exact Ee
  have e2:(k:Int) - ((i:Int) +1)=(k:Int) - i - 1:=by exact E7
  rw[e1,e2]
  exact hit'
 done:=fun s Q E st hQ=>wpAny_pyNext_range_end hh st (by simp[wY]) fun h' he'=>hQ h' s.toks fun b o hb q=>he' b o (fun z=>hb (by simp[z])) q
 self:=fun O s O O st hQ=>by
  have hT:s.TypeIs (.ref I) "range_iterator":=⟨_,st,rfl⟩
  refine wpAny_pyIter_slot hT F.slot_range_iterator_iter (wpAny_call_entry F.slot_range_iterator_iter hT F.entry_range_iterator_iter ?_ (F.args_range_iterator_iter_1 _))
  show wA _ _ (ret (.ref I)) _ _ s
  exact wP ⟨_,rfl,"range_iterator",_,hT,F.slot_range_iterator_next.lookup,hQ⟩
theorem gj{x:Str}{p:Pos}{f:Vl}{e:Ep}{es:List Ep}{Rs:List lr}(hf:Ev hg n env ρ (.Name x p) (RF (RV f)))(c:ft hg f)(ha:pT hg n env ρ (e::es) Rs)
  {A:Ar}{fr:List Env}{hb:Hp}{s:SD}{Q:VS}{E:VS}(ok:br A fr n)(S:dc hg hb s.heap env fr ρ)
  (h:∀vs h' hb' tk,ay s.heap hb h' hb'->bF s.heap hb' h' vs Rs->wA MD A (call f vs) Q E (aA s h' tk))
  (hn:autoParam (sE (e::es) env=(false,eval e env)::sE es env) Rf)(hplain:autoParam ((backTo pos (sE es env)).any (·.1)=false) Rf):
  wA MD A (eval (.Call (.Name x p) (e::es) [] pos) env) Q E s:=by
 refine wpAny_Call_NameR (hf A fr hb s _ E ok S fun v h₁ hb1 tk1 st1 r1=>?_)
 obtain rfl:v=f:=r1
 have hargs:=ha pos A fr hb1 (aA s h₁ tk1) (fun vs s₂=>hg.StaysIn s₂.heap/\wA MD A (call v ([] ++vs)) Q E s₂) E ok (S.step st1) fun vs h2 hb2 tk2 st2 r2=>by
  have S2:=(S.step st1).step st2
  exact⟨fun b o q=>S2.b b o (S2.g b o q),h vs h2 hb2 tk2 (st1.trans st2) (r2.early st1.up)⟩
 rw[hn]at hargs⊢
 exact bh c hplain hargs
theorem bF.one{h₀ hb h:Hp}{vs:List Vl}{R:lr}(x:bF h₀ hb h vs [R]):∃v,vs=[v]/\R.R h₀ hb h v:=by
 obtain⟨v,_,rfl,a,b⟩:=x.inv;exact⟨v,by rw[b.inv0],a⟩
theorem bF.two{h₀ hb h:Hp}{vs:List Vl}{R S:lr}(x:bF h₀ hb h vs [R,S]):X2 fun v u=>A3 (vs=[v,u]) (R.R h₀ hb h v) (S.R h₀ hb h u):=by
 obtain⟨v,_,rfl,a,b⟩:=x.inv;obtain⟨u,rfl,r⟩:=b.one;exact⟨_,_,rfl,a,r⟩
theorem bF.three{h₀ hb h:Hp}{vs:List Vl}{R S T:lr}(x:bF h₀ hb h vs [R,S,T]):X3 fun v u t=>A4 (vs=[v,u,t]) (R.R h₀ hb h v) (S.R h₀ hb h u) (T.R h₀ hb h t):=by
 obtain⟨v,_,rfl,a,b⟩:=x.inv;obtain⟨u,t,rfl,r,q⟩:=b.two;exact⟨_,_,_,rfl,a,r,q⟩
theorem mn{x:Str}{p q:Pos}{elts:List Ep}{k:Nat}{ds:List PyD}(hf:Ev hg n env ρ (.Name x p) (RF (RV (.type "enumerate"))))(he:Ev hg n env ρ e (RL ds))
  (hn:autoParam (sE [e] env=(false,eval e env)::sE [] env) Rf):ls hg n env ρ (.Call (.Name x p) [e] [] pos) (.Tuple elts k q) (bN ds):=fun A fr hb s Q E ok S h=>by
 refine gj hf (.type _) (cJ (R:=rL ds) he ao hn) ok S (fun vs h₁ hb1 tk1 st1 r1=>?_) hn
 obtain⟨v,rfl,r⟩:=r1.one
 obtain⟨a,vs,bs,rfl,hl,hr⟩:=r
 obtain⟨o,ho,hc,k₀,hd⟩:=id hl
 refine call_enumerate_list hl fun h2 hE hI hz k2=>wpAny_pyIter_enum hE ?_
 have ne:a<h₁.objs.size:=Hp.lt_size ho
 have st2:ay h₁ hb1 h2 hb1:=⟨Hp.UpToSlots.of_keeps k2,fun O O e=>e,fun b o e=>k2 b o (st1.stay b o e),fun O O O O e=>e⟩
 refine h _ [a] [h₁.objs.size +1,h₁.objs.size] _ h2 hb1 _ (st1.trans st2) (sz ok.h (Nat.succ_ne_self _) (Nat.ne_of_lt (Nat.lt_succ_of_lt ne)) (Nat.ne_of_lt ne) ⟨bs,hr⟩) ⟨⟨_,hE⟩,hI,fU st2.up hl⟩ (fun b hb=>?_) fun b hb=>?_
 ·rcases List.mem_cons.mp hb with rfl|hb
  ·cases q:hb1.get? (h₁.objs.size +1)with
   |none=>rfl
   |some o'=>exact absurd (Hp.lt_size (st1.stay _ _ q)) (Nat.not_lt_of_le (Nat.le_succ _))
  ·rw[List.mem_singleton.mp hb];exact Hp.StaysIn.fresh st1.stay
 ·rw[List.mem_singleton.mp hb];exact⟨o,k2 _ _ ho,fun O q=>by rw[hd]at q;cases q⟩
theorem tZ{x:Str}{p q:Pos}{elts:List Ep}{k:Nat}{ds:List PyD}(hf:Ev hg n env ρ (.Name x p) (RF (RV (.type "enumerate"))))(he:Ev hg n env ρ e (RF (DV (.tuple ds))))
  (hn:autoParam (sE [e] env=(false,eval e env)::sE [] env) Rf):ls hg n env ρ (.Call (.Name x p) [e] [] pos) (.Tuple elts k q) (bN ds):=fun A fr hb s Q E ok S h=>by
 refine gj hf (.type _) (cJ (R:=rF (DV (.tuple ds))) he ao hn) ok S (fun vs h₁ hb1 tk1 st1 r1=>?_) hn
 obtain⟨v,rfl,r⟩:=r1.one
 obtain⟨a,vs,rfl,hl,hr⟩:=eW st1.stay r
 obtain⟨o,ho,hc,k₀,hd⟩:=id hl
 refine k9 hl fun h2 hE hI k2=>wpAny_pyIter_enum hE ?_
 have ne:a<h₁.objs.size:=Hp.lt_size ho
 have st2:ay h₁ hb1 h2 hb1:=⟨Hp.UpToSlots.of_keeps k2,fun O O e=>e,fun b o e=>k2 b o (st1.stay b o e),fun O O O O e=>e⟩
 refine h _ [a] [h₁.objs.size +1,h₁.objs.size] _ h2 hb1 _ (st1.trans st2) (xT ok.h (Nat.succ_ne_self _) (Nat.ne_of_lt (Nat.lt_succ_of_lt ne)) (Nat.ne_of_lt ne) hr) ⟨⟨_,hE⟩,hI,⟨o,k2 _ _ ho,hc,k₀,hd⟩⟩ (fun b hb=>?_) fun b hb=>?_
 ·rcases List.mem_cons.mp hb with rfl|hb
  ·cases q:hb1.get? (h₁.objs.size +1)with
   |none=>rfl
   |some o'=>exact absurd (Hp.lt_size (st1.stay _ _ q)) (Nat.not_lt_of_le (Nat.le_succ _))
  ·rw[List.mem_singleton.mp hb];exact Hp.StaysIn.fresh st1.stay
 ·rw[List.mem_singleton.mp hb];exact⟨o,k2 _ _ ho,fun O q=>by rw[hd]at q;cases q⟩
end
theorem bM{env:Env}{h:Hp}{x:Str}{u v:Vl}(p:dY env h x u)(q:dY env h x v):u=v:=by
 rcases p with⟨k,m,a,b⟩|⟨k,c,a,b⟩<;>rcases q with⟨k',m',a',b'⟩|⟨k',c',a',b'⟩
 ·rw[dF a a',b']at b;injection b with b;exact b.symm
 ·rw[k]at k';rcases k' with k'|⟨k',_⟩<;>cases k'
 ·rw[k']at k;rcases k with k|⟨k,_⟩<;>cases k
 ·rw[a]at a';injection a' with a';subst a'
  obtain⟨o,ho,hd⟩:=b
  obtain⟨o',ho',hd'⟩:=b'
  rw[ho]at ho';injection ho' with ho';subst ho'
  rw[hd]at hd';injection hd' with hd';injection hd'
structure co(hg h₀ hb₀ hb h:Hp)(env:Env)(fr:List Env)(ρ:LS):Prop where
 s:dc hg hb h env fr ρ
 st:ay h₀ hb₀ h hb
 l:(∃m,h.Ns env.locals m)/\hb.get? env.locals=none/\eO h₀ env.locals
 c:∀x c,env.cells.lookup x=some c->(∃v,h.IsCell c v)/\hb.get? c=none/\eO h₀ c
 ci:∀x y c,env.cells.lookup x=some c->env.cells.lookup y=some c->x=y
 hd:X2 fun fr' L=>fr=env::fr'/\env.frame=some L
 o:∀x ds,ρ.lookup x=some (.own ds)->X2 fun a vs=>dY env h x (.ref a)/\PL h a vs/\A3 (RA hb vs.toList ds) (hb.get? a=none) (eO h₀ a)
 oi:∀x y dx dy a,ρ.lookup x=some (.own dx)->ρ.lookup y=some (.own dy)->dY env h x (.ref a)->dY env h y (.ref a)->x=y
theorem fT{h:Hp}{c:Ad}{v:Option Vl}(x:h.IsCell c v):∃o,h.get? c=some o/\∀vs,o.data≠ .fields vs:=by
 obtain⟨o,ho,hd⟩:=x
 exact⟨o,ho,fun vs q=>by rw[hd]at q;cases q⟩
theorem i9{h:Hp}{a b:Ad}{ys:Array Vl}{v:Option Vl}(x:PL h a ys)(y:h.IsCell b v):a≠b:=by
 rintro rfl
 obtain⟨o,ho,_,_,_,hd⟩:=x
 obtain⟨o',ho',hd'⟩:=y
 rw[ho]at ho';injection ho' with ho';subst ho'
 rw[hd]at hd';cases hd'
theorem iO{h:Hp}{a b:Ad}{m:Str->Option Vl}{v:Option Vl}(x:h.Ns a m)(y:h.IsCell b v):a≠b:=by
 rintro rfl
 obtain⟨o,es,ep,ho,hd,_⟩:=x
 obtain⟨o',ho',hd'⟩:=y
 rw[ho]at ho';injection ho' with ho';subst ho'
 rw[hd]at hd';cases hd'
section
variable{h₀ hb₀ hb h hb' h':Hp}{fr:List Env}
theorem co.step(R:co hg h₀ hb₀ hb h env fr ρ)(x:ay h hb h' hb'):co hg h₀ hb₀ hb' h' env fr ρ:=by
 obtain⟨⟨m,hm⟩,l2,l3⟩:=R.l
 obtain⟨ol,hol,hdl⟩:=cv hm
 refine⟨R.s.step x,R.st.trans x,⟨⟨m,x.up.ns hm⟩,x.fresh _ _ hol hdl l2,l3⟩,fun y c e=>?_,R.ci,R.hd,fun y ds e=>?_,fun y z dy dz a ey ez ry rz=>?_⟩
 ·obtain⟨⟨v,hv⟩,c2,c3⟩:=R.c y c e
  obtain⟨oc,hoc,hdc⟩:=fT hv
  exact⟨⟨v,kr x.up hv⟩,x.fresh _ _ hoc hdc c2,c3⟩
 ·obtain⟨a,vs,r,p,q,n1,n2⟩:=R.o y ds e
  obtain⟨oa,hoa,hda⟩:=dv p
  exact⟨a,vs,r.up x.up,p.up x.up,q.keeps x.sub,x.fresh _ _ hoa hda n1,n2⟩
 ·obtain⟨a1,_,r1,_⟩:=R.o y dy ey
  obtain⟨a2,_,r2,_⟩:=R.o z dz ez
  have e1:=bM (r1.up x.up) ry
  have e2:=bM (r2.up x.up) rz
  injection e1 with e1;injection e2 with e2
  subst e1;subst e2
  exact R.oi y z dy dz _ ey ez r1 r2
theorem co.less(R:co hg h₀ hb₀ hb h env fr ρ)(k:∀y lv,ρ'.lookup y=some lv->ρ.lookup y=some lv):co hg h₀ hb₀ hb h env fr ρ':=
 ⟨⟨R.s.g,R.s.b,R.s.f,R.s.k,R.s.gl,R.s.bl,fun y lv e=>R.s.v y lv (k y lv e)⟩,R.st,R.l,R.c,R.ci,R.hd,fun y ds e=>R.o y ds (k _ _ e),fun y z dy dz a ey ez=>R.oi y z dy dz a (k _ _ ey) (k _ _ ez)⟩
noncomputable def Bg(hb h h₀:Hp)(env:Env)(ρ:LS)(x:Str)(v:Vl):LV->Prop
 | .fz F=>F.P hb v
 | .own ds=>X2 fun a vs=>A6 (v= .ref a) (PL h a vs) (RA hb vs.toList ds) (hb.get? a=none) (eO h₀ a) (∀y dy,y≠x->ρ.lookup y=some (.own dy)->¬dY env h y (.ref a))
theorem aw{x y:Str}{lv:LV}:((x,lv)::ρ).lookup y=if y=x then some lv else ρ.lookup y:=by
 rw[List.lookup_cons]
 by_cases e:y=x
 ·subst e;simp
 ·have:(y==x)=false:=by simpa using e
  simp[this,e]
theorem co.put{x:Str}{lv:LV}{v:Vl}{C:Ad}{oC oC':Obj}(R:co hg h₀ hb₀ hb h env fr ρ)(hC:h.get? C=some oC)(hC':h'.get? C=some oC')(hd':∀vs,oC'.data≠ .fields vs)(k:∀b o,b≠C->h.get? b=some o->h'.get? b=some o)
  (nb:hb.get? C=none)(nw:eO h₀ C)(rx:dY env h' x v)(ro:∀y u,y≠x->dY env h y u->dY env h' y u)(l':∃m,h'.Ns env.locals m)(c':∀y c,env.cells.lookup y=some c->∃v,h'.IsCell c v)
  (np:∀a vs,PL h a vs->a≠C)(p:Bg hb h h₀ env ρ x v lv):co hg h₀ hb₀ hb h' env fr ((x,lv)::ρ):=by
 have pl:∀a vs,PL h a vs->PL h' a vs:=fun a vs q=>by
  obtain⟨o,ho,r⟩:=id q
  exact⟨o,k a o (np a vs q) ho,r⟩
 have st':=fZ R.s.b nb k
 refine⟨⟨R.s.g,st',cC hC hC' hd' k R.s.f,R.s.k,R.s.gl,R.s.bl,fun y l e=>?_⟩,et R.st nw nb k,⟨l',R.l.2⟩,fun y c e=>⟨c' y c e,(R.c y c e).2⟩,R.ci,R.hd,fun y ds e=>?_,fun y z dy dz a ey ez ry rz=>?_⟩
 ·rw[aw]at e
  by_cases q:y=x
  ·subst q
   rw[if_pos rfl]at e;injection e with e;subst e
   refine⟨v,rx,?_⟩
   cases lv with
   |fz F=>exact p
   |own ds=>
    obtain⟨a,vs,rfl,p1,⟨bs,p2⟩,_⟩:=p
    exact⟨a,vs,bs,rfl,pl _ _ p1,p2⟩
  ·rw[if_neg q]at e
   obtain⟨u,r,lo⟩:=R.s.v y l e
   refine⟨u,ro y u q r,?_⟩
   cases l with
   |fz F=>exact lo
   |own ds=>
    obtain⟨a,vs,bs,rfl,p1,p2⟩:=lo
    exact⟨a,vs,bs,rfl,pl _ _ p1,p2⟩
 ·rw[aw]at e
  by_cases q:y=x
  ·subst q
   rw[if_pos rfl]at e;injection e with e;subst e
   obtain⟨a,vs,rfl,p1,p2,p3,p4,_⟩:=p
   exact⟨a,vs,rx,pl _ _ p1,p2,p3,p4⟩
  ·rw[if_neg q]at e
   obtain⟨a,vs,r,p1,p2,p3,p4⟩:=R.o y ds e
   exact⟨a,vs,ro y _ q r,pl _ _ p1,p2,p3,p4⟩
 ·have old:∀y dy,y≠x->ρ.lookup y=some (.own dy)->dY env h' y (.ref a)->dY env h y (.ref a):=fun y dy q e r=>by
   obtain⟨a',vs,r',_⟩:=R.o y dy e
   have:=bM (ro y _ q r') r
   rw[<-this];exact r'
  rw[aw]at ey ez
  by_cases q:y=x
  ·by_cases q':z=x
   ·rw[q,q']
   ·rw[if_neg q']at ez
    subst q
    rw[if_pos rfl]at ey;injection ey with ey;subst ey
    obtain⟨a',vs,rfl,_,_,_,_,p5⟩:=p
    have:=bM rx ry
    injection this with this;subst this
    exact absurd (old z dz q' ez rz) (p5 z dz q' ez)
  ·by_cases q':z=x
   ·rw[if_neg q]at ey
    subst q'
    rw[if_pos rfl]at ez;injection ez with ez;subst ez
    obtain⟨a',vs,rfl,_,_,_,_,p5⟩:=p
    have:=bM rx rz
    injection this with this;subst this
    exact absurd (old y dy q ey ry) (p5 y dy q ey)
   ·rw[if_neg q]at ey;rw[if_neg q']at ez
    exact R.oi y z dy dz a ey ez (old y dy q ey ry) (old z dz q' ez rz)
noncomputable def cM(env:Env)(x:Str):Prop:=env.kindOf x=some .local\/env.kindOf x=some .cell/\∃c,env.cells.lookup x=some c
theorem co.store{A:Ar}{s:SD}{x:Str}{lv:LV}{v:Vl}{Q:Unit->SD->Prop}{E:VS}(R:co hg h₀ hb₀ hb s.heap env fr ρ)(kx:cM env x)(p:Bg hb s.heap h₀ env ρ x v lv)
  (hQ:∀h' tk,co hg h₀ hb₀ hb h' env fr ((x,lv)::ρ)->(∃C,(C=env.locals\/env.cells.lookup x=some C)/\∀b o,b≠C->s.heap.get? b=some o->h'.get? b=some o)->(∀y u,y≠x->dY env s.heap y u->dY env h' y u)->(∀a vs,PL s.heap a vs->PL h' a vs)->dY env h' x v->Q () (aA s h' tk)):
  wA MD A (storeName env x v) Q E s:=by
 obtain⟨⟨m,hm⟩,l2,l3⟩:=R.l
 rcases kx with kx|⟨kx,c,hc⟩
 ·refine wpAny_storeName_local kx hm (fun h' hn' hs'=>?_) (by show(env.scope.kind== .class||(env.scope.kind== .module&&env.locals !=env.globals))=false;rw[R.s.k];rfl)
  obtain⟨ol,hol,hdl⟩:=cv hm
  obtain⟨ol',hol',hdl'⟩:=cv hn'
  have k:=hs'.extBut
  have rx:dY env h' x v:=.inl ⟨kx,_,hn',by simp⟩
  have ro:∀y u,y≠x->dY env s.heap y u->dY env h' y u:=fun y u q r=>by
   rcases r with⟨a,m1,b,c⟩|⟨a,c,b,hcc⟩
   ·refine .inl ⟨a,_,hn',?_⟩
    rw[dF hm b];simp[q,c]
   ·obtain⟨o,ho,hd⟩:=id hcc
    exact .inr ⟨a,c,b,⟨o,k c o (iO hm hcc).symm ho,hd⟩⟩
  have np:∀a vs,PL s.heap a vs->a≠env.locals:=fun a vs q=>dW q hm
  refine hQ h' _ (R.put hol hol' hdl' k l2 l3 rx ro ⟨_,hn'⟩ (fun y c e=>?_) np p) ⟨_,.inl rfl,k⟩ ro (fun a vs q=>?_) rx
  ·obtain⟨⟨u,o,ho,hd⟩,_⟩:=R.c y c e
   exact⟨u,o,k c o (iO hm ⟨o,ho,hd⟩).symm ho,hd⟩
  ·obtain⟨o,ho,r⟩:=id q
   exact⟨o,k a o (np a vs q) ho,r⟩
 ·obtain⟨⟨v0,hv⟩,c2,c3⟩:=R.c x c hc
  refine wpAny_storeName_cell R.s.k kx hc hv fun h' hv' hs'=>?_
  obtain⟨oc,hoc,hdc⟩:=fT hv
  obtain⟨oc',hoc',hdc'⟩:=fT hv'
  have k:=hs'.extBut
  have rx:dY env h' x v:=.inr ⟨.inl kx,c,hc,hv'⟩
  have hm':h'.Ns env.locals m:=by obtain⟨o,es,ep,ho,r⟩:=id hm;exact⟨o,es,ep,k _ o (iO hm hv) ho,r⟩
  have ro:∀y u,y≠x->dY env s.heap y u->dY env h' y u:=fun y u q r=>by
   rcases r with⟨a,m1,b,d⟩|⟨a,d,b,hcc⟩
   ·exact .inl ⟨a,m,hm',by rw[dF hm b];exact d⟩
   ·obtain⟨o,ho,hd⟩:=id hcc
    exact .inr ⟨a,d,b,⟨o,k d o (fun z=>q (R.ci y x c (z▸b) hc)) ho,hd⟩⟩
  have np:∀a vs,PL s.heap a vs->a≠c:=fun a vs q=>i9 q hv
  refine hQ h' s.toks (R.put hoc hoc' hdc' k c2 c3 rx ro ⟨_,hm'⟩ (fun y d e=>?_) np p) ⟨_,.inr hc,k⟩ ro (fun a vs q=>?_) rx
  ·by_cases z:d=c
   ·subst z;exact⟨_,hv'⟩
   ·obtain⟨⟨u,o,ho,hd⟩,_⟩:=R.c y d e
    exact⟨u,o,k d o z ho,hd⟩
  ·obtain⟨o,ho,r⟩:=id q
   exact⟨o,k a o (np a vs q) ho,r⟩
end
noncomputable def jR(z:Bool)(hb hb':Hp):Prop:=∀b o,hb.get? b=some o->(z=true->∀es k,o.data≠ .dict es k)->hb'.get? b=some o
theorem jR.refl{z:Bool}{hb:Hp}:jR z hb hb:=fun O O e O=>e
theorem jR.trans{z:Bool}{a b c:Hp}(x:jR z a b)(y:jR z b c):jR z a c:=fun k o e q=>y k o (x k o e q) q
theorem jR.of{z:Bool}{a b:Hp}(x:a.StaysIn b):jR z a b:=fun k o e O=>x k o e
theorem jR.all{a b:Hp}(x:jR false a b):a.StaysIn b:=fun k o e=>x k o e fun q=>by cases q
inductive kR where
 |next (ρ:LS)
 |brk (ρ:LS)
 |cont (ρ:LS)
 |ret (R:RK)
noncomputable def n5(hg h₀ hb₀:Hp)(env:Env)(fr:List Env):kR->Flow->Hp->Hp->Prop
 | .next ρ,f,hb',h'=>f= .next/\co hg h₀ hb₀ hb' h' env fr ρ
 | .brk ρ,f,hb',h'=>f= .brk/\co hg h₀ hb₀ hb' h' env fr ρ
 | .cont ρ,f,hb',h'=>f= .cont/\co hg h₀ hb₀ hb' h' env fr ρ
 | .ret R,f,hb',h'=>∃v,f= .ret v/\ay h₀ hb₀ h' hb'/\R h₀ hb' h' v
section
variable(hg:Hp)(z:Bool)(n:Nat)(env:Env)
noncomputable def X(ρ:LS)(st:Stmt)(o:kR):Prop:=
 ∀(A:Ar)(fr:List Env)(h₀ hb₀ hb:Hp)(s:SD)(Q:Flow->SD->Prop)(E:VS),br A fr n->co hg h₀ hb₀ hb s.heap env fr ρ->
  (∀f h' hb' tk,n5 hg h₀ hb₀ env fr o f hb' h'->jR z hb hb'->Q f (aA s h' tk))->wA MD A (exec st env) Q E s
noncomputable def Ex(ρ:LS)(ss:List Stmt)(o:kR):Prop:=
 ∀(A:Ar)(fr:List Env)(h₀ hb₀ hb:Hp)(s:SD)(Q:Flow->SD->Prop)(E:VS),br A fr n->co hg h₀ hb₀ hb s.heap env fr ρ->
  (∀f h' hb' tk,n5 hg h₀ hb₀ env fr o f hb' h'->jR z hb hb'->Q f (aA s h' tk))->wA MD A (execs ss env) Q E s
end
section
variable{z:Bool}{ρ1:LS}{l r:Ep}{R:RK}{st:Stmt}{ss:List Stmt}{o:kR}
theorem aQ(k:∀y lv,ρ'.lookup y=some lv->ρ.lookup y=some lv):Ex hg z n env ρ [] (.next ρ'):=fun A fr h₀ hb₀ hb s Q E ok Rl h=>
 wpAny_execs_nil (h .next s.heap hb s.toks ⟨rfl,Rl.less k⟩ .refl)
theorem ac(x:X hg z n env ρ st (.next ρ1))(y:Ex hg z n env ρ1 ss o):Ex hg z n env ρ (st::ss) o:=fun A fr h₀ hb₀ hb s Q E ok Rl h=>
 wpAny_execs_cons (x A fr h₀ hb₀ hb s _ E ok Rl fun f h₁ hb1 tk1 q k1=>by
  obtain⟨rfl,R1⟩:=q
  exact y A fr h₀ hb₀ hb1 _ Q E ok R1 fun f h' hb' tk q k=>h f h' hb' tk q (k1.trans k))
noncomputable def kR.early:kR->Bool
 | .next _=>false
 |_=>true
theorem aY(x:X hg z n env ρ st o)(ho:o.early=true):Ex hg z n env ρ (st::ss) o:=fun A fr h₀ hb₀ hb s Q E ok Rl h=>
 wpAny_execs_cons (x A fr h₀ hb₀ hb s _ E ok Rl fun f h₁ hb1 tk1 q k1=>by
  cases o with
  |next=>cases ho
  |brk=>obtain⟨rfl,q⟩:=q;exact h _ _ _ _ ⟨rfl,q⟩ k1
  |cont=>obtain⟨rfl,q⟩:=q;exact h _ _ _ _ ⟨rfl,q⟩ k1
  |ret=>obtain⟨v,rfl,q⟩:=q;exact h _ _ _ _ ⟨v,rfl,q⟩ k1)
theorem dN(k:∀y lv,ρ'.lookup y=some lv->ρ.lookup y=some lv)(x:Ex hg z n env ρ' ss o):Ex hg z n env ρ ss o:=fun A fr h₀ hb₀ hb s Q E ok Rl h=>x A fr h₀ hb₀ hb s Q E ok (Rl.less k) h
theorem n5.weak{h₀ hb₀ hb' h':Hp}{fr:List Env}{f:Flow}(k:∀y lv,ρ'.lookup y=some lv->ρ.lookup y=some lv)(x:n5 hg h₀ hb₀ env fr (.next ρ) f hb' h'):n5 hg h₀ hb₀ env fr (.next ρ') f hb' h':=⟨x.1,x.2.less k⟩
theorem fv{b:Bool}{test:Ep}{body orelse:List Stmt}(ht:Tv hg n env ρ test b)(h1:b=true->Ex hg z n env ρ body o)(h2:b=false->Ex hg z n env ρ orelse o):X hg z n env ρ (.If test body orelse pos) o:=fun A fr h₀ hb₀ hb s Q E ok Rl h=>
 wpAny_If (ht A fr hb s _ E ok Rl.s fun h₁ hb1 tk1 st1=>by
  cases b with
  |true=>exact h1 rfl A fr h₀ hb₀ hb1 _ Q E ok (Rl.step st1) fun f h' hb' tk q k=>h f h' hb' tk q ((jR.of st1.sub).trans k)
  |false=>exact h2 rfl A fr h₀ hb₀ hb1 _ Q E ok (Rl.step st1) fun f h' hb' tk q k=>h f h' hb' tk q ((jR.of st1.sub).trans k))
theorem jI [di R](he:Ev hg n env ρ e R):X hg z n env ρ (.Return (some e) pos) (.ret R):=fun A fr h₀ hb₀ hb s Q E ok Rl h=>
 wpAny_Return_some (he A fr hb s _ E ok Rl.s fun v h' hb' tk st r=>h _ h' hb' tk ⟨v,rfl,Rl.st.trans st,di.early Rl.st.up r⟩ (.of st.sub))
theorem ip{x:Str}{p:Pos}{ds:List PyD}(hx:ρ.lookup x=some (.own ds))(hd:autoParam ((x==("__debug__":Str))=false) Dc):X hg z n env ρ (.Return (some (.Name x p)) pos) (.ret (RN ds)):=fun A fr h₀ hb₀ hb s Q E ok Rl h=>by
 obtain⟨a,vs,r,pl,⟨bs,q⟩,n1,n2⟩:=Rl.o x ds hx
 exact wpAny_Return_some (cP Rl.s.k r (h _ s.heap hb s.toks ⟨_,rfl,Rl.st,a,vs,bs,rfl,pl,q,n1,n2⟩ .refl) hd)
theorem qp{h₀ hb₀ hb h h' hb':Hp}{fr:List Env}{ds:List PyD}{x:Str}{v:Vl}(Rl:co hg h₀ hb₀ hb h env fr ρ)(st:ay h hb h' hb')(r:RN ds h hb' h' v):Bg hb' h' h₀ env ρ x v (.own ds):=by
 obtain⟨a,vs,bs,rfl,p,q,n1,n2⟩:=r
 refine⟨a,vs,rfl,p,⟨bs,q⟩,n1,n2.early Rl.st.up,fun y dy O e rd=>?_⟩
 obtain⟨a',vs',r',p',_⟩:=Rl.o y dy e
 have:=bM (r'.up st.up) rd
 injection this with this;subst this
 obtain⟨o,ho,hd⟩:=dv p'
 obtain⟨us,q⟩:=n2 o ho
 exact hd us q
theorem bS{x:Str}{p:Pos}{F:FP}(he:Ev hg n env ρ e (RF F))(kx:cM env x)(hs:autoParam (swapsWith e (some (.Name x p)) pos.line env=pure false) Rf):X hg z n env ρ (.Assign [.Name x p] e pos) (.next ((x,.fz F)::ρ)):=fun A fr h₀ hb₀ hb s Q E ok Rl h=>
 wpAny_Assign_Name (hs:=hs) (he A fr hb s _ E ok Rl.s fun v h₁ hb1 tk1 st1 r1=>(Rl.step st1).store kx (lv:=.fz F) r1 fun h' tk R' O O O O=>h .next h' hb1 tk ⟨rfl,R'⟩ (.of st1.sub))
theorem pE{x:Str}{p:Pos}{ds:List PyD}(he:Ev hg n env ρ e (RN ds))(kx:cM env x)(hs:autoParam (swapsWith e (some (.Name x p)) pos.line env=pure false) Rf):X hg z n env ρ (.Assign [.Name x p] e pos) (.next ((x,.own ds)::ρ)):=fun A fr h₀ hb₀ hb s Q E ok Rl h=>
 wpAny_Assign_Name (hs:=hs) (he A fr hb s _ E ok Rl.s fun v h₁ hb1 tk1 st1 r1=>(Rl.step st1).store kx (lv:=.own ds) (qp Rl st1 r1) fun h' tk R' O O O O=>h .next h' hb1 tk ⟨rfl,R'⟩ (.of st1.sub))
theorem fM{h₁ b1 h h' hb:Hp}{C:Ad}(new:eO h₁ C)(k:∀b o,b≠C->h.get? b=some o->h'.get? b=some o):∀{l:List Env},h₁.FunFrames b1 l->h.FunFrames hb l->h'.FunFrames hb l
 |[],_,_=>trivial
 |_::_,⟨_,⟨L1,o1,hf1,hn1,ho1,hd1⟩,hr1⟩,⟨hk,⟨L,o,hf,hn,ho,hd⟩,hr⟩=>by
  rw[hf1]at hf;injection hf with hf;subst hf
  refine⟨hk,⟨_,o,hf1,hn,k _ o (fun q=>?_) ho,hd⟩,fM new k hr1 hr⟩
  obtain⟨vs,e⟩:=new o1 (q▸ho1)
  exact hd1 vs e
theorem co.beside{h₀ hb₀ hb h h':Hp}{fr:List Env}{C:Ad}(Rl:co hg h₀ hb₀ hb h env fr ρ)(ff:h'.FunFrames hb fr)(k:∀b o,b≠C->h.get? b=some o->h'.get? b=some o)
  (nb:hb.get? C=none)(nw:eO h₀ C)(n1:C≠env.locals)(n2:∀y c,env.cells.lookup y=some c->C≠c)(n3:∀a vs,PL h a vs->a≠C):co hg h₀ hb₀ hb h' env fr ρ:=by
 obtain⟨⟨m,hm⟩,l2,l3⟩:=Rl.l
 have hm':h'.Ns env.locals m:=by obtain⟨o,es,ep,ho,r⟩:=id hm;exact⟨o,es,ep,k _ o n1.symm ho,r⟩
 have rd:∀y u,dY env h y u->dY env h' y u:=fun y u r=>by
  rcases r with⟨a,m1,b,c⟩|⟨a,c,b,hc⟩
  ·exact .inl ⟨a,m,hm',by rw[dF hm b];exact c⟩
  ·obtain⟨o,ho,hd⟩:=hc
   exact .inr ⟨a,c,b,o,k c o (n2 y c b).symm ho,hd⟩
 have pl:∀a vs,PL h a vs->PL h' a vs:=fun a vs q=>by
  obtain⟨o,ho,r⟩:=id q
  exact⟨o,k a o (n3 a vs q) ho,r⟩
 refine⟨⟨Rl.s.g,fZ Rl.s.b nb k,ff,Rl.s.k,Rl.s.gl,Rl.s.bl,fun y lv e=>?_⟩,et Rl.st nw nb k,⟨⟨m,hm'⟩,l2,l3⟩,fun y c e=>?_,Rl.ci,Rl.hd,fun y ds e=>?_,fun y z dy dz a ey ez ry rz=>?_⟩
 ·obtain⟨u,r,lo⟩:=Rl.s.v y lv e
  refine⟨u,rd y u r,?_⟩
  cases lv with
  |fz F=>exact lo
  |own ds=>
   obtain⟨a,vs,bs,rfl,p1,p2⟩:=lo
   exact⟨a,vs,bs,rfl,pl _ _ p1,p2⟩
 ·obtain⟨⟨v,o,ho,hd⟩,r⟩:=Rl.c y c e
  exact⟨⟨v,o,k c o (n2 y c e).symm ho,hd⟩,r⟩
 ·obtain⟨a,vs,r,p,q⟩:=Rl.o y ds e
  exact⟨a,vs,rd _ _ r,pl _ _ p,q⟩
 ·obtain⟨a1,_,r1,_⟩:=Rl.o y dy ey
  obtain⟨a2,_,r2,_⟩:=Rl.o z dz ez
  have e1:=bM (rd _ _ r1) ry
  have e2:=bM (rd _ _ r2) rz
  injection e1 with e1;injection e2 with e2
  subst e1;subst e2
  exact Rl.oi y z dy dz _ ey ez r1 r2
theorem ta{x:Str}{p pc:Pos}{elt tgt iter:Ep}{ifs:List Ep}{rest:List Comprehension}{inner:Env->Vl->Sem Unit}{scope:Scope}{cl:List (Str×Ad)}{ρc:LS}{ds out:List PyD}{item:PyD->List PyD}
  (tree:db (.ListComp elt (⟨tgt,iter,ifs,0⟩::rest) scope pc) 0 tgt ifs inner)(hsw:swapsWith (.ListComp elt (⟨tgt,iter,ifs,0⟩::rest) scope pc) (some (.Name x p)) pos.line env=pure true)
  (hit:ls hg n env ρ iter tgt ds)(hclos:closureFor scope env=pure cl)(hcap:nz env scope cl ρ ρc)
  (turn:∀C,∀d∈ds,X2 fun σ b=>cn hg n (compEnvC scope cl C env) ρc tgt ifs (inner (compEnvC scope cl C env)) d (item d) σ b)
  (hout:ds.flatMap item=out)(hz:out.length<=1000000)(kx:cM env x)(hcell:autoParam (∀y∈scope.names,y.2≠ .cell) Dc)(hkind:autoParam (scope.kind= .function) Rf)
  (hnames:autoParam (∀y∈scope.names,y.2= .local->scope.names.lookup y.1=some .local) Dc)(hs:autoParam (∀x,foldedSetIterable iter env x=pure x) If):
  X hg z n env ρ (.Assign [.Name x p] (.ListComp elt (⟨tgt,iter,ifs,0⟩::rest) scope pc) pos) (.next ((x,.own out)::ρ)):=fun A fr h₀ hb₀ hb s Q E ok Rl h=>by
 subst hout
 rw[exec_Assign_Name_used x p _ pos hsw]
 refine wBi (wpAny_standAt (wBi ?_))
 show wA _ A (do let _ <-comprehension (.ListComp elt (⟨tgt,iter,ifs,0⟩::rest) scope pc) scope env _ (newList []) false (eval iter env) (some (assign (.Name x p) env))) _ _ s
 refine wBi (wpAny_mono (mX (use:=some (assign (.Name x p) env)) (Q:=fun O s'=>Q .next s') tree hit hclos hcap hcell hkind hnames hs turn hz ok Rl.s fun C D h₁ hb1 tk1 m ys st1 d1 d1' d2 d3 hm c2 c3=>?_) (fun O s' hq=>wP (wP hq)) fun O O e=>e)
 show wA _ A (assign (.Name x p) env (.ref D)) _ _ _
 have R1:=Rl.step st1
 obtain⟨⟨ml,hml⟩,_,_⟩:=Rl.l
 obtain⟨ol,hol,hdl⟩:=cv hml
 have nl:C≠env.locals:=fun q=>by
  obtain⟨vs,e⟩:=c3 ol (q▸hol)
  exact hdl vs e
 have nc:∀y c,env.cells.lookup y=some c->C≠c:=fun y c e q=>by
  obtain⟨⟨v,hv⟩,_⟩:=Rl.c y c e
  obtain⟨oc,hoc,hdc⟩:=fT hv
  obtain⟨vs,e⟩:=c3 oc (q▸hoc)
  exact hdc vs e
 obtain⟨bs,d1''⟩:=id d1'
 refine wpAny_assign_Name (R1.store kx (lv:=.own (ds.flatMap item)) (qp Rl st1 ⟨D,ys,bs,rfl,d1,d1'',d2,d3⟩) fun h2 tk2 R2 hk O O O=>?_)
 obtain⟨Cx,hCx,k⟩:=hk
 have ne:C≠Cx:=by
  rcases hCx with rfl|e
  ·exact nl
  ·exact nc _ _ e
 obtain⟨oC,es,ep,hoC,rC⟩:=id hm
 have hm2:h2.Ns C m:=⟨oC,es,ep,k _ _ ne hoC,rC⟩
 refine⟨m,hm2,fun h3 sb=>?_⟩
 exact h .next h3 hb1 _ ⟨rfl,R2.beside (fM c3 sb.extBut Rl.s.f R2.s.f) sb.extBut c2 (c3.early Rl.st.up) nl nc fun a vs q=>dW q hm2⟩ (.of st1.sub)
end
section
open AutoSeq1 (wpAny_loadPart')
section
variable{z:Bool}{ρ1:LS}{l r:Ep}{R:RK}{st:Stmt}{ss:List Stmt}{o:kR}
theorem co.turn{h₀ hb₀ hb h h':Hp}{fr:List Env}{x:Str}{ds ds':List PyD}{a:Ad}{vs vs':Array Vl}(Rl:co hg h₀ hb₀ hb h env fr ρ)(hx:ρ.lookup x=some (.own ds))(rd:dY env h x (.ref a))(p:PL h a vs)(p':PL h' a vs')
  (ra:RA hb vs'.toList ds')(k:∀b o,b≠a->h.get? b=some o->h'.get? b=some o)(nb:hb.get? a=none)(nw:eO h₀ a):co hg h₀ hb₀ hb h' env fr ((x,.own ds')::ρ)/\∀y u,dY env h y u->dY env h' y u:=by
 obtain⟨⟨m,hm⟩,l2,l3⟩:=Rl.l
 have nl:a≠env.locals:=dW p hm
 have nc:∀y c,env.cells.lookup y=some c->a≠c:=fun y c e=>by
  obtain⟨⟨v,hv⟩,_⟩:=Rl.c y c e
  exact i9 p hv
 have hm':h'.Ns env.locals m:=by obtain⟨o,es,ep,ho,r⟩:=id hm;exact⟨o,es,ep,k _ o nl.symm ho,r⟩
 have rdk:∀y u,dY env h y u->dY env h' y u:=fun y u r=>by
  rcases r with⟨q,m1,b,c⟩|⟨q,c,b,hc⟩
  ·exact .inl ⟨q,m,hm',by rw[dF hm b];exact c⟩
  ·obtain⟨oc,ho,hd⟩:=id hc
   exact .inr ⟨q,c,b,oc,k c oc (i9 p hc).symm ho,hd⟩
 obtain⟨oa,hoa,hda⟩:=dv p
 obtain⟨oa',hoa',hda'⟩:=dv p'
 have own:∀y dy b,y≠x->ρ.lookup y=some (.own dy)->dY env h y (.ref b)->b≠a:=fun y dy b q e r z=>by
  subst z
  exact q (Rl.oi y x dy ds _ e hx r rd)
 have pk:∀b us,b≠a->PL h b us->PL h' b us:=fun b us q pb=>by
  obtain⟨o,ho,r⟩:=id pb
  exact⟨o,k b o q ho,r⟩
 refine⟨?_,rdk⟩
 refine⟨⟨Rl.s.g,fZ Rl.s.b nb k,cC hoa hoa' hda' k Rl.s.f,Rl.s.k,Rl.s.gl,Rl.s.bl,fun y lv e=>?_⟩,et Rl.st nw nb k,⟨⟨m,hm'⟩,l2,l3⟩,fun y c e=>?_,Rl.ci,Rl.hd,fun y dy e=>?_,fun y y' dy dy' b ey ey' ry ry'=>?_⟩
 ·rw[aw]at e
  by_cases q:y=x
  ·subst q
   rw[if_pos rfl]at e;injection e with e;subst e
   obtain⟨bs,ra⟩:=ra
   exact⟨_,rdk _ _ rd,a,vs',bs,rfl,p',ra⟩
  ·rw[if_neg q]at e
   cases lv with
   |fz F=>
    obtain⟨u,r,lo⟩:=Rl.s.v y _ e
    exact⟨u,rdk _ _ r,lo⟩
   |own dy=>
    obtain⟨b,us,r,pb,⟨bs,rb⟩,_⟩:=Rl.o y dy e
    exact⟨_,rdk _ _ r,b,us,bs,rfl,pk _ _ (own y dy b q e r) pb,rb⟩
 ·obtain⟨⟨v,oc,ho,hd⟩,r⟩:=Rl.c y c e
  exact⟨⟨v,oc,k c oc (nc y c e).symm ho,hd⟩,r⟩
 ·rw[aw]at e
  by_cases q:y=x
  ·subst q
   rw[if_pos rfl]at e;injection e with e;injection e with e;subst e
   exact⟨a,vs',rdk _ _ rd,p',ra,nb,nw⟩
  ·rw[if_neg q]at e
   obtain⟨b,us,r,pb,rb,n1,n2⟩:=Rl.o y dy e
   exact⟨b,us,rdk _ _ r,pk _ _ (own y dy b q e r) pb,rb,n1,n2⟩
 ·have back:∀y dy,((x,LV.own ds')::ρ).lookup y=some (.own dy)->dY env h' y (.ref b)->∃dy',ρ.lookup y=some (.own dy')/\dY env h y (.ref b):=fun y dy e r=>by
   rw[aw]at e
   by_cases q:y=x
   ·subst q
    have:=bM (rdk _ _ rd) r
    rw[<-this];exact⟨ds,hx,rd⟩
   ·rw[if_neg q]at e
    obtain⟨b',us,r',_⟩:=Rl.o y dy e
    have:=bM (rdk _ _ r') r
    rw[<-this];exact⟨dy,e,r'⟩
  obtain⟨d1,e1,r1⟩:=back y dy ey ry
  obtain⟨d2,e2,r2⟩:=back y' dy' ey' ry'
  exact Rl.oi y y' d1 d2 b e1 e2 r1 r2
theorem iZ{x:Str}{p pa pc:Pos}{name:Str}{id:String}{ds:List PyD}{d:PyD}{A:Ar}{fr:List Env}{h₀ hb₀ hb:Hp}{s:SD}{Q:VS}{E:VS}
  (hx:ρ.lookup x=some (.own ds))(he:Ev hg n env ρ e (RF (DV d)))(slot:Slot "list" name id)(hty:typeOf (.builtin id)=pure (.type "method_descriptor"))
  (ok:br A fr n)(Rl:co hg h₀ hb₀ hb s.heap env fr ρ)
  (h:∀a vs v h' hb' tk,ay s.heap hb h' hb'->co hg h₀ hb₀ hb' h' env fr ρ->dY env h' x (.ref a)->PL h' a vs->RA hb' vs.toList ds->hb'.get? a=none->eO h₀ a->RD hb' v d->wA MD A (call (.builtin id) [.ref a,v]) Q E (aA s h' tk))
  (hbase:autoParam (attributeBase (.Name x p) name env (eval (.Name x p) env)=eval (.Name x p) env) Rf)(hline:autoParam ((pa.endLine==pc.line)=true) Rf)
  (hn:autoParam (sE [e] env=(false,eval e env)::sE [] env) Rf)(hd:autoParam ((x==("__debug__":Str))=false) Dc):
  wA MD A (eval (.Call (.Attribute (.Name x p) name pa) [e] [] pc) env) Q E s:=by
 obtain⟨a,vs,r,pl,q,n1,n2⟩:=Rl.o x ds hx
 refine wpAny_Call_method hbase (by rw[hn];rfl) hline F.plainAttrs_list slot hty (cP Rl.s.k r ⟨pl.isList.typeIs,fun b eb=>?_,?_⟩ hd)
 ·injection eb with eb;subst eb
  obtain⟨o,ho,_,hq,_⟩:=pl
  exact⟨o,ho,hq⟩
 ·rw[hn]
  have key:=cJ (R:=rF (DV d)) he ao hn pc A fr hb s (fun us s₁=>hg.StaysIn s₁.heap/\wA MD A (call (.builtin id) ([.ref a] ++us)) Q E s₁) E ok Rl.s fun us h₁ hb1 tk1 st1 r1=>by
   obtain⟨v,rfl,rv⟩:=r1.one
   have R1:=Rl.step st1
   obtain⟨oa,hoa,hda⟩:=dv pl
   exact⟨fun b o e=>R1.s.b b o (R1.s.g b o e),h a vs v h₁ hb1 tk1 st1 R1 (r.up st1.up) (pl.up st1.up) (q.keeps st1.sub) (st1.fresh _ _ hoa hda n1) n2 rv⟩
  rw[hn]at key
  exact bh (hg:=hg) (.builtin id) rfl key
theorem dR{x:Str}{p pa pc:Pos}{ds:List PyD}{d:PyD}(hx:ρ.lookup x=some (.own ds))(he:Ev hg n env ρ e (RF (DV d)))(hz:ds.length<=1000000)
  (hbase:autoParam (attributeBase (.Name x p) ("append":Str) env (eval (.Name x p) env)=eval (.Name x p) env) Rf)(hline:autoParam ((pa.endLine==pc.line)=true) Rf)
  (hn:autoParam (sE [e] env=(false,eval e env)::sE [] env) Rf)(hd:autoParam ((x==("__debug__":Str))=false) Dc)(hi:autoParam (interactive env=false) Rf)
  (hs:autoParam (swapsWith (.Call (.Attribute (.Name x p) ("append":Str) pa) [e] [] pc) none pos.line env=pure false) Rf):
  X hg z n env ρ (.Expr (.Call (.Attribute (.Name x p) ("append":Str) pa) [e] [] pc) pos) (.next ((x,.own (ds ++[d]))::ρ)):=fun A fr h₀ hb₀ hb s Q E ok Rl h=>by
 refine wpAny_Expr (hi:=hi) (hs:=hs) (iZ hx he slot_list_append type_list_append ok Rl (fun a vs v h' hb' tk st R' rd pl ra n1 n2 rv=>?_) hbase hline hn hd)
 have hlen:vs.size=ds.length:=by simpa using ra.length
 refine iq pl (by rw[hlen];exact hz) fun h'' pl'' k=>?_
 exact h .next h'' hb' tk ⟨rfl,R'.turn hx rd pl pl'' (by have:=ra.append (RA.cons rv RA.nil);simpa using this) k n1 n2|>.1⟩ (.of st.sub)
end
end
section
open AutoSeq1 (wpAny_loadPart')
open MeetsSeq SeqAt
theorem wp(l:Ad)(items:Array Vl)(n:Nat)(dd:Option Ad)(sl:Array (Option Vl))(x:Vl)(e:Nat->Bool)(j:Nat)(hj:j<items.size)(hit:e j=true)(hs1:items.size<=sizeLine)(k:Nat):
  ∀i:Nat,j - i=k->i<=j->(∀m,i<=m->m<j->e m=false)->Meets (Builtin.«list.remove.loop» ⟨[.ref l,x,rawInt i],[]⟩)
   (fun A R s=>A3 (s.heap.get? l=some {cls:=.type "list",dict:=dd,data:=.seq items n,slots:=sl}) (∀m (h:m<items.size),EqAt A.in1 s items[m] x (e m)) (R (.ok (.ret .none)) {s with heap:=s.heap.update l (Obj.mapSeq fun xs=>xs.eraseIdxIfInBounds j)})):=by
 induction k with
 |zero=>
  intro i hk hij hno pg wd A R s h
  obtain⟨hp,g,d,tk,os⟩:=s;obtain⟨hl,he,h⟩:=h
  have hij':i=j:=by exact o7 ‹_› ‹_›
  subst hij'
  wp_walk using wpAny_loadPart' hl
  have hi:items[((i:Nat):Int).toNat]?=some items[i]:=by simp[hj]
  rw[hi]
  refine wBi (he _ hj pg wd _ _ ?_)
  rw[hit]
  have hz':(items.eraseIdxIfInBounds i).size<=sizeLine +1:=Nat.le_trans (size_erased items _) (Nat.le_succ_of_le hs1)
  wp_walk using(wpAny_updateSeq hl rfl (hz:=hs1) (_hz':=hz')),wpAny_loadPart' hl
  simpa using h
 |succ k ih=>
  intro i hk hij hno pg wd A R s h
  obtain⟨hp,g,d,tk,os⟩:=s;obtain⟨hl,he,h⟩:=h
  have hlt:i<items.size:=by exact Nat.lt_of_le_of_lt ‹_› ‹_›
  wp_walk using wpAny_loadPart' hl
  have hi:items[((i:Nat):Int).toNat]?=some items[i]:=by simp[hlt]
  have hc:((i:Int) +1)=((i +1:Nat):Int):=by push_cast;rfl
  rw[hi]
  refine wBi (he _ hlt pg wd _ _ ?_)
  rw[hno i (Nat.le_refl _) (by exact Nat.lt_of_sub_eq_succ ‹_›)]
  wp_walk
  rw[hc]
  exact⟨plainId_quiet plain_remove_loop _,codeAny_builtin entry_remove_loop (by
   rw[Ar.under_plainId plain_remove_loop _]
   exact ih (i +1) (by exact o1 ‹_›) (by exact Nat.succ_le_of_lt (Nat.lt_of_sub_eq_succ ‹_›)) (fun m h1 h2=>hno m (by exact Nat.le_of_succ_le ‹_›) h2) pg wd A R _ ⟨hl,he,h⟩)⟩
theorem mr(l:Ad)(items:Array Vl)(n:Nat)(dd:Option Ad)(sl:Array (Option Vl))(x:Vl)(e:Nat->Bool)(hno:∀m,m<items.size->e m=false)(k:Nat):
  ∀i:Nat,items.size - i=k->Meets (Builtin.«list.remove.loop» ⟨[.ref l,x,rawInt i],[]⟩)
   (fun A R s=>A3 (s.heap.get? l=some {cls:=.type "list",dict:=dd,data:=.seq items n,slots:=sl}) (∀m (h:m<items.size),EqAt A.in1 s items[m] x (e m)) (raisesNew "ValueError" A R s)):=by
 induction k with
 |zero=>
  intro i hk pg wd A R s h
  obtain⟨hp,g,d,tk,os⟩:=s;obtain⟨hl,he,h⟩:=h
  wp_walk using wpAny_loadPart' hl
  have hi:items[((i:Nat):Int).toNat]?=none:=by simp;exact Nat.le_of_sub_eq_zero ‹_›
  rw[hi]
  wp_walk
  exact_raiseError plainExc_ValueError h.1 h.2
 |succ k ih=>
  intro i hk pg wd A R s h
  obtain⟨hp,g,d,tk,os⟩:=s;obtain⟨hl,he,h⟩:=h
  have hlt:i<items.size:=by exact Nat.lt_of_sub_eq_succ ‹_›
  wp_walk using wpAny_loadPart' hl
  have hi:items[((i:Nat):Int).toNat]?=some items[i]:=by simp[hlt]
  have hc:((i:Int) +1)=((i +1:Nat):Int):=by push_cast;rfl
  rw[hi]
  refine wBi (he _ hlt pg wd _ _ ?_)
  rw[hno i hlt]
  wp_walk
  rw[hc]
  exact⟨plainId_quiet plain_remove_loop _,codeAny_builtin entry_remove_loop (by
   rw[Ar.under_plainId plain_remove_loop _]
   exact ih (i +1) (by exact o1 ‹_›) pg wd A R _ ⟨hl,he,h⟩)⟩
theorem lF(l:Ad)(items:Array Vl)(n:Nat)(dd:Option Ad)(sl:Array (Option Vl))(x:Vl)(e:Nat->Bool)(j:Nat)(hj:j<items.size)(hit:e j=true)(hs1:items.size<=sizeLine)(hno:∀m,m<j->e m=false):
  Meets (Builtin.«list.remove» ⟨[.ref l,x],[]⟩)
   (fun A R s=>A3 (s.heap.get? l=some {cls:=.type "list",dict:=dd,data:=.seq items n,slots:=sl}) (∀m (h:m<items.size),EqAt A.in1 s items[m] x (e m)) (R (.ok (.ret .none)) {s with heap:=s.heap.update l (Obj.mapSeq fun xs=>xs.eraseIdxIfInBounds j)})):=by
 intro pg wd A R s h
 obtain⟨hp,g,d,tk,os⟩:=s;obtain⟨hl,he,h⟩:=h
 wp_walk using wpAny_loadPart' hl
 exact⟨plainId_quiet plain_remove_loop _,codeAny_builtin entry_remove_loop (by
  rw[Ar.under_plainId plain_remove_loop _]
  exact wp l items n dd sl x e j hj hit hs1 _ 0 rfl (Nat.zero_le _) (fun m O h2=>hno m h2) pg wd A R _ ⟨hl,he,h⟩)⟩
theorem iy(l:Ad)(items:Array Vl)(n:Nat)(dd:Option Ad)(sl:Array (Option Vl))(x:Vl)(e:Nat->Bool)(hno:∀m,m<items.size->e m=false):
  Meets (Builtin.«list.remove» ⟨[.ref l,x],[]⟩)
   (fun A R s=>A3 (s.heap.get? l=some {cls:=.type "list",dict:=dd,data:=.seq items n,slots:=sl}) (∀m (h:m<items.size),EqAt A.in1 s items[m] x (e m)) (raisesNew "ValueError" A R s)):=by
 intro pg wd A R s h
 obtain⟨hp,g,d,tk,os⟩:=s;obtain⟨hl,he,h⟩:=h
 wp_walk using wpAny_loadPart' hl
 exact⟨plainId_quiet plain_remove_loop _,codeAny_builtin entry_remove_loop (by
  rw[Ar.under_plainId plain_remove_loop _]
  exact mr l items n dd sl x e hno _ 0 rfl pg wd A R _ ⟨hl,he,h⟩)⟩
theorem oP(l b:Ad)(items items2:Array Vl)(n n2:Nat)(dd dd2:Option Ad)(sl sl2:Array (Option Vl))(hsz:items.size +items2.size<=1000000):
  Meets (Builtin.«list.__iadd__» ⟨[.ref l,.ref b],[]⟩) (fun O R s=>A3 (s.heap.get? l=some {cls:=.type "list",dict:=dd,data:=.seq items n,slots:=sl}) (s.heap.get? b=some {cls:=.type "list",dict:=dd2,data:=.seq items2 n2,slots:=sl2}) (R (.ok (.ret (Vl.ref l))) (aA s (s.heap.update l (Obj.mapSeq fun x=>x ++items2)) s.toks))):=
 .of_wp fun pg wd A R s h=>by
  obtain⟨hp,g,d,tk,os⟩:=s;obtain⟨hl,hb,h⟩:=h;have f1:=AutoSeq1.idx_int;have f2:=AutoSeq1.sub_tuple_tuple;have f3:=AutoSeq1.sub_list_list;have f4:=AutoSeq1.sub_tuple_list;have f5:=AutoSeq1.sub_list_tuple
  have hs1:items.size<=sizeLine:=aE (by exact jy ‹_›)
  have hz':(items ++items2).size<=sizeLine +1:=by rw[Array.size_append];exact Nat.le_succ_of_le (aE hsz)
  have hs0:¬(!items.isEmpty&&Builtin.List.listTooLong (items.size +items2.size))=true:=by
   simp only[Builtin.List.listTooLong,Bool.and_eq_true,decide_eq_true_eq,not_and]
   intro _
   exact Nat.not_lt_of_le (aE hsz)
  wp_walk using(wpAny_updateSeq hl rfl (hz:=hs1) (_hz':=hz')),wpAny_loadPart' hl,wpAny_loadPart' hb;exact⟨_,rfl,h⟩
theorem RA.eraseIdx{h:Hp}{vs:List Vl}{ds:List PyD}(x:RA h vs ds)(j:Nat):RA h (vs.eraseIdx j) (ds.eraseIdx j):=by
 rw[List.eraseIdx_eq_take_drop_succ,List.eraseIdx_eq_take_drop_succ]
 exact(x.take j).append (x.drop (j +1))
theorem qo(o:Obj)(f:Array Vl->Array Vl):(Obj.mapSeq f o).dict=o.dict:=by
 obtain⟨c,d,dt,sl⟩:=o
 cases dt<;>rfl
theorem gf{h:Hp}{a:Ad}{vs:Array Vl}(p:PL h a vs)(f:Array Vl->Array Vl):PL (h.update a (Obj.mapSeq f)) a (f vs):=by
 obtain⟨o,ho,hc,hq,n,hd⟩:=p
 obtain⟨n',hd'⟩:=Obj.data_mapSeq hd f
 exact⟨_,Hp.get?_update_self _ ho (Obj.isFreed_of_seq hd'),(Obj.cls_mapSeq ..).trans hc,(qo o f).trans hq,n',hd'⟩
section
variable{A:Ar}{E:VS}{s:SD}
theorem ri{h:Hp}{vs:List Vl}{ds:List PyD}{x:Vl}{d:PyD}(hs:s.heap=h)(r:RA h vs ds)(rx:RD h x d)(h1:PyD.canLayAll0 ds=true)(h2:d.canLay0=true)(hd:d.depth<=64)(hu:A.units +100<cLine):
  ∀m (h:m<vs.length),EqAt A.in1 s vs[m] x (PyD.eqv (ds.getD m .none) d):=fun m hm=>by
 subst hs
 have hm':m<ds.length:=r.length▸hm
 obtain⟨v,hv,_,rv⟩:=r.get (List.getElem?_eq_getElem hm')
 have e1:vs[m]=v:=by rw[List.getElem?_eq_getElem hm]at hv;injection hv
 obtain⟨_,rx⟩:=rx
 rw[e1,List.getD_eq_getElem?_getD,List.getElem?_eq_getElem hm']
 refine eqAt_reads _ d A.in1 s v x _ _ rv rx ?_ h2 ?_
 ·have:∀(l:List PyD)(i:Nat)(hi:i<l.length),PyD.canLayAll0 l=true->l[i].canLay0=true:=by
   intro l
   induction l with
   |nil=>intro i hi;cases hi
   |cons a l ih=>
    intro i hi hc
    have hc':a.canLay0=true/\PyD.canLayAll0 l=true:=by simpa [PyD.canLayAll0]using hc
    cases i with
    |zero=>exact hc'.1
    |succ i=>exact ih i (by simpa using hi) hc'.2
  exact this ds m hm' h1
 ·show A.units +1 +min _ d.depth<cLine
  have:=Nat.min_le_right (ds[m].depth) d.depth
  simp only[Option.getD_some]
  exact DC ‹_› ‹_›
theorem sr{a:Ad}{vs:Array Vl}{ds:List PyD}{x:Vl}{d:PyD}{Q:VS}(p:PL s.heap a vs)(r:RA s.heap vs.toList ds)(rx:RD s.heap x d)(h1:PyD.canLayAll0 ds=true)(h2:d.canLay0=true)(hd:d.depth<=64)(hu:A.units +100<cLine)
  (hz:ds.length<=1000000)(hit:(ds.any fun y=>PyD.eqv y d)=true)
  (hQ:∀h' vs',PL h' a vs'->(∀hb,RA hb vs.toList ds->RA hb vs'.toList (ds.eraseP fun y=>PyD.eqv y d))->(∀b o,b≠a->s.heap.get? b=some o->h'.get? b=some o)->Q .none {s with heap:=h'}):
  wA MD A (call (.builtin "list.remove") [.ref a,x]) Q E s:=by
 have hT:=p.isList.typeIs
 obtain⟨⟨cls,dd,data,sl⟩,ho,hc,hq,k,hdt⟩:=id p
 simp only at hc hdt
 subst hc hdt
 have hlen:vs.size=ds.length:=by simpa using r.length
 rw[List.any_eq_true]at hit
 obtain⟨y,hy,hyd⟩:=hit
 have hj:ds.findIdx (fun y=>PyD.eqv y d)<ds.length:=List.findIdx_lt_length_of_exists ⟨y,hy,hyd⟩
 refine call_meets F.slot_list_remove hT F.entry_list_remove (F.args_list_remove_2 _ _)
  (lF a vs k dd sl x (fun m=>PyD.eqv (ds.getD m .none) d) (ds.findIdx fun y=>PyD.eqv y d) (by rw[hlen];exact hj) ?_ (by rw[hlen];exact aE hz) fun m hm=>?_) ⟨ho,fun m hm=>?_,?_⟩
 ·show PyD.eqv (ds.getD _ .none) d=true
  rw[List.getD_eq_getElem?_getD,List.getElem?_eq_getElem hj]
  exact List.findIdx_getElem (w:=hj)
 ·show PyD.eqv (ds.getD _ .none) d=false
  rw[List.getD_eq_getElem?_getD,List.getElem?_eq_getElem (Nat.lt_trans hm hj)]
  exact Bool.eq_false_iff.mpr (by simpa using List.not_of_lt_findIdx hm)
 ·have:=ri (A:=A) (s:=s) rfl r rx h1 h2 hd hu m (by simpa using hm)
  simpa using this
 ·refine hQ _ _ (gf p _) (fun hb r=>?_) (Hp.SameBut.update ..).extBut
  have e1:(vs.eraseIdxIfInBounds (ds.findIdx fun y=>PyD.eqv y d)).toList=vs.toList.eraseIdx (ds.findIdx fun y=>PyD.eqv y d):=by simp
  have e2:(ds.eraseP fun y=>PyD.eqv y d)=ds.eraseIdx (ds.findIdx fun y=>PyD.eqv y d):=by
   rw[List.eraseP_eq_eraseIdx,List.findIdx?_eq_some_of_exists ⟨y,hy,hyd⟩]
  rw[e1,e2]
  exact r.eraseIdx _
end
end
section
open MeetsSeq SeqAt
section
variable{A:Ar}{E:VS}{s:SD}
theorem tE{a:Ad}{vs:Array Vl}{k:Int}{t:Tok}{v:Vl}{Q:Unit->SD->Prop}(p:PL s.heap a vs)(h0:0<=k)(hfit:k<2^63)(hn:k<vs.size)
  (hQ:∀h',PL h' a (vs.setIfInBounds k.toNat v)->(∀b o,b≠a->s.heap.get? b=some o->h'.get? b=some o)->Q () {s with heap:=h'}):
  wA MD A (setItem (.ref a) (.int k t) v) Q E s:=by
 have hl:=p.isList
 obtain⟨o,ho,hc,hq,ne,hd⟩:=id p
 unfold setItem
 try with_reducible refine wpAny_holding ?_
 refine wBi (wpAny_sequenceKey hl.typeIs (by decide) ?_)
 refine wBi (wpAny_callSpecial?_slot (name:=Str.ofString "__setitem__") hl.typeIs slot_list_setitem
  (wpAny_call_entry slot_list_setitem hl.typeIs entry_list_setitem ?_ (args_list_setitem _ _ _)))
 show wA _ _ (Builtin.List.listSubscript? (.int k t)>>=_) _ _ s
 refine wBi (wpAny_listSubscript_int (fitsIndex_of h0 hfit) ?_)
 clear hfit
 obtain⟨j,rfl⟩:=Int.eq_ofNat_of_zero_le h0
 have hj:j<vs.size:=by exact Fh ‹_›
 have hx':vs[j]?=some vs[j]:=Array.getElem?_eq_getElem hj
 show wA _ _ ((seqItemAt a j>>=fun r=>pure (r.map (j,·)))>>=_) _ _ s
 refine wBi (wBi (wpAny_seqItemAt ho hd (wP ?_)))
 rw[hx']
 show wA _ _ (setSeqItemAt a j v>>=_) _ _ s
 have fin:=gf p (·.setIfInBounds j v)
 refine wBi (wpAny_setSeqItemAt ho hd ?_)
 first
  |exact wBi (wP (wP ⟨.none,rfl,wP (hQ _ fin (Hp.SameBut.update ..).extBut)⟩))
  |exact wP ⟨.none,rfl,wP (hQ _ fin (Hp.SameBut.update ..).extBut)⟩
theorem qB{a b:Vl}{T id:String}{Q:VS}(ha:s.TypeIs a T)(hb:s.TypeIs b T)(hi:typeLookup (.type T) (dunderI "add")=pure (some (.builtin id)))(hid:isSeqSlotId id=true)
  (hfill:fillsNumberSlot (.type T) "add"=pure false)(hc:wA MD A (call (.builtin id) [a,b]) Q E s):wA MD A (inplaceOp .Add a b) Q E s:=by
 unfold inplaceOp
 refine wpAny_holding ?_
 have hfi:fillsInplaceSlot (.type T) "add" (Operator.Add== .Add)=pure false:=by
  unfold fillsInplaceSlot
  show(typeLookup (.type T) (dunderI "add")>>=fun fi=>pure (fi.isSome&&!isSeqSlot fi))=pure false
  rw[hi]
  show(pure _:Sem Bool)=_
  simp[isSeqSlot,hid]
 have hsi:seqSlot? (.type T) (dunderI "add")=pure (some (.builtin id)):=PySem.seqSlot_of hi hid
 refine wBi (wpAny_typeOf ha (wBi (wpAny_of_eq hfi ?_)))
 show wA _ A (if false=true then _ else _) Q E s
 rw[if_neg Bool.false_ne_true]
 refine wBi (binaryOp1_none (nm:="add") ha hb hfill ?_)
 refine wBi (wpAny_of_eq hsi ?_)
 exact wBi (wpAny_rule hc)
theorem oM{a b:Ad}{vs us:Array Vl}{Q:VS}(p:PL s.heap a vs)(hb:s.heap.IsList b us)(hz:vs.size +us.size<=1000000)
  (hQ:∀h',PL h' a (vs ++us)->(∀c o,c≠a->s.heap.get? c=some o->h'.get? c=some o)->Q (.ref a) {s with heap:=h'}):
  wA MD A (inplaceOp .Add (.ref a) (.ref b)) Q E s:=by
 have hT:=p.isList.typeIs
 have hTb:=hb.typeIs
 obtain⟨⟨cls,dd,data,sl⟩,ho,hc,hq,k,hdt⟩:=id p
 obtain⟨⟨cls2,dd2,data2,sl2⟩,ho2,hc2,k2,hdt2⟩:=id hb
 simp only at hc hdt hc2 hdt2
 subst hc hdt hc2 hdt2
 refine qB (T:="list") hT hTb F.slot_list_iadd.lookup (by decide +kernel) noFill_list_add ?_
 refine call_meets F.slot_list_iadd hT F.entry_list_iadd (F.args_list_iadd_2 _ _) (oP a b vs us k k2 dd dd2 sl sl2 hz) ⟨ho,ho2,?_⟩
 exact hQ _ (gf p _) (Hp.SameBut.update ..).extBut
end
section
variable{z:Bool}{ρ1:LS}{l r:Ep}{R:RK}{st:Stmt}{ss:List Stmt}{o:kR}
theorem jw{x:Str}{p pa pc:Pos}{ds:List PyD}{d:PyD}(hx:ρ.lookup x=some (.own ds))(he:Ev hg (n +1) env ρ e (RF (DV d)))(h1:PyD.canLayAll0 ds=true)(h2:d.canLay0=true)(h3:d.depth<=64)(hz:ds.length<=1000000)(hit:(ds.any fun y=>PyD.eqv y d)=true)
  (hbase:autoParam (attributeBase (.Name x p) ("remove":Str) env (eval (.Name x p) env)=eval (.Name x p) env) Rf)(hline:autoParam ((pa.endLine==pc.line)=true) Rf)
  (hn:autoParam (sE [e] env=(false,eval e env)::sE [] env) Rf)(hd:autoParam ((x==("__debug__":Str))=false) Dc)(hi:autoParam (interactive env=false) Rf)
  (hs:autoParam (swapsWith (.Call (.Attribute (.Name x p) ("remove":Str) pa) [e] [] pc) none pos.line env=pure false) Rf):
  X hg z (n +1) env ρ (.Expr (.Call (.Attribute (.Name x p) ("remove":Str) pa) [e] [] pc) pos) (.next ((x,.own (ds.eraseP fun y=>PyD.eqv y d))::ρ)):=fun A fr h₀ hb₀ hb s Q E ok Rl h=>by
 refine wpAny_Expr (hi:=hi) (hs:=hs) (iZ hx he F.slot_list_remove F.type_list_remove ok Rl (fun a vs v h' hb' tk st R' rd pl ra n1 n2 rv=>?_) hbase hline hn hd)
 refine sr (s:=(aA s h' tk)) pl (ra.keeps st.stay) (rv.keeps st.stay) h1 h2 h3 (by have:=ok.u;exact o5 ‹_›) hz hit fun h'' vs' pl'' k'' k=>?_
 exact h .next h'' hb' tk ⟨rfl,(R'.turn hx rd pl pl'' (k'' hb' ra) k n1 n2).1⟩ (.of st.sub)
theorem jm{x:Str}{p:Pos}{ds es:List PyD}(hx:ρ.lookup x=some (.own ds))(he:Ev hg n env ρ e (RL es))(hz:ds.length +es.length<=1000000)(kx:cM env x):X hg z n env ρ (.AugAssign (.Name x p) .Add e pos) (.next ((x,.own (ds ++es))::ρ)):=fun A fr h₀ hb₀ hb s Q E ok Rl h=>by
 obtain⟨a,vs,rd,pl,ra,n1,n2⟩:=Rl.o x ds hx
 have load:∀{Q:VS},Q (.ref a) s->wA MD A (loadName env x) Q E s:=fun q=>by
  rcases rd with⟨k,m,b,c⟩|⟨k,c,b,d⟩
  ·exact wpAny_loadName_local Rl.s.k k b c q
  ·rcases k with k|⟨k,nc⟩
   ·exact wpAny_loadName_cell Rl.s.k k b d q
   ·exact wpAny_loadName_free Rl.s.k k b d q nc
 refine wpAny_AugAssign_Name (load (he A fr hb s _ E ok Rl.s fun v h₁ hb1 tk1 st1 r1=>?_))
 obtain⟨b,us,bs,rfl,hl,rb⟩:=r1
 have R1:=Rl.step st1
 have l1:vs.size=ds.length:=by simpa using ra.length
 have l2:us.size=es.length:=by simpa using RA.length ⟨bs,rb⟩
 obtain⟨oa,hoa,hda⟩:=dv pl
 refine oM (pl.up st1.up) hl (by rw[l1,l2];exact hz) fun h2 p2 k2=>?_
 have n1':=st1.fresh _ _ hoa hda n1
 have ra2:RA hb1 (vs ++us).toList (ds ++es):=by rw[Array.toList_append];exact(ra.keeps st1.sub).append ⟨bs,rb⟩
 obtain⟨R2,rk⟩:=R1.turn hx (rd.up st1.up) (pl.up st1.up) p2 ra2 k2 n1' n2
 refine R2.store kx (lv:=.own (ds ++es)) ⟨a,_,rfl,p2,ra2,n1',n2,fun y dy hy e ry=>?_⟩ fun h' tk R' O O O O=>h .next h' hb1 tk ⟨rfl,R'.less fun y lv e=>?_⟩ (.of st1.sub)
 ·exact hy (R2.oi y x dy _ a e (by rw[aw,if_pos rfl]) ry (rk _ _ (rd.up st1.up)))
 ·rw[aw]at e⊢
  by_cases q:y=x
  ·rw[if_pos q]at e⊢;exact e
  ·rw[if_neg q]at e;rw[if_neg q,aw,if_neg q];exact e
end
end
inductive iX(h₀ hb h:Hp):List Vl->List LV->List Ad->Prop
 |nil:iX h₀ hb h [] [] []
 |fz {F:FP} {v:Vl} {vs:List Vl} {Ks:List LV} {as:List Ad}:F.P hb v->iX h₀ hb h vs Ks as->iX h₀ hb h (v::vs) (.fz F::Ks) as
 |own {a:Ad} {ys:Array Vl} {ds:List PyD} {vs:List Vl} {Ks:List LV} {as:List Ad}:PL h a ys->RA hb ys.toList ds->hb.get? a=none->eO h₀ a->a∉as->iX h₀ hb h vs Ks as->iX h₀ hb h (.ref a::vs) (.own ds::Ks) (a::as)
section
variable{z:Bool}{ρ1:LS}{l r:Ep}{R:RK}{st:Stmt}{ss:List Stmt}{o:kR}
theorem iX.stab{h₀ hb h hb' h':Hp}(st:ay h hb h' hb'):∀{vs:List Vl}{Ks:List LV}{as:List Ad},iX h₀ hb h vs Ks as->iX h₀ hb' h' vs Ks as
 :=fun x=>by
  induction x with
  |nil=>exact .nil
  |@fz F _ _ _ _ a _ ih=>exact .fz (F.stays st.sub a) ih
  |own p r n1 n2 n3 _ ih=>
   obtain⟨oa,hoa,hda⟩:=dv p
   exact .own (p.up st.up) (r.keeps st.sub) (st.fresh _ _ hoa hda n1) n2 n3 ih
theorem iX.early{h₀ h₁ hb h:Hp}(up:h₀.UpToSlots h₁):∀{vs:List Vl}{Ks:List LV}{as:List Ad},iX h₁ hb h vs Ks as->iX h₀ hb h vs Ks as
 :=fun x=>by
  induction x with
  |nil=>exact .nil
  |fz a _ ih=>exact .fz a ih
  |own p r n1 n2 n3 _ ih=>exact .own p r n1 (n2.early up) n3 ih
theorem iX.new{h₀ hb h:Hp}:∀{vs:List Vl}{Ks:List LV}{as:List Ad},iX h₀ hb h vs Ks as->∀a∈as,eO h₀ a
 :=fun x=>by
  induction x with
  |nil=>exact fun O q=>nomatch q
  |fz _ _ ih=>exact ih
  |own _ _ _ n2 _ _ ih=>exact fun c q=>(List.mem_cons.mp q).elim (fun e=>e▸n2) (ih c)
noncomputable def AY(hg:Hp)(n:Nat)(env:Env)(ρ:LS)(es:List Ep)(Ks:List LV):Prop:=
 ∀(pos:Pos)(A:Ar)(fr:List Env)(hb:Hp)(s:SD)(Q:List Vl->SD->Prop)(E:VS),br A fr n->dc hg hb s.heap env fr ρ->
  (∀vs as h' hb' tk,ay s.heap hb h' hb'->iX s.heap hb' h' vs Ks as->Q vs (aA s h' tk))->wA MD A (spliced (backTo pos (sE es env))) Q E s
theorem lw:AY hg n env ρ [] []:=fun pos A fr hb s Q E ok S h=>wpAny_items_nil (h [] [] s.heap hb s.toks (.refl S.b) .nil)
theorem sO{F:FP}{es:List Ep}{Ks:List LV}(he:Ev hg n env ρ e (RF F))(hs:AY hg n env ρ es Ks)(hn:autoParam (sE (e::es) env=(false,eval e env)::sE es env) Rf):AY hg n env ρ (e::es) (.fz F::Ks):=fun pos A fr hb s Q E ok S h=>
 wpAny_items_cons (he:=hn) (he A fr hb s _ E ok S fun v h₁ hb1 tk1 st1 r1=>hs pos A fr hb1 _ _ E ok (S.step st1) fun vs as h2 hb2 tk2 st2 r2=>
  h (v::vs) as h2 hb2 tk2 (st1.trans st2) (.fz (F.stays st2.sub r1) (r2.early st1.up)))
theorem ej{ds:List PyD}{es:List Ep}{Ks:List LV}(he:Ev hg n env ρ e (RN ds))(hs:AY hg n env ρ es Ks)(hn:autoParam (sE (e::es) env=(false,eval e env)::sE es env) Rf):AY hg n env ρ (e::es) (.own ds::Ks):=fun pos A fr hb s Q E ok S h=>
 wpAny_items_cons (he:=hn) (he A fr hb s _ E ok S fun v h₁ hb1 tk1 st1 r1=>hs pos A fr hb1 _ _ E ok (S.step st1) fun vs as h2 hb2 tk2 st2 r2=>by
  obtain⟨a,ys,bs,rfl,p,q,n1,n2⟩:=r1
  obtain⟨oa,hoa,hda⟩:=dv p
  refine h _ (a::as) h2 hb2 tk2 (st1.trans st2) (.own (p.up st2.up) ⟨bs,ReadsAll.keeps st2.sub q⟩ (st2.fresh _ _ hoa hda n1) n2 (fun hm=>?_) (r2.early st1.up))
  obtain⟨us,e⟩:=r2.new a hm oa hoa
  exact hda us e)
inductive gi(env:Env):List (Vl->Sem Unit)->List Str->Prop
 |nil:gi env [] []
 |cons {f:Vl->Sem Unit} {fs:List (Vl->Sem Unit)} {x:Str} {xs:List Str}:(∀(M:Model)(A:Ar)(v:Vl)(Q:Unit->SD->Prop)(E:VS)(s:SD),wA M A (storeName env x v) Q E s->wA M A (f v) Q E s)->gi env fs xs->gi env (f::fs) (x::xs)
noncomputable def uO:List Str->List LV->LS->LS
 |x::xs,K::Ks,ρ=>uO xs Ks ((x,K)::ρ)
 |_,_,ρ=>ρ
theorem gF{h₀ hb₀ hb:Hp}{fr:List Env}{A:Ar}{Q:Unit->SD->Prop}{E:VS}:∀{fs:List (Vl->Sem Unit)}{xs:List Str}{vs:List Vl}{Ks:List LV}{as:List Ad}{s:SD}{ρ:LS},
  gi env fs xs->xs.length=vs.length->(∀x∈xs,cM env x)->iX h₀ hb s.heap vs Ks as->co hg h₀ hb₀ hb s.heap env fr ρ->(∀a∈as,∀y dy,ρ.lookup y=some (.own dy)->¬dY env s.heap y (.ref a))->
  (∀h' tk,co hg h₀ hb₀ hb h' env fr (uO xs Ks ρ)->Q () (aA s h' tk))->wA MD A (assignInOrder fs vs) Q E s
 |_,_,_,_,_,s,ρ,.nil,hl,_,m,Rl,_,h=>by
  cases m with
  |nil=>exact wpAny_assignInOrder_none (h s.heap s.toks Rl)
  |fz=>cases hl
  |own=>cases hl
 |_,_,_,_,_,s,ρ,.cons (x:=x) hf sf,hl,kx,m,Rl,ap,h=>by
  have kc:∀{v:Vl}{lv:LV}{h':Hp},(∀y u,y≠x->dY env s.heap y u->dY env h' y u)->(∀a vs,PL s.heap a vs->PL h' a vs)->∀{vs:List Vl}{Ks:List LV}{as:List Ad},iX h₀ hb s.heap vs Ks as->iX h₀ hb h' vs Ks as:=by
   intro v lv h' _ pk vs Ks as q
   induction q with
   |nil=>exact .nil
   |fz a _ ih=>exact .fz a ih
   |own p r n1 n2 n3 _ ih=>exact .own (pk _ _ p) r n1 n2 n3 ih
  cases m with
  |nil=>cases hl
  |@fz F v vs Ks as p q=>
   refine wpAny_assignInOrder_more (hf _ _ _ _ _ _ (Rl.store (kx x (.head _)) (lv:=.fz F) p fun h₁ tk1 R1 O ro pk rx=>?_))
   refine gF sf (by simpa using hl) (fun y hy=>kx y (.tail _ hy)) (kc (v:=v) (lv:=.fz F) ro pk q) R1 (fun a ha y dy e ry=>?_) h
   rw[aw]at e
   by_cases hy:y=x
   ·rw[if_pos hy]at e;cases e
   ·rw[if_neg hy]at e
    obtain⟨a',_,r',_⟩:=Rl.o y dy e
    have e1:=bM (ro y _ hy r') ry
    injection e1 with e1;subst e1
    exact ap _ ha y dy e r'
  |@own a ys ds vs Ks as p r n1 n2 n3 q=>
   refine wpAny_assignInOrder_more (hf _ _ _ _ _ _ (Rl.store (kx x (.head _)) (lv:=.own ds) ⟨a,ys,rfl,p,r,n1,n2,fun y dy O e ry=>ap a (.head _) y dy e ry⟩ fun h₁ tk1 R1 O ro pk rx=>?_))
   refine gF sf (by simpa using hl) (fun y hy=>kx y (.tail _ hy)) (kc (v:=.ref a) (lv:=.own ds) ro pk q) R1 (fun c hc y dy e ry=>?_) h
   rw[aw]at e
   by_cases hy:y=x
   ·subst hy
    have e1:=bM rx ry
    injection e1 with e1;subst e1
    exact n3 hc
   ·rw[if_neg hy]at e
    obtain⟨a',_,r',_⟩:=Rl.o y dy e
    have e1:=bM (ro y _ hy r') ry
    injection e1 with e1;subst e1
    exact ap _ (.tail _ hc) y dy e r'
theorem p7{ts:List (Str×Pos)}:gi env ((assignEach (ts.map fun t=>.Name t.1 t.2) env).map (·.2)) (ts.map (·.1)):=by
 induction ts with
 |nil=>exact .nil
 |cons t ts ih=>exact .cons (fun M A v Q E s h=>PyProof.Rows.assign_Name h) ih
theorem gv{h₀ hb h:Hp}{vs:List Vl}{Ks:List LV}{as:List Ad}(m:iX h₀ hb h vs Ks as):vs.length=Ks.length:=by
 induction m with
 |nil=>rfl
 |fz _ _ ih=>simp[ih]
 |own _ _ _ _ _ _ ih=>simp[ih]
theorem kC{h₀ hb₀ hb h hb' h':Hp}{fr:List Env}(Rl:co hg h₀ hb₀ hb h env fr ρ)(st:ay h hb h' hb'){a:Ad}(nw:eO h a):∀y dy,ρ.lookup y=some (.own dy)->¬dY env h' y (.ref a):=fun y dy e r=>by
 obtain⟨a',vs',r',p',_⟩:=Rl.o y dy e
 have:=bM (r'.up st.up) r
 injection this with this;subst this
 obtain⟨o,ho,hd⟩:=dv p'
 obtain⟨us,q⟩:=nw o ho
 exact hd us q
theorem dX{ts:List (Str×Pos)}:(assignEach (ts.map fun t=>Ep.Name t.1 t.2) env).length=ts.length/\(assignEach (ts.map fun t=>Ep.Name t.1 t.2) env).findIdx? (·.1)=none:=by
 induction ts with
 |nil=>exact⟨rfl,rfl⟩
 |cons t ts ih=>
  refine⟨by have:=ih.1;simp only[List.length_cons];show(_::assignEach (ts.map fun t=>Ep.Name t.1 t.2) env).length=_;rw[List.length_cons,this],?_⟩
  show(_::assignEach (ts.map fun t=>Ep.Name t.1 t.2) env).findIdx? (·.1)=none
  rw[List.findIdx?_cons,ih.2]
  rfl
theorem uM{ts:List (Str×Pos)}{es:List Ep}{Ks:List LV}{k k':Nat}{p p':Pos}(he:AY hg n env ρ es Ks)(hl:ts.length=Ks.length)(kx:∀x∈ts.map (·.1),cM env x)
  (hs:autoParam (swapsWithSole [.Tuple (ts.map fun t=>.Name t.1 t.2) k p] (.Tuple es k' p') pos.line env=pure false) Rf)(hw:autoParam (swappedStores [.Tuple (ts.map fun t=>.Name t.1 t.2) k p] (.Tuple es k' p') env=pure none) Rf)(hz:Ks.length<=1000000:=by first|decide|simp):
  X hg z n env ρ (.Assign [.Tuple (ts.map fun t=>.Name t.1 t.2) k p] (.Tuple es k' p') pos) (.next (uO (ts.map (·.1)) Ks ρ)):=fun A fr h₀ hb₀ hb s Q E ok Rl h=>by
 refine PyProof.Rows.Assign_Tuple (wpAny_Tuple (he p' A fr hb s _ E ok Rl.s fun vs as h₁ hb1 tk1 st1 m=>⟨by rw[gv m];exact aE hz,?_⟩)) hs hw
 have st2:=aL (h:=h₁) (hb:=hb1) {cls:=.type "tuple",data:=.seq vs.toArray} st1.stay
 have ht:(h₁.push {cls:=.type "tuple",data:=.seq vs.toArray}).IsTuple h₁.objs.size vs.toArray:=⟨_,Hp.get?_push_size _ rfl,rfl,_,rfl⟩
 refine wpAny_assign_Tuple ok.h ht (by rw[dX.1];simp[gv m,hl]) dX.2 fun h3 k3=>?_
 have k3':(h₁.push {cls:=.type "tuple",data:=.seq vs.toArray}).StaysIn h3:=fun b o e=>k3 b o (Nat.ne_of_lt (Hp.lt_size e)) e
 have st3:ay (h₁.push {cls:=.type "tuple",data:=.seq vs.toArray}) hb1 h3 hb1:=⟨be k3',fun O O e=>e,fun b o e=>k3' b o (st2.stay b o e),fun O O O O e=>e⟩
 have stA:=st1.trans (st2.trans st3)
 refine gF p7 (by simp[gv m,hl]) kx ((m.stab (st2.trans st3)).early Rl.st.up) (Rl.step stA) (fun a ha=>kC Rl stA (m.new a ha)) fun h' tk R'=>h .next h' hb1 tk ⟨rfl,R'⟩ (.of stA.sub)
end
section
variable{z:Bool}{ρ1:LS}{l r:Ep}{R:RK}{st:Stmt}{ss:List Stmt}{o:kR}
theorem iX.append{h₀ hb h:Hp}{us:List Vl}{Ls:List LV}{bs:List Ad}(y:iX h₀ hb h us Ls bs):∀{vs:List Vl}{Ks:List LV}{as:List Ad},iX h₀ hb h vs Ks as->(∀a∈as,a∉bs)->iX h₀ hb h (vs ++us) (Ks ++Ls) (as ++bs)
 :=fun x=>by
  induction x with
  |nil=>exact fun O=>y
  |fz a _ ih=>exact fun d=>.fz a (ih d)
  |own p r n1 n2 n3 _ ih=>exact fun d=>.own p r n1 n2 (fun q=>(List.mem_append.mp q).elim n3 (d _ (.head _))) (ih fun a ha=>d a (.tail _ ha))
theorem iX.reverse{h₀ hb h:Hp}:∀{vs:List Vl}{Ks:List LV}{as:List Ad},iX h₀ hb h vs Ks as->iX h₀ hb h vs.reverse Ks.reverse as.reverse
 :=fun x=>by
  induction x with
  |nil=>exact .nil
  |fz a _ ih=>
   rw[List.reverse_cons,List.reverse_cons]
   have:=iX.append (iX.fz a iX.nil) ih (fun O O q=>nomatch q)
   rwa [List.append_nil]at this
  |own p r n1 n2 n3 _ ih=>
   rw[List.reverse_cons,List.reverse_cons,List.reverse_cons]
   exact iX.append (iX.own p r n1 n2 List.not_mem_nil iX.nil) ih fun c hc q=>n3 (by rw[List.mem_singleton.mp q]at hc;exact List.mem_reverse.mp hc)
theorem je:∀{xs:List Str},gi env (xs.map fun x=>bindName env x) xs
 |[]=>.nil
 |_::_=>.cons (fun M A v Q E s h=>PyProof.Rows.bindName_ h) je
theorem AN{ts es:List Ep}{Ks:List LV}{xs:List Str}{k k':Nat}{p p':Pos}(he:AY hg n env ρ es Ks)(hl:xs.length=Ks.length)(kx:∀x∈xs,cM env x)
  (hs:autoParam (swapsWithSole [.Tuple ts k p] (.Tuple es k' p') pos.line env=pure false) Rf)(hw:autoParam (swappedStores [.Tuple ts k p] (.Tuple es k' p') env=pure (some xs)) Rf)(hz:Ks.length<=1000000:=by first|decide|simp):
  X hg z n env ρ (.Assign [.Tuple ts k p] (.Tuple es k' p') pos) (.next (uO xs.reverse Ks.reverse ρ)):=fun A fr h₀ hb₀ hb s Q E ok Rl h=>by
 refine PyProof.Rows.Assign_Tuple_swapped (wpAny_Tuple (he p' A fr hb s _ E ok Rl.s fun vs as h₁ hb1 tk1 st1 m=>⟨by rw[gv m];exact aE hz,?_⟩)) hs hw
 have st2:=aL (h:=h₁) (hb:=hb1) {cls:=.type "tuple",data:=.seq vs.toArray} st1.stay
 have ht:(h₁.push {cls:=.type "tuple",data:=.seq vs.toArray}).IsTuple h₁.objs.size vs.toArray:=⟨_,Hp.get?_push_size _ rfl,rfl,_,rfl⟩
 have hsz:xs.length=vs.toArray.size:=by simp[gv m,hl]
 rw[hsz]
 refine wpAny_unpackItems_tuple ok.h ht fun h3 k3=>?_
 have k3':(h₁.push {cls:=.type "tuple",data:=.seq vs.toArray}).StaysIn h3:=fun b o e=>k3 b o (Nat.ne_of_lt (Hp.lt_size e)) e
 have st3:ay (h₁.push {cls:=.type "tuple",data:=.seq vs.toArray}) hb1 h3 hb1:=⟨be k3',fun O O e=>e,fun b o e=>k3' b o (st2.stay b o e),fun O O O O e=>e⟩
 have stA:=st1.trans (st2.trans st3)
 have m':=((m.stab (st2.trans st3)).early Rl.st.up).reverse
 refine gF (vs:=vs.toArray.toList.reverse) je (by simp[gv m,hl]) (fun x hx=>kx x (List.mem_reverse.mp hx)) (by simpa using m') (Rl.step stA) (fun a ha=>kC Rl stA (m.new a (List.mem_reverse.mp ha))) fun h' tk R'=>h .next h' hb1 tk ⟨rfl,R'⟩ (.of stA.sub)
mutual
theorem pJ{A:Ar}(hh:A.handled=none){h₀ hb₀ hb:Hp}{fr:List Env}{Q:Unit->SD->Prop}{E:VS}:∀{e:Ep}{d:PyD}{σ:LS}(_:Bd e d σ)(_:∀x∈σ.map (·.1),cM env x){s:SD}{v:Vl}{ρ:LS}
  (_:co hg h₀ hb₀ hb s.heap env fr ρ)(_:RD hb v d)(_:∀h' tk,co hg h₀ hb₀ hb h' env fr (σ ++ρ)->Q () (aA s h' tk)),wA MD A (assign e env v) Q E s
 |_,d,_,.name (x:=x)=>fun kx {s v ρ} Rl rv h=>PyProof.Rows.assign_Name (Rl.store (kx x (by simp)) (lv:=.fz (DV d)) rv fun h' tk R' O O O O=>h h' tk R')
 |_,_,_,.tuple (ds:=ds) bs=>fun kx {s v ρ} Rl rv h=>by
  obtain⟨a,vs,rfl,ht,hra⟩:=eW Rl.s.b rv
  obtain⟨e1,e2⟩:=j5 env bs
  have hsz:vs.size=ds.length:=by have:=hra.length;simpa using this
  refine wpAny_assign_Tuple hh ht (e1.trans hsz.symm) e2 fun h₁ k1=>?_
  have k:s.heap.StaysIn h₁:=fun b o e=>k1 b o (Nat.ne_of_lt (Hp.lt_size e)) e
  have st:ay s.heap hb h₁ hb:=⟨be k,fun O O e=>e,fun b o e=>k b o (Rl.s.b b o e),fun O O O O e=>e⟩
  exact ow hh bs kx (s:={s with heap:=h₁}) (Rl.step st) hra h
theorem ow{A:Ar}(hh:A.handled=none){h₀ hb₀ hb:Hp}{fr:List Env}{Q:Unit->SD->Prop}{E:VS}:∀{es:List Ep}{ds:List PyD}{σ:LS}(_:kO es ds σ)(_:∀x∈σ.map (·.1),cM env x){s:SD}{vs:List Vl}{ρ:LS}
  (_:co hg h₀ hb₀ hb s.heap env fr ρ)(_:RA hb vs ds)(_:∀h' tk,co hg h₀ hb₀ hb h' env fr (σ ++ρ)->Q () (aA s h' tk)),wA MD A (assignInOrder ((assignEach es env).map (·.2)) vs) Q E s
 |_,_,_,.nil=>fun kx {s vs ρ} Rl rv h=>by
  rw[rv.inv0]
  exact wpAny_assignInOrder_none (h s.heap s.toks Rl)
 |_,_,_,.cons (σ:=σ) (τ:=τ) b bs=>fun kx {s vs ρ} Rl rv h=>by
  obtain⟨v,us,rfl,h1,h2⟩:=rv.inv
  rw[pS b]
  refine wpAny_assignInOrder_more (pJ hh b (fun x hx=>kx x (by rw[List.map_append];exact List.mem_append_right _ hx)) Rl h1 fun h₁ tk1 R1=>?_)
  exact ow hh bs (fun x hx=>kx x (by rw[List.map_append];exact List.mem_append_left _ hx)) (s:=(aA s h₁ tk1)) R1 h2 fun h' tk R'=>h h' tk (by rw[List.append_assoc];exact R')
end
theorem jp{ts:List Ep}{ds:List PyD}{σ:LS}{k:Nat}{p:Pos}(he:Ev hg n env ρ e (RF (DV (.tuple ds))))(b:kO ts ds σ)(kx:∀x∈σ.map (·.1),cM env x)
  (hs:autoParam (swapsWithSole [.Tuple ts k p] e pos.line env=pure false) Rf)(hw:autoParam (swappedStores [.Tuple ts k p] e env=pure none) Rf):X hg z n env ρ (.Assign [.Tuple ts k p] e pos) (.next (σ ++ρ)):=fun A fr h₀ hb₀ hb s Q E ok Rl h=>
 PyProof.Rows.Assign_Tuple (he A fr hb s _ E ok Rl.s fun v h₁ hb1 tk1 st1 r1=>pJ ok.h (.tuple b) kx (s:=(aA s h₁ tk1)) (Rl.step st1) r1 fun h' tk R'=>h .next h' hb1 tk ⟨rfl,R'⟩ (.of st1.sub)) hs hw
theorem yN{x:Str}{p:Pos}{op:Operator}{F G F':FP}(hx:ρ.lookup x=some (.fz F))(he:Ev hg n env ρ e (RF G))(hop:ic hg n (inplaceOp op) (RF F) (RF G) (RF F'))(kx:cM env x):X hg z n env ρ (.AugAssign (.Name x p) op e pos) (.next ((x,.fz F')::ρ)):=fun A fr h₀ hb₀ hb s Q E ok Rl h=>by
 obtain⟨v,rd,lo⟩:=Rl.s.v x _ hx
 have load:∀{Q:VS},Q v s->wA MD A (loadName env x) Q E s:=fun q=>by
  rcases rd with⟨k,m,b,c⟩|⟨k,c,b,d⟩
  ·exact wpAny_loadName_local Rl.s.k k b c q
  ·rcases k with k|⟨k,nc⟩
   ·exact wpAny_loadName_cell Rl.s.k k b d q
   ·exact wpAny_loadName_free Rl.s.k k b d q nc
 refine wpAny_AugAssign_Name (load (he A fr hb s _ E ok Rl.s fun u h₁ hb1 tk1 st1 r1=>?_))
 have R1:=Rl.step st1
 refine hop A fr s.heap s.heap hb1 (aA s h₁ tk1) v u _ E ok R1.s.g R1.s.b R1.s.f (F.stays st1.sub lo) r1 fun t h2 hb2 tk2 st2 r2=>?_
 exact(R1.step st2).store kx (lv:=.fz F') r2 fun h' tk R' O O O O=>h .next h' hb2 tk ⟨rfl,R'⟩ (.of fun b o e=>st2.sub b o (st1.sub b o e))
theorem rU{a b:Int}:ic hg n (inplaceOp .Add) (RF (DV (.int a))) (RF (DV (.int b))) (RF (DV (.int (a +b)))):=lL fun O O O O O O h=>P.iadd_int h
theorem kA{x y:Str}(hsz:x.length +y.length<=sizeLine):ic hg n (inplaceOp .Add) (RF (DV (.str x))) (RF (DV (.str y))) (RF (DV (.str (x ++y)))):=fun A fr h₀ h₁ hb s u v Q E O O st O rx ry h=>by
 obtain⟨t,rfl⟩:=az rx
 obtain⟨t',rfl⟩:=az ry
 exact PyProof.Rows.iadd_str (fun t' tk=>h _ s.heap hb tk (.refl st) d7) hsz
theorem RA.set{h:Hp}{v:Vl}{d:PyD}(r:RD h v d):∀{ds:List PyD}{vs:List Vl}(k:Nat),RA h vs ds->RA h (vs.set k v) (ds.set k d)
 |[],vs,k,a=>by rw[a.inv0];exact .nil
 |_::_,vs,0,a=>by obtain⟨u,us,rfl,p,q⟩:=a.inv;exact .cons r q
 |_::_,vs,k +1,a=>by obtain⟨u,us,rfl,p,q⟩:=a.inv;exact .cons p (RA.set r k q)
theorem wQ{x:Str}{p ps:Pos}{i:Ep}{ds:List PyD}{d:PyD}{k:Nat}(hx:ρ.lookup x=some (.own ds))(he:Ev hg n env ρ e (RF (DV d)))(hi:Ev hg n env ρ i (RF (DV (.int (k:Nat)))))(hk:k<ds.length)(hz:ds.length<=1000000)
  (hd:autoParam ((x==("__debug__":Str))=false) Dc)(hs:autoParam (swapsWith e (some (.Subscript (.Name x p) i ps)) pos.line env=pure false) Rf):
  X hg z n env ρ (.Assign [.Subscript (.Name x p) i ps] e pos) (.next ((x,.own (ds.set k d))::ρ)):=fun A fr h₀ hb₀ hb s Q E ok Rl h=>by
 obtain⟨a,vs,rd,pl,ra,n1,n2⟩:=Rl.o x ds hx
 obtain⟨oa,hoa,hda⟩:=dv pl
 refine wpAny_Assign_Subscript (hs:=hs) (he A fr hb s _ E ok Rl.s fun v h₁ hb1 tk1 st1 r1=>?_)
 have R1:=Rl.step st1
 refine cP R1.s.k (rd.up st1.up) ?_ hd
 refine hi A fr hb1 (aA s h₁ tk1) _ E ok R1.s fun u h2 hb2 tk2 st2 r2=>?_
 obtain⟨t,rfl⟩:=aj r2
 have st:=st1.trans st2
 have hlen:vs.size=ds.length:=by simpa using ra.length
 have hfit:((k:Nat):Int)<2^63:=Int.lt_trans (b:=1000001) (by exact zb (Nat.lt_of_lt_of_le ‹_› (Nat.le_trans ‹_› (by decide)))) (by decide)
 refine tE (s:=(aA s h2 tk2)) (pl.up st.up) (by exact Int.natCast_nonneg _) hfit (by omega) fun h3 p3 k3=>?_
 have r1':RD hb2 v d:=RD.keeps st2.sub r1
 have ra3:RA hb2 (vs.setIfInBounds (Int.toNat (k:Nat)) v).toList (ds.set k d):=by
  simpa using RA.set r1' k (ra.keeps st.sub)
 exact h .next h3 hb2 _ ⟨rfl,((Rl.step st).turn hx (rd.up st.up) (pl.up st.up) p3 ra3 k3 (st.fresh _ _ hoa hda n1) n2).1⟩ (.of st.sub)
end
section
variable{z:Bool}{ρ1:LS}{l r:Ep}{R:RK}{st:Stmt}{ss:List Stmt}{o:kR}
noncomputable def kP(hg:Hp)(z:Bool)(n:Nat)(env:Env)(ρ:LS)(e tgt:Ep)(ds:List PyD):Prop:=
 ∀(A:Ar)(fr:List Env)(hb:Hp)(s:SD)(Q:VS)(E:VS),br A fr n->dc hg hb s.heap env fr ρ->
  (∀I fp wr hbI St h' hb' tk,ay s.heap hb h' hb'->It A tgt I fp wr hbI ds St->St 0 h'->(∀b∈wr,hb'.get? b=none)->(∀b∈fp,∃o,hb'.get? b=some o/\∀es k,o.data≠ .dict es k)->
   (∀g,jR z hb' g->hg.StaysIn g->hbI.StaysIn g)->Q (.ref I) (aA s h' tk))->
  wA MD A (eval e env) (fun x s₁=>wA MD A (pyIter x) Q E s₁) E s
theorem co.unfreeze{h₀ hb₀ hb h g:Hp}{fr:List Env}(Rl:co hg h₀ hb₀ hb h env fr ρ)(g1:g.StaysIn hb)(g2:p9 hb g)(s1:hg.StaysIn g)(s0:hb₀.StaysIn g):co hg h₀ hb₀ g h env fr ρ:=by
 obtain⟨l1,l2,l3⟩:=Rl.l
 refine⟨⟨s1,fun b o e=>Rl.s.b b o (g1 b o e),eC g1 Rl.s.f,Rl.s.k,Rl.s.gl,Rl.s.bl,fun y lv e=>?_⟩,⟨Rl.st.up,s0,fun b o e=>Rl.s.b b o (g1 b o e),fun a o ha hd e=>am g1 (Rl.st.fresh a o ha hd e)⟩,
  ⟨l1,am g1 l2,l3⟩,fun y c e=>?_,Rl.ci,Rl.hd,fun y ds e=>?_,Rl.oi⟩
 ·obtain⟨v,r,l⟩:=Rl.s.v y lv e
  refine⟨v,r,?_⟩
  cases lv with
  |fz F=>exact F.up g2 l
  |own ds=>
   obtain⟨a,vs,bs,rfl,p,q⟩:=l
   exact⟨a,vs,bs,rfl,p,dg g2.up q⟩
 ·obtain⟨c1,c2,c3⟩:=Rl.c y c e
  exact⟨c1,am g1 c2,c3⟩
 ·obtain⟨a,vs,r,p,q,n1,n2⟩:=Rl.o y ds e
  exact⟨a,vs,r,p,q.imp fun O r=>dg g2.up r,am g1 n1,n2⟩
inductive dh(hg:Hp)(z:Bool)(n:Nat)(env:Env)(tgt:Ep)(body:List Stmt):LS->List PyD->kR->Prop
 |nil {ρ ρ':LS}:(∀y lv,ρ'.lookup y=some lv->ρ.lookup y=some lv)->dh hg z n env tgt body ρ [] (.next ρ')
 |next {ρ ρ1 σ:LS} {d:PyD} {ds:List PyD} {o:kR}:Bd tgt d σ->(∀x∈σ.map (·.1),cM env x)->Ex hg z n env (σ ++ρ) body (.next ρ1)->dh hg z n env tgt body ρ1 ds o->dh hg z n env tgt body ρ (d::ds) o
 |brk {ρ ρ1 σ:LS} {d:PyD} {ds:List PyD}:Bd tgt d σ->(∀x∈σ.map (·.1),cM env x)->Ex hg z n env (σ ++ρ) body (.brk ρ1)->dh hg z n env tgt body ρ (d::ds) (.next ρ1)
 |ret {ρ σ:LS} {d:PyD} {ds:List PyD} {R:RK}:Bd tgt d σ->(∀x∈σ.map (·.1),cM env x)->Ex hg z n env (σ ++ρ) body (.ret R)->dh hg z n env tgt body ρ (d::ds) (.ret R)
theorem gR{tgt iter:Ep}{body:List Stmt}{ds:List PyD}(hit:kP hg z n env ρ iter tgt ds)(lp:dh hg z n env tgt body ρ ds o)(hs:autoParam (∀x,foldedSetIterable iter env x=pure x) If):
  X hg z n env ρ (.For tgt iter body [] pos) o:=fun A fr h₀ hb₀ hb s Q E ok Rl h=>by
 rw[exec_For]
 have hA:A.mark none=A:=by
  obtain⟨_⟩:=A
  rfl
 refine wBi (wpAny_standAt (wBi (wpAny_mono (hit A fr hb s (fun it s₁=>codeAny MD A (.forLoop tgt it body [] env) (fun r s'=>match r with| .ok f=>Q f s'| .error e=>cameBackBy MD A env E e s') s₁) E ok Rl.s
  fun I fp wr hbI St h₁ hb1 tk1 st1 IT S0 hw hfp hI=>?_) (fun x s₁ h₁=>wBi (wpAny_of_eq (hs x) (wBi (wpAny_standAt (wBi (wpAny_holding (wpAny_mono h₁ (fun it s₂ h2=>wpAny_runOwn (by rw[hA];exact h2)) fun O O q=>q))))))) fun O O q=>q)))
 refine codeAny_forLoop_any (fun k s'=>X5 fun i ρ1 hb2 h2 tk2=>A8 (s'=(aA s h2 tk2)) (k=ds.length - i) (i<=ds.length) (dh hg z n env tgt body ρ1 (ds.drop i) o) (co hg h₀ hb₀ hb2 h2 env fr ρ1) (St i h2) (jR z hb1 hb2) (∀b∈wr,hb2.get? b=none))
  ?_ ds.length ⟨0,ρ,hb1,h₁,tk1,rfl,rfl,Nat.zero_le _,lp,Rl.step st1,S0,.refl,hw⟩
 rintro k s' ⟨i,ρ1,hb2,h2,tk2,rfl,rfl,hi,lp,R2,Si,rst,hw2⟩
 cases hd:ds[i]? with
 |none=>
  have e:i=ds.length:=Nat.le_antisymm hi (List.getElem?_eq_none_iff.mp hd)
  subst e
  refine IT.done _ _ _ Si fun h3 tk3 k3=>?_
  have sb:=cZ R2.s.b k3 (IT.fld _ _ Si) hw2
  rw[List.drop_length]at lp
  cases lp with
  |nil kk=>exact wpAny_execs_nil (h .next h3 hb2 tk3 ⟨rfl,(R2.step sb).less kk⟩ ((jR.of st1.sub).trans rst))
 |some d=>
  have hlt:i<ds.length:=(List.getElem?_eq_some_iff.mp hd).1
  have hdrop:ds.drop i=d::ds.drop (i +1):=by
   rw[List.drop_eq_getElem_cons hlt]
   rw[List.getElem?_eq_getElem hlt]at hd
   injection hd with hd;rw[hd]
  rw[hdrop]at lp
  have gI:=hI hb2 rst R2.s.g
  have turn:∀{σ:LS}{o':kR},Bd tgt d σ->(∀x∈σ.map (·.1),cM env x)->Ex hg z n env (σ ++ρ1) body o'->
    ∀(N:Flow->SD->Prop)(E':VS),(∀f h' hb' tk,n5 hg h₀ hb₀ env fr o' f hb' h'->jR z hb2 hb'->((∀b∈wr,∃o,hb'.get? b=some o)/\St (i +1) h')->N f (aA s h' tk))->
    wA MD A (pyNext (.ref I)) (fun r s₁=>∃v,r=some v/\wA MD A (letOwnedTupleGo tgt (.ref I) v) (fun O s1'=>
     wA MD A (assign tgt env v) (fun O s₂=>wA MD A (execs body env) N E' s₂) E' s1') E' s₁) E' (aA s h2 tk2):=by
   intro σ o' bd kx ex N E' hN
   refine IT.next i d hb2 _ (fun v s1'=>wA MD A (assign tgt env v) (fun O s₂=>wA MD A (execs body env) N E' s₂) E' s1') _ hd Si gI R2.s.b hw2 fun v h3 hb3 tk3 st3 k3 hw3 rd S3=>?_
   have R3:=R2.step st3
   obtain⟨hbF,sF,wF,_⟩:=iV (h:=h3) (hb:=hb3) (h':=h3) (.refl _) R3.s.b (fun b=>b∈wr) fun b hb o e=>by
    obtain⟨o',vs,e',d'⟩:=IT.fld _ _ S3 b hb
    rw[e]at e';injection e' with e';subst e'
    exact⟨vs,d'⟩
   have RF:=R3.step sF
   refine pJ ok.h bd kx (s:=(aA s h3 tk3)) RF (rd.keeps sF.sub) fun h4 tk4 R4=>?_
   refine ex A fr h₀ hb₀ hbF (aA s h4 tk4) N E' ok R4 fun f h5 hb5 tk5 out rst5=>?_
   have stay5:hb5.StaysIn h5:=by
    cases o' with
    |next=>exact out.2.s.b
    |brk=>exact out.2.s.b
    |cont=>exact out.2.s.b
    |ret=>obtain⟨v,_,st,_⟩:=out;exact st.stay
   have wr5:∀b∈wr,∀o,h3.get? b=some o->hb5.get? b=some o:=fun b hb o e=>rst5 b o (by rw[wF b hb];exact e) fun O es k q=>by
    obtain⟨o',vs,e',d'⟩:=IT.fld _ _ S3 b hb
    rw[e]at e';injection e' with e';subst e'
    rw[d']at q;cases q
   refine hN f h5 hb5 tk5 out (fun b o e q=>rst5 b o (sF.sub b o (st3.sub b o e)) q) ⟨fun b hb=>?_,IT.frame _ _ _ S3 (fun b hb o e O=>?_) fun b hb o e=>stay5 b o (wr5 b hb o e)⟩
   ·obtain⟨o',vs,e',d'⟩:=IT.fld _ _ S3 b hb
    exact⟨o',wr5 b hb o' e'⟩
   ·obtain⟨of,hof,nd⟩:=hfp b hb
    have e2:=rst b of hof fun O=>nd
    have e3:=st3.sub b of e2
    have e3':=st3.stay b of e3
    rw[e]at e3';injection e3' with e3';subst e3'
    exact⟨o.slots,stay5 b o (rst5 b o (sF.sub b o e3) fun O=>nd)⟩
  have fin:∀{Z:SD->Prop}(N:Flow->SD->Prop)(E':VS),wA MD A (pyNext (.ref I)) (fun r s₁=>∃v,r=some v/\wA MD A (letOwnedTupleGo tgt (.ref I) v) (fun O s1'=>
     wA MD A (assign tgt env v) (fun O s₂=>wA MD A (execs body env) N E' s₂) E' s1') E' s₁) E' (aA s h2 tk2)->
    wA MD A (pyNext (.ref I)) (fun r s₁=>match r with
     |none=>Z s₁
     |some v=>wA MD A (letOwnedTupleGo tgt (.ref I) v) (fun O s1'=>
      wA MD A (assign tgt env v) (fun O s₂=>wA MD A (execs body env) N E' s₂) E' s1') E' s₁) E' (aA s h2 tk2):=fun N E' q=>
   wpAny_mono q (fun r s₁ hr=>by obtain⟨v,rfl,hr⟩:=hr;exact hr) fun O O q=>q
  cases lp with
  |next bd kx ex lp'=>
   refine fin _ _ (turn bd kx ex _ _ fun f h5 hb5 tk5 out rst5 S5=>?_)
   obtain⟨rfl,R5⟩:=out
   obtain⟨S5w,S5⟩:=S5
   obtain⟨g,g1,g2,g3,g4⟩:=fR wr (IT.fld _ _ S5) R5.s.b
   have keepg:∀b o,hb5.get? b=some o->b∉wr->g.get? b=some o:=fun b o e q=>by rw[g4 b q];exact e
   have notwr:∀{x:Hp}{b:Ad}{o:Obj},x.StaysIn hb2->x.get? b=some o->b∉wr:=fun{x b o} sx e q=>by
    have:=hw2 b q
    rw[sx b o e]at this;cases this
   refine⟨ds.length - (i +1),by exact Nat.sub_succ_lt_self _ _ ‹_›,i +1,_,g,h5,tk5,rfl,rfl,hlt,lp',R5.unfreeze g1 g2 (fun b o e=>keepg b o (R5.s.g b o e) (notwr R2.s.g e)) (fun b o e=>keepg b o (R5.st.sub b o e) (notwr R2.st.sub e)),S5,?_,g3⟩
   exact rst.trans fun b o e q=>keepg b o (rst5 b o e q) (notwr (fun O O e=>e) e)
  |brk bd kx ex=>
   refine fin _ _ (turn bd kx ex _ _ fun f h5 hb5 tk5 out rst5 S5=>?_)
   obtain⟨rfl,R5⟩:=out
   exact h .next h5 hb5 tk5 ⟨rfl,R5⟩ ((jR.of st1.sub).trans (rst.trans rst5))
  |ret bd kx ex=>
   refine fin _ _ (turn bd kx ex _ _ fun f h5 hb5 tk5 out rst5 S5=>?_)
   obtain⟨v,rfl,r⟩:=out
   exact h _ h5 hb5 tk5 ⟨v,rfl,r⟩ ((jR.of st1.sub).trans (rst.trans rst5))
end
section
variable{z:Bool}{ρ1:LS}{l r:Ep}{R:RK}{st:Stmt}{ss:List Stmt}{o:kR}
theorem gY{tgt:Ep}{ds:List PyD}(he:Ev hg n env ρ e (RF (DV (.list ds))))(ht:cz tgt:=by trivial):kP hg false n env ρ e tgt ds:=fun A fr hb s Q E ok S h=>
 he A fr hb s _ E ok S fun v h₁ hb1 tk1 st1 r1=>by
  obtain⟨_,r1⟩:=r1
  obtain⟨a,o,vs,k,bs,rfl,ho,hc,hd,hr,_⟩:=reads_list_inv r1
  have ho1:=st1.stay _ _ ho
  have hl:h₁.IsList a vs:=⟨o,ho1,hc,k,hd⟩
  have hne:a≠h₁.objs.size:=Nat.ne_of_lt (Hp.lt_size ho1)
  refine wpAny_pyIter_list hl (h _ [a] [h₁.objs.size] hb1 _ _ hb1 _ (st1.trans (aL _ st1.stay)) (pO ok.h ht hne ⟨bs,hr⟩) ⟨⟨_,Hp.get?_push_size _ rfl,rfl,rfl⟩,hl.push _⟩ (fun b hb=>?_) (fun b hb=>?_) fun g q O=>q.all)
  ·rw[List.mem_singleton.mp hb];exact Hp.StaysIn.fresh st1.stay
  ·rw[List.mem_singleton.mp hb];exact⟨o,ho,fun es k q=>by rw[hd]at q;cases q⟩
theorem oz{tgt:Ep}{ds:List PyD}(he:Ev hg n env ρ e (RF (DV (.tuple ds))))(ht:cz tgt:=by trivial):kP hg false n env ρ e tgt ds:=fun A fr hb s Q E ok S h=>
 he A fr hb s _ E ok S fun v h₁ hb1 tk1 st1 r1=>by
  obtain⟨_,r1⟩:=r1
  obtain⟨a,o,vs,k,rfl,ho,hc,hd,hr⟩:=reads_tuple_inv r1
  have ho1:=st1.stay _ _ ho
  have hl:h₁.IsTuple a vs:=⟨o,ho1,hc,k,hd⟩
  have hne:a≠h₁.objs.size:=Nat.ne_of_lt (Hp.lt_size ho1)
  refine wpAny_pyIter_tuple hl (h _ [a] [h₁.objs.size] hb1 _ _ hb1 _ (st1.trans (aL _ st1.stay)) (mt ok.h ht hne ⟨_,hr⟩) ⟨⟨_,Hp.get?_push_size _ rfl,rfl,rfl⟩,hl.push _⟩ (fun b hb=>?_) (fun b hb=>?_) fun g q O=>q.all)
  ·rw[List.mem_singleton.mp hb];exact Hp.StaysIn.fresh st1.stay
  ·rw[List.mem_singleton.mp hb];exact⟨o,ho,fun es k q=>by rw[hd]at q;cases q⟩
theorem j9{x y:Str}{p q:Pos}{k:Nat}(hf:Ev hg n env ρ (.Name x p) (RF (RV (.type "range"))))(he:Ev hg n env ρ e (RF (DV (.int k))))(hk:k<1000000)
  (hn:autoParam (sE [e] env=(false,eval e env)::sE [] env) Rf):kP hg z n env ρ (.Call (.Name x p) [e] [] pos) (.Name y q) (wY k):=fun A fr hb s Q E ok S h=>by
 refine gj hf (.type _) (cJ (R:=rF (DV (.int k))) he ao hn) ok S (fun vs h₁ hb1 tk1 st1 r1=>?_) hn
 obtain⟨v,rfl,r⟩:=r1.one
 obtain⟨t,rfl⟩:=aj r
 refine call_range_1 ?_
 have st2:=aL (h:=h₁) (hb:=hb1) {cls:=.type "range",data:=.fields #[.int 0 tk1,.int k t,.int 1 (tk1 +1)]} st1.stay
 have hr:=IsRange.new h₁ 0 k 1 tk1 t (tk1 +1)
 generalize h₁.push {cls:=.type "range",data:=.fields #[.int 0 tk1,.int k t,.int 1 (tk1 +1)]}=h2 at st2 hr⊢
 refine wpAny_pyIter_range hr (small_one (by decide) (by decide) (by exact Int.le_trans (by decide) (Int.natCast_nonneg _)) (Int.lt_trans (b:=1000000) (by exact zb ‹_›) (by decide))) ?_
 refine h h2.objs.size [] [h2.objs.size] hg _ _ hb1 _ (st1.trans (st2.trans (aL _ st2.stay))) (y9 ok.h) ?_ (fun b hb=>?_) (fun b hb=>by cases hb) fun g O q=>q
 ·have:=Hp.get?_push_size (o:={cls:=.type "range_iterator",data:=.fields #[rawInt 0,rawInt (Builtin.Range.rangeSize 0 k 1),rawInt 1]}) h2 rfl
  rw[rangeSize_one]at this⊢
  have e1:(if(0:Int)<k then(k:Int) - 0 else 0)=(k:Int) - (0:Nat):=by split<;>omega
  rw[e1]at this⊢
  exact this
 ·rw[List.mem_singleton.mp hb];exact Hp.StaysIn.fresh st2.stay
theorem qL{x:Str}{p q:Pos}{elts:List Ep}{k:Nat}{ds:List PyD}(hf:Ev hg n env ρ (.Name x p) (RF (RV (.type "enumerate"))))(he:Ev hg n env ρ e (RF (DV (.list ds))))
  (hn:autoParam (sE [e] env=(false,eval e env)::sE [] env) Rf):kP hg false n env ρ (.Call (.Name x p) [e] [] pos) (.Tuple elts k q) (bN ds):=fun A fr hb s Q E ok S h=>by
 refine gj hf (.type _) (cJ (R:=rF (DV (.list ds))) he ao hn) ok S (fun vs h₁ hb1 tk1 st1 r1=>?_) hn
 obtain⟨v,rfl,_,r⟩:=r1.one
 obtain⟨a,o,vs,k,bs,rfl,ho,hc,hd,hr,_⟩:=reads_list_inv r
 have ho1:=st1.stay _ _ ho
 have hl:h₁.IsList a vs:=⟨o,ho1,hc,k,hd⟩
 refine call_enumerate_list hl fun h2 hE hI hz k2=>wpAny_pyIter_enum hE ?_
 have ne:a<h₁.objs.size:=Hp.lt_size ho1
 have st2:ay h₁ hb1 h2 hb1:=⟨Hp.UpToSlots.of_keeps k2,fun O O e=>e,fun b o e=>k2 b o (st1.stay b o e),fun O O O O e=>e⟩
 refine h _ [a] [h₁.objs.size +1,h₁.objs.size] hb1 _ h2 hb1 _ (st1.trans st2) (sz ok.h (Nat.succ_ne_self _) (Nat.ne_of_lt (Nat.lt_succ_of_lt ne)) (Nat.ne_of_lt ne) ⟨bs,hr⟩) ⟨⟨_,hE⟩,hI,fU st2.up hl⟩ (fun b hb=>?_) (fun b hb=>?_) fun g q O=>q.all
 ·rcases List.mem_cons.mp hb with rfl|hb
  ·cases q:hb1.get? (h₁.objs.size +1)with
   |none=>rfl
   |some o'=>exact absurd (Hp.lt_size (st1.stay _ _ q)) (Nat.not_lt_of_le (Nat.le_succ _))
  ·rw[List.mem_singleton.mp hb];exact Hp.StaysIn.fresh st1.stay
 ·rw[List.mem_singleton.mp hb];exact⟨o,ho,fun es k q=>by rw[hd]at q;cases q⟩
inductive km(hg:Hp)(z:Bool)(n:Nat)(env:Env)(test:Ep)(body:List Stmt):Nat->LS->kR->Prop
 |next {k:Nat} {ρ ρ1:LS} {o:kR}:Tv hg n env ρ test true->Ex hg z n env ρ body (.next ρ1)->km hg z n env test body k ρ1 o->km hg z n env test body (k +1) ρ o
 |ret {k:Nat} {ρ:LS} {R:RK}:Tv hg n env ρ test true->Ex hg z n env ρ body (.ret R)->km hg z n env test body k ρ (.ret R)
theorem Aa{k:Nat}{test:Ep}{body orelse:List Stmt}(lp:km hg z n env test body k ρ o):X hg z n env ρ (.While test body orelse pos) o:=fun A fr h₀ hb₀ hb s Q E ok Rl h=>by
 have hA:A.mark none=A:=by
  obtain⟨_⟩:=A
  rfl
 refine wpAny_While ?_
 refine codeAny_whileLoop (fun k s'=>X4 fun ρ1 hb2 h2 tk2=>A4 (s'=(aA s h2 tk2)) (km hg z n env test body k ρ1 o) (co hg h₀ hb₀ hb2 h2 env fr ρ1) (jR z hb hb2)) ?_ k ⟨ρ,hb,s.heap,s.toks,rfl,lp,Rl,.refl⟩
 rintro k s' ⟨ρ1,hb2,h2,tk2,rfl,lp,R2,rst⟩
 cases lp with
 |next tv ex lp=>
  refine tv A fr hb2 (aA s h2 tk2) _ _ ok R2.s fun h3 hb3 tk3 st3=>?_
  refine ex A fr h₀ hb₀ hb3 (aA s h3 tk3) _ _ ok (R2.step st3) fun f h4 hb4 tk4 out rst4=>?_
  obtain⟨rfl,R4⟩:=out
  exact⟨_,Nat.lt_succ_self _,_,hb4,h4,tk4,rfl,lp,R4,rst.trans ((jR.of st3.sub).trans rst4)⟩
 |ret tv ex=>
  refine tv A fr hb2 (aA s h2 tk2) _ _ ok R2.s fun h3 hb3 tk3 st3=>?_
  refine ex A fr h₀ hb₀ hb3 (aA s h3 tk3) _ _ ok (R2.step st3) fun f h4 hb4 tk4 out rst4=>?_
  obtain⟨v,rfl,r⟩:=out
  exact h _ h4 hb4 tk4 ⟨v,rfl,r⟩ (rst.trans ((jR.of st3.sub).trans rst4))
end
theorem jq{kindOf:Str->Option NameKind}{x:Str}{v:Vl}(hk:kindOf x=some .local):∀{binds:List (Str×Vl)}{m:Str->Option Vl},(binds.map (·.1)).Nodup->(x,v)∈binds->bindL kindOf binds m x=some v:=by
 intro binds
 induction binds with
 |nil=>intro m _ h;cases h
 |cons p r ih=>
  obtain⟨y,u⟩:=p
  intro m nd h
  rw[List.map_cons,List.nodup_cons]at nd
  have off:∀(r:List (Str×Vl))(m:Str->Option Vl),x∉r.map (·.1)->bindL kindOf r m x=m x:=by
   intro r
   induction r with
   |nil=>intro m _;rfl
   |cons q r ih=>
    obtain⟨y',u'⟩:=q
    intro m h
    rw[List.map_cons,List.mem_cons,not_or]at h
    unfold bindL
    rw[ih _ h.2]
    split
    ·simp[h.1]
    ·rfl
  unfold bindL
  rcases List.mem_cons.mp h with h|h
  ·injection h with h1 h2;subst h1;subst h2
   rw[off _ _ nd.1,if_pos hk];simp
  ·exact ih nd.2 h
theorem jx{kindOf:Str->Option NameKind}{x:Str}{v:Vl}(hk:kindOf x≠some .local):∀{binds:List (Str×Vl)}{m:Str->Option Vl},(binds.map (·.1)).Nodup->(x,v)∈binds->bindC kindOf binds m x=some v:=by
 intro binds
 induction binds with
 |nil=>intro m _ h;cases h
 |cons p r ih=>
  obtain⟨y,u⟩:=p
  intro m nd h
  rw[List.map_cons,List.nodup_cons]at nd
  have off:∀(r:List (Str×Vl))(m:Str->Option Vl),x∉r.map (·.1)->bindC kindOf r m x=m x:=by
   intro r
   induction r with
   |nil=>intro m _;rfl
   |cons q r ih=>
    obtain⟨y',u'⟩:=q
    intro m h
    rw[List.map_cons,List.mem_cons,not_or]at h
    unfold bindC
    rw[ih _ h.2]
    split
    ·rfl
    ·simp[h.1]
  unfold bindC
  rcases List.mem_cons.mp h with h|h
  ·injection h with h1 h2;subst h1;subst h2
   rw[off _ _ nd.1,if_neg hk];simp
  ·exact ih nd.2 h
noncomputable def bz(xs:List Str)(Fs:List FP):LS:=xs.zip (Fs.map LV.fz)
theorem cq{h₀ hb h:Hp}{y:Str}{lv:LV}:∀{xs:List Str}{vs:List Vl}{Fs:List FP},bF h₀ hb h vs (Fs.map rF)->(bz xs Fs).lookup y=some lv->X2 fun F v=>A4 (lv= .fz F) ((y,v)∈xs.zip vs) (F.P hb v) (y∈xs)
 |[],_,_,_,e=>by simp[bz]at e
 |_::_,_,[],_,e=>by simp[bz]at e
 |x::xs,vs,F::Fs,al,e=>by
  cases al with
  |@cons v vs _ _ a b=>
  have e':((x,LV.fz F)::bz xs Fs).lookup y=some lv:=e
  rw[aw]at e'
  by_cases q:y=x
  ·rw[if_pos q]at e';injection e' with e';subst e';subst q
   exact⟨F,v,rfl,.head _,a,.head _⟩
  ·rw[if_neg q]at e'
   obtain⟨F',v',h1,h2,h3,h4⟩:=cq b e'
   exact⟨F',v',h1,.tail _ h2,h3,.tail _ h4⟩
theorem bF.length{h₀ hb h:Hp}:∀{vs:List Vl}{Rs:List lr},bF h₀ hb h vs Rs->vs.length=Rs.length
 :=fun x=>by
  induction x with
  |nil=>rfl
  |cons _ _ ih=>exact congrArg (·+1) ih
section
variable{z:Bool}
theorem Bp{a:Ad}{ob:Obj}{fd:FuncData}{body:List Stmt}{xs:List Str}{Fs:List FP}{R:RK}(ho:hg.get? a=some ob)(hd:ob.data= .func fd)(hlim:hg.NoLimit)(hcd:hg.CodeRec fd.code fd.qualname)
  (hbody:fd.body= .stmts body)(hbind:∀vs:List Vl,vs.length=xs.length->bindArgs fd ⟨vs,[]⟩=pure (xs.zip vs))(hlen:xs.length=Fs.length)(nd:xs.Nodup)(hclo:fd.closure=[])(hgl:fd.globals=mainGlobals)(hbl:fd.builtins=builtinsNs)
  (hx:∀L:Nat,∀x∈xs,fd.scope.names.lookup x=some .local\/(fd.scope.names.lookup x=some .cell/\((cellsFrom (L +1) fd.scope.names []).lookup x).isSome=true))
  (hex:∀L,Ex hg z n (callEnvC fd L a) (bz xs Fs) body (.ret R))
  (hco:autoParam (fd.scope.isCoroutine=false) Rf)(hgen:autoParam (fd.scope.isGenerator=false) Rf)(hk:autoParam (fd.scope.kind= .function) Rf):gO hg (n +1) (.ref a) (Fs.map rF) R:=fun A fr h₀ hb s vs Q E ok sg sb ff al h=>by
 have st:hg.StaysIn s.heap:=fun b o e=>sb b o (sg b o e)
 have hvl:vs.length=xs.length:=by rw[al.length,hlen,List.length_map]
 have hzip:(xs.zip vs).map (·.1)=xs:=by
  rw[List.map_fst_zip];exact Nat.le_of_eq (Eq.symm ‹_›)
 refine wpAny_call (codeAny_call_cells ok.room (st _ _ ho) hd (hlim.keeps st) (hcd.keeps st) hbody (hbind vs hvl) hclo (fun x hm=>hx _ x.1 ?_) (fun s₁ X=>?_) hco hgen hk)
 ·rw[<-hzip];exact List.mem_map_of_mem hm
 obtain⟨h₁,tk1,hs1,keep⟩:=X.done
 subst hs1
 generalize henv:callEnvC fd s.heap.objs.size a=env at X⊢
 have eL:env.locals=s.heap.objs.size:=by rw[<-henv];rfl
 have ek:∀x,env.kindOf x=fd.scope.names.lookup x:=fun x=>by rw[<-henv];rfl
 have esc:env.scope=fd.scope:=by rw[<-henv];rfl
 have ec:env.cells=cellsFrom (s.heap.objs.size +1) fd.scope.names []:=by rw[<-henv];rfl
 have hm:=X.toInCall.ns
 obtain⟨oL,hoL,hdL⟩:=cv hm
 have old:∀b,s.heap.objs.size<=b->hb.get? b=none/\eO s.heap b:=fun b hbz=>by
  have hn:s.heap.get? b=none:=by
   cases q:s.heap.get? b with
   |none=>rfl
   |some o=>exact absurd (Hp.lt_size q) (Nat.not_lt_of_le hbz)
  exact⟨am sb hn,.of_none hn⟩
 have sb1:hb.StaysIn h₁:=fun b o e=>keep b o (sb b o e)
 have st1:ay s.heap hb h₁ hb:=⟨Hp.UpToSlots.of_keeps keep,fun O O e=>e,sb1,fun O O O O e=>e⟩
 have ff1:h₁.FunFrames hb (env::fr):=by
  refine⟨by rw[esc,hk];decide,⟨env.locals,oL,by rw[<-henv];rfl,(old _ (by rw[eL];exact Nat.le_refl _)).1,hoL,hdL⟩,bJ st1.up (fun O O O O e=>e) ff⟩
 have Rl:co hg s.heap hb hb h₁ env (env::fr) (bz xs Fs):=by
  refine⟨⟨sg,sb1,ff1,by rw[esc];exact hk,by rw[<-henv];exact hgl,by rw[<-henv];exact hbl,fun y lv e=>?_⟩,st1,⟨⟨_,hm⟩,(old _ (by rw[eL];exact Nat.le_refl _)).1,(old _ (by rw[eL];exact Nat.le_refl _)).2⟩,
   fun y c e=>?_,fun x y c ex ey=>name_of_addr X.apart (PySem.mem_of_lookup ex) (PySem.mem_of_lookup ey),⟨_,env.locals,rfl,by rw[<-henv];rfl⟩,fun y ds e=>?_,fun y O dy O O e O O O=>?_⟩
  ·obtain⟨F,v,rfl,hm',hF,hy⟩:=cq al e
   have hnd:((xs.zip vs).map (·.1)).Nodup:=by rw[hzip];exact nd
   refine⟨v,?_,hF⟩
   rcases hx s.heap.objs.size y hy with q|⟨q,q'⟩
   ·exact .inl ⟨(ek y).trans q,_,hm,jq ((ek y).trans q) hnd hm'⟩
   ·obtain⟨c,hc⟩:=Option.isSome_iff_exists.mp q'
    have hnl:env.kindOf y≠some .local:=by rw[ek,q];decide
    refine .inr ⟨.inl ((ek y).trans q),c,by rw[ec];exact hc,?_⟩
    have:=X.cell y c (by rw[ec];exact hc)
    rw[jx hnl hnd hm']at this
    exact this
  ·have hlt:=X.above y c (PySem.mem_of_lookup e)
   have hge:s.heap.objs.size<=c:=by rw[eL]at hlt;exact Nat.le_of_lt hlt
   exact⟨⟨_,X.cell y c e⟩,(old c hge).1,(old c hge).2⟩
  ·obtain⟨F,v,q,_⟩:=cq al e
   cases q
  ·obtain⟨F,v,q,_⟩:=cq al e
   cases q
 have ok':br (A.deeper env) (env::fr) n:=⟨ok.h,by show A.depth +1 +n<_;have:=ok.d;exact o4 ‹_›,by show A.units +3 +100*n<_;have:=ok.u;exact o6 3 (by decide) ‹_›,by show A.frames.map (env::·)=_;rw[ok.f];rfl⟩
 have key:=hex s.heap.objs.size
 rw[henv]at key
 refine key (A.deeper env) (env::fr) s.heap hb hb (aA s h₁ tk1) _ _ ok' Rl fun f h' hb' tk out O=>?_
 obtain⟨v,rfl,st',r⟩:=out
 exact h v h' hb' tk st' r
end
section
variable{A:Ar}{E:VS}{s:SD}
theorem wg{prog:Program}{w:World}{k:Vl}{dep:Int}{tk:Tok}{Q:Fin->SD->Prop}(hk:k= .int dep tk)(hq:Q (.done (.ret (.bool true))) s):
  wA (model prog w) A (Builtin.«issubclass.nested» ⟨[.type "str",.type "str",k],[]⟩) Q E s:=by
 subst hk
 have h1:typeOf (.type "str")=pure (.type "type"):=by kernel_rfl
 have h2:isSubtype (.type "str") (.type "str")=pure true:=by rw[isSubtype_type];kernel_rfl
 have h3:(Vl.type "type"==Vl.type "type")=true:=by decide
 obtain⟨h,g,d,t,os⟩:=s
 repeat (any_goals (first|assumption|(rw(occs:=.all) [if_pos h3])|(rw(occs:=.all) [h1])|(rw(occs:=.all) [h2])|wp_step))
theorem iY:plainId "issubclass.nested"=true:=by decide +kernel
theorem jt:builtinKind "issubclass.nested"=none:=by decide +kernel
theorem jK(a b c:Vl):argsOk "issubclass.nested" ⟨[a,b,c],[]⟩:=by unfold argsOk;kernel_rfl
theorem li(k:Vl)(dep:Int)(tk:Tok)(hk:k= .int dep tk):Meets (Builtin.«issubclass.nested» ⟨[.type "str",.type "str",k],[]⟩) (fun O R s=>R (.ok (.ret (.bool true))) s):=
 fun pg wd A R s h=>wg hk h
theorem tG{prog:Program}{w:World}{tp:Ad}{o:Obj}{u:Vl}{xs:Array Vl}{n:Nat}{tk:Tok}{Q:Fin->SD->Prop}(ho:s.heap.get? tp=some o)(hc:o.cls= .type "tuple")(hd:o.data= .seq xs n)(hx:xs.toList=[.type "str",u])
  (hq:∀tk',Q (.done (.ret (.bool true))) {s with toks:=tk'}):wA (model prog w) A (Builtin.«issubclass.nested» ⟨[.type "str",.ref tp,.int 0 tk],[]⟩) Q E s:=by
 obtain⟨c,dd,dt,sl⟩:=o
 simp only at hc hd
 subst hc hd
 obtain⟨h,g,d,t,os⟩:=s
 have hT2:(⟨h,g,d,t,os⟩:SD).TypeIs (.ref tp) "tuple":=⟨_,ho,rfl⟩
 have f1:=F.isi_sub_tuple
 repeat (any_goals (first|assumption|wp_step))
 refine wpAny_arrayLoop ?_
 simp only[Option.getD_some]
 rw[hx,List.forIn_cons]
 refine wBi (wBi (call_function_meets jt iY F.entry_issubclass_nested (jK _ _ _) (li _ _ _ rfl) ?_))
 show wA _ _ (truthy (.bool true)>>=_) _ _ _
 refine wBi (m:=truthy (.bool true)) (wP ?_)
 refine wBi (wP (wP (wP ?_)))
 exact wP (hq t)
theorem s5{tp:Ad}{o:Obj}{u:Vl}{n:Nat}{Q:VS}(ho:s.heap.get? tp=some o)(hc:o.cls= .type "tuple")(hd:o.data= .seq #[.type "str",u] n)
  (hq:∀tk',Q (.bool true) {s with toks:=tk'}):wA MD A (call (.builtin "issubclass") [.type "str",.ref tp]) Q E s:=
 call_issubclass (S:=fun O R s=>s.heap.get? tp=some o/\∀tk',R (.ok (.ret (.bool true))) {s with toks:=tk'})
  (fun pg wd A R s h=>issubclass_outer (tG h.1 hc hd rfl h.2)) ⟨ho,hq⟩
end
section
variable{z:Bool}{ρ1:LS}{l r:Ep}{R:RK}
theorem dU{x:Str}:gO hg n (.builtin "isinstance") [rF (DV (.str x)),rF (RV (.type "bytes"))] (RF (DV (.bool false))):=fun A fr h₀ hb s vs Q E ok sg sb ff al h=>by
 obtain⟨v,u,rfl,r1,r2⟩:=al.two
 obtain⟨t,rfl⟩:=az r1
 obtain rfl:u=_:=r2
 exact IsiPair.str_bytes (h _ s.heap hb _ (.refl sb) bp)
theorem oV{x:Str}:gO hg n (.type "type") [rF (DV (.str x))] (RF (RV (.type "str"))):=fun A fr h₀ hb s vs Q E ok sg sb ff al h=>by
 obtain⟨v,rfl,r1⟩:=al.one
 obtain⟨t,rfl⟩:=az r1
 exact call_type_of (typeIs_str _ _ _) (by decide) (h _ s.heap hb _ (.refl sb) rfl)
noncomputable def PV(u v:Vl):FP:=⟨fun h x=>X3 fun a o n=>A4 (x= .ref a) (h.get? a=some o) (o.cls= .type "tuple") (o.data= .seq #[u,v] n),fun k x=>by
 obtain⟨a,o,n,rfl,ho,hc,hd⟩:=x
 exact⟨a,o,n,rfl,k a o ho (fun vs q=>by rw[hd]at q;cases q),hc,hd⟩⟩
theorem vM{u:Vl}:gO hg n (.builtin "issubclass") [rF (RV (.type "str")),rF (PV (.type "str") u)] (RF (DV (.bool true))):=fun A fr h₀ hb s vs Q E ok sg sb ff al h=>by
 obtain⟨x,y,rfl,r1,r2⟩:=al.two
 obtain rfl:x=_:=r1
 obtain⟨a,o,k,rfl,ho,hc,hd⟩:=r2
 exact s5 (sb _ _ ho) hc hd fun tk=>h _ s.heap hb _ (.refl sb) bp
theorem xZ{x y:Ep}{u v:Vl}{k:Nat}(hx:Ev hg n env ρ x (RF (RV u)))(hy:Ev hg n env ρ y (RF (RV v)))
  (hn1:autoParam (sE [x,y] env=(false,eval x env)::sE [y] env) Rf)(hn2:autoParam (sE [y] env=(false,eval y env)::sE [] env) Rf):Ev hg n env ρ (.Tuple [x,y] k pos) (RF (PV u v)):=fun A fr hb s Q E ok S h=>by
 refine wpAny_Tuple (sO hx (sO hy lw hn2) hn1 pos A fr hb s _ E ok S fun vs as h₁ hb1 tk1 st1 m=>⟨by rw[gv m];exact aE (by simp),?_⟩)
 cases m with|fz a m=>cases m with|fz b m=>cases m with|nil=>
 obtain rfl:_=u:=a
 obtain rfl:_=v:=b
 obtain⟨hb2,st2,e2⟩:=dq (h:=h₁) (hb:=hb1) {cls:=.type "tuple",data:=.seq (List.toArray [_,_])} st1.stay
 exact h _ _ hb2 _ (st1.trans st2) ⟨_,_,0,rfl,e2,rfl,rfl⟩
theorem eo{ds:List PyD}(hz:ds.length<=1000000):gO hg n (.builtin "len") [rL ds] (RF (DV (.int ds.length))):=fun A fr h₀ hb s vs Q E ok sg sb ff al h=>by
 obtain⟨v,rfl,r1⟩:=al.one
 obtain⟨a,us,bs,rfl,hl,hr⟩:=r1
 have hlen:us.size=ds.length:=by simpa using RA.length ⟨bs,hr⟩
 refine call_len_list hl (by rw[hlen];exact Int.lt_of_le_of_lt (b:=1000000) (by exact BT ‹_›) (by decide)) ?_
 rw[hlen]
 exact h _ s.heap hb _ (.refl sb) cQ
theorem zc{i:Int}:gO hg n (.type "int") [rF (DV (.int i))] (RF (DV (.int i))):=fun A fr h₀ hb s vs Q E ok sg sb ff al h=>by
 obtain⟨v,rfl,r1⟩:=al.one
 obtain⟨t,rfl⟩:=aj r1
 exact call_int_int (h _ s.heap hb _ (.refl sb) cQ)
theorem qk{ds:List PyD}(hz:ds.length<=1000000):gO hg n (.type "list") [rL ds] (RN ds):=fun A fr h₀ hb s vs Q E ok sg sb ff al h=>by
 obtain⟨v,rfl,r1⟩:=al.one
 obtain⟨a,us,bs,rfl,hl,hr⟩:=r1
 obtain⟨o,ho,hc,k,hd⟩:=id hl
 have hlen:us.size=ds.length:=by simpa using RA.length ⟨bs,hr⟩
 refine call_list_seq a (T:="list") (.inl rfl) ho hc hd (fun h' c' k' e'=>?_) (by rw[hlen];exact aE hz)
 exact h _ h' hb s.toks ⟨Hp.UpToSlots.of_keeps k',fun O O e=>e,fun b o e=>k' b o (sb b o e),fun O O O O e=>e⟩ ⟨_,us,bs,rfl,⟨_,e',rfl,rfl,c',rfl⟩,hr,Hp.StaysIn.fresh sb,bQ _⟩
end
section
open Builtin Builtin.Str
section
variable{z:Bool}{ρ1:LS}{l r:Ep}{R R1 R2:RK}
theorem ge{o:Ep}{name:Str}{pa pc:Pos}{x:Str} [di R](ho:Ev hg n env ρ o (RF (DV (.str x))))(he:Ev hg n env ρ e R1)
  (hm:∀(A:Ar)(fr:List Env)(hb:Hp)(s:SD)(t:Tok)(Q:VS)(E:VS),br A fr n->dc hg hb s.heap env fr ρ->
   (∀v h' hb' tk,ay s.heap hb h' hb'->R s.heap hb' h' v->Q v (aA s h' tk))->MethodOnS PG W0 A E name (.str x t) pc [(false,eval e env)] Q s)
  (hbase:autoParam (attributeBase o name env (eval o env)=eval o env) Rf)(hline:autoParam ((pa.endLine==pc.line)=true) Rf)(hn:autoParam (sE [e] env=(false,eval e env)::sE [] env) Rf):
  Ev hg n env ρ (.Call (.Attribute o name pa) [e] [] pc) R:=fun A fr hb s Q E ok S h=>by
 refine wpAny_Call_method_lateS hbase (by rw[hn];rfl) hline ?_
 rw[hn]
 refine ho A fr hb s _ E ok S fun v h₁ hb1 tk1 st1 r1=>?_
 obtain⟨t,rfl⟩:=az r1
 exact hm A fr hb1 (aA s h₁ tk1) t Q E ok (S.step st1) fun v h' hb' tk st r=>h v h' hb' tk (st1.trans st) (di.early st1.up r)
theorem iA{o:Ep}{pa pc:Pos}{x y:Str}(ho:Ev hg n env ρ o (RF (DV (.str x))))(he:Ev hg n env ρ e (RF (DV (.str y))))
  (hbase:autoParam (attributeBase o ("startswith":Str) env (eval o env)=eval o env) Rf)(hline:autoParam ((pa.endLine==pc.line)=true) Rf)(hn:autoParam (sE [e] env=(false,eval e env)::sE [] env) Rf):
  Ev hg n env ρ (.Call (.Attribute o ("startswith":Str) pa) [e] [] pc) (RF (DV (.bool (Txt.startswith x y)))):=
 ge (R1:=RF (DV (.str y))) ho he (fun A fr hb s t Q E ok S h=>SB.startswith (he A fr hb s _ E ok S fun v h₁ hb1 tk1 st1 r1=>by
  obtain⟨u,rfl⟩:=az r1
  exact⟨y,u,rfl,h _ h₁ hb1 tk1 st1 bp⟩)) hbase hline hn
theorem rp{o:Ep}{pa pc:Pos}{x y:Str}(ho:Ev hg n env ρ o (RF (DV (.str x))))(he:Ev hg n env ρ e (RF (DV (.str y))))
  (hbase:autoParam (attributeBase o ("endswith":Str) env (eval o env)=eval o env) Rf)(hline:autoParam ((pa.endLine==pc.line)=true) Rf)(hn:autoParam (sE [e] env=(false,eval e env)::sE [] env) Rf):
  Ev hg n env ρ (.Call (.Attribute o ("endswith":Str) pa) [e] [] pc) (RF (DV (.bool (Txt.endswith x y)))):=
 ge (R1:=RF (DV (.str y))) ho he (fun A fr hb s t Q E ok S h=>SB.endswith (he A fr hb s _ E ok S fun v h₁ hb1 tk1 st1 r1=>by
  obtain⟨u,rfl⟩:=az r1
  exact⟨y,u,rfl,h _ h₁ hb1 tk1 st1 bp⟩)) hbase hline hn
theorem xf{o:Ep}{pa pc:Pos}{x y:Str}(ho:Ev hg n env ρ o (RF (DV (.str x))))(he:Ev hg n env ρ e (RF (DV (.str y))))
  (hbase:autoParam (attributeBase o ("rfind":Str) env (eval o env)=eval o env) Rf)(hline:autoParam ((pa.endLine==pc.line)=true) Rf)(hn:autoParam (sE [e] env=(false,eval e env)::sE [] env) Rf):
  Ev hg n env ρ (.Call (.Attribute o ("rfind":Str) pa) [e] [] pc) (RF (DV (.int (Txt.rfind x y)))):=
 ge (R1:=RF (DV (.str y))) ho he (fun A fr hb s t Q E ok S h=>SB.rfind (he A fr hb s _ E ok S fun v h₁ hb1 tk1 st1 r1=>by
  obtain⟨u,rfl⟩:=az r1
  exact⟨y,u,rfl,h _ h₁ hb1 (tk1 +1) st1 cQ⟩)) hbase hline hn
theorem wI{o:Ep}{pa pc:Pos}{x y:Str}(ho:Ev hg n env ρ o (RF (DV (.str x))))(he:Ev hg n env ρ e (RF (DV (.str y))))(hz:x.length<=1000000)
  (hbase:autoParam (attributeBase o ("rstrip":Str) env (eval o env)=eval o env) Rf)(hline:autoParam ((pa.endLine==pc.line)=true) Rf)(hn:autoParam (sE [e] env=(false,eval e env)::sE [] env) Rf):
  Ev hg n env ρ (.Call (.Attribute o ("rstrip":Str) pa) [e] [] pc) (RF (DV (.str (Txt.rstripChars x y)))):=
 ge (R1:=RF (DV (.str y))) ho he (fun A fr hb s t Q E ok S h=>SB.rstripChars (hsz:=aE hz) (he A fr hb s _ E ok S fun v h₁ hb1 tk1 st1 r1=>by
  obtain⟨u,rfl⟩:=az r1
  exact⟨y,u,rfl,fun t' k=>h _ h₁ hb1 k st1 d7⟩)) hbase hline hn
theorem uP{h:Hp}:∀{l:List (Str×Tok)},RA h (strValues l) (l.map fun p=>.str p.1)
 |[]=>.nil
 |p::l=>.cons ⟨_,.str p.1 p.2⟩ (uP (l:=l))
theorem hU{h:Hp}:∀{vs:List Vl}{xs:List Str},RA h vs (xs.map .str)->∃l:List (Str×Tok),vs=strValues l/\l.map (·.1)=xs
 |vs,[],r=>⟨[],r.inv0,rfl⟩
 |vs,x::xs,r=>by
  obtain⟨v,us,rfl,r1,r2⟩:=r.inv
  obtain⟨t,rfl⟩:=az r1
  obtain⟨l,rfl,rfl⟩:=hU r2
  exact⟨(x,t)::l,rfl,rfl⟩
theorem xW{o:Ep}{pa pc:Pos}{x y:Str}(ho:Ev hg n env ρ o (RF (DV (.str x))))(he:Ev hg n env ρ e (RF (DV (.str y))))(hy:(y.length==0)=false)(hz:x.length<=1000000)(hz':(partsBetween x (occurrences x y 0 x.length (x.length +1)) y.length).length<=1000000)
  (hbase:autoParam (attributeBase o ("split":Str) env (eval o env)=eval o env) Rf)(hline:autoParam ((pa.endLine==pc.line)=true) Rf)(hn:autoParam (sE [e] env=(false,eval e env)::sE [] env) Rf):
  Ev hg n env ρ (.Call (.Attribute o ("split":Str) pa) [e] [] pc) (RN ((Txt.split x y).map .str)):=
 ge (R1:=RF (DV (.str y))) ho he (fun A fr hb s t Q E ok S h=>by
  refine⟨"str",_,F.plainAttrs_str,F.slot_str_split,F.type_str_split,typeIs_str _ _ _,(fun O e=>nomatch e),
   method1_meets F.slot_str_split F.entry_str_split (he A fr hb s _ E ok S fun v h₁ hb1 tk1 st1 r1=>?_)⟩
  obtain⟨u,rfl⟩:=az r1
  have done:∀(l:List (Str×Tok)) tk,l.map (·.1)=Txt.split x y->Q (.ref h₁.objs.size) {s with heap:=h₁.push {cls:=.type "list",data:=.seq (strValues l).toArray},toks:=tk}:=fun l tk el=>by
   obtain⟨bs,rr⟩:=uP (h:=hb1) (l:=l)
   refine h _ _ hb1 tk (st1.trans (aL _ st1.stay)) ⟨_,_,bs,rfl,⟨_,Hp.get?_push_size _ rfl,rfl,rfl,_,rfl⟩,?_,Hp.StaysIn.fresh st1.stay,(bQ _).early st1.up⟩
   rw[<-el,List.map_map];exact rr
  refine⟨typeIs_str _ _ _,F.args_str_split_2 _ _,?_⟩
  cases h1:(decide (x.length<y.length)||decide (strKind x<strKind y))
  ·cases hf:(occurrences x y 0 x.length (x.length +1)).isEmpty
   ·refine⟨_,meets_str_split_sep x y t u h1 hy hf (aE hz) (aE hz'),?_⟩
    show wants Q E _ {s with toks:=_,heap:=h₁.push {cls:=.type "list",data:=.seq (strsFrom tk1 (partsBetween x (occurrences x y 0 x.length (x.length +1)) y.length)).toArray}}
    rw[strsFrom_eq]
    exact done (PySem.numbered tk1 _) _ ((numbered_texts _ _).trans ((if_neg (ne_true_of_eq_false h1)).trans (if_neg (ne_true_of_eq_false hf))).symm)
   ·exact⟨_,meets_str_split_not_found x y t u h1 hy hf,done [(x,t)] _ ((if_neg (ne_true_of_eq_false h1)).trans (if_pos hf)).symm⟩
  ·exact⟨_,meets_str_split_cannot_occur x y t u h1,done [(x,t)] _ (if_pos h1).symm⟩) hbase hline hn
theorem zz{o:Ep}{pa pc:Pos}{x:Str}{xs:List Str}(ho:Ev hg n env ρ o (RF (DV (.str x))))(he:Ev hg n env ρ e (RL (xs.map .str)))(hok:JoinOk x xs=true)
  (hbase:autoParam (attributeBase o ("join":Str) env (eval o env)=eval o env) Rf)(hline:autoParam ((pa.endLine==pc.line)=true) Rf)(hn:autoParam (sE [e] env=(false,eval e env)::sE [] env) Rf):
  Ev hg n env ρ (.Call (.Attribute o ("join":Str) pa) [e] [] pc) (RF (DV (.str (Txt.join x xs)))):=
 ge (R1:=RL (xs.map .str)) ho he (fun A fr hb s t Q E ok S h=>SB.join (he A fr hb s _ E ok S fun v h₁ hb1 tk1 st1 r1=>by
  obtain⟨a,vs,bs,rfl,hl,hr⟩:=r1
  obtain⟨l,el,er⟩:=hU ⟨bs,hr⟩
  have ea:vs=(strValues l).toArray:=by rw[<-el]
  subst ea
  exact⟨a,l,rfl,hl,xs,er,hok,fun t' k=>h _ h₁ hb1 k st1 d7⟩)) hbase hline hn
theorem rR{x:Str}(hz:x.length<=1000000):gO hg n (.builtin "len") [rF (DV (.str x))] (RF (DV (.int x.length))):=fun A fr h₀ hb s vs Q E ok sg sb ff al h=>by
 obtain⟨v,rfl,r1⟩:=al.one
 obtain⟨t,rfl⟩:=az r1
 have:¬(x.length:Int)≥2^63:=by have:(1000000:Int)<2^63:=(by decide);omega
 exact P.len_str this (h _ s.heap hb _ (.refl sb) cQ)
noncomputable def kj(x:Str)(k:Nat):Str:=if k<1 then Str.empty else if(k==1||x.length==0)=true then x else⟨(List.replicate k x.cps).foldl (·++·) #[]⟩
theorem sP{x:Str}{k:Nat}(hz:x.length*k<=1000000)(hk:k<=1000000)(hx:x.length<=1000000):ic hg n (binaryOp .Mult) (RF (DV (.str x))) (RF (DV (.int k))) (RF (DV (.str (kj x k)))):=fun A fr h₀ h₁ hb s u v Q E O O st O rx ry h=>by
 obtain⟨t,rfl⟩:=az rx
 obtain⟨t',rfl⟩:=aj ry
 have big:(1000000:Int)<2^63:=by decide
 refine P.mul_str ?_ (fun O O=>?_) (fun O O=>?_) ?_
 ·simp only[Bool.or_eq_false_iff,decide_eq_false_iff_not];omega
 ·rename_i h1 _
  have hk1:(1:Int)<=k:=by omega
  have:(x.length:Int)<=(2^63 - 1) / k:=by
   rw[Int.le_ediv_iff_mul_le (by omega)]
   have:(x.length:Int)*k=((x.length*k:Nat):Int):=by push_cast;rfl
   rw[this];omega
  omega
 ·show decide _=false
  rw[decide_eq_false_iff_not,Int.toNat_natCast]
  exact Nat.not_lt_of_le (aE hz)
 ·unfold kj at h
  by_cases h1:k<1
  ·have h1':(k:Int)<1:=by exact zb ‹_›
   rw[if_pos h1'];rw[if_pos h1]at h
   exact⟨Nat.zero_le _,h _ s.heap hb _ (.refl st) d7⟩
  ·have h1':¬(k:Int)<1:=by omega
   rw[if_neg h1'];rw[if_neg h1]at h
   have e1:(((k:Int)==1)||x.length==0)=(k==1||x.length==0):=by
    congr 1
    rw[Bool.eq_iff_iff];simp only[beq_iff_eq];exact Dh
   rw[e1]
   by_cases h2:(k==1||x.length==0)=true
   ·rw[if_pos h2];rw[if_pos h2]at h
    exact h _ s.heap hb s.toks (.refl st) d7
   ·rw[if_neg h2];rw[if_neg h2]at h
    rw[Int.toNat_natCast]
    refine⟨?_,h _ s.heap hb _ (.refl st) d7⟩
    have len:∀(m:Nat)(a:Array Nat),((List.replicate m x.cps).foldl (·++·) a).size=a.size +m*x.cps.size:=by
     intro m
     induction m with
     |zero=>intro a;simp
     |succ m ih=>intro a;rw[List.replicate_succ,List.foldl_cons,ih,Array.size_append,Nat.succ_mul];exact EY
    show((List.replicate k x.cps).foldl (·++·) #[]).size<=_
    rw[len]
    have:k*x.cps.size=x.length*k:=Nat.mul_comm _ _
    simp only[Array.size_empty,Nat.zero_add]
    rw[this];exact aE hz
theorem jN{x y:Ep}{b c:Bool}(hx:Tv hg n env ρ x b)(hy:b=true->Tv hg n env ρ y c):Tv hg n env ρ (.BoolOp .And [x,y] pos) (b&&c):=by
 have:=jX (pos:=pos) (rQ hx fun q=>rQ (hy q) fun O=>An)
 rwa [Bool.and_true]at this
theorem pL{x y:Ep}{b c:Bool}(hx:Tv hg n env ρ x b)(hy:b=false->Tv hg n env ρ y c):Tv hg n env ρ (.BoolOp .Or [x,y] pos) (b||c):=by
 have:=jX (pos:=pos) (jg hx fun q=>jg (hy q) fun O=>y4)
 rwa [Bool.or_false]at this
theorem A1{x y v:Ep}{b c d:Bool}(hx:Tv hg n env ρ x b)(hy:b=false->Tv hg n env ρ y c)(hv:b=false->c=false->Tv hg n env ρ v d):Tv hg n env ρ (.BoolOp .Or [x,y,v] pos) (b||(c||d)):=by
 have:=jX (pos:=pos) (jg hx fun q=>jg (hy q) fun q'=>jg (hv q q') fun O=>y4)
 rwa [Bool.or_false]at this
theorem e9{d:PyD}(x:Ev hg n env ρ e (RF (DV d))):Ev hg n env ρ e (RB d):=x.weak zS
theorem d8{ds:List PyD}(x:Ev hg n env ρ e (RN ds)):Ev hg n env ρ e (RF (DV (.list ds))):=x.weak zP
theorem bL{ds:List PyD}(x:Ev hg n env ρ e (RF (DV (.list ds)))):Ev hg n env ρ e (RL ds):=x.weak zo
theorem gh{ds:List PyD}(x:Ev hg n env ρ e (RN ds)):Ev hg n env ρ e (RL ds):=x.weak zf
theorem kB{ds:List PyD}(x:Ev hg n env ρ e (RL ds)):Ev hg n env ρ e (RB (.list ds)):=x.weak zH
theorem gP{ds:List PyD}(x:Ev hg n env ρ e (RN ds)):Ev hg n env ρ e (RB (.list ds)):=x.weak zT
noncomputable def cT:LS->LS->Prop
 |[],_=>True
 |(x,l)::r,ρ=>ρ.lookup x=some l/\cT r ρ
theorem cT.at:∀{ρ' ρ:LS},cT ρ' ρ->∀y lv,ρ'.lookup y=some lv->ρ.lookup y=some lv
 |[],_,_=>fun O O e=>by cases e
 |(x,l)::r,ρ,h=>fun y lv e=>by
  rw[aw]at e
  by_cases q:y=x
  ·rw[if_pos q]at e;injection e with e;subst e;subst q;exact h.1
  ·rw[if_neg q]at e;exact cT.at h.2 y lv e
theorem ie{x y:Str}:ic hg n (compareOp .Eq) (RF (DV (.str x))) (RF (DV (.str y))) (RF (DV (.bool (x==y)))):=fun A fr h₀ h₁ hb s u v Q E O O st O rx ry h=>by
 obtain⟨t,rfl⟩:=az rx
 obtain⟨t',rfl⟩:=az ry
 exact PyProof.Rows.eq_str (h _ s.heap hb s.toks (.refl st) bp)
theorem ib{x y:Str}:ic hg n (compareOp .NotEq) (RF (DV (.str x))) (RF (DV (.str y))) (RF (DV (.bool (x !=y)))):=fun A fr h₀ h₁ hb s u v Q E O O st O rx ry h=>by
 obtain⟨t,rfl⟩:=az rx
 obtain⟨t',rfl⟩:=az ry
 exact PyProof.Rows.ne_str (h _ s.heap hb s.toks (.refl st) bp)
end
end
section
variable{z:Bool}
theorem zL{a:Ad}{ob:Obj}{fd:FuncData}{body:List Stmt}{xs:List Str}{Fs:List FP}{Rs:List lr}{R:RK} [di R](ho:hg.get? a=some ob)(hd:ob.data= .func fd)(hlim:hg.NoLimit)(hcd:hg.CodeRec fd.code fd.qualname)
  (hbody:fd.body= .stmts body)
  (hbind:∀(A:Ar)(h₀ hb:Hp)(s:SD)(vs:List Vl)(Q:List (Str×Vl)->SD->Prop)(E:VS),hb.StaysIn s.heap->bF h₀ hb s.heap vs Rs->
   (∀us h' hb' tk,ay s.heap hb h' hb'->us.length=xs.length->bF s.heap hb' h' us (Fs.map rF)->Q (xs.zip us) (aA s h' tk))->wA MD A (bindArgs fd ⟨vs,[]⟩) Q E s)
  (nd:xs.Nodup)(hclo:fd.closure=[])(hgl:fd.globals=mainGlobals)(hbl:fd.builtins=builtinsNs)
  (hx:∀L:Nat,∀x∈xs,fd.scope.names.lookup x=some .local\/(fd.scope.names.lookup x=some .cell/\((cellsFrom (L +1) fd.scope.names []).lookup x).isSome=true))
  (hex:∀L,Ex hg z n (callEnvC fd L a) (bz xs Fs) body (.ret R))
  (hco:autoParam (fd.scope.isCoroutine=false) Rf)(hgen:autoParam (fd.scope.isGenerator=false) Rf)(hk:autoParam (fd.scope.kind= .function) Rf):gO hg (n +1) (.ref a) Rs R:=fun A fr h₀ hb s0 vs0 Q E ok sg sb ff al0 h=>by
 have st0:hg.StaysIn s0.heap:=fun b o e=>sb b o (sg b o e)
 refine wpAny_call (codeAny_call_function ok.room (st0 _ _ ho) hd hco hgen hbody (hcd.keeps st0) (hbind A.in1 h₀ hb s0 vs0 _ _ sb al0 fun vs hq hbq tkq stq hvl al=>?_))
 replace h:∀v h' hb' tk,ay hq hbq h' hb'->R hq hb' h' v->Q v (aA s0 h' tk):=fun v h' hb' tk st r=>h v h' hb' tk (stq.trans st) (di.early stq.up r)
 replace sg:hg.StaysIn hbq:=fun b o e=>stq.sub b o (sg b o e)
 replace sb:hbq.StaysIn hq:=stq.stay
 replace ff:hq.FunFrames hbq fr:=stq.frames ff
 clear al0
 generalize hs:(aA s0 hq tkq)=s
 have es:s.heap=hq:=by rw[<-hs]
 have hQ:∀h' tk,(aA s0 h' tk)=(aA s h' tk):=fun h' tk=>by rw[<-hs]
 subst es
 have st:hg.StaysIn s.heap:=fun b o e=>sb b o (sg b o e)
 have hzip:(xs.zip vs).map (·.1)=xs:=by
  rw[List.map_fst_zip];exact Nat.le_of_eq (Eq.symm ‹_›)
 rw[hclo]
 refine wpAny_newFunctionEnv_cells hk (fun x hm=>hx _ x.1 ?_) fun env he s₁ X=>⟨(hlim.keeps st).keeps X.toInCall.keep,codeAny_func ?_⟩
 ·rw[<-hzip];exact List.mem_map_of_mem hm
 have henv:callEnvC fd s.heap.objs.size a=env:=by rw[he];rfl
 clear he
 obtain⟨h₁,tk1,hs1,keep⟩:=X.done
 subst hs1
 have eL:env.locals=s.heap.objs.size:=by rw[<-henv];rfl
 have ek:∀x,env.kindOf x=fd.scope.names.lookup x:=fun x=>by rw[<-henv];rfl
 have esc:env.scope=fd.scope:=by rw[<-henv];rfl
 have ec:env.cells=cellsFrom (s.heap.objs.size +1) fd.scope.names []:=by rw[<-henv];rfl
 have hm:=X.toInCall.ns
 obtain⟨oL,hoL,hdL⟩:=cv hm
 have old:∀b,s.heap.objs.size<=b->hbq.get? b=none/\eO s.heap b:=fun b hbz=>by
  have hn:s.heap.get? b=none:=by
   cases q:s.heap.get? b with
   |none=>rfl
   |some o=>exact absurd (Hp.lt_size q) (Nat.not_lt_of_le hbz)
  exact⟨am sb hn,.of_none hn⟩
 have sb1:hbq.StaysIn h₁:=fun b o e=>keep b o (sb b o e)
 have st1:ay s.heap hbq h₁ hbq:=⟨Hp.UpToSlots.of_keeps keep,fun O O e=>e,sb1,fun O O O O e=>e⟩
 have ff1:h₁.FunFrames hbq (env::fr):=by
  refine⟨by rw[esc,hk];decide,⟨env.locals,oL,by rw[<-henv];rfl,(old _ (by rw[eL];exact Nat.le_refl _)).1,hoL,hdL⟩,bJ st1.up (fun O O O O e=>e) ff⟩
 have Rl:co hg s.heap hbq hbq h₁ env (env::fr) (bz xs Fs):=by
  refine⟨⟨sg,sb1,ff1,by rw[esc];exact hk,by rw[<-henv];exact hgl,by rw[<-henv];exact hbl,fun y lv e=>?_⟩,st1,⟨⟨_,hm⟩,(old _ (by rw[eL];exact Nat.le_refl _)).1,(old _ (by rw[eL];exact Nat.le_refl _)).2⟩,
   fun y c e=>?_,fun x y c ex ey=>name_of_addr X.apart (PySem.mem_of_lookup ex) (PySem.mem_of_lookup ey),⟨_,env.locals,rfl,by rw[<-henv];rfl⟩,fun y ds e=>?_,fun y O dy O O e O O O=>?_⟩
  ·obtain⟨F,v,rfl,hm',hF,hy⟩:=cq al e
   have hnd:((xs.zip vs).map (·.1)).Nodup:=by rw[hzip];exact nd
   refine⟨v,?_,hF⟩
   rcases hx s.heap.objs.size y hy with q|⟨q,q'⟩
   ·exact .inl ⟨(ek y).trans q,_,hm,jq ((ek y).trans q) hnd hm'⟩
   ·obtain⟨c,hc⟩:=Option.isSome_iff_exists.mp q'
    have hnl:env.kindOf y≠some .local:=by rw[ek,q];decide
    refine .inr ⟨.inl ((ek y).trans q),c,by rw[ec];exact hc,?_⟩
    have:=X.cell y c (by rw[ec];exact hc)
    rw[jx hnl hnd hm']at this
    exact this
  ·have hlt:=X.above y c (PySem.mem_of_lookup e)
   have hge:s.heap.objs.size<=c:=by rw[eL]at hlt;exact Nat.le_of_lt hlt
   exact⟨⟨_,X.cell y c e⟩,(old c hge).1,(old c hge).2⟩
  ·obtain⟨F,v,q,_⟩:=cq al e
   cases q
  ·obtain⟨F,v,q,_⟩:=cq al e
   cases q
 have ok':br (A.deeper env) (env::fr) n:=⟨ok.h,by show A.depth +1 +n<_;have:=ok.d;exact o4 ‹_›,by show A.units +3 +100*n<_;have:=ok.u;exact o6 3 (by decide) ‹_›,by show A.frames.map (env::·)=_;rw[ok.f];rfl⟩
 have key:=hex s.heap.objs.size
 rw[henv]at key
 refine key (A.deeper env) (env::fr) s.heap hbq hbq (aA s h₁ tk1) _ _ ok' Rl fun f h' hb' tk out O=>?_
 obtain⟨v,rfl,st',r⟩:=out
 have:=h v h' hb' tk st' r
 rw[hQ]at this
 exact this
end
section
variable{z:Bool}{ρ1:LS}{l r:Ep}{R R1 R2:RK}{o:kR}
theorem nN{tgt:Ep}{body:List Stmt}{ds:List PyD}(k:∀y lv,ρ'.lookup y=some lv->ρ.lookup y=some lv)(x:dh hg z n env tgt body ρ' ds o):dh hg z n env tgt body ρ ds o:=by
 have up:∀{σ:LS},∀y lv,(σ ++ρ').lookup y=some lv->(σ ++ρ).lookup y=some lv:=fun{σ} y lv e=>by
  rw[cX]at e⊢
  cases q:σ.lookup y with
  |some l=>rw[q]at e;exact e
  |none=>rw[q]at e;exact k y lv e
 cases x with
 |nil h=>exact .nil fun y lv e=>k y lv (h y lv e)
 |next a b c d=>exact .next a b (dN up c) d
 |brk a b c=>exact .brk a b (dN up c)
 |ret a b c=>exact .ret a b (dN up c)
theorem vf{body:List Stmt}{h₀:ExceptHandler}{hs:List ExceptHandler}(hb:Ex hg z n env ρ body o):X hg z n env ρ (.Try body (h₀::hs) [] [] pos) o:=fun A fr h₀ hb₀ hb' s Q E ok Rl h=>
 wpAny_Try_except (hb A fr h₀ hb₀ hb' s _ _ ok Rl fun f h' hb'' tk out rst=>by
  cases f<;>first|exact h _ h' hb'' tk out rst|exact wpAny_execs_nil (h _ h' hb'' tk out rst))
end
section
variable{A:Ar}{E:VS}{s:SD}
theorem nU{fd:FuncData}{x y:Arg}{v:Vl}{us:List Vl}{Q:List (Str×Vl)->SD->Prop}(hp:fd.params={posonlyargs:=[],args:=[x],vararg:=some y,kwonlyargs:=[],kw_defaults:=[],kwarg:=none,defaults:=[]})(hd:fd.defaults= .none)
  (hz:us.length<=sizeLine)(h:Q [(x.arg,v),(y.arg,.ref s.heap.objs.size)] {s with heap:=s.heap.push {cls:=.type "tuple",data:=.seq us.toArray}}):wA MD A (bindArgs fd ⟨v::us,[]⟩) Q E s:=by
 obtain⟨hp',g,d,tk,os⟩:=s
 unfold bindArgs
 rw[hp,hd]
 wp_walk
 have hz':¬sizeLine<us.length:=Nat.not_lt.mpr hz
 dsimp only[List.map_cons,List.map_nil,List.nil_append,List.append_nil,List.length_cons,List.length_nil,List.drop_succ_cons,List.drop_zero]
 wp_walk
 simpa using h
theorem yJ{fd:FuncData}{x y:Arg}{v u:Vl}{Q:List (Str×Vl)->SD->Prop}(hp:fd.params={posonlyargs:=[],args:=[x],vararg:=some y,kwonlyargs:=[],kw_defaults:=[],kwarg:=none,defaults:=[]})(hd:fd.defaults= .none)
  (h:Q [(x.arg,v),(y.arg,.ref s.heap.objs.size)] {s with heap:=s.heap.push {cls:=.type "tuple",data:=.seq #[u]}}):wA MD A (bindArgs fd ⟨[v,u],[]⟩) Q E s:=nU (us:=[u]) hp hd (aE (by simp)) h
end
theorem gk{a b:Nat}(hb:b≠0):ic hg n (binaryOp .Mod) (RF (DV (.int (a:Nat)))) (RF (DV (.int (b:Nat)))) (RF (DV (.int ((a%b:Nat):Int)))):=by
 have:=lN (hg:=hg) (n:=n) (a:=a) (b:=b) (by omega)
 rwa [Int.fmod_eq_emod_of_nonneg _ (by exact Int.natCast_nonneg _),<-Int.natCast_emod]at this
theorem gD{a b:Nat}(hb:b≠0)(ha:a<1000000000)(hb':b<1000000000):ic hg n (binaryOp .FloorDiv) (RF (DV (.int (a:Nat)))) (RF (DV (.int (b:Nat)))) (RF (DV (.int ((a / b:Nat):Int)))):=by
 have:=tC (hg:=hg) (n:=n) (a:=a) (b:=b) (by omega) (by
  have h1:((b:Nat):Int).natAbs.log2<30:=by
   rw[Int.natAbs_natCast]
   exact(Nat.log2_lt hb).mpr (by exact Nat.lt_of_lt_of_le ‹_› (by decide))
  have h2:((b:Nat):Int).natAbs.log2 / 30=0:=by exact ES ‹_›
  unfold Builtin.divisionGoesByPylong
  simp only[h2]
  have h3:((b:Int)==0)=false:=by simp;assumption
  simp[h3])
 rwa [Int.fdiv_eq_ediv_of_nonneg _ (by exact Int.natCast_nonneg _),<-Int.natCast_ediv]at this
theorem l4{a b:Nat}:ic hg n (binaryOp .Add) (RF (DV (.int (a:Nat)))) (RF (DV (.int (b:Nat)))) (RF (DV (.int ((a +b:Nat):Int)))):=by
 have:=iW (hg:=hg) (n:=n) (a:=a) (b:=b)
 rwa [<-Int.natCast_add]at this
section
open Builtin Builtin.Str
noncomputable def AB(ks:List Str)(g:Str->Str):FP:=
 ⟨fun h v=>X2 fun a f=>A3 (v= .ref a) (h.MapOf (strKind PG W0) a f) (∀x∈ks,∃t,f x=some (.str (g x) t)),fun k x=>by
  obtain⟨a,f,rfl,⟨o,es,ep,ho,hc,hd,r⟩,hf⟩:=x
  exact⟨a,f,rfl,⟨o,es,ep,k a o ho (fun vs q=>by rw[hd]at q;cases q),hc,hd,r⟩,hf⟩⟩
theorem wC{ks:List Str}{g:Str->Str}{x:Str}(hx:x∈ks):m5 hg n (RF (AB ks g)) (RF (DV (.str x))) (RF (DV (.str (g x)))):=fun A fr h₀ h₁ hb s a b Q E ok O st O ra rb h=>by
 obtain⟨a,f,rfl,hm,hf⟩:=ra
 obtain⟨t,rfl⟩:=az rb
 obtain⟨t',ht'⟩:=hf x hx
 have hm':s.heap.MapOf (strKind PG W0) a f:=by
  obtain⟨o,es,ep,ho,r⟩:=hm
  exact⟨o,es,ep,st a o ho,r⟩
 exact⟨"dict",_,hm'.typeIs,slot_dict_getitem.lookup,wpAny_getItem_of (strKind_is PG W0 x t) hm' ht' (h _ s.heap hb _ (.refl st) d7)⟩
theorem lu(xs:List Str)(y:Str):((xs.map PyD.str).any fun d=>PyD.eqv d (.str y))=xs.any (·==y):=by
 induction xs with
 |nil=>rfl
 |cons x xs ih=>simp only[List.map_cons,List.any_cons,ih];rfl
theorem mJ(xs:List Str)(y:Str):((xs.map PyD.str).eraseP fun d=>PyD.eqv d (.str y))=(xs.erase y).map PyD.str:=by
 induction xs with
 |nil=>rfl
 |cons x xs ih=>
  rw[List.map_cons,List.eraseP_cons,List.erase_cons]
  show(bif (x==y)then _ else _)=_
  cases h:x==y with
  |true=>simp
  |false=>simp[ih]
noncomputable def z6(x:Str):Prop:=PyD.strOk x=true/\x.length<=100
theorem z6.lay{x:Str}(h:z6 x):(PyD.str x).canLay0=true:=h.1
theorem gU:∀{xs:List Str},(∀x∈xs,z6 x)->PyD.canLayAll0 (xs.map .str)=true
 |[],_=>rfl
 |x::xs,h=>by
  show((PyD.str x).canLay0&&PyD.canLayAll0 (xs.map .str))=true
  rw[(h x (.head _)).lay,gU fun y hy=>h y (.tail _ hy)];rfl
theorem w2{x:Str}{xs:List Str}(h1:z6 x)(h2:∀y∈xs,z6 y):ic hg (n +1) (compareOp .In) (RB (.str x)) (RB (.list (xs.map .str))) (RF (DV (.bool (xs.any (·==x))))):=by
 have:=BL (hg:=hg) (n:=n) (d:=.str x) (xs:=xs.map .str) h1.lay (gU h2) (by simp[PyD.depth])
 rwa [lu]at this
theorem nL{x:Str}{xs:List Str}(h1:z6 x)(h2:∀y∈xs,z6 y):ic hg (n +1) (compareOp .NotIn) (RB (.str x)) (RB (.list (xs.map .str))) (RF (DV (.bool (!xs.any (·==x))))):=by
 have:=mv (hg:=hg) (n:=n) (d:=.str x) (xs:=xs.map .str) h1.lay (gU h2) (by simp[PyD.depth])
 rwa [lu]at this
theorem sL:∀xs:List Str,PyD.depthAll (xs.map .str)=0
 |[]=>rfl
 |x::xs=>by show max 0 (PyD.depthAll (xs.map .str))=0;rw[sL xs];rfl
theorem ev{ds:List PyD}(h1:PyD.canLayAll0 ds=true)(h2:PyD.depthAll ds<=60):ic hg (n +1) (compareOp .Eq) (RB (.list ds)) (RB (.list [])) (RF (DV (.bool ds.isEmpty))):=by
 have:=Ay (hg:=hg) (n:=n) (d:=.list ds) (d':=.list []) h1 rfl (by show _ +1<=64;exact Nat.le_trans (Nat.add_le_add_right ‹_› _) (by decide))
 have e:PyD.eqv (.list ds) (.list [])=ds.isEmpty:=by cases ds<;>rfl
 rwa [e]at this
theorem jT{ds:List PyD}(h1:PyD.canLayAll0 ds=true)(h2:PyD.depthAll ds<=60):ic hg (n +1) (compareOp .NotEq) (RB (.list ds)) (RB (.list [])) (RF (DV (.bool (!ds.isEmpty)))):=by
 have:=yi (hg:=hg) (n:=n) (d:=.list ds) (d':=.list []) h1 rfl (by show _ +1<=64;exact Nat.le_trans (Nat.add_le_add_right ‹_› _) (by decide))
 have e:PyD.eqv (.list ds) (.list [])=ds.isEmpty:=by cases ds<;>rfl
 rwa [e]at this
noncomputable abbrev ah:=Bool×Str
noncomputable def bZ(d:ah):Str:=(if d.1=true then("+":Str)else("-":Str)) ++d.2
noncomputable def DD(ds:List ah):List PyD:=ds.map fun d=>.str (bZ d)
theorem lG(d:ah):(bZ d).length=d.2.length +1:=by
 unfold bZ
 rw[Str.length_append]
 cases d.1<;>exact Nat.add_comm _ _
theorem fQ(d:ah):(bZ d).cps[0]?=some (if d.1=true then 43 else 45):=by
 obtain⟨b,x⟩:=d
 cases b<;>(rw[show(bZ _).cps=#[_] ++x.cps from rfl,Array.getElem?_append];rfl)
theorem nC(m:Nat):strSliceIndices (some 1) none 1 (m +1)=(List.range m).map (·+1):=by
 unfold strSliceIndices sliceRange
 have h0:¬(1:Int)<0:=by decide
 have h1:(1:Int)>0:=by decide
 simp only[if_pos h1,if_neg h0]
 have e1:max (0:Int) (min 1 ((m +1:Nat):Int))=1:=by omega
 rw[e1]
 have e2:(if(1:Int)<((m +1:Nat):Int)then(((m +1:Nat):Int) - 1 +1 - 1) / 1 else 0).toNat=m:=by
  by_cases h:(1:Int)<((m +1:Nat):Int)
  ·rw[if_pos h,Int.ediv_one];exact Dj
  ·rw[if_neg h];omega
 rw[e2]
 apply List.map_congr_left
 intro k _
 exact FT
theorem ud(x:Array Nat)(c:Nat):((List.range x.size).map (·+1)).filterMap ((#[c] ++x)[·]?)=x.toList:=by
 have e:∀i:Nat,(#[c] ++x)[i +1]?=x.toList[i]?:=fun i=>by
  rw[Array.getElem?_append_right (by simp)]
  simp
 rw[List.filterMap_map]
 have e2:(((#[c] ++x)[·]?)∘(·+1))=fun i=>x.toList[i]?:=by funext i;exact e i
 rw[e2]
 have e3:x.size=x.toList.length:=by simp
 rw[e3]
 generalize x.toList=l
 clear e e2 e3
 induction l with
 |nil=>rfl
 |cons a l ih=>
  rw[List.length_cons,List.range_succ_eq_map,List.filterMap_cons,List.filterMap_map]
  simp only[List.getElem?_cons_zero]
  have:((fun i=>(a::l)[i]?)∘Nat.succ)=fun i=>l[i]?:=by funext i;simp
  rw[this,ih]
theorem mF(c:Nat)(x:Str):Txt.slice ⟨#[c] ++x.cps⟩ (some 1) none=x:=by
 obtain⟨x⟩:=x
 unfold Txt.slice
 have hl:(⟨#[c] ++x⟩:Str).length=x.size +1:=by show(#[c] ++x).size=_;rw[Array.size_append];exact Nat.add_comm _ _
 rw[hl,nC,if_neg (by simp),ud]
theorem eB(d:ah):Txt.slice (bZ d) (some 1) none=d.2:=by
 obtain⟨b,x⟩:=d
 cases b
 ·exact mF 45 x
 ·exact mF 43 x
theorem uA{d:ah}(h:PyD.strOk d.2=true)(h':d.2.length<=99):z6 (bZ d):=by
 refine⟨?_,by rw[lG];exact Nat.le_trans (Nat.add_le_add_right ‹_› _) (by decide)⟩
 obtain⟨b,⟨x⟩⟩:=d
 unfold PyD.strOk at h⊢
 cases b<;>(show(#[_] ++x).all _=true;rw[Array.all_append];simp only[Bool.and_eq_true];exact⟨by decide +kernel,h⟩)
end
section
variable{z:Bool}{ρ1:LS}{l r:Ep}{R R1 R2:RK}{o:kR}
theorem gZ{h₀ hb₀ h hb:Hp}(x:ay h₀ hb₀ h hb)(P:Ad->Prop)(hP:∀a,P a->eO h₀ a):∃hb',A4 (ay h₀ hb₀ h hb') (hb.StaysIn hb') (∀a,P a->hb'.get? a=h.get? a) (∀a,hb.get? a=none->¬P a->hb'.get? a=none):=by
 obtain⟨g,g1,g2⟩:=cu h fun a=>(hb.get? a).isSome=true\/P a
 have sub:hb.StaysIn g:=fun b o e=>by
  rw[g1 b (.inl (by rw[e];rfl))];exact x.stay b o e
 refine⟨g,⟨x.up,fun b o e=>sub b o (x.sub b o e),fun b o e=>?_,fun a o ha hd e=>g2 a ?_⟩,sub,fun a ha=>g1 a (.inr ha),fun a e hn=>g2 a fun q=>by
  rcases q with q|q
  ·rw[e]at q;cases q
  ·exact hn q⟩
 ·by_cases q:(hb.get? b).isSome=true\/P b
  ·rw[g1 b q]at e;exact e
  ·rw[g2 b q]at e;cases e
 ·rintro(q|q)
  ·rw[x.fresh a o ha hd e]at q;cases q
  ·obtain⟨vs,q'⟩:=hP a q o ha
   exact absurd q' (hd vs)
theorem eA{h g hb:Hp}{a:Ad}{vs:Array Vl}{ds:List PyD}(p:PL h a vs)(r:RA hb vs.toList ds)(k:hb.StaysIn g)(e:g.get? a=h.get? a):RD g (.ref a) (.list ds):=by
 obtain⟨o,ho,hc,_,n,hd⟩:=p
 obtain⟨bs,r⟩:=r.keeps k
 exact⟨_,.list (e.trans ho) hc hd r⟩
theorem ty{x y:Str}{p p' p'':Pos}{k:Nat}{ds es:List PyD}(hx:ρ.lookup x=some (.own ds))(hy:ρ.lookup y=some (.own es))(hd:autoParam ((x==("__debug__":Str))=false) Dc)(hd':autoParam ((y==("__debug__":Str))=false) Dc)
  (hn1:autoParam (sE [.Name x p,.Name y p'] env=(false,eval (.Name x p) env)::sE [.Name y p'] env) Rf)(hn2:autoParam (sE [.Name y p'] env=(false,eval (.Name y p') env)::sE [] env) Rf):
  X hg z n env ρ (.Return (some (.Tuple [.Name x p,.Name y p'] k p'')) pos) (.ret (RF (DV (.tuple [.list ds,.list es])))):=fun A fr h₀ hb₀ hb s Q E ok Rl h=>by
 obtain⟨a,vs,rx,px,qx,nx1,nx2⟩:=Rl.o x ds hx
 obtain⟨b,us,ry,py,qy,ny1,ny2⟩:=Rl.o y es hy
 refine wpAny_Return_some (wpAny_Tuple (wpAny_items_cons (he:=hn1) (cP Rl.s.k rx (wpAny_items_cons (he:=hn2) (cP Rl.s.k ry (wpAny_items_nil ⟨aE (by simp),?_⟩) hd')) hd)))
 have st1:ay s.heap hb (s.heap.push {cls:=.type "tuple",data:=.seq #[.ref a,.ref b]}) hb:=aL _ Rl.s.b
 obtain⟨g,st,sub,at',_⟩:=gZ (Rl.st.trans st1) (fun c=>c=a\/c=b\/c=s.heap.objs.size) (fun c hc=>by
  rcases hc with rfl|rfl|rfl
  ·exact nx2
  ·exact ny2
  ·exact(bQ s.heap).early Rl.st.up)
 refine h _ _ g s.toks ⟨_,rfl,st,?_⟩ (.of sub)
 obtain⟨bs,r⟩:RA g [.ref a,.ref b] [.list ds,.list es]:=.cons (eA (px.up st1.up) qx sub (at' a (.inl rfl))) (.cons (eA (py.up st1.up) qy sub (at' b (.inr (.inl rfl)))) .nil)
 exact⟨_,.tuple ((at' _ (.inr (.inr rfl))).trans (Hp.get?_push_size _ rfl)) rfl rfl r⟩
theorem oW{x y v:Str}{p p' p3 p'':Pos}{k:Nat}{ds es fs:List PyD}(hx:ρ.lookup x=some (.own ds))(hy:ρ.lookup y=some (.own es))(hv:ρ.lookup v=some (.own fs))(hd:autoParam ((x==("__debug__":Str))=false) Dc)(hd':autoParam ((y==("__debug__":Str))=false) Dc)(hd3:autoParam ((v==("__debug__":Str))=false) Dc)
  (hn1:autoParam (sE [.Name x p,.Name y p',.Name v p3] env=(false,eval (.Name x p) env)::sE [.Name y p',.Name v p3] env) Rf)(hn2:autoParam (sE [.Name y p',.Name v p3] env=(false,eval (.Name y p') env)::sE [.Name v p3] env) Rf)(hn3:autoParam (sE [.Name v p3] env=(false,eval (.Name v p3) env)::sE [] env) Rf):
  X hg z n env ρ (.Return (some (.Tuple [.Name x p,.Name y p',.Name v p3] k p'')) pos) (.ret (RF (DV (.tuple [.list ds,.list es,.list fs])))):=fun A fr h₀ hb₀ hb s Q E ok Rl h=>by
 obtain⟨a,vs,rx,px,qx,nx1,nx2⟩:=Rl.o x ds hx
 obtain⟨b,us,ry,py,qy,ny1,ny2⟩:=Rl.o y es hy
 obtain⟨c,ts,rv,pv,qv,nv1,nv2⟩:=Rl.o v fs hv
 refine wpAny_Return_some (wpAny_Tuple (wpAny_items_cons (he:=hn1) (cP Rl.s.k rx (wpAny_items_cons (he:=hn2) (cP Rl.s.k ry (wpAny_items_cons (he:=hn3) (cP Rl.s.k rv (wpAny_items_nil ⟨aE (by simp),?_⟩) hd3)) hd')) hd)))
 have st1:ay s.heap hb (s.heap.push {cls:=.type "tuple",data:=.seq #[.ref a,.ref b,.ref c]}) hb:=aL _ Rl.s.b
 obtain⟨g,st,sub,at',_⟩:=gZ (Rl.st.trans st1) (fun q=>q=a\/q=b\/q=c\/q=s.heap.objs.size) (fun q hc=>by
  rcases hc with rfl|rfl|rfl|rfl
  ·exact nx2
  ·exact ny2
  ·exact nv2
  ·exact(bQ s.heap).early Rl.st.up)
 refine h _ _ g s.toks ⟨_,rfl,st,?_⟩ (.of sub)
 obtain⟨bs,r⟩:RA g [.ref a,.ref b,.ref c] [.list ds,.list es,.list fs]:=.cons (eA (px.up st1.up) qx sub (at' a (.inl rfl))) (.cons (eA (py.up st1.up) qy sub (at' b (.inr (.inl rfl)))) (.cons (eA (pv.up st1.up) qv sub (at' c (.inr (.inr (.inl rfl))))) .nil))
 exact⟨_,.tuple ((at' _ (.inr (.inr (.inr rfl)))).trans (Hp.get?_push_size _ rfl)) rfl rfl r⟩
theorem fq{x:Str}{p pc:Pos}{elt tgt iter:Ep}{ifs:List Ep}{rest:List Comprehension}{inner:Env->Vl->Sem Unit}{scope:Scope}{cl:List (Str×Ad)}{ρc:LS}{ds out:List PyD}{item:PyD->List PyD}
  (tree:db (.ListComp elt (⟨tgt,iter,ifs,0⟩::rest) scope pc) 0 tgt ifs inner)(hsw:swapsWith (.ListComp elt (⟨tgt,iter,ifs,0⟩::rest) scope pc) (some (.Name x p)) pos.line env=pure true)
  (hit:ls hg n env ρ iter tgt ds)(hclos:closureFor scope env=pure cl)(hcap:nz env scope cl ρ ρc)
  (turn:∀C,∀d∈ds,X2 fun σ b=>cn hg n (compEnvC scope cl C env) ρc tgt ifs (inner (compEnvC scope cl C env)) d (item d) σ b)
  (hout:ds.flatMap item=out)(hz:out.length<=1000000)(kx:cM env x)(hcell:autoParam (∀y∈scope.names,y.2≠ .cell) Dc)(hkind:autoParam (scope.kind= .function) Rf)
  (hnames:autoParam (∀y∈scope.names,y.2= .local->scope.names.lookup y.1=some .local) Dc)(hs:autoParam (∀x,foldedSetIterable iter env x=pure x) If):
  X hg z n env ρ (.Assign [.Name x p] (.ListComp elt (⟨tgt,iter,ifs,0⟩::rest) scope pc) pos) (.next ((x,.fz (DV (.list out)))::ρ)):=fun A fr h₀ hb₀ hb s Q E ok Rl h=>by
 subst hout
 rw[exec_Assign_Name_used x p _ pos hsw]
 refine wBi (wpAny_standAt (wBi ?_))
 show wA _ A (do let _ <-comprehension (.ListComp elt (⟨tgt,iter,ifs,0⟩::rest) scope pc) scope env _ (newList []) false (eval iter env) (some (assign (.Name x p) env))) _ _ s
 refine wBi (wpAny_mono (mX (use:=some (assign (.Name x p) env)) (Q:=fun O s'=>Q .next s') tree hit hclos hcap hcell hkind hnames hs turn hz ok Rl.s fun C D h₁ hb1 tk1 m ys st1 d1 d1' d2 d3 hm c2 c3=>?_) (fun O s' hq=>wP (wP hq)) fun O O e=>e)
 show wA _ A (assign (.Name x p) env (.ref D)) _ _ _
 have hDC:C≠D:=(dW d1 hm).symm
 obtain⟨g,st,sub,at',off⟩:=gZ st1 (fun c=>c=D) (fun c hc=>hc▸d3)
 have c2':g.get? C=none:=off C c2 hDC
 have R1:=Rl.step st
 obtain⟨⟨ml,hml⟩,_,_⟩:=Rl.l
 obtain⟨ol,hol,hdl⟩:=cv hml
 have nl:C≠env.locals:=fun q=>by
  obtain⟨vs,e⟩:=c3 ol (q▸hol)
  exact hdl vs e
 have nc:∀y c,env.cells.lookup y=some c->C≠c:=fun y c e q=>by
  obtain⟨⟨v,hv⟩,_⟩:=Rl.c y c e
  obtain⟨oc,hoc,hdc⟩:=fT hv
  obtain⟨vs,e⟩:=c3 oc (q▸hoc)
  exact hdc vs e
 refine wpAny_assign_Name (R1.store kx (lv:=.fz (DV (.list (ds.flatMap item)))) (eA d1 d1' sub (at' D rfl)) fun h2 tk2 R2 hk O O O=>?_)
 obtain⟨Cx,hCx,k⟩:=hk
 have ne:C≠Cx:=by
  rcases hCx with rfl|e
  ·exact nl
  ·exact nc _ _ e
 obtain⟨oC,es,ep,hoC,rC⟩:=id hm
 have hm2:h2.Ns C m:=⟨oC,es,ep,k _ _ ne hoC,rC⟩
 refine⟨m,hm2,fun h3 sb=>?_⟩
 exact h .next h3 g _ ⟨rfl,R2.beside (fM c3 sb.extBut Rl.s.f R2.s.f) sb.extBut c2' (c3.early Rl.st.up) nl nc fun a vs q=>dW q hm2⟩ (.of st.sub)
end
section
open MeetsSeq SeqAt
section
variable{M:Model}{A:Ar}{E:VS}{s:SD}{base:Hp}{outer:List Env}{L e:Ad}
theorem rt{cls:String}{h:Hp}{Q:Unit->SD->Prop}(hfr:A.frames=some (env::outer))(ff:s.heap.FunFrames base (env::outer))(hf:env.frame=some L)(hkb:base.StaysIn s.heap)(hbh:base.StaysIn h)(hx:Hp.NewExc h s.heap e cls)
  (hQ:∀h' t,Hp.HeldW base (env::outer) e (.type cls) t L h'->s.heap.UpToSlots h'->Q () {s with heap:=h'}):wA M A (noteFrame (.ref e) env) Q E s:=by
 obtain⟨ob,t,he,hc,hd⟩:=hx.there
 have hen:base.get? e=none:=am hbh hx.new
 unfold noteFrame
 simp only[hf]
 refine wBi (wpAny_field he hd (x:=.none) rfl ?_)
 rw[if_neg (show¬((Vl.none !=Vl.none)=true) from by decide)]
 refine wpAny_entryW (hadNext:=(Vl.none !=Vl.none)) hfr ff hf he hkb hen hd (by simp) (a0:=t) rfl fun h' hN=>?_
 obtain⟨k1,k2,k3,k4⟩:=hN
 rw[hc]at k3
 exact hQ h' t ⟨k1,hen,k2,k3⟩ k4
theorem qa{a0 cls fl:Vl}{Q:VS}(ht:s.heap.TracedAtW base e cls a0 fl)(h:∀T:Ad,Q (.ref T) s):wA M A (field (.ref e) 1) Q E s:=by
 obtain⟨oe,vs,T,oT,ts,he,hcls,hd,h1,_⟩:=ht
 exact wpAny_field he hd h1 (h T)
theorem wL{l:List Env}{a0 cls:Vl}(hf:env.frame=some L)(hh:Hp.HeldW base l e cls a0 L s.heap)
  (hQ:∀h',Hp.HeldW base l e cls a0 L h'->s.heap.UpToSlots h'->E (.ref e) {s with heap:=h'}):cameBackBy M A env E (.ref e) s:=by
 obtain⟨f1,f2,f3,f4⟩:=hh
 unfold cameBackBy
 refine wBi (qa f4 fun T'=>?_)
 rw[if_neg (show¬((Vl.ref T'==Vl.none)=true) from by simp)]
 obtain⟨oe,vs,T,oT,ts,he,hcls,hd,h1,hnT,hTe,hT,hdT,h3⟩:=f4
 have hsz3:3<ts.size:=(Array.getElem?_eq_some_iff.mp h3).1
 have other:∀b,b≠T->(s.heap.update T (Obj.mapFields (·.setIfInBounds 3 ((some L:Option Ad).elim Vl.none fun f=>rawInt f)))).get? b=s.heap.get? b:=
  fun b hb=>Hp.get?_update_other _ _ (Ne.symm hb)
 have noRecord:∀b o,s.heap.get? b=some o->(∀vs,o.data≠ .fields vs)->b≠T:=fun b o hb hnf q=>by
  rw[q,hT]at hb;injection hb with hb;subst hb;exact hnf ts hdT
 rw[hf]
 unfold setFlight
 refine wBi (wpAny_field he hd h1 ?_)
 rw[if_pos (show(Vl.ref T !=Vl.none)=true from by simp)]
 refine wpAny_setField hT hdT hsz3 (hQ _ ⟨fun b o hbo=>(other b fun q=>by rw[q,hnT]at hbo;cases hbo).trans (f1 b o hbo),f2,
  f3.of_keeps fun b o hb hnf=>⟨o,(other b (noRecord b o hb hnf)).trans hb,rfl⟩,?_⟩ fun b o hb hnf=>⟨o.slots,(other b (noRecord b o hb hnf)).trans hb⟩)
 exact⟨oe,vs,T,_,_,(other e (Ne.symm hTe)).trans he,hcls,hd,h1,hnT,hTe,Hp.get?_update_self _ hT (Obj.isFreed_of_fields (Obj.data_mapFields hdT _)),Obj.data_mapFields hdT _,by simp[hsz3]⟩
end
section
variable{z:Bool}{ρ1:LS}{l r:Ep}{R R1 R2:RK}{o:kR}
theorem uT{K:Frag}(G:Gr K hg){A:Ar}{s:SD}{Q:VS}{E:VS}{x:Str}{v:Vl}(e:nsIn K mainGlobals x=some none)(hv:bootBuiltins x=some v)(hx:env.kindOf x=some .globalImplicit)(hn:x≠"__name__")
  (st:hg.StaysIn s.heap)(hk:env.scope.kind= .function)(gl:env.globals=mainGlobals)(bl:env.builtins=builtinsNs)(h:Q v s)(hd:autoParam ((x==("__debug__":Str))=false) Dc):wA MD A (eval (.Name x pos) env) Q E s:=by
 obtain⟨X,p,loose,mean,mg,mb,T⟩:=G
 exact Name_function_global hk hx (loadGlobal_builtin (by rw[gl];exact T.g.keeps st) (mg_none_of X T.g e) (by rw[bl];exact T.b.keeps st) ((T.builtins x hn).trans hv) h) hd
noncomputable def El(hg:Hp)(z:Bool)(n:Nat)(env:Env)(cls:String)(ρ:LS)(ss:List Stmt):Prop:=
 ∀(A:Ar)(fr:List Env)(h₀ hb₀ hb:Hp)(s:SD)(Q:Flow->SD->Prop)(E:VS),br A fr n->co hg h₀ hb₀ hb s.heap env fr ρ->
  (∀h' hb' h'' tk e,co hg h₀ hb₀ hb' h' env fr ρ->jR z hb hb'->Hp.NewExc h' h'' e cls->E (.ref e) (aA s h'' tk))->wA MD A (execs ss env) Q E s
inductive mW(hg:Hp)(z:Bool)(n:Nat)(env:Env)(cls:String)(tgt:Ep)(body:List Stmt):LS->List PyD->Prop
 |here {ρ σ:LS} {d:PyD} {ds:List PyD}:Bd tgt d σ->(∀x∈σ.map (·.1),cM env x)->El hg z n env cls (σ ++ρ) body->mW hg z n env cls tgt body ρ (d::ds)
 |next {ρ ρ1 σ:LS} {d:PyD} {ds:List PyD}:Bd tgt d σ->(∀x∈σ.map (·.1),cM env x)->Ex hg z n env (σ ++ρ) body (.next ρ1)->mW hg z n env cls tgt body ρ1 ds->mW hg z n env cls tgt body ρ (d::ds)
noncomputable def Du(z:Bool)(hg h₀ hb₀ hb:Hp)(fr:List Env)(L:Ad)(cls:String)(E:VS)(s:SD):Prop:=
 ∀hb' h' tk e t,hg.StaysIn hb'->jR z hb hb'->ay h₀ hb₀ h' hb'->Hp.HeldW hb' fr e (.type cls) t L h'->E (.ref e) (aA s h' tk)
theorem vz{cls:String}{tgt iter:Ep}{body:List Stmt}{ds:List PyD}(hit:kP hg z n env ρ iter tgt ds)(lp:mW hg z n env cls tgt body ρ ds){A:Ar}{fr:List Env}{L:Ad}{h₀ hb₀ hb:Hp}{s:SD}{Q:Flow->SD->Prop}{E:VS}
  (ok:br A (env::fr) n)(hf:env.frame=some L)(Rl:co hg h₀ hb₀ hb s.heap env (env::fr) ρ)(hE:Du z hg h₀ hb₀ hb (env::fr) L cls E s)(hs:autoParam (∀x,foldedSetIterable iter env x=pure x) If):wA MD A (exec (.For tgt iter body [] pos) env) Q E s:=by
 rw[exec_For]
 have hA:A.mark none=A:=by
  obtain⟨_⟩:=A
  rfl
 refine wBi (wpAny_standAt (wBi (wpAny_mono (hit A (env::fr) hb s (fun it s₁=>codeAny MD A (.forLoop tgt it body [] env) (fun r s'=>match r with| .ok f=>Q f s'| .error e=>cameBackBy MD A env E e s') s₁) E ok Rl.s
  fun I fp wr hbI St h₁ hb1 tk1 st1 IT S0 hw hfp hI=>?_) (fun x s₁ h₁=>wBi (wpAny_of_eq (hs x) (wBi (wpAny_standAt (wBi (wpAny_holding (wpAny_mono h₁ (fun it s₂ h2=>wpAny_runOwn (by rw[hA];exact h2)) fun O O q=>q))))))) fun O O q=>q)))
 refine codeAny_forLoop_any (fun k s'=>X5 fun i ρ1 hb2 h2 tk2=>A8 (s'=(aA s h2 tk2)) (k=ds.length - i) (i<=ds.length) (mW hg z n env cls tgt body ρ1 (ds.drop i)) (co hg h₀ hb₀ hb2 h2 env (env::fr) ρ1) (St i h2) (jR z hb1 hb2) (∀b∈wr,hb2.get? b=none))
  ?_ ds.length ⟨0,ρ,hb1,h₁,tk1,rfl,rfl,Nat.zero_le _,lp,Rl.step st1,S0,.refl,hw⟩
 rintro k s' ⟨i,ρ1,hb2,h2,tk2,rfl,rfl,hi,lp,R2,Si,rst,hw2⟩
 cases hd:ds[i]? with
 |none=>
  have e:i=ds.length:=Nat.le_antisymm hi (List.getElem?_eq_none_iff.mp hd)
  subst e
  rw[List.drop_length]at lp
  cases lp
 |some d=>
  have hlt:i<ds.length:=(List.getElem?_eq_some_iff.mp hd).1
  have hdrop:ds.drop i=d::ds.drop (i +1):=by
   rw[List.drop_eq_getElem_cons hlt]
   rw[List.getElem?_eq_getElem hlt]at hd
   injection hd with hd;rw[hd]
  rw[hdrop]at lp
  have gI:=hI hb2 rst R2.s.g
  have begin:∀{σ:LS},Bd tgt d σ->(∀x∈σ.map (·.1),cM env x)->
    ∀(N:Unit->SD->Prop)(E':VS),(∀h4 tk4 hbF,co hg h₀ hb₀ hbF h4 env (env::fr) (σ ++ρ1)->hb2.StaysIn hbF->(∃h3,A3 (St (i +1) h3) (∀b∈wr,∃o,h3.get? b=some o/\hbF.get? b=some o/\∃vs,o.data= .fields vs) (∀b∈fp,∃o,hbF.get? b=some o/\h3.get? b=some o/\∀es k,o.data≠ .dict es k))->N () (aA s h4 tk4))->
    wA MD A (pyNext (.ref I)) (fun r s₁=>∃v,r=some v/\wA MD A (letOwnedTupleGo tgt (.ref I) v) (fun O s1'=>
     wA MD A (assign tgt env v) N E' s1') E' s₁) E' (aA s h2 tk2):=by
   intro σ bd kx N E' hN
   refine IT.next i d hb2 _ (fun v s1'=>wA MD A (assign tgt env v) N E' s1') _ hd Si gI R2.s.b hw2 fun v h3 hb3 tk3 st3 k3 hw3 rd S3=>?_
   have R3:=R2.step st3
   obtain⟨hbF,sF,wF,_⟩:=iV (h:=h3) (hb:=hb3) (h':=h3) (.refl _) R3.s.b (fun b=>b∈wr) fun b hb o e=>by
    obtain⟨o',vs,e',d'⟩:=IT.fld _ _ S3 b hb
    rw[e]at e';injection e' with e';subst e'
    exact⟨vs,d'⟩
   have RF:=R3.step sF
   refine pJ ok.h bd kx (s:=(aA s h3 tk3)) RF (rd.keeps sF.sub) fun h4 tk4 R4=>?_
   refine hN h4 tk4 hbF R4 (fun b o e=>sF.sub b o (st3.sub b o e)) ⟨h3,S3,fun b hb=>?_,fun b hb=>?_⟩
   ·obtain⟨o',vs,e',d'⟩:=IT.fld _ _ S3 b hb
    exact⟨o',e',by rw[wF b hb];exact e',vs,d'⟩
   ·obtain⟨of,hof,nd⟩:=hfp b hb
    have e2:=rst b of hof fun O=>nd
    have e3:=st3.sub b of e2
    exact⟨of,sF.sub b of e3,st3.stay b of e3,nd⟩
  have fin:∀{Z:SD->Prop}(N:Unit->SD->Prop)(E':VS),wA MD A (pyNext (.ref I)) (fun r s₁=>∃v,r=some v/\wA MD A (letOwnedTupleGo tgt (.ref I) v) (fun O s1'=>
     wA MD A (assign tgt env v) N E' s1') E' s₁) E' (aA s h2 tk2)->
    wA MD A (pyNext (.ref I)) (fun r s₁=>match r with
     |none=>Z s₁
     |some v=>wA MD A (letOwnedTupleGo tgt (.ref I) v) (fun O s1'=>wA MD A (assign tgt env v) N E' s1') E' s₁) E' (aA s h2 tk2):=fun N E' q=>
   wpAny_mono q (fun r s₁ hr=>by obtain⟨v,rfl,hr⟩:=hr;exact hr) fun O O q=>q
  cases lp with
  |next bd kx ex lp'=>
   refine fin _ _ (begin bd kx _ _ fun h4 tk4 hbF R4 sub4 more=>?_)
   refine ex A (env::fr) h₀ hb₀ hbF (aA s h4 tk4) _ _ ok R4 fun f h5 hb5 tk5 out rst5=>?_
   obtain⟨rfl,R5⟩:=out
   obtain⟨h3,S3,wr3,fp3⟩:=more
   have wr5:∀b∈wr,∀o,h3.get? b=some o->hb5.get? b=some o:=fun b hb o e=>by
    obtain⟨o',e',eF,vs,d'⟩:=wr3 b hb
    rw[e]at e';injection e' with e';subst e'
    exact rst5 b o eF fun O es k q=>by rw[d']at q;cases q
   have S5:St (i +1) h5:=IT.frame _ _ _ S3 (fun b hb o e O=>by
    obtain⟨o',eF,e',nd⟩:=fp3 b hb
    rw[e]at e';injection e' with e';subst e'
    exact⟨o.slots,R5.s.b b o (rst5 b o eF fun O=>nd)⟩) fun b hb o e=>R5.s.b b o (wr5 b hb o e)
   obtain⟨g,g1,g2,g3,g4⟩:=fR wr (IT.fld _ _ S5) R5.s.b
   have keepg:∀b o,hb5.get? b=some o->b∉wr->g.get? b=some o:=fun b o e q=>by rw[g4 b q];exact e
   have notwr:∀{x:Hp}{b:Ad}{o:Obj},x.StaysIn hb2->x.get? b=some o->b∉wr:=fun{x b o} sx e q=>by
    have:=hw2 b q
    rw[sx b o e]at this;cases this
   refine⟨ds.length - (i +1),by exact Nat.sub_succ_lt_self _ _ ‹_›,i +1,_,g,h5,tk5,rfl,rfl,hlt,lp',R5.unfreeze g1 g2 (fun b o e=>keepg b o (R5.s.g b o e) (notwr R2.s.g e)) (fun b o e=>keepg b o (R5.st.sub b o e) (notwr R2.st.sub e)),S5,?_,g3⟩
   exact rst.trans fun b o e q=>keepg b o (rst5 b o (sub4 b o e) q) (notwr (fun O O e=>e) e)
  |here bd kx ex=>
   refine fin _ _ (begin bd kx _ _ fun h4 tk4 hbF R4 sub4 more=>?_)
   refine ex A (env::fr) h₀ hb₀ hbF (aA s h4 tk4) _ _ ok R4 fun h' hb' h'' tk e R' rst' hx=>?_
   have keep:h'.UpToSlots h'':=Hp.UpToSlots.of_keeps hx.keeps
   refine rt (base:=hb') (h:=h') ok.f (bJ keep (fun O O O O q=>q) R'.s.f) hf (fun b o q=>hx.keeps b o (R'.s.b b o q)) R'.s.b hx fun h6 t held up6=>?_
   refine wL hf held fun h7 held7 up7=>?_
   have upA:=keep.trans (up6.trans up7)
   exact hE hb' h7 tk e t R'.s.g ((jR.of st1.sub).trans (rst.trans ((jR.of sub4).trans rst'))) ⟨R'.st.up.trans upA,R'.st.sub,held7.1,R'.st.fresh⟩ held7
theorem qX{K:Frag}(G:Gr K hg){cls:String}{x:Str}{tgt iter:Ep}{body:List Stmt}{ds:List PyD}{b:Bool}{np p1 p2 pf ph:Pos}{hs:List ExceptHandler}(hit:kP hg z n env ρ iter tgt ds)(lp:mW hg z n env cls tgt body ρ ds)
  (hexc:isSubtype (.type cls) (.type "BaseException")=pure true)(hnt:isSubtype (.type ((Manifest.find? cls).elim "type" fun y=>y.metatype)) (.type "tuple")=pure false)(hsub:isSubtype (.type cls) (.type cls)=pure true)
  (e1:nsIn K mainGlobals x=some none)(e2:bootBuiltins x=some (.type cls))(e3:env.kindOf x=some .globalImplicit)(e4:x≠"__name__")(e5:(x==("__debug__":Str))=false)(hs':autoParam (∀x,foldedSetIterable iter env x=pure x) If):
  X hg z n env ρ (.Try [.For tgt iter body [] pf] (.ExceptHandler (some (.Name x np)) none [.Return (some (.Constant (.bool b) 0 p1)) p2] ph::hs) [] [] pos) (.ret (RF (DV (.bool b)))):=fun A fr h₀ hb₀ hb s Q E ok Rl h=>by
 obtain⟨fr',L,rfl,hf⟩:=Rl.hd
 refine wpAny_Try_except (wpAny_execs_cons (vz hit lp ok hf Rl ?_ hs'))
 intro hb' h' tk e t gg rst st held
 refine wpAny_noteFrame_againW hf held.2.2.2 ?_
 refine wpAny_landsW held fun h2 fl2 up2=>?_
 obtain⟨ob,hob,hobc⟩:=fl2.there
 refine wpAny_handleBy_builtin (X:=cls) (T:=cls) (b:=true) hexc hnt hsub ?_
 refine uT G e1 e2 e3 e4 (fun b o q=>fl2.1 b o (gg b o q)) Rl.s.k Rl.s.gl Rl.s.bl ⟨rfl,⟨ob,hob,hobc⟩,?_⟩ e5
 simp only[if_true]
 refine lands_againW fl2 fun h3 fl3 up3=>?_
 have st3:ay h₀ hb₀ h3 hb':=⟨st.up.trans (up2.trans up3),st.sub,fl3.1,st.fresh⟩
 exact wpAny_execs_cons (wpAny_Return_some (wpAny_Constant_bool (h _ h3 hb' tk ⟨_,rfl,st3,bp⟩ rst)))
theorem rj{ds:List PyD}(he:Ev hg n env ρ e (RL ds))(hz:ds.length<=1000000):Ev hg n env ρ (.UnaryOp .Not e pos) (RF (DV (.bool ds.isEmpty))):=fun A fr hb s Q E ok S h=>
 wpAny_UnaryOp (he A fr hb s _ E ok S fun v h₁ hb1 tk1 st1 r1=>by
  obtain⟨a,vs,bs,rfl,hl,hr⟩:=r1
  have hlen:vs.size=ds.length:=by simpa using RA.length ⟨bs,hr⟩
  show wA _ _ (holding [.ref a] _) _ _ _
  refine wpAny_holding ?_
  refine wBi (wpAny_truthy_list (s:=(aA s h₁ tk1)) hl (by rw[hlen];exact Int.lt_of_le_of_lt (b:=1000000) (by exact BT ‹_›) (by decide)) (wP ?_))
  have e1:(!(!vs.isEmpty))=ds.isEmpty:=by
   rw[Bool.not_not,Bool.eq_iff_iff]
   simp only[Array.isEmpty_iff_size_eq_zero,List.isEmpty_iff_length_eq_zero,hlen]
  rw[e1]
  exact h _ h₁ hb1 _ st1 bp)
theorem tB{x:Str}{p pa pc:Pos}{ds:List PyD}{d:PyD}{ss:List Stmt}(hx:ρ.lookup x=some (.own ds))(he:Ev hg (n +1) env ρ e (RF (DV d)))(h1:PyD.canLayAll0 ds=true)(h2:d.canLay0=true)(h3:d.depth<=64)(hz:ds.length<=1000000)(hit:(ds.any fun y=>PyD.eqv y d)=false)
  (hbase:autoParam (attributeBase (.Name x p) ("remove":Str) env (eval (.Name x p) env)=eval (.Name x p) env) Rf)(hline:autoParam ((pa.endLine==pc.line)=true) Rf)
  (hn:autoParam (sE [e] env=(false,eval e env)::sE [] env) Rf)(hd:autoParam ((x==("__debug__":Str))=false) Dc)(hi:autoParam (interactive env=false) Rf)
  (hs:autoParam (swapsWith (.Call (.Attribute (.Name x p) ("remove":Str) pa) [e] [] pc) none pos.line env=pure false) Rf):
  El hg z (n +1) env "ValueError" ρ (.Expr (.Call (.Attribute (.Name x p) ("remove":Str) pa) [e] [] pc) pos::ss):=fun A fr h₀ hb₀ hb s Q E ok Rl h=>by
 refine wpAny_execs_cons (wpAny_Expr (hi:=hi) (hs:=hs) (iZ hx he F.slot_list_remove F.type_list_remove ok Rl (fun a vs v h' hb' tk st R' rd pl ra n1 n2 rv=>?_) hbase hline hn hd))
 have hT:=pl.isList.typeIs (s:=(aA s h' tk))
 obtain⟨⟨cls,dd,data,sl⟩,ho,hc,hq,k,hdt⟩:=id pl
 simp only at hc hdt
 subst hc hdt
 have hlen:vs.size=ds.length:=by simpa using ra.length
 have hno:∀m,m<vs.size->PyD.eqv (ds.getD m .none) d=false:=fun m hm=>by
  rw[hlen]at hm
  rw[List.getD_eq_getElem?_getD,List.getElem?_eq_getElem hm]
  exact(List.any_eq_false.mp hit) _ (List.getElem_mem hm)|>(by simpa using·)
 refine call_meets F.slot_list_remove hT F.entry_list_remove (F.args_list_remove_2 _ _) (iy a vs k dd sl v (fun m=>PyD.eqv (ds.getD m .none) d) hno) ⟨ho,fun m hm=>?_,ok.h,fun h'' tk' e hx=>?_⟩
 ·have:=ri (A:=A) (s:=(aA s h' tk)) rfl (ra.keeps st.stay) (rv.keeps st.stay) h1 h2 h3 (by have:=ok.u;exact o5 ‹_›) m (by simpa using hm)
  simpa using this
 ·exact h h' hb' h'' tk' e R' (.of st.sub) hx
end
end
section
structure Fn(K:Frag)(a:Ad) where
 o:Obj
 fd:FuncData
 body:List Stmt
 h1:K.lookup a=some o
 h2:o.data= .func fd
 h3:codeIn K fd.code fd.qualname=true
 h4:fd.body= .stmts body
theorem gM{hg:Hp}{z:Bool}{n:Nat}{K:Frag}(G:Gr K hg){a:Ad}(f:Fn K a)(xs:List Str)(Fs:List FP)(R:RK)
  (hbind:∀vs:List Vl,vs.length=xs.length->bindArgs f.fd ⟨vs,[]⟩=pure (xs.zip vs))(hx:∀L:Nat,∀x∈xs,f.fd.scope.names.lookup x=some .local\/(f.fd.scope.names.lookup x=some .cell/\((cellsFrom (L +1) f.fd.scope.names []).lookup x).isSome=true))
  (hex:∀L,Ex hg z n (callEnvC f.fd L a) (bz xs Fs) f.body (.ret R))
  (hlen:autoParam (xs.length=Fs.length) Rf)(nd:autoParam (xs.Nodup) Dc)(h5:autoParam (f.fd.closure=[]) Rf)(h6:autoParam (f.fd.globals=mainGlobals) Rf)(h7:autoParam (f.fd.builtins=builtinsNs) Rf)
  (hco:autoParam (f.fd.scope.isCoroutine=false) Rf)(hgen:autoParam (f.fd.scope.isGenerator=false) Rf)(hk:autoParam (f.fd.scope.kind= .function) Rf):
  gO hg (n +1) (.ref a) (Fs.map rF) R:=by
 obtain⟨X,pp,loose,mean,mg,mb,T⟩:=id G
 exact Bp (X a _ f.h1) f.h2 T.nolimit (codeRec_of X f.h3) f.h4 hbind hlen nd h5 h6 h7 hx hex hco hgen hk
theorem bc{hg:Hp}{K:Frag}(G:Gr K hg){a:Ad}(f:Fn K a):ft hg (.ref a):=.fn (G.1 a _ f.h1) f.h2
local macro_rules | `(tactic| trivial) => `(tactic| exact ⟨⟨_, _, _, _⟩, ⟨_, _, _, _, _, _, _, _, _, _, _, _, _, _, _⟩, _, rfl, rfl, rfl, rfl⟩)
noncomputable def wR:Fn KZ 214:=by trivial
noncomputable def w4:Fn KZ 228:=by trivial
noncomputable def ll:Fn KZ 235:=by trivial
noncomputable def zw:Fn KZ 242:=by trivial
noncomputable def ir:Fn KZ 247:=by trivial
noncomputable def nv:Fn KZ 254:=by trivial
noncomputable def m7:Fn KZ 261:=by trivial
noncomputable def tM:Fn KZ 268:=by trivial
noncomputable def ln:Fn KZ 273:=by trivial
noncomputable def jf:Fn KZ 278:=by trivial
noncomputable def rP:Fn KZ 283:=by trivial
noncomputable def wv:Fn KZ 290:=by trivial
noncomputable def bG:Fn KZ 295:=by trivial
noncomputable def mT:Fn KZ 300:=by trivial
noncomputable def dH:Fn KZ 305:=by trivial
noncomputable def xk:Fn KZ 73:=by trivial
noncomputable def CV:Fn KZ 80:=by trivial
noncomputable def Cn:Fn KZ 87:=by trivial
noncomputable def vb:Fn KZ 92:=by trivial
noncomputable def B1:Fn KZ 99:=by trivial
noncomputable def rH:Fn KZ 120:=by trivial
noncomputable def lP:Fn KZ 127:=by trivial
noncomputable def Eo:Fn KZ 36:=by trivial
noncomputable def bw:List Stmt->Nat->Stmt
 |[],_=>.Pass ⟨0,0,0,0⟩
 |s::_,0=>s
 |_::r,i +1=>bw r i
noncomputable def dC:Stmt->Ep
 | .For t _ _ _ _=>t
 | .While t _ _ _=>t
 |_=>.Tuple [] 0 ⟨0,0,0,0⟩
noncomputable def bb:Stmt->List Stmt
 | .For _ _ b _ _=>b
 | .While _ b _ _=>b
 | .Try b _ _ _ _=>b
 | .If _ b _ _=>b
 |_=>[]
end
local macro_rules | `(tactic| trivial) => `(tactic| exact ck (by assumption) rfl rfl)
local macro_rules | `(tactic| trivial) => `(tactic| exact bg (by assumption) rfl rfl rfl (by decide))
local macro_rules | `(tactic| trivial) => `(tactic| exact dP)
local macro_rules | `(tactic| trivial) => `(tactic| exact du)
local macro_rules | `(tactic| trivial) => `(tactic| exact aJ)
local macro_rules | `(tactic| trivial) => `(tactic| exact b8 rfl)
local macro_rules | `(tactic| trivial) => `(tactic| exact aa rfl)
section
variable{z:Bool}
theorem sS(G:Gr KZ hg)(L:Nat)(x:Str):Ex hg z (n +1) (callEnvC w4.fd L 228) [("path",.fz (DV (.str x)))] w4.body (.ret (RF (DV (.str "/")))):=by
 refine aY (fv (b:=false) ?_ ?_ ?_) rfl
 ·refine cw (aB (by trivial) (.builtin _) (bu ?_ (bu ?_ ao)) (dU (x:=x)))
  ·exact aa rfl
  ·trivial
 ·intro h;cases h
 ·intro _
  exact aY (jI du) rfl
theorem kI(G:Gr KZ hg)(x:Str):gO hg (n +2) (.ref 228) [rF (DV (.str x))] (RF (DV (.str "/"))):=by
 refine gM (z:=false) G w4 ["path"] [DV (.str x)] _ ?_ ?_ fun L=>sS G L x
 ·intro vs h
  obtain⟨_,rfl⟩:=jG h;rfl
 ·exact fun L=>cG (.inl rfl)
theorem vQ(G:Gr KZ hg)(L:Nat)(x:Str):Ex hg z (n +1) (callEnvC wR.fd L 214) [("path",.fz (DV (.str x)))] wR.body (.ret (RF (DV (.str x)))):=by
 refine ac (bS (F:=RV (.type "str")) (aB (by trivial) (.type _) (bu ?_ ao) (oV (x:=x))) (.inl rfl)) ?_
 ·trivial
 refine aY (fv (b:=true) ?_ ?_ ?_) rfl
 ·refine cw (aB (by trivial) (.builtin _) (bu ?_ (bu (xZ ?_ ?_) ao)) (vM (u:=.type "bytes")))
  ·trivial
  ·trivial
  ·trivial
 ·intro _
  refine aY (jI ?_) rfl
  trivial
 ·intro h;cases h
theorem gC(G:Gr KZ hg)(x:Str):gO hg (n +2) (.ref 214) [rF (DV (.str x))] (RF (DV (.str x))):=by
 refine gM (z:=false) G wR ["path"] [DV (.str x)] _ ?_ ?_ fun L=>vQ G L x
 ·intro vs h
  obtain⟨_,rfl⟩:=jG h;rfl
 ·exact fun L=>cG (.inl rfl)
noncomputable def bR(x:Str):Str:=
 if((Txt.slice x none (some (Txt.rfind x "/" +1))).length !=0&&(Txt.slice x none (some (Txt.rfind x "/" +1)) !=kj "/" (Txt.slice x none (some (Txt.rfind x "/" +1))).length))=true
 then Txt.rstripChars (Txt.slice x none (some (Txt.rfind x "/" +1))) "/" else Txt.slice x none (some (Txt.rfind x "/" +1))
theorem s6(G:Gr KZ hg)(L:Nat)(x:Str)(hx:x.length<=1000):Ex hg z (n +3) (callEnvC zw.fd L 242) [("p",.fz (DV (.str x)))] zw.body (.ret (RF (DV (.str (bR x))))):=by
 refine ac (bS (F:=DV (.str x)) (aB (by trivial) (bc G wR) (bu ?_ ao) (gC G x)) (.inl rfl)) ?_
 ·trivial
 refine ac (bS (F:=DV (.str "/")) (aB (by trivial) (bc G w4) (bu ?_ ao) (kI G x)) (.inl rfl)) ?_
 ·trivial
 refine ac (bS (F:=DV (.int (Txt.rfind x "/" +1))) (bO (xf ?_ ?_) aJ iW) (.inl rfl)) ?_
 ·trivial
 ·trivial
 generalize hi:Txt.rfind x "/" +1=i
 refine ac (bS (F:=DV (.str (Txt.slice x none (some i)))) (bq ?_ (cY bU (c9 ?_) bU) (fF (by exact Nat.le_trans ‹_› (by decide)))) (.inl rfl)) ?_
 ·trivial
 ·trivial
 generalize hh:Txt.slice x none (some i)=head
 have hl:head.length<=1000:=by rw[<-hh];exact Nat.le_trans (Txt.slice_le x _ _) hx
 have hdir:bR x=if(head.length !=0&&(head !=kj "/" head.length))=true then Txt.rstripChars head "/" else head:=by unfold bR;rw[hi,hh]
 rw[hdir]
 refine ac (ρ1:=[("head",.fz (DV (.str (if(head.length !=0&&(head !=kj "/" head.length))=true then Txt.rstripChars head "/" else head))))]) (fv (b:=head.length !=0&&(head !=kj "/" head.length)) ?_ ?_ ?_) ?_
 ·refine jN (ug (by trivial) (by exact Nat.le_trans ‹_› (by decide))) fun O=>aX (by trivial) (bO (by trivial) (aB (by trivial) (.builtin _) (bu ?_ ao) (rR (x:=head) (by exact Nat.le_trans ‹_› (by decide)))) (sP (x:="/") ?_ (by exact Nat.le_trans ‹_› (by decide)) (by decide))) ib
  ·trivial
  ·show 1*head.length<=_;omega
 ·intro hb
  rw[if_pos hb]
  refine ac (bS (F:=DV (.str (Txt.rstripChars head "/"))) (wI ?_ ?_ (by exact Nat.le_trans ‹_› (by decide))) (.inl rfl)) (aQ (cT.at ⟨rfl,trivial⟩))
  ·trivial
  ·trivial
 ·intro hb
  rw[if_neg (by rw[hb];decide)]
  exact aQ (cT.at ⟨rfl,trivial⟩)
 ·exact aY (jI (by trivial)) rfl
theorem rB(G:Gr KZ hg)(x:Str)(hx:x.length<=1000):gO hg (n +4) (.ref 242) [rF (DV (.str x))] (RF (DV (.str (bR x)))):=by
 refine gM (z:=false) G zw ["p"] [DV (.str x)] _ ?_ ?_ fun L=>s6 G L x hx
 ·intro vs h
  obtain⟨_,rfl⟩:=jG h;rfl
 ·exact fun L=>cG (.inl rfl)
end
section
variable{z:Bool}
noncomputable def ch(ds:List PyD):Prop:=∀d∈ds,d.canLay0=true/\d.depth<=64
theorem ch.lay:∀{ds:List PyD},ch ds->PyD.canLayAll0 ds=true
 |[],_=>rfl
 |d::ds,h=>by
  show(d.canLay0&&PyD.canLayAll0 ds)=true
  rw[(h d (.head _)).1,ch.lay fun e he=>h e (.tail _ he)]
  rfl
noncomputable def lj(acc:List PyD)(d:PyD):List PyD:=if(!acc.any fun y=>PyD.eqv y d)=true then acc ++[d]else acc
noncomputable def dd(ds:List PyD):List PyD:=ds.foldl lj []
theorem nQ{acc:List PyD}{d:PyD}(h:ch acc)(hd:d.canLay0=true/\d.depth<=64):ch (lj acc d):=fun e he=>by
 unfold lj at he
 split at he
 ·rcases List.mem_append.mp he with he|he
  ·exact h e he
  ·rw[List.mem_singleton.mp he];exact hd
 ·exact h e he
theorem yA(acc:List PyD)(d:PyD):(lj acc d).length<=acc.length +1:=by
 unfold lj
 split<;>simp
theorem lE(G:Gr KZ hg)(L:Nat)(F:FP):∀(ds acc:List PyD),ch ds->ch acc->acc.length +ds.length<=100000->
  dh hg false (n +1) (callEnvC nv.fd L 254) (dC (bw nv.body 1)) (bb (bw nv.body 1)) [("new_unhashable",.own acc),("unhashable_params",.fz F)] ds (.next [("new_unhashable",.own (ds.foldl lj acc))])
 |[],acc,_,_,_=>.nil (cT.at ⟨rfl,trivial⟩)
 |d::ds,acc,h1,h2,h3=>by
  have hd:=h1 d (.head _)
  refine .next .name ?_ (ρ1:=[("new_unhashable",.own (lj acc d)),("unhashable_params",.fz F)]) ?_ (lE G L F ds (lj acc d) (fun e he=>h1 e (.tail _ he)) (nQ h2 hd) (by have:=yA acc d;simp at h3;exact Ew ‹_› ‹_›))
  ·exact cG (.inl rfl)
  ·refine ac (ρ1:=[("new_unhashable",.own (lj acc d)),("unhashable_params",.fz F)]) (fv (b:=!acc.any fun y=>PyD.eqv y d) ?_ ?_ ?_) (aQ (cT.at ⟨rfl,rfl,trivial⟩))
   ·exact aX (e9 (aa rfl)) (kB (b8 rfl)) (mv hd.1 h2.lay hd.2)
   ·intro hb
    have e1:lj acc d=acc ++[d]:=by unfold lj;rw[if_pos hb]
    rw[e1]
    refine ac (dR rfl ?_ (by exact Nat.le_trans (jy ‹_›) (by decide))) (aQ (cT.at ⟨rfl,rfl,trivial⟩))
    trivial
   ·intro hb
    have e1:lj acc d=acc:=by unfold lj;rw[hb];rfl
    rw[e1]
    exact aQ (cT.at ⟨rfl,rfl,trivial⟩)
theorem xX(G:Gr KZ hg)(L:Nat)(ds:List PyD)(h:ch ds)(hz:ds.length<=100000):Ex hg false (n +1) (callEnvC nv.fd L 254) [("unhashable_params",.fz (DV (.list ds)))] nv.body (.ret (RN (dd ds))):=by
 refine ac (pE (ds:=[]) (aO au) (.inl rfl)) ?_
 refine ac (gR (gY (ds:=ds) (by trivial)) (lE G L (DV (.list ds)) ds [] h (fun O q=>by cases q) (by simpa using hz))) ?_
 exact aY (ip rfl) rfl
theorem io(G:Gr KZ hg)(ds:List PyD)(h:ch ds)(hz:ds.length<=100000):gO hg (n +2) (.ref 254) [rF (DV (.list ds))] (RN (dd ds)):=by
 refine gM (z:=false) G nv ["unhashable_params"] [DV (.list ds)] _ ?_ ?_ fun L=>xX G L ds h hz
 ·intro vs h
  obtain⟨_,rfl⟩:=jG h;rfl
 ·exact fun L=>cG (.inl rfl)
end
section
variable{z:Bool}
noncomputable def cf(a b:Str):Str:=if(Txt.startswith b "/"||!(a.length !=0))=true then b else if Txt.endswith a "/"=true then a ++b else a ++("/" ++b)
theorem vS{A:Ar}{h₀ hb:Hp}{s:SD}{vs:List Vl}{Q:List (Str×Vl)->SD->Prop}{E:VS}{a b:Str}(sb:hb.StaysIn s.heap)(al:bF h₀ hb s.heap vs [rF (DV (.str a)),rF (DV (.str b))])
  (h:∀us h' hb' tk,ay s.heap hb h' hb'->us.length=2->bF s.heap hb' h' us ([DV (.str a),DV (.tuple [.str b])].map rF)->Q ((["a","p"]:List Str).zip us) (aA s h' tk)):
  wA MD A (bindArgs ll.fd ⟨vs,[]⟩) Q E s:=by
 obtain⟨v,u,rfl,r1,r2⟩:=al.two
 refine yJ rfl rfl ?_
 obtain⟨hb2,st2,e2⟩:=dq (h:=s.heap) (hb:=hb) {cls:=.type "tuple",data:=.seq #[u]} sb
 obtain⟨bs,r⟩:RA hb2 [u] [.str b]:=.cons (RD.keeps st2.sub r2) .nil
 exact h [v,.ref s.heap.objs.size] _ hb2 s.toks st2 rfl (.cons (RD.keeps st2.sub r1) (.cons ⟨_,.tuple e2 rfl rfl r⟩ .nil))
theorem vO(G:Gr KZ hg)(L:Nat)(a b:Str)(ha:a.length<=1000)(hb:b.length<=1000):
  dh hg false (n +3) (callEnvC ll.fd L 235) (dC (bw (bb (bw ll.body 3)) 0)) (bb (bw (bb (bw ll.body 3)) 0))
   [("path",.fz (DV (.str a))),("sep",.fz (DV (.str "/")))] [.str b] (.next [("path",.fz (DV (.str (cf a b))))]):=by
 refine .next .name ?_ (ρ1:=[("path",.fz (DV (.str (cf a b))))]) ?_ (.nil (cT.at ⟨rfl,trivial⟩))
 ·exact cG (.inl rfl)
 refine ac (bS (F:=DV (.str b)) (aB (by trivial) (bc G wR) (bu ?_ ao) (gC G b)) (.inl rfl)) ?_
 ·trivial
 refine ac (ρ1:=[("path",.fz (DV (.str (cf a b))))]) (fv (b:=Txt.startswith b "/"||!(a.length !=0)) ?_ ?_ ?_) (aQ (cT.at ⟨rfl,trivial⟩))
 ·refine pL (cw (iA ?_ ?_)) fun O=>uc (ug (by trivial) (by exact Nat.le_trans ‹_› (by decide)))
  ·trivial
  ·trivial
 ·intro hq
  have e1:cf a b=b:=by unfold cf;rw[if_pos hq]
  rw[e1]
  refine ac (bS (F:=DV (.str b)) ?_ (.inl rfl)) (aQ (cT.at ⟨rfl,trivial⟩))
  trivial
 ·intro hq
  refine ac (fv (b:=Txt.endswith a "/") (cw (rp ?_ ?_)) ?_ ?_) (aQ (ρ:=[("path",.fz (DV (.str (cf a b))))]) (cT.at ⟨rfl,trivial⟩))
  ·trivial
  ·trivial
  ·intro h2
   have e1:cf a b=a ++b:=by unfold cf;rw[hq,h2];rfl
   rw[e1]
   refine ac (yN (F:=DV (.str a)) (G:=DV (.str b)) rfl ?_ (kA (aE (by exact Nat.le_trans (Nat.add_le_add ‹_› ‹_›) (by decide)))) (.inl rfl)) (aQ (cT.at ⟨rfl,trivial⟩))
   trivial
  ·intro h2
   have e1:cf a b=a ++("/" ++b):=by unfold cf;rw[hq,h2];rfl
   rw[e1]
   refine ac (yN (F:=DV (.str a)) (G:=DV (.str ("/" ++b))) rfl (bO ?_ ?_ (dK (aE (by show 1 +_<=_;exact Nat.le_trans (Nat.add_le_add_left ‹_› _) (by decide))))) (kA (aE ?_)) (.inl rfl)) (aQ (cT.at ⟨rfl,trivial⟩))
   ·trivial
   ·trivial
   ·rw[Str.length_append];show a.length +(1 +_)<=_;exact Nat.le_trans (Nat.add_le_add ‹_› (Nat.add_le_add_left ‹_› 1)) (by decide)
theorem zp(G:Gr KZ hg)(L:Nat)(a b:Str)(ha:a.length<=1000)(hb:b.length<=1000):
  Ex hg false (n +3) (callEnvC ll.fd L 235) [("a",.fz (DV (.str a))),("p",.fz (DV (.tuple [.str b])))] ll.body (.ret (RF (DV (.str (cf a b))))):=by
 refine ac (bS (F:=DV (.str a)) (aB (by trivial) (bc G wR) (bu ?_ ao) (gC G a)) (.inl rfl)) ?_
 ·trivial
 refine ac (bS (F:=DV (.str "/")) (aB (by trivial) (bc G w4) (bu ?_ ao) (kI G a)) (.inl rfl)) ?_
 ·trivial
 refine ac (bS (F:=DV (.str a)) ?_ (.inl rfl)) ?_
 ·trivial
 refine ac (ρ1:=[("path",.fz (DV (.str (cf a b))))]) (vf ?_) (aY (jI (by trivial)) rfl)
 refine dN (ρ':=[("path",.fz (DV (.str a))),("sep",.fz (DV (.str "/"))),("p",.fz (DV (.tuple [.str b])))]) (cT.at ⟨rfl,rfl,rfl,trivial⟩) ?_
 refine ac (gR (oz (ds:=[.str b]) ?_) (nN (cT.at (by exact⟨rfl,rfl,trivial⟩)) (vO G L a b ha hb))) (aQ fun O O e=>e)
 trivial
theorem xo(G:Gr KZ hg)(a b:Str)(ha:a.length<=1000)(hb:b.length<=1000):gO hg (n +4) (.ref 235) [rF (DV (.str a)),rF (DV (.str b))] (RF (DV (.str (cf a b)))):=by
 obtain⟨X,pp,loose,mean,mg,mb,T⟩:=id G
 refine zL (z:=false) (fd:=ll.fd) (xs:=["a","p"]) (Fs:=[DV (.str a),DV (.tuple [.str b])]) (X _ _ ll.h1) ll.h2 T.nolimit (codeRec_of X ll.h3) ll.h4
  (fun A h₀ hb' s vs Q E sb al h=>vS sb al h) (by decide) rfl rfl rfl ?_ (fun L=>zp G L a b ha hb) rfl rfl rfl
 intro L y hy
 rcases List.mem_cons.mp hy with rfl|hy
 ·exact .inl rfl
 ·rw[List.mem_singleton.mp hy];exact .inl rfl
end
section
variable{z:Bool}
noncomputable def hK(k:Nat):Str:=⟨#[97 +k]⟩
noncomputable def g9(st:List Str×Nat)(place:Nat):List Str×Nat:=(st.1 ++[cf (st.1.getD (st.2%(place +1)) "") (hK place)],st.2 / (place +1))
noncomputable def dM(k:Nat):List Str:=((List.range 4).foldl g9 (["/"],k)).1
theorem v8(a b:Str):(cf a b).length<=a.length +b.length +1:=by
 unfold cf
 split
 ·omega
 ·split
  ·rw[Str.length_append];exact Nat.le_add_right _ _
  ·rw[Str.length_append,Str.length_append];show _ +(1 +_)<=_;exact EV
theorem ou(G:Gr KZ hg)(L:Nat):∀(m place:Nat)(ps:List Str)(k:Nat),m +place=4->ps.length=place +1->(∀x∈ps,x.length<=10*(place +1))->k<100000000->
  dh hg false (n +5) (callEnvC tM.fd L 268) (dC (bw tM.body 1)) (bb (bw tM.body 1)) [("paths",.own (ps.map .str)),("number",.fz (DV (.int (k:Nat))))] (((List.range' place m).map fun i=>PyD.int (i:Nat)))
   (.next [("paths",.own ((((List.range' place m).foldl g9 (ps,k)).1).map .str))])
 |0,place,ps,k,h1,h2,h3,h4=>.nil (cT.at ⟨rfl,trivial⟩)
 |m +1,place,ps,k,h1,h2,h3,h4=>by
  have hidx:k%(place +1)<ps.length:=by rw[h2];exact Nat.mod_lt _ (by exact Nat.zero_lt_succ _)
  have hget:ps.getD (k%(place +1)) ""=ps[k%(place +1)]:=by rw[List.getD_eq_getElem?_getD,List.getElem?_eq_getElem hidx];rfl
  have hlen:(ps.getD (k%(place +1)) "").length<=10*(place +1):=by rw[hget];exact h3 _ (List.getElem_mem hidx)
  have hjl:=v8 (ps.getD (k%(place +1)) "") (hK place)
  have hll:(hK place).length=1:=rfl
  refine .next .name ?_ (ρ1:=[("paths",.own ((g9 (ps,k) place).1.map .str)),("number",.fz (DV (.int ((k / (place +1):Nat):Int))))]) ?_ (ou G L m (place +1) _ _ (by exact CF ‹_›) (by simp[g9,h2]) (fun x hx=>?_) (Nat.lt_of_le_of_lt (Nat.div_le_self _ _) h4))
  ·exact cG (.inl rfl)
  ·refine ac (dR (d:=.str (cf (ps.getD (k%(place +1)) "") (hK place))) rfl ?_ (by rw[List.length_map,h2];omega)) ?_
   ·refine aB (by trivial) (bc G ll) (bu ?_ (bu ?_ ao)) (xo G _ _ (by omega) (by exact EB ‹_›))
    ·refine bq (b8 rfl) (bO (by trivial) (bO (by trivial) aJ (l4 (b:=1))) (gk (by omega))) (cp (by exact Int.natCast_nonneg _) ?_ ?_)
     ·rw[Int.toNat_natCast,List.getElem?_map,List.getElem?_eq_getElem hidx,hget];rfl
     ·have:=Nat.mod_lt k (show place +1>0 by exact Nat.zero_lt_succ _)
      omega
    ·refine bq du (by trivial) (jE (by exact Int.natCast_nonneg _) ?_ (by omega))
     rw[Int.toNat_natCast]
     have:place<4:=by exact Ej ‹_›
     match place,this with
     |0,_=>rfl
     |1,_=>rfl
     |2,_=>rfl
     |3,_=>rfl
   ·refine ac (bS (F:=DV (.int ((k / (place +1):Nat):Int))) (bO (by trivial) (bO (by trivial) aJ (l4 (b:=1))) (gD (by omega) (by exact Nat.lt_of_lt_of_le ‹_› (by decide)) (by omega))) (.inl rfl)) (aQ (cT.at ⟨?_,rfl,trivial⟩))
    simp[g9]
    rfl
  ·simp only[g9]at hx
   rcases List.mem_append.mp hx with hx|hx
   ·have:=h3 x hx;exact E5 ‹_›
   ·rw[List.mem_singleton.mp hx];exact Fq ‹_› ‹_› ‹_›
theorem td(G:Gr KZ hg)(L:Nat)(k:Nat)(hk:k<100000000):Ex hg false (n +5) (callEnvC tM.fd L 268) [("number",.fz (DV (.int (k:Nat))))] tM.body (.ret (RN ((dM k).map .str))):=by
 refine ac (pE (ds:=[.str "/"]) (aO (ak du au)) (.inl rfl)) ?_
 refine ac (gR (j9 (k:=4) (by trivial) aJ (by decide)) (ou G L 4 0 ["/"] k rfl rfl (by decide) hk)) ?_
 exact aY (ip rfl) rfl
theorem qF(G:Gr KZ hg)(k:Nat)(hk:k<100000000):gO hg (n +6) (.ref 268) [rF (DV (.int (k:Nat)))] (RN ((dM k).map .str)):=by
 refine gM (z:=false) G tM ["number"] [DV (.int (k:Nat))] _ ?_ ?_ fun L=>td G L k hk
 ·intro vs h
  obtain⟨_,rfl⟩:=jG h;rfl
 ·exact fun L=>cG (.inl rfl)
end
section
variable{z:Bool}
structure gd where
 num:Nat
 row:List ah
 had:List Str
 held:List Str
noncomputable def ij(g:Str->Str)(had held:List Str)(x:Str):Bool:=held.any (·==g x)&&!had.any (·==x)
noncomputable def af(ps:List Str)(g:Str->Str)(had held:List Str):List ah:=(ps.filter (ij g had held)).map (fun x=>(true,x)) ++held.map fun x=>(false,x)
noncomputable def cj(ps:List Str)(g:Str->Str)(st:gd):gd:=
 let ds:=af ps g st.had st.held
 let d:=ds.getD (st.num%ds.length) (true,"")
 if d.1=true then⟨st.num / ds.length,st.row ++[d],st.had ++[d.2],st.held ++[d.2]⟩else⟨st.num / ds.length,st.row ++[d],st.had,st.held.erase d.2⟩
noncomputable def cc(ps:List Str)(g:Str->Str):Nat->gd->gd×Bool
 |0,st=>(st,false)
 |m +1,st=>if af ps g st.had st.held=[]then(st,true)else cc ps g m (cj ps g st)
noncomputable def uk(r:gd×Bool):List ah:=if r.2=true then r.1.row else r.1.row ++r.1.held.map fun x=>(false,x)
noncomputable def eQ(k:Nat)(ps:List Str)(g:Str->Str):List ah:=uk (cc ps g 4 ⟨k / 3,[(true,ps.getD (k%3) "")],[ps.getD (k%3) ""],[ps.getD (k%3) ""]⟩)
noncomputable def dZ(x:Str):Prop:=PyD.strOk x=true/\x.length<=99
theorem dZ.s{x:Str}(h:dZ x):z6 x:=⟨h.1,Nat.le_succ_of_le h.2⟩
structure fw(ps:List Str)(g:Str->Str)(c:Nat)(st:gd):Prop where
 num:st.num<100000000
 row:st.row.length<=c
 had:st.had.length<=c/\∀x∈st.had,dZ x
 held:st.held.length<=c/\∀x∈st.held,dZ x
noncomputable def Ax(t:Str->Bool):PyD->List PyD
 | .str x=>if t x=true then[PyD.str (bZ (true,x))]else[]
 |_=>[]
noncomputable def BG:PyD->List PyD
 | .str x=>[PyD.str (bZ (false,x))]
 |_=>[]
theorem wj(ps:List Str)(t:Str->Bool):(ps.map PyD.str).flatMap (Ax t)=DD ((ps.filter t).map fun x=>(true,x)):=by
 induction ps with
 |nil=>rfl
 |cons x ps ih=>
  rw[List.map_cons,List.flatMap_cons,ih,List.filter_cons]
  show(if t x=true then[PyD.str (bZ (true,x))]else[]) ++_=_
  by_cases h:t x=true
  ·rw[if_pos h,if_pos h];rfl
  ·rw[if_neg h,if_neg h];rfl
theorem hZ(hs:List Str):(hs.map PyD.str).flatMap BG=DD (hs.map fun x=>(false,x)):=by
 induction hs with
 |nil=>rfl
 |cons x hs ih=>rw[List.map_cons,List.flatMap_cons,ih];rfl
theorem n8(a b:List ah):DD (a ++b)=DD a ++DD b:=List.map_append ..
theorem eT(a:List ah):(DD a).length=a.length:=List.length_map ..
noncomputable abbrev xx(ps:List Str)(g:Str->Str)(st:gd):LS:=
 [("row",.own (DD st.row)),("had",.own (st.had.map .str)),("held",.own (st.held.map .str)),("number",.fz (DV (.int (st.num:Nat)))),("paths",.fz (DV (.list (ps.map .str)))),("above",.fz (AB ps g))]
theorem qJ{ps:List Str}{g:Str->Str}{had held:List Str}(hps:∀x∈ps,dZ x)(hh:∀x∈held,dZ x):∀d∈af ps g had held,dZ d.2:=fun d hd=>by
 unfold af at hd
 rcases List.mem_append.mp hd with h|h
 ·obtain⟨x,hx,rfl⟩:=List.mem_map.mp h
  exact hps x (List.mem_filter.mp hx).1
 ·obtain⟨x,hx,rfl⟩:=List.mem_map.mp h
  exact hh x hx
theorem tx:∀{ds:List ah},(∀d∈ds,dZ d.2)->PyD.canLayAll0 (DD ds)=true
 |[],_=>rfl
 |d::ds,h=>by
  show((PyD.str (bZ d)).canLay0&&PyD.canLayAll0 (DD ds))=true
  rw[(uA (h d (.head _)).1 (h d (.head _)).2).lay,tx fun y hy=>h y (.tail _ hy)];rfl
theorem mq:∀ds:List ah,PyD.depthAll (DD ds)=0
 |[]=>rfl
 |d::ds=>by show max 0 (PyD.depthAll (DD ds))=0;rw[mq ds];rfl
theorem AQ{ds:List ah}{k:Nat}(h:k<ds.length):(DD ds)[k]?=some (.str (bZ (ds.getD k (true,"")))):=by
 unfold DD
 rw[List.getElem?_map,List.getD_eq_getElem?_getD,List.getElem?_eq_getElem h];rfl
theorem yv{ps:List Str}{g:Str->Str}{had held:List Str}{d:ah}(hd:d∈af ps g had held)(h:¬d.1=true):d.2∈held:=by
 unfold af at hd
 rcases List.mem_append.mp hd with q|q
 ·obtain⟨x,hx,rfl⟩:=List.mem_map.mp q
  exact absurd rfl h
 ·obtain⟨x,hx,rfl⟩:=List.mem_map.mp q
  exact hx
theorem xF(G:Gr KZ hg)(L:Nat)(ps:List Str)(g:Str->Str)(hps:∀x∈ps,dZ x)(hg':∀x∈ps,dZ (g x))(hpl:ps.length<=100)(c:Nat)(hc:c<=100)(st:gd)(kd:PyD)(I:fw ps g c st):
  Ex hg false (n +5) (callEnvC ln.fd L 273) (([("turn",LV.fz (DV kd))]:LS) ++xx ps g st) (bb (bw ln.body 3))
   (if af ps g st.had st.held=[]then .ret (RN (DD st.row))else .next (xx ps g (cj ps g st))):=by
 have I1:=I.had.2
 have I2:=I.held.2
 have lf:=List.length_filter_le (ij g st.had st.held) ps
 have lh:=I.held.1
 have hL:(af ps g st.had st.held).length<=200:=by
  unfold af
  rw[List.length_append,List.length_map,List.length_map]
  exact Nat.le_trans (Nat.add_le_add (Nat.le_trans ‹_› ‹_›) (Nat.le_trans ‹_› ‹_›)) (by decide)
 refine ac (ta (out:=DD ((ps.filter (ij g st.had st.held)).map fun x=>(true,x))) (item:=Ax (ij g st.had st.held)) (ρc:=[("above",.fz (AB ps g)),("had",.own (st.had.map .str)),("held",.own (st.held.map .str))]) bv rfl (bo (ds:=ps.map .str) (bL ?_)) rfl ?_ ?_ (wj ps _) ?_ (.inl rfl)) ?_
 ·trivial
 ·intro q hq
  simp only[List.mem_cons,List.not_mem_nil,or_false]at hq
  rcases hq with rfl|rfl|rfl<;>exact⟨rfl,.inl rfl,⟨.inl rfl,rfl⟩,rfl⟩
 ·intro C d hd
  obtain⟨x,hx,rfl⟩:=List.mem_map.mp hd
  refine eg (d':=.str (bZ (true,x))) (b:=ij g st.had st.held x) .name ?_ ?_ ?_ ?_
  ·exact cG rfl
  ·exact cT.at ⟨rfl,rfl,rfl,trivial⟩
  ·refine jN (aX (e9 (bq (aa rfl) (aa rfl) (wC hx))) (kB (b8 rfl)) (w2 (hg' x hx).s fun y hy=>(I2 y hy).s)) fun O=>aX (e9 (aa rfl)) (kB (b8 rfl)) (nL (hps x hx).s fun y hy=>(I1 y hy).s)
  ·intro _
   exact bO du (aa rfl) (dK (aE (by have:=(hps x hx).2;show 1 +_<=_;exact Nat.le_trans (Nat.add_le_add_left ‹_› _) (by decide))))
 ·rw[eT,List.length_map];exact Nat.le_trans ‹_› (Nat.le_trans ‹_› (by decide))
 refine ac (jm (es:=DD (st.held.map fun x=>(false,x))) rfl (gh ?_) (by rw[eT,eT,List.length_map,List.length_map];exact Nat.le_trans (Nat.add_le_add (Nat.le_trans ‹_› ‹_›) (Nat.le_trans ‹_› ‹_›)) (by decide)) (.inl rfl)) ?_
 ·rw[<-hZ]
  refine dw (ρc:=[]) bv (bo (ds:=st.held.map .str) (b8 rfl)) rfl (fun O q=>by cases q) ?_ ?_
  ·intro C d hd
   obtain⟨x,hx,rfl⟩:=List.mem_map.mp hd
   refine b9 (d':=.str (bZ (false,x))) .name ?_ (fun O O e=>by cases e) (bO du (aa rfl) (dK (aE (by have:=(I2 x hx).2;show 1 +_<=_;exact Nat.le_trans (Nat.add_le_add_left ‹_› _) (by decide)))))
   exact cG rfl
  ·rw[hZ,eT,List.length_map];exact Nat.le_trans ‹_› (Nat.le_trans ‹_› (by decide))
 rw[<-n8]
 show Ex hg false (n +5) _ ((("deeds",LV.own (DD (af ps g st.had st.held)))::_)) _ _
 have hok:=qJ (g:=g) (had:=st.had) hps I2
 have hgm:∀{d:ah},d∈af ps g st.had st.held->¬d.1=true->d.2∈st.held:=fun a b=>yv a b
 have hst:cj ps g st=if((af ps g st.had st.held).getD (st.num%(af ps g st.had st.held).length) (true,"")).1=true then
   ⟨st.num / (af ps g st.had st.held).length,st.row ++[(af ps g st.had st.held).getD (st.num%(af ps g st.had st.held).length) (true,"")],st.had ++[((af ps g st.had st.held).getD (st.num%(af ps g st.had st.held).length) (true,"")).2],st.held ++[((af ps g st.had st.held).getD (st.num%(af ps g st.had st.held).length) (true,"")).2]⟩
  else⟨st.num / (af ps g st.had st.held).length,st.row ++[(af ps g st.had st.held).getD (st.num%(af ps g st.had st.held).length) (true,"")],st.had,st.held.erase ((af ps g st.had st.held).getD (st.num%(af ps g st.had st.held).length) (true,"")).2⟩:=rfl
 generalize af ps g st.had st.held=ds at hok hgm hst hL⊢
 by_cases hnil:ds=[]
 ·subst hnil
  rw[if_pos rfl]
  refine aY (fv (b:=true) (aX (kB (b8 rfl)) (gP (aO au)) (ev (ds:=[]) rfl (by decide))) (fun O=>aY (ip rfl) rfl) (fun q=>by cases q)) rfl
 ·rw[if_neg hnil]
  have hpos:0<ds.length:=List.length_pos_iff.mpr hnil
  have hemp:(DD ds).isEmpty=false:=by cases ds with|nil=>exact absurd rfl hnil|cons _ _=>rfl
  refine ac (ρ1:=_) (fv (b:=(DD ds).isEmpty) (aX (kB (b8 rfl)) (gP (aO au)) (ev (tx hok) (by rw[mq];decide))) (fun q=>by rw[hemp]at q;cases q) (fun O=>aQ fun O O e=>e)) ?_
  have hk:st.num%ds.length<ds.length:=Nat.mod_lt _ hpos
  have hmem:ds.getD (st.num%ds.length) (true,"")∈ds:=by rw[List.getD_eq_getElem?_getD,List.getElem?_eq_getElem hk];exact List.getElem_mem hk
  have hlenE:∀{ρ:LS}{p' p'' p3:Pos},ρ.lookup ("deeds":Str)=some (LV.own (DD ds))->Ev hg (n +5) (callEnvC ln.fd L 273) ρ (.Call (.Name "len" p') [.Name "deeds" p''] [] p3) (RF (DV (.int (ds.length:Nat)))):=fun h=>by
   have:=eo (hg:=hg) (n:=n +5) (ds:=DD ds) (by rw[eT];exact Nat.le_trans ‹_› (by decide))
   rw[eT]at this
   exact aB (by trivial) (.builtin _) (gH (b8 h) ao) this
  refine ac (bS (F:=DV (.str (bZ (ds.getD (st.num%ds.length) (true,""))))) (bq (b8 rfl) (bO (aa rfl) (hlenE rfl) (gk (by omega))) (cp (by exact Int.natCast_nonneg _) (by rw[Int.toNat_natCast];exact AQ hk) (by exact zb (Nat.lt_of_lt_of_le ‹_› (Nat.le_trans ‹_› (by decide)))))) (.inl rfl)) ?_
  have hdv:=hok _ hmem
  have hgv:=hgm hmem
  generalize ds.getD (st.num%ds.length) (true,"")=d at hdv hgv hst⊢
  refine ac (bS (F:=DV (.int ((st.num / ds.length:Nat):Int))) (bO (aa rfl) (hlenE rfl) (gD (by omega) (Nat.lt_of_lt_of_le I.num (by decide)) (by exact Nat.lt_of_le_of_lt ‹_› (by decide)))) (.inl rfl)) ?_
  refine ac (dR (d:=.str (bZ d)) rfl (aa rfl) (by have:=I.row;rw[eT];exact Nat.le_trans ‹_› (Nat.le_trans ‹_› (by decide)))) ?_
  have htail:∀{ρ:LS}{p1 p2 p3 p4:Pos},ρ.lookup ("deed":Str)=some (LV.fz (DV (.str (bZ d))))->Ev hg (n +5) (callEnvC ln.fd L 273) ρ (.Subscript (.Name "deed" p1) (.Slice (some (.Constant (.int 1) 0 p2)) none none p3) p4) (RF (DV (.str d.2))):=fun{ρ p1 p2 p3 p4} h=>by
   suffices key:Ev hg (n +5) (callEnvC ln.fd L 273) ρ (.Subscript (.Name "deed" p1) (.Slice (some (.Constant (.int 1) 0 p2)) none none p3) p4) (RF (DV (.str (Txt.slice (bZ d) (some 1) none)))) by rwa [eB]at key
   exact bq (aa h) (cY (c9 aJ) bU bU) (fF (by rw[lG];have:=hdv.2;exact Nat.le_trans (Nat.add_le_add_right ‹_› _) (by decide)))
  have hrow:=I.row
  have hhad:=I.had.1
  refine ac (ρ1:=xx ps g (cj ps g st)) (fv (b:=d.1) ?_ ?_ ?_) (aQ fun O O e=>e)
  ·have hcmp:((⟨#[if d.1=true then 43 else 45]⟩:Str)==("+":Str))=d.1:=by cases d.1<;>rfl
   rw[<-hcmp]
   exact aX (bq (aa rfl) aJ (jE (by decide) (fQ d) (by decide))) du ie
  ·intro hb
   rw[hst,if_pos hb]
   refine ac (dR (d:=.str d.2) rfl (htail rfl) (by rw[List.length_map];exact Nat.le_trans ‹_› (Nat.le_trans ‹_› (by decide)))) ?_
   refine ac (dR (d:=.str d.2) rfl (htail rfl) (by rw[List.length_map];exact Nat.le_trans ‹_› (Nat.le_trans ‹_› (by decide)))) (aQ (cT.at ⟨?_,?_,?_,rfl,rfl,rfl,trivial⟩))
   ·simp only[DD,List.map_append];rfl
   ·simp only[List.map_append];rfl
   ·simp only[List.map_append];rfl
  ·intro hb
   rw[hst,if_neg (by rw[hb];decide)]
   have hin:st.held.any (·==d.2)=true:=by
    rw[List.any_eq_true]
    exact⟨d.2,hgv (by rw[hb];decide),by simp⟩
   refine ac (jw (d:=.str d.2) rfl (htail rfl) (gU fun y hy=>(I2 y hy).s) hdv.s.lay (by simp[PyD.depth]) (by rw[List.length_map];exact Nat.le_trans ‹_› (Nat.le_trans ‹_› (by decide))) (by rw[lu];exact hin)) (aQ (cT.at ⟨?_,rfl,?_,rfl,rfl,rfl,trivial⟩))
   ·simp only[DD,List.map_append];rfl
   ·rw[mJ];rfl
theorem fw.step{ps:List Str}{g:Str->Str}{c:Nat}{st:gd}(hps:∀x∈ps,dZ x)(I:fw ps g c st)(hn:af ps g st.had st.held≠[]):fw ps g (c +1) (cj ps g st):=by
 have hpos:0<(af ps g st.had st.held).length:=List.length_pos_iff.mpr hn
 have hk:=Nat.mod_lt st.num hpos
 have hmem:(af ps g st.had st.held).getD (st.num%(af ps g st.had st.held).length) (true,"")∈af ps g st.had st.held:=by
  rw[List.getD_eq_getElem?_getD,List.getElem?_eq_getElem hk];exact List.getElem_mem hk
 have hok:=qJ (g:=g) (had:=st.had) hps I.held.2 _ hmem
 have e:cj ps g st=if((af ps g st.had st.held).getD (st.num%(af ps g st.had st.held).length) (true,"")).1=true then
   ⟨st.num / (af ps g st.had st.held).length,st.row ++[(af ps g st.had st.held).getD (st.num%(af ps g st.had st.held).length) (true,"")],st.had ++[((af ps g st.had st.held).getD (st.num%(af ps g st.had st.held).length) (true,"")).2],st.held ++[((af ps g st.had st.held).getD (st.num%(af ps g st.had st.held).length) (true,"")).2]⟩
  else⟨st.num / (af ps g st.had st.held).length,st.row ++[(af ps g st.had st.held).getD (st.num%(af ps g st.had st.held).length) (true,"")],st.had,st.held.erase ((af ps g st.had st.held).getD (st.num%(af ps g st.had st.held).length) (true,"")).2⟩:=rfl
 rw[e]
 generalize (af ps g st.had st.held).getD (st.num%(af ps g st.had st.held).length) (true,"")=d at hok⊢
 have hnum:st.num / (af ps g st.had st.held).length<100000000:=Nat.lt_of_le_of_lt (Nat.div_le_self _ _) I.num
 have hrow:(st.row ++[d]).length<=c +1:=by rw[List.length_append];exact Nat.add_le_add_right I.row 1
 have hap:∀{l:List Str},l.length<=c/\(∀x∈l,dZ x)->(l ++[d.2]).length<=c +1/\∀x∈l ++[d.2],dZ x:=fun{l} h=>⟨by rw[List.length_append];exact Nat.add_le_add_right h.1 1,fun x hx=>by
  rcases List.mem_append.mp hx with hx|hx
  ·exact h.2 x hx
  ·rw[List.mem_singleton.mp hx];exact hok⟩
 split
 ·exact⟨hnum,hrow,hap I.had,hap I.held⟩
 ·exact⟨hnum,hrow,⟨Nat.le_succ_of_le I.had.1,I.had.2⟩,⟨Nat.le_succ_of_le (Nat.le_trans (List.erase_sublist.length_le) I.held.1),fun x hx=>I.held.2 x (List.mem_of_mem_erase hx)⟩⟩
theorem qM(G:Gr KZ hg)(L:Nat)(ps:List Str)(g:Str->Str)(hps:∀x∈ps,dZ x)(hg':∀x∈ps,dZ (g x))(hpl:ps.length<=100):∀(m:Nat)(st:gd)(ks:List PyD),ks.length=m->m<=10->fw ps g (20 - m) st->
  dh hg false (n +5) (callEnvC ln.fd L 273) (dC (bw ln.body 3)) (bb (bw ln.body 3)) (xx ps g st) ks
   (if(cc ps g m st).2=true then .ret (RN (DD (cc ps g m st).1.row))else .next [("row",.own (DD (cc ps g m st).1.row)),("held",.own ((cc ps g m st).1.held.map .str))])
 |0,st,[],hk,hm,I=>.nil (cT.at ⟨rfl,rfl,trivial⟩)
 |0,st,_::_,hk,hm,I=>by cases hk
 |m +1,st,[],hk,hm,I=>by cases hk
 |m +1,st,kd::ks,hk,hm,I=>by
  have turn:=xF (n:=n) G L ps g hps hg' hpl (20 - (m +1)) (by exact Nat.le_trans (Nat.sub_le _ _) (by decide)) st kd I
  have e:cc ps g (m +1) st=if af ps g st.had st.held=[]then(st,true)else cc ps g m (cj ps g st):=rfl
  by_cases hn:af ps g st.had st.held=[]
  ·rw[if_pos hn]at turn e
   rw[e,if_pos rfl]
   exact .ret .name (cG (.inl rfl)) turn
  ·rw[if_neg hn]at turn e
   rw[e]
   have I':=I.step hps hn
   have e2:20 - (m +1) +1=20 - m:=by exact FB ‹_›
   rw[e2]at I'
   exact .next .name (cG (.inl rfl)) turn (qM G L ps g hps hg' hpl m _ ks (by simpa using hk) (by exact Nat.le_of_succ_le ‹_›) I')
theorem iQ{ps:List Str}{g:Str->Str}(hps:∀x∈ps,dZ x):∀(m c:Nat)(st:gd),fw ps g c st->fw ps g (c +m) (cc ps g m st).1
 |0,c,st,I=>I
 |m +1,c,st,I=>by
  have e:cc ps g (m +1) st=if af ps g st.had st.held=[]then(st,true)else cc ps g m (cj ps g st):=rfl
  rw[e]
  split
  ·exact⟨I.num,Nat.le_trans I.row (by exact Nat.le_add_right _ _),⟨Nat.le_trans I.had.1 (by exact Nat.le_add_right _ _),I.had.2⟩,⟨Nat.le_trans I.held.1 (by exact Nat.le_add_right _ _),I.held.2⟩⟩
  ·rename_i hn
   have:=iQ hps m (c +1) _ (I.step hps hn)
   rwa [show c +1 +m=c +(m +1) by exact Nat.succ_add_eq_add_succ _ _]at this
theorem AW(G:Gr KZ hg)(L:Nat)(k:Nat)(ps:List Str)(g:Str->Str)(hps:∀x∈ps,dZ x)(hg':∀x∈ps,dZ (g x))(hpl:ps.length<=100)(h3:3<=ps.length)(hk:k<100000000):
  Ex hg false (n +5) (callEnvC ln.fd L 273) [("number",.fz (DV (.int (k:Nat)))),("paths",.fz (DV (.list (ps.map .str)))),("above",.fz (AB ps g))] ln.body (.ret (RN (DD (eQ k ps g)))):=by
 have hi:k%3<ps.length:=Nat.lt_of_lt_of_le (Nat.mod_lt _ (by decide)) h3
 have hf:ps.getD (k%3) ""∈ps:=by rw[List.getD_eq_getElem?_getD,List.getElem?_eq_getElem hi];exact List.getElem_mem hi
 have hfok:=hps _ hf
 refine ac (bS (F:=DV (.str (ps.getD (k%3) ""))) (bq (bL (aa rfl)) (bO (aa rfl) aJ (gk (b:=3) (by decide))) (cp (by exact Int.natCast_nonneg _) ?_ (by exact zb (Nat.lt_of_lt_of_le ‹_› (Nat.le_trans ‹_› (by decide)))))) (.inl rfl)) ?_
 ·rw[Int.toNat_natCast,List.getElem?_map,List.getD_eq_getElem?_getD,List.getElem?_eq_getElem hi];rfl
 unfold eQ
 generalize ps.getD (k%3) ""=f at hf hfok⊢
 refine ac (bS (F:=DV (.int ((k / 3:Nat):Int))) (bO (aa rfl) aJ (gD (b:=3) (by decide) (by exact Nat.lt_of_lt_of_le ‹_› (by decide)) (by decide))) (.inl rfl)) ?_
 refine ac (uM (ts:=[("row",_),("had",_),("held",_)]) (Ks:=[.own [.str (bZ (true,f))],.own [.str f],.own [.str f]]) (ej (aO (ak (bO du (aa rfl) (dK (aE (by have:=hfok.2;show 1 +_<=_;exact Nat.le_trans (Nat.add_le_add_left ‹_› _) (by decide))))) au)) (ej (aO (ak (aa rfl) au)) (ej (aO (ak (aa rfl) au)) lw))) rfl ?_) ?_
 ·exact nB (.inl rfl) (.inr ⟨rfl,_,rfl⟩) (.inr ⟨rfl,_,rfl⟩)
 have I0:fw ps g 1 ⟨k / 3,[(true,f)],[f],[f]⟩:=⟨Nat.lt_of_le_of_lt (Nat.div_le_self _ _) hk,Nat.le_refl _,⟨Nat.le_refl _,fun x hx=>by rw[List.mem_singleton.mp hx];exact hfok⟩,⟨Nat.le_refl _,fun x hx=>by rw[List.mem_singleton.mp hx];exact hfok⟩⟩
 have I16:fw ps g (20 - 4) ⟨k / 3,[(true,f)],[f],[f]⟩:=⟨I0.num,Nat.le_trans I0.row (by decide),⟨Nat.le_trans I0.had.1 (by decide),I0.had.2⟩,⟨Nat.le_trans I0.held.1 (by decide),I0.held.2⟩⟩
 have lp:=qM (n:=n) G L ps g hps hg' hpl 4 ⟨k / 3,[(true,f)],[f],[f]⟩ (wY 4) rfl (by decide) I16
 have IE:=iQ (g:=g) hps 4 1 _ I0
 generalize cc ps g 4 ⟨k / 3,[(true,f)],[f],[f]⟩=r at lp IE⊢
 obtain⟨st,b⟩:=r
 refine dN (ρ':=xx ps g ⟨k / 3,[(true,f)],[f],[f]⟩) (cT.at (by exact⟨rfl,rfl,rfl,rfl,rfl,rfl,trivial⟩)) ?_
 cases b with
 |true=>exact aY (gR (j9 (k:=4) (bg G rfl rfl rfl (by decide)) aJ (by decide)) lp) rfl
 |false=>
  have hh:st.held.length<=5/\∀x∈st.held,dZ x:=IE.held
  have hr:st.row.length<=5:=IE.row
  refine ac (gR (j9 (k:=4) (bg G rfl rfl rfl (by decide)) aJ (by decide)) lp) ?_
  refine aY (jI ?_) rfl
  show Ev _ _ _ _ _ (RN (DD (st.row ++st.held.map fun x=>(false,x))))
  rw[n8]
  refine bO (b8 rfl) (R2:=RL (DD (st.held.map fun x=>(false,x)))) (gh ?_) (kW (by rw[eT,eT,List.length_map];show st.row.length +_<=_;exact CX ‹_› ‹_›))
  rw[<-hZ]
  refine dw (ρc:=[]) bv (bo (ds:=st.held.map .str) (b8 rfl)) rfl (fun O q=>by cases q) ?_ ?_
  ·intro C d hd
   obtain⟨x,hx,rfl⟩:=List.mem_map.mp hd
   refine b9 (d':=.str (bZ (false,x))) .name ?_ (fun O O e=>by cases e) (bO du (aa rfl) (dK (aE (by have:=(hh.2 x hx).2;show 1 +_<=_;exact Nat.le_trans (Nat.add_le_add_left ‹_› _) (by decide)))))
   exact cG rfl
  ·rw[hZ,eT,List.length_map];omega
theorem Am(G:Gr KZ hg)(k:Nat)(ps:List Str)(g:Str->Str)(hps:∀x∈ps,dZ x)(hg':∀x∈ps,dZ (g x))(hpl:ps.length<=100)(h3:3<=ps.length)(hk:k<100000000):
  gO hg (n +6) (.ref 273) [rF (DV (.int (k:Nat))),rF (DV (.list (ps.map .str))),rF (AB ps g)] (RN (DD (eQ k ps g))):=by
 refine gM (z:=false) G ln ["number","paths","above"] [DV (.int (k:Nat)),DV (.list (ps.map .str)),AB ps g] _ ?_ ?_ fun L=>AW G L k ps g hps hg' hpl h3 hk
 ·intro vs h
  obtain⟨_,_,_,rfl⟩:=B4 h;rfl
 ·exact fun L=>nB (.inl rfl) (.inl rfl) (.inr ⟨rfl,rfl⟩)
end
section
variable{z:Bool}
noncomputable def RR(rs:List (List ah)):List PyD:=rs.map fun r=>.list (DD r)
noncomputable def tQ(f:Nat×ah):PyD:=.tuple [.int (f.1:Nat),.str (bZ f.2)]
noncomputable def FF(fs:List (Nat×ah)):List PyD:=fs.map tQ
noncomputable def mZ(f:Str×Nat):PyD:=.tuple [.str f.1,.int (f.2:Nat)]
noncomputable def LL(fs:List (Str×Nat)):List PyD:=fs.map mZ
noncomputable def cH:Nat->List (List ah)->List (Nat×ah)
 |_,[]=>[]
 |i,[]::rs=>cH (i +1) rs
 |i,(d::_)::rs=>(i,d)::cH (i +1) rs
noncomputable def ai(rs:List (List ah)):List (Nat×ah):=cH 0 rs
noncomputable def aF(held:List Str)(f:Nat×ah):Bool:=!f.2.1||!held.any (·==f.2.2)
structure bV where
 rest:List (List ah)
 held:List Str
 log:List (Str×Nat)
 turn:Nat
noncomputable def ii(num:Nat)(lk:Bool)(st:bV):bV:=
 let ab:=(ai st.rest).filter (aF st.held)
 let f:=ab.getD ((num / (st.turn +1))%ab.length) (0,(true,""))
 ⟨st.rest.set f.1 ((st.rest.getD f.1 []).drop 1),if lk=true then(if f.2.1=true then st.held ++[f.2.2]else st.held.erase f.2.2)else st.held,if f.2.1=true then st.log ++[(f.2.2,f.1)]else st.log,st.turn +1⟩
noncomputable def cO(num:Nat)(lk:Bool):Nat->bV->bV
 |0,st=>st
 |m +1,st=>if(ai st.rest).filter (aF st.held)=[]then st else cO num lk m (ii num lk st)
noncomputable def aR(rs:List (List ah)):Nat:=(rs.map List.length).sum
noncomputable def bC(rs:List (List ah))(num:Nat)(lk:Bool):bV:=cO num lk (aR rs +1) ⟨rs,[],[],0⟩
noncomputable def uC:PyD->List PyD
 | .tuple [.int i,.list (d::_)]=>[.tuple [.int i,d]]
 |_=>[]
theorem kQ:∀(rs:List (List ah))(i:Nat),((RR rs).mapIdx fun k d=>PyD.tuple [.int ((k +i:Nat):Int),d]).flatMap uC=FF (cH i rs)
 |[],i=>rfl
 |r::rs,i=>by
  have ih:=kQ rs (i +1)
  have e:(RR (r::rs)).mapIdx (fun k d=>PyD.tuple [.int ((k +i:Nat):Int),d])= .tuple [.int ((0 +i:Nat):Int),.list (DD r)]::(RR rs).mapIdx fun k d=>PyD.tuple [.int ((k +(i +1):Nat):Int),d]:=by
   show(_::RR rs).mapIdx _=_
   rw[List.mapIdx_cons]
   congr 1
   apply congrArg (fun f=>List.mapIdx f (RR rs))
   funext k d
   rw[show k +1 +i=k +(i +1) by exact Nat.succ_add_eq_add_succ _ _]
  rw[e,List.flatMap_cons,ih]
  cases r with
  |nil=>rfl
  |cons d r=>show[PyD.tuple [.int ((0 +i:Nat):Int),.str (bZ d)]] ++_=_;rw[Nat.zero_add];rfl
theorem pC(rs:List (List ah)):(bN (RR rs)).flatMap uC=FF (ai rs):=kQ rs 0
noncomputable def xn(held:List Str):PyD->List PyD
 | .tuple [.int i,.str x]=>if(x.cps[0]?==some 45||!held.any (·==Txt.slice x (some 1) none))=true then[.tuple [.int i,.str x]]else[]
 |_=>[]
theorem uI(d:ah):((bZ d).cps[0]?==some 45)=!d.1:=by
 rw[fQ]
 cases d.1<;>rfl
theorem wu(held:List Str)(fs:List (Nat×ah)):(FF fs).flatMap (xn held)=FF (fs.filter (aF held)):=by
 induction fs with
 |nil=>rfl
 |cons f fs ih=>
  rw[show FF (f::fs)=tQ f::FF fs from rfl,List.flatMap_cons,ih,List.filter_cons]
  show(if((bZ f.2).cps[0]?==some 45||!held.any (·==Txt.slice (bZ f.2) (some 1) none))=true then[tQ f]else[]) ++_=_
  rw[uI,eB]
  show(if aF held f=true then _ else _) ++_=_
  by_cases h:aF held f=true
  ·rw[if_pos h,if_pos h];rfl
  ·rw[if_neg h,if_neg h];rfl
noncomputable abbrev qz(num:Nat)(lk:Bool)(st:bV):LS:=
 [("rest",.own (RR st.rest)),("held",.own (st.held.map .str)),("log",.own (LL st.log)),("turn",.fz (DV (.int (st.turn:Nat)))),("number",.fz (DV (.int (num:Nat)))),("locked",.fz (DV (.bool lk)))]
theorem eE{f:Nat×ah}:∀{rs:List (List ah)}{i:Nat},f∈cH i rs->X2 fun k r=>f.1=i +k/\rs[k]?=some (f.2::r)
 |[],i,h=>by cases h
 |[]::rs,i,h=>by
  obtain⟨k,r,h1,h2⟩:=eE (rs:=rs) (i:=i +1) h
  exact⟨k +1,r,by exact B2 ‹_›,by simpa using h2⟩
 |(d::r)::rs,i,h=>by
  rcases List.mem_cons.mp h with rfl|h
  ·exact⟨0,r,by simp,rfl⟩
  ·obtain⟨k,r',h1,h2⟩:=eE (rs:=rs) (i:=i +1) h
   exact⟨k +1,r',by exact B2 ‹_›,by simpa using h2⟩
theorem dL{f:Nat×ah}{rs:List (List ah)}(h:f∈ai rs):∃r,rs[f.1]?=some (f.2::r):=by
 obtain⟨k,r,h1,h2⟩:=eE h
 exact⟨r,by rw[h1,Nat.zero_add];exact h2⟩
structure fy(st:bV):Prop where
 len:st.rest.length<=100
 rows:∀r∈st.rest,r.length<=100/\∀d∈r,dZ d.2
 held:st.held.length +aR st.rest<=100000/\∀x∈st.held,dZ x
 log:st.log.length +aR st.rest<=100000
 turn:st.turn +aR st.rest<=100000
theorem fy.first{st:bV}(I:fy st){f:Nat×ah}(h:f∈ai st.rest):dZ f.2.2/\f.1<st.rest.length:=by
 obtain⟨r,hr⟩:=dL h
 exact⟨(I.rows _ (List.mem_of_getElem? hr)).2 _ (.head _),(List.getElem?_eq_some_iff.mp hr).1⟩
theorem yL:∀{fs:List (Nat×ah)},(∀f∈fs,dZ f.2.2)->PyD.canLayAll0 (FF fs)=true
 |[],_=>rfl
 |f::fs,h=>by
  show(((PyD.str (bZ f.2)).canLay0&&true)&&PyD.canLayAll0 (FF fs))=true
  rw[(uA (h f (.head _)).1 (h f (.head _)).2).lay,yL fun y hy=>h y (.tail _ hy)];rfl
theorem qY:∀fs:List (Nat×ah),PyD.depthAll (FF fs)<=1
 |[]=>Nat.zero_le _
 |f::fs=>by
  show max 1 (PyD.depthAll (FF fs))<=1
  exact Nat.max_le.mpr ⟨Nat.le_refl _,qY fs⟩
theorem eI:∀(rs:List (List ah))(i:Nat),(cH i rs).length<=rs.length
 |[],i=>Nat.le_refl _
 |[]::rs,i=>Nat.le_succ_of_le (eI rs (i +1))
 |(d::r)::rs,i=>Nat.succ_le_succ (eI rs (i +1))
theorem Bh{fs:List (Nat×ah)}{k:Nat}(h:k<fs.length):(FF fs)[k]?=some (tQ (fs.getD k (0,(true,"")))):=by
 unfold FF
 rw[List.getElem?_map,List.getD_eq_getElem?_getD,List.getElem?_eq_getElem h];rfl
theorem A0{rs:List (List ah)}{k:Nat}(h:k<rs.length):(RR rs)[k]?=some (.list (DD (rs.getD k []))):=by
 unfold RR
 rw[List.getElem?_map,List.getD_eq_getElem?_getD,List.getElem?_eq_getElem h];rfl
theorem tf(G:Gr KZ hg)(L:Nat)(num:Nat)(lk:Bool)(st:bV)(I:fy st):
  X hg false (n +5) (callEnvC jf.fd L 278) (qz num lk st) (bw (bb (bw jf.body 1)) 0) (.next (("firsts",.own (FF (ai st.rest)))::qz num lk st)):=by
 have hl:=eI st.rest 0
 have il:=I.len
 refine ta (out:=FF (ai st.rest)) (item:=uC) (ρc:=[]) bv rfl (mn (ds:=RR st.rest) (by trivial) (b8 rfl)) rfl (fun O q=>by cases q) ?_ (pC _) (by show(List.map _ _).length<=_;rw[List.length_map];show(cH 0 _).length<=_;exact Nat.le_trans ‹_› (Nat.le_trans ‹_› (by decide))) (.inl rfl)
 intro C d hd
 obtain⟨i,hi⟩:=List.getElem?_of_mem hd
 obtain⟨d',hd',rfl⟩:=em hi
 have:∃r∈st.rest,d'= .list (DD r):=by
  obtain⟨r,hr,rfl⟩:=List.mem_map.mp (List.mem_of_getElem? hd')
  exact⟨r,hr,rfl⟩
 obtain⟨r,hr,rfl⟩:=this
 have hrow:=I.rows r hr
 have hitem:uC (.tuple [.int (i:Nat),.list (DD r)])=if(!(DD r).isEmpty)=true then[.tuple [.int (i:Nat),(DD r).headD .none]]else[]:=by cases r<;>rfl
 rw[hitem]
 refine eg (.tuple (.cons .name (.cons .name .nil))) ?_ (fun O O e=>by cases e) ?_ ?_
 ·exact fL (rfl) (rfl)
 ·exact aX (e9 (aa rfl)) (gP (aO au)) (jT (tx hrow.2) (by rw[mq];decide))
 ·intro hb
  refine cW (ak (aa rfl) (ak (bq (bL (aa rfl)) aJ (cp (by decide) ?_ (by decide))) au))
  cases r with
  |nil=>cases hb
  |cons a r=>rfl
section
variable{d:ah}
theorem pF{p1 p2 p3 p4 p5:Pos}(h:ρ.lookup ("deed":Str)=some (LV.fz (DV (.str (bZ d))))):Tv hg n env ρ (.Compare (.Subscript (.Name "deed" p1) (.Constant (.int 0) 0 p2) p3) [.Eq] [.Constant (.str "+") 0 p4] p5) d.1:=by
 have hcmp:((⟨#[if d.1=true then 43 else 45]⟩:Str)==("+":Str))=d.1:=by cases d.1<;>rfl
 rw[<-hcmp]
 exact aX (bq (aa h) aJ (jE (by decide) (fQ d) (by decide))) du ie
theorem zI{p1 p2 p3 p4 p5:Pos}(h:ρ.lookup ("deed":Str)=some (LV.fz (DV (.str (bZ d))))):Tv hg n env ρ (.Compare (.Subscript (.Name "deed" p1) (.Constant (.int 0) 0 p2) p3) [.Eq] [.Constant (.str "-") 0 p4] p5) (!d.1):=by
 have hcmp:((⟨#[if d.1=true then 43 else 45]⟩:Str)==("-":Str))=!d.1:=by cases d.1<;>rfl
 rw[<-hcmp]
 exact aX (bq (aa h) aJ (jE (by decide) (fQ d) (by decide))) du ie
theorem jc{p1 p2 p3 p4:Pos}(h:ρ.lookup ("deed":Str)=some (LV.fz (DV (.str (bZ d)))))(hd:dZ d.2):Ev hg n env ρ (.Subscript (.Name "deed" p1) (.Slice (some (.Constant (.int 1) 0 p2)) none none p3) p4) (RF (DV (.str d.2))):=by
 suffices key:Ev hg n env ρ (.Subscript (.Name "deed" p1) (.Slice (some (.Constant (.int 1) 0 p2)) none none p3) p4) (RF (DV (.str (Txt.slice (bZ d) (some 1) none)))) by rwa [eB]at key
 exact bq (aa h) (cY (c9 aJ) bU bU) (fF (by rw[lG];have:=hd.2;exact Nat.le_trans (Nat.add_le_add_right ‹_› _) (by decide)))
end
theorem y0(G:Gr KZ hg)(L:Nat)(num:Nat)(lk:Bool)(st:bV)(I:fy st):
  X hg false (n +5) (callEnvC jf.fd L 278) (("firsts",.own (FF (ai st.rest)))::qz num lk st) (bw (bb (bw jf.body 1)) 1) (.next (("able",.own (FF ((ai st.rest).filter (aF st.held))))::("firsts",.own (FF (ai st.rest)))::qz num lk st)):=by
 have hl:=eI st.rest 0
 have il:=I.len
 have lf:=List.length_filter_le (aF st.held) (ai st.rest)
 have hl':(ai st.rest).length<=100:=Nat.le_trans hl il
 refine ta (item:=xn st.held) (ρc:=[("held",.own (st.held.map .str))]) bv rfl (bo (ds:=FF (ai st.rest)) (b8 rfl)) rfl ?_ ?_ (wu _ _) (by show(List.map _ _).length<=_;rw[List.length_map];exact Nat.le_trans ‹_› (Nat.le_trans ‹_› (by decide))) (.inl rfl)
 ·intro q hq
  rw[List.mem_singleton.mp hq];exact⟨rfl,.inl rfl,⟨.inl rfl,rfl⟩,rfl⟩
 ·intro C d hd
  obtain⟨f,hf,rfl⟩:=List.mem_map.mp hd
  obtain⟨hok,_⟩:=I.first hf
  have hitem:xn st.held (tQ f)=if aF st.held f=true then[tQ f]else[]:=by
   show(if((bZ f.2).cps[0]?==some 45||!st.held.any (·==Txt.slice (bZ f.2) (some 1) none))=true then[tQ f]else[])=_
   rw[uI,eB];rfl
  rw[hitem]
  refine eg (.tuple (.cons .name (.cons .name .nil))) ?_ (cT.at ⟨rfl,trivial⟩) ?_ ?_
  ·exact fL (rfl) (rfl)
  ·exact pL (zI rfl) fun O=>aX (e9 (jc rfl hok)) (kB (b8 rfl)) (nL hok.s fun y hy=>(I.held.2 y hy).s)
  ·intro _
   exact cW (ak (aa rfl) (ak (aa rfl) au))
noncomputable def jY:List Str->List ah->Prop
 |_,[]=>True
 |H,(true,x)::r=>jY (H ++[x]) r
 |H,(false,x)::r=>x∈H/\jY (H.erase x) r
structure kY(lk:Bool)(st:bV):Prop where
 off:lk=false->st.held=[]
 on:lk=true->∃Hs:List (List Str),A3 (Hs.length=st.rest.length) (st.held.Perm Hs.flatten) (∀i (h:i<st.rest.length) (h':i<Hs.length),jY Hs[i] st.rest[i])
theorem kY.give{lk:Bool}{st:bV}(K:kY lk st)(hl:lk=true){f:Nat×ah}(h:f∈ai st.rest)(hg:f.2.1=false):f.2.2∈st.held:=by
 obtain⟨Hs,h1,h2,h3⟩:=K.on hl
 obtain⟨r,hr⟩:=dL h
 obtain⟨hlt,he⟩:=List.getElem?_eq_some_iff.mp hr
 have hv:=h3 f.1 hlt (by exact Nat.lt_of_lt_of_eq ‹_› (Eq.symm ‹_›))
 rw[he]at hv
 obtain⟨i,⟨b,x⟩⟩:=f
 simp only at hg hv⊢
 subst hg
 exact h2.mem_iff.mpr (List.mem_flatten.mpr ⟨_,List.getElem_mem (by exact Nat.lt_of_lt_of_eq ‹_› (Eq.symm ‹_›)),hv.1⟩)
theorem gc{rs:List (List ah)}{i:Nat}{d:ah}{r:List ah}(h:rs[i]?=some (d::r)):aR (rs.set i r) +1=aR rs:=by
 induction rs generalizing i with
 |nil=>simp at h
 |cons a rs ih=>
  cases i with
  |zero=>
   simp at h;subst h
   simp[aR];exact Eq.symm (Nat.succ_add _ _)
  |succ i=>
   have:=ih (i:=i) (by simpa using h)
   simp only[aR,List.set_cons_succ,List.map_cons,List.sum_cons]at this⊢
   exact Cr ‹_›
theorem y8{rs:List (List ah)}{i:Nat}{d:ah}{r:List ah}(h:rs[i]?=some (d::r)):1<=aR rs:=by
 have:=gc h;exact Cs ‹_›
theorem yh(G:Gr KZ hg)(L:Nat)(num:Nat)(lk:Bool)(st:bV)(I:fy st)(K:kY lk st)(hnum:num<100000000):
  Ex hg false (n +5) (callEnvC jf.fd L 278) (qz num lk st) (bb (bw jf.body 1))
   (if(ai st.rest).filter (aF st.held)=[]then .ret (RF (DV (.tuple [.list (LL st.log),.list (FF (ai st.rest))])))else .next (qz num lk (ii num lk st))):=by
 refine ac (tf G L num lk st I) (ac (y0 G L num lk st I) ?_)
 have hfm:∀f∈(ai st.rest).filter (aF st.held),f∈ai st.rest:=fun f hf=>(List.mem_filter.mp hf).1
 have hok:∀f∈(ai st.rest).filter (aF st.held),dZ f.2.2:=fun f hf=>(I.first (hfm f hf)).1
 have lf:=List.length_filter_le (aF st.held) (ai st.rest)
 have hl':(ai st.rest).length<=100:=Nat.le_trans (eI st.rest 0) I.len
 have hst:ii num lk st=⟨st.rest.set (((ai st.rest).filter (aF st.held)).getD ((num / (st.turn +1))%((ai st.rest).filter (aF st.held)).length) (0,(true,""))).1 ((st.rest.getD (((ai st.rest).filter (aF st.held)).getD ((num / (st.turn +1))%((ai st.rest).filter (aF st.held)).length) (0,(true,""))).1 []).drop 1),
   if lk=true then(if(((ai st.rest).filter (aF st.held)).getD ((num / (st.turn +1))%((ai st.rest).filter (aF st.held)).length) (0,(true,""))).2.1=true then st.held ++[(((ai st.rest).filter (aF st.held)).getD ((num / (st.turn +1))%((ai st.rest).filter (aF st.held)).length) (0,(true,""))).2.2]else st.held.erase (((ai st.rest).filter (aF st.held)).getD ((num / (st.turn +1))%((ai st.rest).filter (aF st.held)).length) (0,(true,""))).2.2)else st.held,
   if(((ai st.rest).filter (aF st.held)).getD ((num / (st.turn +1))%((ai st.rest).filter (aF st.held)).length) (0,(true,""))).2.1=true then st.log ++[((((ai st.rest).filter (aF st.held)).getD ((num / (st.turn +1))%((ai st.rest).filter (aF st.held)).length) (0,(true,""))).2.2,(((ai st.rest).filter (aF st.held)).getD ((num / (st.turn +1))%((ai st.rest).filter (aF st.held)).length) (0,(true,""))).1)]else st.log,st.turn +1⟩:=rfl
 have hFF:((FF ((ai st.rest).filter (aF st.held))).isEmpty=true)=((ai st.rest).filter (aF st.held)=[]):=by
  cases(ai st.rest).filter (aF st.held)with
  |nil=>simp[FF]
  |cons a l=>simp[FF]
 generalize (ai st.rest).filter (aF st.held)=ab at*
 by_cases hnil:ab=[]
 ·subst hnil
  rw[if_pos rfl]
  exact aY (fv (b:=true) (aX (kB (b8 rfl)) (gP (aO au)) (ev (ds:=[]) rfl (by decide))) (fun O=>aY (ty rfl rfl) rfl) (fun q=>by cases q)) rfl
 ·rw[if_neg hnil]
  have hpos:0<ab.length:=List.length_pos_iff.mpr hnil
  refine ac (fv (b:=(FF ab).isEmpty) (aX (kB (b8 rfl)) (gP (aO au)) (ev (yL hok) (Nat.le_trans (qY ab) (by decide)))) (fun q=>absurd (hFF.mp q) hnil) (fun O=>aQ fun O O e=>e)) ?_
  have htot:1<=aR st.rest:=by
   obtain⟨r,hr⟩:=dL (hfm _ (List.getElem_mem hpos))
   exact y8 hr
  have ht:=I.turn
  refine ac (yN (G:=DV (.int (1:Nat))) (F':=DV (.int ((st.turn +1:Nat):Int))) rfl aJ (rU (b:=1)) (.inl rfl)) ?_
  have hk:(num / (st.turn +1))%ab.length<ab.length:=Nat.mod_lt _ hpos
  have hlenE:∀{ρ:LS}{p' p'' p3:Pos},ρ.lookup ("able":Str)=some (LV.own (FF ab))->Ev hg (n +5) (callEnvC jf.fd L 278) ρ (.Call (.Name "len" p') [.Name "able" p''] [] p3) (RF (DV (.int (ab.length:Nat)))):=fun h=>by
   have:=eo (hg:=hg) (n:=n +5) (ds:=FF ab) (by show(List.map _ _).length<=_;rw[List.length_map];exact Nat.le_trans ‹_› (Nat.le_trans ‹_› (by decide)))
   rw[show(FF ab).length=ab.length from List.length_map ..]at this
   exact aB (by trivial) (.builtin _) (gH (b8 h) ao) this
  have hmem:ab.getD ((num / (st.turn +1))%ab.length) (0,(true,""))∈ab:=by rw[List.getD_eq_getElem?_getD,List.getElem?_eq_getElem hk];exact List.getElem_mem hk
  have hgetF:=Bh hk
  have hfirst:=hfm _ hmem
  generalize ab.getD ((num / (st.turn +1))%ab.length) (0,(true,""))=f at hmem hgetF hfirst hst⊢
  obtain⟨hdv,hlt⟩:=I.first hfirst
  obtain⟨r,hr⟩:=dL hfirst
  refine ac (jp (ds:=[.int (f.1:Nat),.str (bZ f.2)]) (bq (b8 rfl) (bO (bO (aa rfl) (aa rfl) (gD (by omega) (by exact Nat.lt_of_lt_of_le ‹_› (by decide)) (by exact Ds ‹_› ‹_›))) (hlenE rfl) (gk (by omega))) (cp (by exact Int.natCast_nonneg _) (by rw[Int.toNat_natCast];exact hgetF) (by exact zb (Nat.lt_of_lt_of_le ‹_› (Nat.le_trans ‹_› (Nat.le_trans ‹_› (by decide))))))) (.cons .name (.cons .name .nil)) ?_) ?_
  ·exact fL (.inl rfl) (.inl rfl)
  have hgd:st.rest.getD f.1 []=f.2::r:=by rw[List.getD_eq_getElem?_getD,hr];rfl
  have hrl:=I.rows _ (List.mem_of_getElem? hr)
  have hRR:=A0 hlt
  rw[hgd]at hRR hst
  have hsl:fV (DD (f.2::r)) (some ((1:Nat):Int)) none=DD r:=tI _ 1
  have hrlen:(RR st.rest).length=st.rest.length:=List.length_map ..
  refine ac (wQ (d:=.list (DD r)) (k:=f.1) rfl ?_ (aa rfl) (by rw[hrlen];exact hlt) (by rw[hrlen];have:=I.len;exact Nat.le_trans ‹_› (by decide))) ?_
  ·rw[<-hsl]
   exact d8 (bq (bL (bq (b8 rfl) (aa rfl) (cp (d:=.list (DD (f.2::r))) (by exact Int.natCast_nonneg _) (by rw[Int.toNat_natCast];exact hRR) (by have:=I.len;exact zb (Nat.lt_of_lt_of_le ‹_› (Nat.le_trans ‹_› (by decide))))))) (cY (c9 aJ) bU bU) (eH (by rw[eT];have:=hrl.1;exact Nat.le_trans ‹_› (by decide))))
  have hRset:(RR st.rest).set f.1 (.list (DD r))=RR (st.rest.set f.1 r):=by unfold RR;rw[List.map_set]
  rw[hRset]
  have hll:=I.log
  have hhl:=I.held
  have hheld:=hhl.2
  have e1:List.drop 1 (f.2::r)=r:=rfl
  rw[e1]at hst
  have hgive:lk=true->f.2.1=false->f.2.2∈st.held:=fun a b=>K.give a hfirst b
  clear hsl hRset hrlen
  refine ac (ρ1:=[("rest",.own (RR (st.rest.set f.1 r))),("held",.own (st.held.map .str)),("log",.own (LL (if f.2.1=true then st.log ++[(f.2.2,f.1)]else st.log))),("turn",.fz (DV (.int ((st.turn +1:Nat):Int)))),("number",.fz (DV (.int (num:Nat)))),("locked",.fz (DV (.bool lk))),("hand",.fz (DV (.int (f.1:Nat)))),("deed",.fz (DV (.str (bZ f.2))))]) (fv (b:=f.2.1) (pF rfl) ?_ ?_) ?_
  ·intro hb
   rw[if_pos hb]
   refine ac (dR (d:=mZ (f.2.2,f.1)) rfl (cW (ak (jc rfl hdv) (ak (aa rfl) au))) (by show(List.map mZ _).length<=_;rw[List.length_map];exact Nat.le_trans (jy ‹_›) (by decide))) (aQ (cT.at ⟨rfl,rfl,?_,rfl,rfl,rfl,rfl,rfl,trivial⟩))
   simp only[LL,List.map_append];rfl
  ·intro hb
   rw[if_neg (by rw[hb];decide)]
   exact aQ (cT.at ⟨rfl,rfl,rfl,rfl,rfl,rfl,rfl,rfl,trivial⟩)
  rw[hst]
  refine ac (fv (b:=lk&&f.2.1) (jN (cw (aa rfl)) fun O=>pF rfl) ?_ ?_) (aQ fun O O e=>e)
  ·intro hb
   simp only[Bool.and_eq_true]at hb
   refine ac (dR (d:=.str f.2.2) rfl (jc rfl hdv) (by rw[List.length_map];exact BR ‹_›)) (aQ (cT.at ⟨rfl,?_,rfl,rfl,rfl,rfl,trivial⟩))
   simp only[hb.1,hb.2,if_true,List.map_append];rfl
  ·intro hb
   refine ac (fv (b:=lk) (cw (aa rfl)) ?_ ?_) (aQ fun O O e=>e)
   ·intro hlk
    have hb':f.2.1=false:=by rw[hlk]at hb;simpa using hb
    have hin:st.held.any (·==f.2.2)=true:=by
     rw[List.any_eq_true]
     exact⟨f.2.2,hgive hlk hb',by simp⟩
    refine ac (jw (d:=.str f.2.2) rfl (jc rfl hdv) (gU fun y hy=>(hheld y hy).s) hdv.s.lay (by simp[PyD.depth]) (by rw[List.length_map];exact BR ‹_›) (by rw[lu];exact hin)) (aQ (cT.at ⟨rfl,?_,rfl,rfl,rfl,rfl,trivial⟩))
    rw[mJ]
    simp only[hlk,hb',if_true,Bool.false_eq_true,if_false];rfl
   ·intro hlk
    refine aQ (cT.at ⟨rfl,?_,rfl,rfl,rfl,rfl,trivial⟩)
    simp only[hlk,Bool.false_eq_true,if_false];rfl
end
section
variable{z:Bool}
noncomputable def bP(st:bV):List (Nat×ah):=(ai st.rest).filter (aF st.held)
noncomputable def eY(lk:Bool)(st:bV)(f:Nat×ah)(r:List ah):bV:=
 ⟨st.rest.set f.1 r,if lk=true then(if f.2.1=true then st.held ++[f.2.2]else st.held.erase f.2.2)else st.held,if f.2.1=true then st.log ++[(f.2.2,f.1)]else st.log,st.turn +1⟩
theorem lQ{num:Nat}{lk:Bool}{st:bV}(hn:bP st≠[]):X2 fun f r=>A5 (f∈bP st) (f∈ai st.rest) (aF st.held f=true) (st.rest[f.1]?=some (f.2::r)) (ii num lk st=eY lk st f r):=by
 have hpos:0<(bP st).length:=List.length_pos_iff.mpr hn
 have hk:=Nat.mod_lt (num / (st.turn +1)) hpos
 have hmem:(bP st).getD ((num / (st.turn +1))%(bP st).length) (0,(true,""))∈bP st:=by rw[List.getD_eq_getElem?_getD,List.getElem?_eq_getElem hk];exact List.getElem_mem hk
 have hst:ii num lk st=eY lk st ((bP st).getD ((num / (st.turn +1))%(bP st).length) (0,(true,""))) ((st.rest.getD ((bP st).getD ((num / (st.turn +1))%(bP st).length) (0,(true,""))).1 []).drop 1):=rfl
 generalize (bP st).getD ((num / (st.turn +1))%(bP st).length) (0,(true,""))=f at hmem hst
 obtain⟨h1,h2⟩:=List.mem_filter.mp hmem
 obtain⟨r,hr⟩:=dL h1
 refine⟨f,r,hmem,h1,h2,hr,?_⟩
 have hgd:st.rest.getD f.1 []=f.2::r:=by rw[List.getD_eq_getElem?_getD,hr];rfl
 rw[hst,hgd];rfl
theorem fy.after{lk:Bool}{st:bV}(I:fy st){f:Nat×ah}{r:List ah}(hf:f∈ai st.rest)(hr:st.rest[f.1]?=some (f.2::r)):fy (eY lk st f r):=by
 have ht:=gc hr
 have hrow:=I.rows _ (List.mem_of_getElem? hr)
 obtain⟨hok,hlt⟩:=I.first hf
 have h1:=I.held.1
 have h2:=I.log
 have h3:=I.turn
 refine⟨by show(st.rest.set _ _).length<=100;rw[List.length_set];exact I.len,fun q hq=>?_,⟨?_,fun x hx=>?_⟩,?_,?_⟩
 ·rcases List.mem_or_eq_of_mem_set hq with hq|rfl
  ·exact I.rows q hq
  ·exact⟨by have:=hrow.1;simp at this;exact Nat.le_trans ‹_› (by decide),fun d hd=>hrow.2 d (.tail _ hd)⟩
 ·have he:=(List.erase_sublist (a:=f.2.2) (l:=st.held)).length_le
  show(if lk=true then(if f.2.1=true then st.held ++[f.2.2]else st.held.erase f.2.2)else st.held).length +aR (st.rest.set f.1 r)<=_
  split
  ·split
   ·rw[List.length_append];show _ +1 +_<=_;exact Cy ‹_› ‹_›
   ·omega
  ·exact Bj ‹_› ‹_›
 ·have hx':x∈(if lk=true then(if f.2.1=true then st.held ++[f.2.2]else st.held.erase f.2.2)else st.held):=hx
  split at hx'
  ·split at hx'
   ·rcases List.mem_append.mp hx' with q|q
    ·exact I.held.2 x q
    ·rw[List.mem_singleton.mp q];exact hok
   ·exact I.held.2 x (List.mem_of_mem_erase hx')
  ·exact I.held.2 x hx'
 ·show(if f.2.1=true then st.log ++[(f.2.2,f.1)]else st.log).length +aR (st.rest.set f.1 r)<=_
  split
  ·rw[List.length_append];show _ +1 +_<=_;exact Cy ‹_› ‹_›
  ·exact Bj ‹_› ‹_›
 ·show st.turn +1 +aR (st.rest.set f.1 r)<=_
  exact Cy ‹_› ‹_›
theorem nW(x:Str):∀(Hs:List (List Str))(i:Nat)(h:i<Hs.length),(Hs.flatten ++[x]).Perm (Hs.set i (Hs[i] ++[x])).flatten
 |H::Hs,0,h=>by
  simp only[List.flatten_cons,List.set_cons_zero,List.getElem_cons_zero,List.append_assoc]
  exact List.Perm.append_left H List.perm_append_comm
 |H::Hs,i +1,h=>by
  simp only[List.flatten_cons,List.set_cons_succ,List.getElem_cons_succ,List.append_assoc]
  exact List.Perm.append_left H (nW x Hs i (by simpa using h))
theorem oK(x:Str):∀(Hs:List (List Str))(i:Nat)(h:i<Hs.length),x∈Hs[i]->(x::(Hs.set i (Hs[i].erase x)).flatten).Perm Hs.flatten
 |H::Hs,0,h,hx=>by
  simp only[List.flatten_cons,List.set_cons_zero,List.getElem_cons_zero]
  rw[<-List.cons_append]
  exact List.Perm.append_right _ (List.perm_cons_erase hx).symm
 |H::Hs,i +1,h,hx=>by
  simp only[List.flatten_cons,List.set_cons_succ,List.getElem_cons_succ]
  have:=oK x Hs i (by simpa using h) hx
  exact(List.perm_middle.symm).trans (List.Perm.append_left H this)
theorem kY.after{lk:Bool}{st:bV}(K:kY lk st){f:Nat×ah}{r:List ah}(hr:st.rest[f.1]?=some (f.2::r)):kY lk (eY lk st f r):=by
 refine⟨fun h=>?_,fun h=>?_⟩
 ·show(if lk=true then _ else st.held)=[]
  rw[if_neg (by rw[h];decide)];exact K.off h
 ·obtain⟨Hs,h1,h2,h3⟩:=K.on h
  obtain⟨hlt,he⟩:=List.getElem?_eq_some_iff.mp hr
  have hi:f.1<Hs.length:=by exact Nat.lt_of_lt_of_eq ‹_› (Eq.symm ‹_›)
  have hv:=h3 f.1 hlt hi
  rw[he]at hv
  have hheld:(Mine.eY lk st f r).held=if f.2.1=true then st.held ++[f.2.2]else st.held.erase f.2.2:=if_pos h
  have hrest:(Mine.eY lk st f r).rest=st.rest.set f.1 r:=rfl
  obtain⟨i,⟨b,x⟩⟩:=f
  simp only at hheld hrest hi hv hlt
  cases b with
  |true=>
   refine⟨Hs.set i (Hs[i] ++[x]),by rw[List.length_set,hrest,List.length_set];exact h1,?_,fun j hj hj'=>?_⟩
   ·rw[hheld,if_pos rfl]
    exact(h2.append_right [x]).trans (nW x Hs i hi)
   ·simp only[hrest]
    rw[List.getElem_set,List.getElem_set]
    by_cases q:i=j
    ·subst q;simp only[if_true];exact hv
    ·simp only[q,if_false];exact h3 j (by simpa [hrest]using hj) (by simpa using hj')
  |false=>
   refine⟨Hs.set i (Hs[i].erase x),by rw[List.length_set,hrest,List.length_set];exact h1,?_,fun j hj hj'=>?_⟩
   ·rw[hheld,if_neg (by decide)]
    have:=(h2.trans (oK x Hs i hi hv.1).symm).erase x
    rwa [List.erase_cons_head]at this
   ·simp only[hrest]
    rw[List.getElem_set,List.getElem_set]
    by_cases q:i=j
    ·subst q;simp only[if_true];exact hv.2
    ·simp only[q,if_false];exact h3 j (by simpa [hrest]using hj) (by simpa using hj')
theorem rn(G:Gr KZ hg)(L:Nat)(num:Nat)(lk:Bool)(hnum:num<100000000):∀(m:Nat)(st:bV),aR st.rest<m->fy st->kY lk st->
  km hg false (n +5) (callEnvC jf.fd L 278) (dC (bw jf.body 1)) (bb (bw jf.body 1)) m (qz num lk st) (.ret (RF (DV (.tuple [.list (LL (cO num lk m st).log),.list (FF (ai (cO num lk m st).rest))]))))
 |0,st,h,I,K=>by exact absurd ‹_› (Nat.not_lt_zero _)
 |m +1,st,h,I,K=>by
  have turn:=yh (n:=n) G L num lk st I K hnum
  have e:cO num lk (m +1) st=if(ai st.rest).filter (aF st.held)=[]then st else cO num lk m (ii num lk st):=rfl
  by_cases hn:(ai st.rest).filter (aF st.held)=[]
  ·rw[if_pos hn]at turn e
   rw[e]
   exact .ret (cw dP) turn
  ·rw[if_neg hn]at turn e
   rw[e]
   obtain⟨f,r,_,hf,_,hr,hst⟩:=lQ (num:=num) (lk:=lk) (st:=st) hn
   rw[hst]at turn⊢
   exact .next (cw dP) turn (rn G L num lk hnum m _ (by have:=gc hr;show aR (st.rest.set f.1 r)<m;exact En ‹_› ‹_›) (I.after hf hr) (K.after hr))
theorem mO:∀(rs:List (List ah)),(∀r∈rs,r.length<=100)->aR rs<=100*rs.length
 |[],_=>Nat.le_refl _
 |r::rs,h=>by
  have h1:=mO rs fun q hq=>h q (.tail _ hq)
  have h2:=h r (.head _)
  show(r.length::rs.map List.length).sum<=_
  rw[List.sum_cons]
  show r.length +aR rs<=_
  simp only[List.length_cons]
  exact E6 ‹_› ‹_›
structure gW(rs:List (List ah)):Prop where
 len:rs.length<=100
 rows:∀r∈rs,r.length<=100/\∀d∈r,dZ d.2
 val:∀r∈rs,jY [] r
theorem gW.inv{rs:List (List ah)}(h:gW rs):fy ⟨rs,[],[],0⟩:=by
 have:=mO rs fun r hr=>(h.rows r hr).1
 have hl:=h.len
 refine⟨h.len,h.rows,⟨?_,fun x hx=>by cases hx⟩,?_,?_⟩<;>(show 0 +aR rs<=_;exact Cq ‹_› ‹_›)
theorem gW.lk{rs:List (List ah)}(h:gW rs)(lk:Bool):kY lk ⟨rs,[],[],0⟩:=by
 refine⟨fun O=>rfl,fun O=>⟨List.replicate rs.length [],List.length_replicate,?_,fun i hi hi'=>?_⟩⟩
 ·have:(List.replicate rs.length ([]:List Str)).flatten=[]:=by simp
  show([]:List Str).Perm _
  rw[this]
 ·rw[List.getElem_replicate]
  exact h.val _ (List.getElem_mem hi)
theorem AV(G:Gr KZ hg)(L:Nat)(rs:List (List ah))(num:Nat)(lk:Bool)(hr:gW rs)(hnum:num<100000000):
  Ex hg false (n +5) (callEnvC jf.fd L 278) [("rows",.fz (DV (.list (RR rs)))),("number",.fz (DV (.int (num:Nat)))),("locked",.fz (DV (.bool lk)))] jf.body
   (.ret (RF (DV (.tuple [.list (LL (bC rs num lk).log),.list (FF (ai (bC rs num lk).rest))])))):=by
 have hlen:(RR rs).length<=1000000:=by show(List.map _ _).length<=_;rw[List.length_map];have:=hr.len;exact Nat.le_trans ‹_› (by decide)
 refine ac (uM (ts:=[("rest",_),("held",_),("log",_),("turn",_)]) (Ks:=[.own (RR rs),.own [],.own [],.fz (DV (.int (0:Nat)))]) (ej (aB (by trivial) (.type _) (gH (bL (aa rfl)) ao) (qk hlen)) (ej (aO au) (ej (aO au) (sO aJ lw)))) rfl ?_) ?_
 ·exact Da (.inl rfl) (.inr ⟨rfl,_,rfl⟩) (.inl rfl) (.inl rfl)
 refine dN (ρ':=qz num lk ⟨rs,[],[],0⟩) (cT.at (by exact⟨rfl,rfl,rfl,rfl,rfl,rfl,trivial⟩)) ?_
 exact aY (Aa (rn G L num lk hnum (aR rs +1) ⟨rs,[],[],0⟩ (Nat.lt_succ_self _) hr.inv (hr.lk lk))) rfl
theorem Ai(G:Gr KZ hg)(rs:List (List ah))(num:Nat)(lk:Bool)(hr:gW rs)(hnum:num<100000000):
  gO hg (n +6) (.ref 278) [rF (DV (.list (RR rs))),rF (DV (.int (num:Nat))),rF (DV (.bool lk))] (RF (DV (.tuple [.list (LL (bC rs num lk).log),.list (FF (ai (bC rs num lk).rest))]))):=by
 refine gM (z:=false) G jf ["rows","number","locked"] [DV (.list (RR rs)),DV (.int (num:Nat)),DV (.bool lk)] _ ?_ ?_ fun L=>AV G L rs num lk hr hnum
 ·intro vs h
  obtain⟨_,_,_,rfl⟩:=B4 h;rfl
 ·exact fun L=>nB (.inl rfl) (.inl rfl) (.inl rfl)
end
section
variable{z:Bool}
noncomputable abbrev bf:=Str×Nat×Nat
noncomputable def eh(m:bf):PyD:=.tuple [.str m.1,.int (m.2.1:Nat),.int (m.2.2:Nat)]
noncomputable def MM(ms:List bf):List PyD:=ms.map eh
theorem oB(a b:List bf):MM (a ++b)=MM a ++MM b:=List.map_append ..
theorem kt(a:List bf):(MM a).length=a.length:=List.length_map ..
theorem Bs(a:List (Str×Nat)):(LL a).length=a.length:=List.length_map ..
noncomputable def dj(pre:List (Str×Nat))(f:Str×Nat):List bf:=(pre.filter fun g=>g.1==f.1).map fun g=>(f.1,g.2,f.2)
noncomputable def cN:List (Str×Nat)->List (Str×Nat)->List bf
 |_,[]=>[]
 |pre,f::rest=>dj pre f ++cN (pre ++[f]) rest
noncomputable def aq(log:List (Str×Nat)):List bf:=cN [] log
noncomputable def jQ:Nat->List PyD->List PyD
 |_,[]=>[]
 |k,d::ds=>.tuple [.int (k:Nat),d]::jQ (k +1) ds
theorem mQ:∀(ds:List PyD)(k:Nat),(ds.mapIdx fun i d=>PyD.tuple [.int ((i +k:Nat):Int),d])=jQ k ds
 |[],k=>rfl
 |d::ds,k=>by
  rw[List.mapIdx_cons]
  show _=_::_
  rw[<-mQ ds (k +1)]
  congr 1
  ·rw[Nat.zero_add]
  ·apply congrArg (fun f=>List.mapIdx f ds)
   funext i d
   rw[show i +1 +k=i +(k +1) by exact Nat.succ_add_eq_add_succ _ _]
theorem k7(ds:List PyD):bN ds=jQ 0 ds:=mQ ds 0
noncomputable def B9(f:Str×Nat):PyD->List PyD
 | .tuple [.str x,.int e]=>if(x==f.1)=true then[.tuple [.str f.1,.int e,.int (f.2:Nat)]]else[]
 |_=>[]
theorem lX(f:Str×Nat)(pre:List (Str×Nat)):(LL pre).flatMap (B9 f)=MM (dj pre f):=by
 induction pre with
 |nil=>rfl
 |cons g pre ih=>
  rw[show LL (g::pre)=mZ g::LL pre from rfl,List.flatMap_cons,ih]
  unfold dj
  rw[List.filter_cons]
  show(if(g.1==f.1)=true then[eh (f.1,g.2,f.2)]else[]) ++_=_
  by_cases h:(g.1==f.1)=true
  ·rw[if_pos h,if_pos h];rfl
  ·rw[if_neg h,if_neg h];rfl
theorem mC(pre:List (Str×Nat))(f:Str×Nat):(dj pre f).length<=pre.length:=by
 unfold dj
 rw[List.length_map];exact List.length_filter_le _ _
theorem lH(G:Gr KZ hg)(L:Nat)(log:List (Str×Nat))(hl:log.length<=300):∀(rest pre:List (Str×Nat))(acc:List bf),pre ++rest=log->acc.length<=300*pre.length->
  dh hg false (n +5) (callEnvC rP.fd L 283) (dC (bw rP.body 1)) (bb (bw rP.body 1)) [("marks",.own (MM acc)),("log",.fz (DV (.list (LL log))))] (jQ pre.length (LL rest)) (.next [("marks",.own (MM (acc ++cN pre rest)))])
 |[],pre,acc,h1,h2=>by
  rw[show cN pre []=[] from rfl,List.append_nil]
  exact .nil (cT.at ⟨rfl,trivial⟩)
 |f::rest,pre,acc,h1,h2=>by
  have hpl:pre.length<=log.length:=by rw[<-h1,List.length_append];exact Nat.le_add_right _ _
  have hma:=mC pre f
  have ih:=lH G L log hl rest (pre ++[f]) (acc ++dj pre f) (by rw[List.append_assoc];exact h1) (by rw[List.length_append,List.length_append];show _<=300*(pre.length +1);exact E3 ‹_› ‹_› ‹_› ‹_›)
  rw[List.length_append,List.append_assoc]at ih
  have hbd:Bd (dC (bw rP.body 1)) (.tuple [.int (pre.length:Nat),mZ f]) _:=.tuple (.cons .name (.cons (.tuple (.cons .name (.cons .name .nil))) .nil))
  refine .next hbd ?_ (ρ1:=[("marks",.own (MM (acc ++dj pre f))),("log",.fz (DV (.list (LL log))))]) ?_ ih
  ·exact nB (.inr ⟨rfl,_,rfl⟩) (.inr ⟨rfl,_,rfl⟩) (.inl rfl)
  ·refine ac (jm (es:=MM (dj pre f)) rfl (gh ?_) (by rw[kt,kt];omega) (.inl rfl)) (aQ (cT.at ⟨?_,rfl,trivial⟩))
   ·rw[<-lX]
    have hsl:fV (LL log) none (some (pre.length:Int))=LL pre:=by
     rw[lY,<-h1]
     unfold LL
     rw[List.map_append,List.take_left' (List.length_map ..)]
    refine dw (ρc:=[("path",.fz (DV (.str f.1))),("hand",.fz (DV (.int (f.2:Nat))))]) bv (bo (ds:=LL pre) (gh ?_)) rfl ?_ ?_ ?_
    ·rw[<-hsl]
     exact bq (bL (aa rfl)) (cY bU (c9 (aa rfl)) bU) (eH (by rw[Bs];exact Nat.le_trans ‹_› (by decide)))
    ·intro q hq
     simp only[List.mem_cons,List.not_mem_nil,or_false]at hq
     rcases hq with rfl|rfl<;>exact⟨rfl,.inl rfl,⟨.inl rfl,rfl⟩,rfl⟩
    ·intro C d hd
     obtain⟨g,hg,rfl⟩:=List.mem_map.mp hd
     show X2 fun σ b=>cn _ _ _ _ _ _ _ (mZ g) (if(g.1==f.1)=true then[eh (f.1,g.2,f.2)]else[]) σ b
     refine eg (.tuple (.cons .name (.cons .name .nil))) ?_ (cT.at ⟨rfl,rfl,trivial⟩) (aX (aa rfl) (aa rfl) ie) fun O=>cW (ak (aa rfl) (ak (aa rfl) (ak (aa rfl) au)))
     exact fL (rfl) (rfl)
    ·rw[lX,kt];exact Nat.le_trans ‹_› (Nat.le_trans ‹_› (Nat.le_trans ‹_› (by decide)))
   ·rw[oB];rfl
theorem oG:∀(rest pre:List (Str×Nat)),(cN pre rest).length<=(pre.length +rest.length)*rest.length
 |[],pre=>Nat.zero_le _
 |f::rest,pre=>by
  have h1:=mC pre f
  have h2:=oG rest (pre ++[f])
  show(dj pre f ++cN (pre ++[f]) rest).length<=_
  rw[List.length_append]
  rw[List.length_append]at h2
  simp only[List.length_cons,List.length_nil]at h2⊢
  have e:(pre.length +(rest.length +1))*(rest.length +1)=(pre.length +(0 +1) +rest.length)*rest.length +(pre.length +(rest.length +1)):=by
   rw[Nat.mul_succ];congr 2;exact Eq.symm (Nat.succ_add _ _)
  omega
theorem w5(G:Gr KZ hg)(L:Nat)(log:List (Str×Nat))(hl:log.length<=300):Ex hg false (n +5) (callEnvC rP.fd L 283) [("log",.fz (DV (.list (LL log))))] rP.body (.ret (RN (MM (aq log)))):=by
 refine ac (pE (ds:=[]) (aO au) (.inl rfl)) ?_
 have lp:=lH (n:=n) G L log hl log [] [] rfl (Nat.zero_le _)
 rw[show([]:List (Str×Nat)).length=0 from rfl,<-k7]at lp
 refine ac (gR (qL (ds:=LL log) (by trivial) (aa rfl)) lp) ?_
 exact aY (ip rfl) rfl
theorem wN(G:Gr KZ hg)(log:List (Str×Nat))(hl:log.length<=300):gO hg (n +6) (.ref 283) [rF (DV (.list (LL log)))] (RN (MM (aq log))):=by
 refine gM (z:=false) G rP ["log"] [DV (.list (LL log))] _ ?_ ?_ fun L=>w5 G L log hl
 ·intro vs h
  obtain⟨_,rfl⟩:=jG h;rfl
 ·exact fun L=>cG (.inl rfl)
end
section
variable{z:Bool}
noncomputable def ef:List PyD->List PyD->Option (List PyD)
 |[],t=>some t
 |d::ds,t=>if(t.any fun y=>PyD.eqv y d)=true then ef ds (t.eraseP fun y=>PyD.eqv y d)else none
noncomputable def dQ(a b:List PyD):Bool:=match ef (dd a) (dd b)with
 |some t=>t.isEmpty
 |none=>false
theorem ch.eraseP{t:List PyD}{f:PyD->Bool}(h:ch t):ch (t.eraseP f):=fun d hd=>h d (List.mem_of_mem_eraseP hd)
theorem kE:∀(ds acc:List PyD),ch ds->ch acc->ch (ds.foldl lj acc)
 |[],acc,_,h=>h
 |d::ds,acc,h1,h2=>kE ds _ (fun e he=>h1 e (.tail _ he)) (nQ h2 (h1 d (.head _)))
theorem jA{ds:List PyD}(h:ch ds):ch (dd ds):=kE ds [] h fun O q=>by cases q
theorem kZ:∀(ds acc:List PyD),(ds.foldl lj acc).length<=acc.length +ds.length
 |[],acc=>Nat.le_refl _
 |d::ds,acc=>by
  have h1:=kZ ds (lj acc d)
  have h2:=yA acc d
  simp only[List.foldl_cons,List.length_cons];exact Dk ‹_› ‹_›
theorem B3(ds:List PyD):(dd ds).length<=ds.length:=by have:=kZ ds [];rw[List.length_nil,Nat.zero_add]at this;exact this
theorem yj(G:Gr KZ hg)(L:Nat)(F:FP):∀(ds t t':List PyD),ef ds t=some t'->ch ds->ch t->t.length<=100000->
  dh hg false (n +5) (callEnvC m7.fd L 261) (dC (bw (bb (bw m7.body 3)) 0)) (bb (bw (bb (bw m7.body 3)) 0)) [("t",.own t),("first_unhashable",.fz F)] ds (.next [("t",.own t')])
 |[],t,t',h,_,_,_=>by
  have:t=t':=by simpa [ef]using h
  subst this
  exact .nil (cT.at ⟨rfl,trivial⟩)
 |d::ds,t,t',h,h1,h2,h3=>by
  have e:ef (d::ds) t=if(t.any fun y=>PyD.eqv y d)=true then ef ds (t.eraseP fun y=>PyD.eqv y d)else none:=rfl
  rw[e]at h
  by_cases ha:(t.any fun y=>PyD.eqv y d)=true
  ·rw[if_pos ha]at h
   have hd:=h1 d (.head _)
   refine .next .name (cG (.inl rfl)) ?_ (yj G L F ds _ t' h (fun e he=>h1 e (.tail _ he)) h2.eraseP (Nat.le_trans (List.eraseP_sublist.length_le) h3))
   exact ac (jw rfl (aa rfl) h2.lay hd.1 hd.2 (by exact Nat.le_trans ‹_› (by decide)) ha) (aQ (cT.at (ρ':=[("t",.own (t.eraseP fun y=>PyD.eqv y d)),("first_unhashable",.fz F)]) ⟨rfl,rfl,trivial⟩))
  ·rw[if_neg ha]at h;cases h
theorem n9(G:Gr KZ hg)(L:Nat)(F:FP):∀(ds t:List PyD),ef ds t=none->ch ds->ch t->t.length<=100000->
  mW hg false (n +5) (callEnvC m7.fd L 261) "ValueError" (dC (bw (bb (bw m7.body 3)) 0)) (bb (bw (bb (bw m7.body 3)) 0)) [("t",.own t),("first_unhashable",.fz F)] ds
 |[],t,h,_,_,_=>by cases h
 |d::ds,t,h,h1,h2,h3=>by
  have e:ef (d::ds) t=if(t.any fun y=>PyD.eqv y d)=true then ef ds (t.eraseP fun y=>PyD.eqv y d)else none:=rfl
  rw[e]at h
  have hd:=h1 d (.head _)
  by_cases ha:(t.any fun y=>PyD.eqv y d)=true
  ·rw[if_pos ha]at h
   refine .next .name (cG (.inl rfl)) ?_ (n9 G L F ds _ h (fun e he=>h1 e (.tail _ he)) h2.eraseP (Nat.le_trans (List.eraseP_sublist.length_le) h3))
   exact ac (jw rfl (aa rfl) h2.lay hd.1 hd.2 (by exact Nat.le_trans ‹_› (by decide)) ha) (aQ (cT.at (ρ':=[("t",.own (t.eraseP fun y=>PyD.eqv y d)),("first_unhashable",.fz F)]) ⟨rfl,rfl,trivial⟩))
  ·exact .here .name (cG (.inl rfl)) (tB rfl (aa rfl) h2.lay hd.1 hd.2 (by exact Nat.le_trans ‹_› (by decide)) (by simpa using ha))
theorem Bk(G:Gr KZ hg)(L:Nat)(a b:List PyD)(ha:ch a)(hb:ch b)(la:a.length<=100000)(lb:b.length<=100000):
  Ex hg false (n +5) (callEnvC m7.fd L 261) [("first_args",.fz (DV (.list a))),("second_args",.fz (DV (.list b)))] m7.body (.ret (RF (DV (.bool (dQ a b))))):=by
 refine ac (bS (F:=DV (.list (dd a))) (d8 (aB (by trivial) (bc G nv) (bu (aa rfl) ao) (io G a ha la))) (.inl rfl)) ?_
 refine ac (bS (F:=DV (.list (dd b))) (d8 (aB (by trivial) (bc G nv) (bu (aa rfl) ao) (io G b hb lb))) (.inl rfl)) ?_
 have hl:=Nat.le_trans (B3 b) lb
 refine ac (pE (ds:=dd b) (aB (by trivial) (.type _) (gH (bL (aa rfl)) ao) (qk (by exact Nat.le_trans ‹_› (by decide)))) (.inl rfl)) ?_
 refine dN (ρ':=[("t",.own (dd b)),("first_unhashable",.fz (DV (.list (dd a))))]) (cT.at (by exact⟨rfl,rfl,trivial⟩)) ?_
 unfold dQ
 cases hq:ef (dd a) (dd b)with
 |none=>
  exact aY (qX G (gY (aa rfl)) (n9 G L (DV (.list (dd a))) _ _ hq (jA ha) (jA hb) hl) (by rw[isSubtype_type];kernel_rfl) (by rw[isSubtype_type];kernel_rfl) (by rw[isSubtype_type];kernel_rfl) rfl rfl rfl (by decide) (by decide)) rfl
 |some t=>
  have htl:t.length<=100000:=by
   have:∀(ds u u':List PyD),ef ds u=some u'->u'.length<=u.length:=by
    intro ds
    induction ds with
    |nil=>intro u u' h;simp[ef]at h;rw[h];exact Nat.le_refl _
    |cons d ds ih=>
     intro u u' h
     have e:ef (d::ds) u=if(u.any fun y=>PyD.eqv y d)=true then ef ds (u.eraseP fun y=>PyD.eqv y d)else none:=rfl
     rw[e]at h
     split at h
     ·exact Nat.le_trans (ih _ _ h) List.eraseP_sublist.length_le
     ·cases h
   exact Nat.le_trans (this _ _ _ hq) hl
  refine ac (ρ1:=[("t",.own t)]) (vf (ac (gR (gY (aa rfl)) (yj G L (DV (.list (dd a))) _ _ t hq (jA ha) (jA hb) hl)) (aQ fun O O e=>e))) ?_
  exact aY (jI (rj (b8 rfl) (by exact Nat.le_trans ‹_› (by decide)))) rfl
theorem z8(G:Gr KZ hg)(a b:List PyD)(ha:ch a)(hb:ch b)(la:a.length<=100000)(lb:b.length<=100000):gO hg (n +6) (.ref 261) [rF (DV (.list a)),rF (DV (.list b))] (RF (DV (.bool (dQ a b)))):=by
 refine gM (z:=false) G m7 ["first_args","second_args"] [DV (.list a),DV (.list b)] _ ?_ ?_ fun L=>Bk G L a b ha hb la lb
 ·intro vs h
  obtain⟨_,_,rfl⟩:=wD h;rfl
 ·exact fun L=>fL (.inl rfl) (.inl rfl)
end
noncomputable def aK(E:List ah):List Str:=E.filterMap fun d=>if d.1=true then some d.2 else none
noncomputable def js(H:List Str)(d:ah):List Str:=if d.1=true then H ++[d.2]else H.erase d.2
noncomputable def bk(E:List ah):List Str:=E.foldl js []
theorem bW(a b:List ah):aK (a ++b)=aK a ++aK b:=List.filterMap_append ..
theorem df(E:List ah)(d:ah):bk (E ++[d])=js (bk E) d:=by unfold bk;rw[List.foldl_append];rfl
noncomputable def dE(ps:List Str)(g:Str->Str)(E:List ah)(d:ah):Prop:=
 if E=[]then d.1=true/\d.2∈ps else if d.1=true then A3 (d.2∈ps) (g d.2∈bk E) (d.2∉aK E)else d.2∈bk E
noncomputable def aZ(ps:List Str)(g:Str->Str)(row:List ah):Prop:=∀E d r,row=E ++d::r->dE ps g E d
structure lA(ps:List Str)(g:Str->Str)(row:List ah):Prop where
 ne:row≠[]
 steps:aZ ps g row
 done:bk row=[]
theorem aZ.snoc{ps:List Str}{g:Str->Str}{row:List ah}{d:ah}(h:aZ ps g row)(hd:dE ps g row d):aZ ps g (row ++[d]):=fun E e r he=>by
 rcases List.eq_nil_or_concat r with rfl|⟨r',b,rfl⟩
 ·have:=List.append_inj' he rfl
  obtain⟨rfl,h2⟩:=this
  injection h2 with h2;subst h2
  exact hd
 ·have e2:row ++[d]=(E ++e::r') ++[b]:=by rw[he];simp
  have:=List.append_inj' e2 rfl
  exact h E e r' this.1
theorem aZ.prefix{ps:List Str}{g:Str->Str}{a b:List ah}(h:aZ ps g (a ++b)):aZ ps g a:=fun E d r he=>h E d (r ++b) (by rw[he];simp)
theorem m9{ps:List Str}{g:Str->Str}{st:gd}(hne:st.row≠[])(hs:aZ ps g st.row)(hh:bk st.row=st.held)(ht:aK st.row=st.had)(hn:af ps g st.had st.held≠[]):
  A4 ((cj ps g st).row≠[]) (aZ ps g (cj ps g st).row) (bk (cj ps g st).row=(cj ps g st).held) (aK (cj ps g st).row=(cj ps g st).had):=by
 have hpos:0<(af ps g st.had st.held).length:=List.length_pos_iff.mpr hn
 have hk:=Nat.mod_lt st.num hpos
 have hmem:(af ps g st.had st.held).getD (st.num%(af ps g st.had st.held).length) (true,"")∈af ps g st.had st.held:=by
  rw[List.getD_eq_getElem?_getD,List.getElem?_eq_getElem hk];exact List.getElem_mem hk
 have e:cj ps g st=if((af ps g st.had st.held).getD (st.num%(af ps g st.had st.held).length) (true,"")).1=true then
   ⟨st.num / (af ps g st.had st.held).length,st.row ++[(af ps g st.had st.held).getD (st.num%(af ps g st.had st.held).length) (true,"")],st.had ++[((af ps g st.had st.held).getD (st.num%(af ps g st.had st.held).length) (true,"")).2],st.held ++[((af ps g st.had st.held).getD (st.num%(af ps g st.had st.held).length) (true,"")).2]⟩
  else⟨st.num / (af ps g st.had st.held).length,st.row ++[(af ps g st.had st.held).getD (st.num%(af ps g st.had st.held).length) (true,"")],st.had,st.held.erase ((af ps g st.had st.held).getD (st.num%(af ps g st.had st.held).length) (true,"")).2⟩:=rfl
 rw[e]
 generalize (af ps g st.had st.held).getD (st.num%(af ps g st.had st.held).length) (true,"")=d at hmem⊢
 have hok:dE ps g st.row d:=by
  unfold dE
  rw[if_neg hne,hh,ht]
  unfold af at hmem
  rcases List.mem_append.mp hmem with q|q
  ·obtain⟨x,hx,rfl⟩:=List.mem_map.mp q
   obtain⟨h1,h2⟩:=List.mem_filter.mp hx
   unfold ij at h2
   simp only[Bool.and_eq_true,Bool.not_eq_true',List.any_eq_true,beq_iff_eq,exists_eq_right,List.any_eq_false]at h2
   rw[if_pos rfl]
   exact⟨h1,h2.1,fun hm=>h2.2 x hm rfl⟩
  ·obtain⟨x,hx,rfl⟩:=List.mem_map.mp q
   rw[if_neg (by simp)]
   exact hx
 by_cases hb:d.1=true
 ·rw[if_pos hb]
  refine⟨by simp,hs.snoc hok,?_,?_⟩
  ·rw[df,hh];unfold js;rw[if_pos hb]
  ·rw[bW,ht];simp[aK,hb]
 ·rw[if_neg hb]
  refine⟨by simp,hs.snoc hok,?_,?_⟩
  ·rw[df,hh];unfold js;rw[if_neg hb]
  ·rw[bW,ht];simp[aK,hb]
theorem jH{ps:List Str}{g:Str->Str}:∀(m:Nat)(st:gd),st.row≠[]->aZ ps g st.row->bk st.row=st.held->aK st.row=st.had->
  A4 ((cc ps g m st).1.row≠[]) (aZ ps g (cc ps g m st).1.row) (bk (cc ps g m st).1.row=(cc ps g m st).1.held) ((cc ps g m st).2=true->(cc ps g m st).1.held=[])
 |0,st,h1,h2,h3,h4=>⟨h1,h2,h3,fun q=>by cases q⟩
 |m +1,st,h1,h2,h3,h4=>by
  have e:cc ps g (m +1) st=if af ps g st.had st.held=[]then(st,true)else cc ps g m (cj ps g st):=rfl
  rw[e]
  by_cases hn:af ps g st.had st.held=[]
  ·rw[if_pos hn]
   refine⟨h1,h2,h3,fun O=>?_⟩
   unfold af at hn
   have:=(List.append_eq_nil_iff.mp hn).2
   exact List.map_eq_nil_iff.mp this
  ·rw[if_neg hn]
   obtain⟨a,b,c,d⟩:=m9 h1 h2 h3 h4 hn
   exact jH m _ a b c d
theorem rE{ps:List Str}{g:Str->Str}:∀(hs:List Str)(row:List ah),row≠[]->aZ ps g row->bk row=hs->aZ ps g (row ++hs.map fun x=>(false,x))/\bk (row ++hs.map fun x=>(false,x))=[]
 |[],row,_,h2,h3=>by rw[List.map_nil,List.append_nil];exact⟨h2,h3⟩
 |x::hs,row,h1,h2,h3=>by
  have hok:dE ps g row (false,x):=by
   unfold dE
   rw[if_neg h1,if_neg (by simp),h3];exact .head _
  have h4:bk (row ++[(false,x)])=hs:=by
   rw[df,h3]
   show(x::hs).erase x=hs
   exact List.erase_cons_head ..
  have:=rE hs (row ++[(false,x)]) (by simp) (h2.snoc hok) h4
  rw[List.append_assoc]at this
  exact this
theorem i7{ps:List Str}{g:Str->Str}{k:Nat}(hp:3<=ps.length):lA ps g (eQ k ps g):=by
 have hi:k%3<ps.length:=Nat.lt_of_lt_of_le (Nat.mod_lt _ (by decide)) hp
 have hf:ps.getD (k%3) ""∈ps:=by rw[List.getD_eq_getElem?_getD,List.getElem?_eq_getElem hi];exact List.getElem_mem hi
 unfold eQ
 generalize ps.getD (k%3) ""=f at hf⊢
 have h0:aZ ps g [(true,f)]:=fun E d r he=>by
  cases E with
  |nil=>
   injection he with he _;subst he
   unfold dE;rw[if_pos rfl];exact⟨rfl,hf⟩
  |cons a E=>
   injection he with _ he
   have:=congrArg List.length he
   simp at this
 obtain⟨a,b,c,d⟩:=jH (ps:=ps) (g:=g) 4 ⟨k / 3,[(true,f)],[f],[f]⟩ (by simp) h0 rfl rfl
 generalize cc ps g 4 ⟨k / 3,[(true,f)],[f],[f]⟩=r at a b c d⊢
 obtain⟨st,q⟩:=r
 unfold uk
 cases q with
 |true=>
  rw[if_pos rfl]
  exact⟨a,b,c.trans (d rfl)⟩
 |false=>
  rw[if_neg (by simp)]
  obtain⟨x,y⟩:=rE (ps:=ps) (g:=g) st.held st.row a b c
  exact⟨by simp[show st.row≠[] from a],x,y⟩
theorem aZ.valid{ps:List Str}{g:Str->Str}:∀(r E:List ah),aZ ps g (E ++r)->jY (bk E) r
 |[],E,_=>trivial
 |d::r,E,h=>by
  have hd:=h E d r rfl
  have ih:=aZ.valid r (E ++[d]) (by rw[List.append_assoc];exact h)
  rw[df]at ih
  obtain⟨b,x⟩:=d
  cases b with
  |true=>exact ih
  |false=>
   refine⟨?_,ih⟩
   unfold dE at hd
   split at hd
   ·exact absurd hd.1 (by simp)
   ·rw[if_neg (by simp)]at hd;exact hd
theorem lA.valid{ps:List Str}{g:Str->Str}{row:List ah}(h:lA ps g row):jY [] row:=aZ.valid row [] h.steps
theorem cL(E:List ah)(x:Str):aK (E ++[(true,x)])=aK E ++[x]:=by rw[bW];rfl
theorem cK(E:List ah)(x:Str):aK (E ++[(false,x)])=aK E:=by rw[bW];exact List.append_nil _
theorem eK(E:List ah)(x:Str):bk (E ++[(true,x)])=bk E ++[x]:=df E _
theorem fW(E:List ah)(x:Str):bk (E ++[(false,x)])=(bk E).erase x:=df E _
section
variable{ps:List Str}{g:Str->Str}
structure Dl(ps:List Str)(g:Str->Str)(E:List ah):Prop where
 nodup:(aK E).Nodup
 sub:∀x∈bk E,x∈aK E
 heldNodup:(bk E).Nodup
 mem:∀x∈aK E,x∈ps
theorem cU:∀(E:List ah),aZ ps g E->Dl ps g E:=fun E=>by
 induction h:E.length generalizing E with
 |zero=>
  have:E=[]:=List.length_eq_zero_iff.mp h
  subst this
  intro _
  exact⟨List.nodup_nil,fun O q=>(nomatch q),List.nodup_nil,fun O q=>(nomatch q)⟩
 |succ m ih=>
  intro hs
  rcases List.eq_nil_or_concat E with rfl|⟨E',d,rfl⟩
  ·cases h
  ·rw[List.concat_eq_append]at hs h⊢
   have hE:=ih E' (by simpa using h) hs.prefix
   have hok:=hs E' d [] rfl
   obtain⟨b,x⟩:=d
   unfold dE at hok
   cases b with
   |true=>
    have hx:x∈ps/\x∉aK E':=by
     split at hok
     ·rename_i e;subst e;exact⟨hok.2,fun q=>(nomatch q)⟩
     ·rw[if_pos rfl]at hok;exact⟨hok.1,hok.3⟩
    refine⟨?_,?_,?_,?_⟩
    ·rw[cL,List.nodup_append]
     exact⟨hE.nodup,by simp,fun a ha b hb=>by rw[List.mem_singleton.mp hb];exact fun q=>hx.2 (q▸ha)⟩
    ·intro y hy
     rw[eK]at hy;rw[cL]
     rcases List.mem_append.mp hy with hy|hy
     ·exact List.mem_append_left _ (hE.sub y hy)
     ·exact List.mem_append_right _ hy
    ·rw[eK,List.nodup_append]
     exact⟨hE.heldNodup,by simp,fun a ha b hb=>by rw[List.mem_singleton.mp hb];exact fun q=>hx.2 (q▸hE.sub a ha)⟩
    ·intro y hy
     rw[cL]at hy
     rcases List.mem_append.mp hy with hy|hy
     ·exact hE.mem y hy
     ·rw[List.mem_singleton.mp hy];exact hx.1
   |false=>
    refine⟨?_,?_,?_,?_⟩
    ·rw[cK];exact hE.nodup
    ·intro y hy
     rw[fW]at hy;rw[cK]
     exact hE.sub y (List.mem_of_mem_erase hy)
    ·rw[fW];exact hE.heldNodup.erase x
    ·rw[cK];exact hE.mem
theorem pW{x y:Str}:∀(E R:List ah),aZ ps g (E ++R)->y∈aK E->y∉bk E->g x=y->x∈aK (E ++R)->x∉aK E->False:=by
 intro E R
 induction R generalizing E with
 |nil=>
  intro _ _ _ _ h1 h2
  rw[List.append_nil]at h1;exact h2 h1
 |cons d R ih=>
  intro hs hy hh hg h1 h2
  have hs':aZ ps g ((E ++[d]) ++R):=by rw[List.append_assoc];exact hs
  have hP:=cU E hs.prefix
  have hok:=hs E d R rfl
  have hE:E≠[]:=by rintro rfl;cases hy
  unfold dE at hok
  rw[if_neg hE]at hok
  obtain⟨b,v⟩:=d
  have e1:E ++(b,v)::R=(E ++[(b,v)]) ++R:=by simp
  cases b with
  |true=>
   rw[if_pos rfl]at hok
   have hvx:v≠x:=by
    rintro rfl
    rw[hg]at hok;exact hh hok.2
   have hvy:v≠y:=by rintro rfl;exact hok.3 hy
   refine ih (E ++[(true,v)]) hs' ?_ ?_ hg (by rw[<-e1];exact h1) ?_
   ·rw[cL];exact List.mem_append_left _ hy
   ·rw[eK]
    intro q
    rcases List.mem_append.mp q with q|q
    ·exact hh q
    ·exact hvy (List.mem_singleton.mp q).symm
   ·rw[cL]
    intro q
    rcases List.mem_append.mp q with q|q
    ·exact h2 q
    ·exact hvx (List.mem_singleton.mp q).symm
  |false=>
   refine ih (E ++[(false,v)]) hs' ?_ ?_ hg (by rw[<-e1];exact h1) ?_
   ·rw[cK];exact hy
   ·rw[fW];exact fun q=>hh (List.mem_of_mem_erase q)
   ·rw[cK];exact h2
theorem g6{E R:List ah}{x:Str}(hs:aZ ps g (E ++(true,x)::R)):(E=[]\/g x∈bk E)/\x∉aK E:=by
 have hok:=hs E _ R rfl
 unfold dE at hok
 split at hok
 ·rename_i e;exact⟨.inl e,by subst e;exact fun q=>(nomatch q)⟩
 ·rw[if_pos rfl]at hok
  exact⟨.inr hok.2,hok.3⟩
theorem hY{x:Str}{E:List ah}:x∈aK E↔X2 fun A B=>E=A ++(true,x)::B:=by
 constructor
 ·intro h
  obtain⟨d,hd,e⟩:=List.mem_filterMap.mp h
  obtain⟨b,y⟩:=d
  cases b with
  |false=>simp at e
  |true=>
   simp at e;subst e
   exact let⟨a,b,q⟩:=List.append_of_mem hd;⟨a,b,q⟩
 ·rintro⟨A,B,rfl⟩
  rw[bW]
  exact List.mem_append_right _ (by simp[aK])
noncomputable def hX(row:List ah):Str:=(row.headD (true,"")).2
end
noncomputable def za(ps:List Str)(g:Str->Str)(rows:List (List ah)):Prop:=∀i,i<rows.length->aZ ps g (rows.getD i [])
structure k8(ps:List Str)(g:Str->Str)(rows:List (List ah))(lk:Bool)(st:bV)(Es:Nat->List ah):Prop where
 len:st.rest.length=rows.length
 split:∀i,i<rows.length->rows.getD i []=Es i ++st.rest.getD i []
 out:∀i,rows.length<=i->Es i=[]
 logs:∀i,(st.log.filter fun e=>e.2==i).map (·.1)=aK (Es i)
 held:lk=true->∀x,x∈st.held↔∃i,x∈bk (Es i)
 apart:lk=true->∀i j x,i≠j->x∈bk (Es i)->x∉bk (Es j)
 nd:lk=true->st.held.Nodup
noncomputable def Cf(Es:Nat->List ah)(i:Nat)(d:ah):Nat->List ah:=fun k=>if k=i then Es i ++[d]else Es k
theorem dp(Es:Nat->List ah)(i:Nat)(d:ah):Cf Es i d i=Es i ++[d]:=if_pos rfl
theorem eJ(Es:Nat->List ah){i k:Nat}(d:ah)(h:k≠i):Cf Es i d k=Es k:=if_neg h
section
variable{ps:List Str}{g:Str->Str}{rows:List (List ah)}{lk:Bool}{st:bV}{Es:Nat->List ah}
theorem k8.start:k8 ps g rows lk ⟨rows,[],[],0⟩ fun O=>[]:=
 ⟨rfl,fun i O=>by simp,fun O O=>rfl,fun O=>rfl,fun O x=>⟨fun q=>(nomatch q),fun⟨i,q⟩=>(nomatch q)⟩,fun O O O O O q=>(nomatch q),fun O=>List.nodup_nil⟩
theorem k8.steps(I:k8 ps g rows lk st Es)(W:za ps g rows)(i:Nat):aZ ps g (Es i):=by
 by_cases h:i<rows.length
 ·have:=W i h
  rw[I.split i h]at this
  exact this.prefix
 ·rw[I.out i (Nat.le_of_not_lt h)]
  intro E d r e
  have:=congrArg List.length e
  simp at this
theorem k8.after(I:k8 ps g rows lk st Es)(W:za ps g rows){f:Nat×ah}{r:List ah}(hr:st.rest[f.1]?=some (f.2::r))(ha:aF st.held f=true):k8 ps g rows lk (eY lk st f r) (Cf Es f.1 f.2):=by
 obtain⟨hlt,he⟩:=List.getElem?_eq_some_iff.mp hr
 have hi:f.1<rows.length:=by rw[<-I.len];exact hlt
 have hgd:st.rest.getD f.1 []=f.2::r:=by rw[List.getD_eq_getElem?_getD,hr];rfl
 have hsp:=I.split f.1 hi
 rw[hgd]at hsp
 have hsteps:aZ ps g (Es f.1 ++f.2::r):=by rw[<-hsp];exact W f.1 hi
 have hok:=hsteps (Es f.1) f.2 r rfl
 have hsteps':aZ ps g (Es f.1):=hsteps.prefix
 have hP:=cU _ hsteps'
 have hrest:(Mine.eY lk st f r).rest=st.rest.set f.1 r:=rfl
 have hlog:(Mine.eY lk st f r).log=if f.2.1=true then st.log ++[(f.2.2,f.1)]else st.log:=rfl
 obtain⟨i,⟨b,x⟩⟩:=f
 simp only at hi hsp hok hP hlog hsteps' hlt hgd hrest
 have hng:b=false->x∈bk (Es i):=fun q=>by
  subst q
  unfold dE at hok
  split at hok
  ·exact absurd hok.1 (by simp)
  ·rw[if_neg (by simp)]at hok;exact hok
 refine⟨by rw[hrest,List.length_set];exact I.len,fun k hk=>?_,fun k hk=>?_,fun k=>?_,fun h=>?_,fun h k l y hkl hy hy'=>?_,fun h=>?_⟩
 ·rw[hrest]
  by_cases q:k=i
  ·subst q
   rw[dp,hsp,List.getD_eq_getElem?_getD,List.getElem?_set_self hlt]
   simp
  ·have e:(st.rest.set i r).getD k []=st.rest.getD k []:=by
    rw[List.getD_eq_getElem?_getD,List.getElem?_set_ne (Ne.symm q),<-List.getD_eq_getElem?_getD]
   rw[eJ _ _ q,e]
   exact I.split k hk
 ·rw[eJ _ _ (by omega:k≠i)];exact I.out k hk
 ·have ik:=I.logs k
  cases b with
  |true=>
   rw[hlog,if_pos rfl,List.filter_append,List.map_append,ik]
   by_cases q:k=i
   ·subst q
    rw[dp,cL];simp
   ·rw[eJ _ _ q]
    have:((i:Nat)==k)=false:=by simp;omega
    simp[this]
  |false=>
   rw[hlog,if_neg (by simp),ik]
   by_cases q:k=i
   ·subst q;rw[dp,cK]
   ·rw[eJ _ _ q]
 ·have hheld:(Mine.eY lk st (i,(b,x)) r).held=if b=true then st.held ++[x]else st.held.erase x:=if_pos h
  intro y
  rw[hheld]
  cases b with
  |true=>
   rw[if_pos rfl,List.mem_append,I.held h]
   constructor
   ·rintro(⟨k,hk⟩|hy)
    ·by_cases q:k=i
     ·subst q;exact⟨k,by rw[dp,eK];exact List.mem_append_left _ hk⟩
     ·exact⟨k,by rw[eJ _ _ q];exact hk⟩
    ·exact⟨i,by rw[dp,eK];exact List.mem_append_right _ hy⟩
   ·rintro⟨k,hk⟩
    by_cases q:k=i
    ·subst q
     rw[dp,eK]at hk
     rcases List.mem_append.mp hk with hk|hk
     ·exact .inl ⟨k,hk⟩
     ·exact .inr hk
    ·rw[eJ _ _ q]at hk;exact .inl ⟨k,hk⟩
  |false=>
   have hx:=hng rfl
   rw[if_neg (by simp),(I.nd h).mem_erase_iff,I.held h]
   constructor
   ·rintro⟨hne,k,hk⟩
    by_cases q:k=i
    ·subst q;exact⟨k,by rw[dp,fW,hP.heldNodup.mem_erase_iff];exact⟨hne,hk⟩⟩
    ·exact⟨k,by rw[eJ _ _ q];exact hk⟩
   ·rintro⟨k,hk⟩
    by_cases q:k=i
    ·subst q
     rw[dp,fW,hP.heldNodup.mem_erase_iff]at hk
     exact⟨hk.1,k,hk.2⟩
    ·rw[eJ _ _ q]at hk
     refine⟨?_,k,hk⟩
     rintro rfl
     exact I.apart h k i _ q hk hx
 ·have hnew:b=true->x∉st.held:=fun q hm=>by
   subst q
   unfold aF at ha
   simp only[Bool.not_true,Bool.false_or,Bool.not_eq_true',List.any_eq_false,beq_iff_eq]at ha
   exact ha x hm rfl
  have key:∀k l y,k≠l->l≠i->y∈bk (Cf Es i (b,x) k)->y∉bk (Es l):=by
   clear hy hy' hkl y k l
   intro k l y hkl hl hy hy'
   by_cases q:k=i
   ·subst q
    rw[dp]at hy
    cases b with
    |true=>
     rw[eK]at hy
     rcases List.mem_append.mp hy with hy|hy
     ·exact I.apart h k l y hkl hy hy'
     ·rw[List.mem_singleton.mp hy]at hy'
      exact hnew rfl ((I.held h x).mpr ⟨l,hy'⟩)
    |false=>
     rw[fW]at hy
     exact I.apart h k l y hkl (List.mem_of_mem_erase hy) hy'
   ·rw[eJ _ _ q]at hy
    exact I.apart h k l y hkl hy hy'
  by_cases q:l=i
  ·have hk:k≠i:=fun e=>hkl (e.trans q.symm)
   rw[eJ _ _ hk]at hy
   exact key l k y (Ne.symm hkl) hk (by rw[q]at hy'⊢;exact hy') hy
  ·rw[eJ _ _ q]at hy'
   exact key k l y hkl q hy hy'
 ·have hheld:(Mine.eY lk st (i,(b,x)) r).held=if b=true then st.held ++[x]else st.held.erase x:=if_pos h
  rw[hheld]
  cases b with
  |true=>
   rw[if_pos rfl,List.nodup_append]
   refine⟨I.nd h,by simp,fun y hy v hv=>?_⟩
   rw[List.mem_singleton.mp hv]
   rintro rfl
   unfold aF at ha
   simp only[Bool.not_true,Bool.false_or,Bool.not_eq_true',List.any_eq_false,beq_iff_eq]at ha
   exact ha y hy rfl
  |false=>rw[if_neg (by simp)];exact(I.nd h).erase x
end
structure kS(g:Str->Str)(rows:List (List ah))(lk:Bool)(log:List (Str×Nat)):Prop where
 nd:log.Nodup
 ord:∀A B x i,log=A ++(x,i)::B->A3 (i<rows.length) (x∈aK (rows.getD i [])) (x=hX (rows.getD i [])\/(g x,i)∈A)
 lock:lk=true->∀A B y j,log=A ++(y,j)::B->∀i,i≠j->(y,i)∈A->∀x,g x=y->x∈aK (rows.getD i [])->(x,i)∈A
theorem mK{α:Type}{l A B:List α}{a b:α}(h:l ++[a]=A ++b::B):(A=l/\b=a)\/∃B',l=A ++b::B':=by
 rcases List.eq_nil_or_concat B with rfl|⟨B',c,rfl⟩
 ·have h':l ++[a]=A ++[b]:=h
  obtain⟨h1,h2⟩:=List.append_inj' h' rfl
  injection h2 with h2
  exact .inl ⟨h1.symm,h2.symm⟩
 ·have h':l ++[a]=(A ++b::B') ++[c]:=by rw[h];simp
  obtain⟨h1,_⟩:=List.append_inj' h' rfl
  exact .inr ⟨B',h1⟩
section
variable{ps:List Str}{g:Str->Str}{rows:List (List ah)}{lk:Bool}{st:bV}{Es:Nat->List ah}
theorem k8.log_mem(I:k8 ps g rows lk st Es){x:Str}{i:Nat}:(x,i)∈st.log↔x∈aK (Es i):=by
 rw[<-I.logs i,List.mem_map]
 constructor
 ·intro h
  exact⟨(x,i),List.mem_filter.mpr ⟨h,by simp⟩,rfl⟩
 ·rintro⟨⟨y,j⟩,h,rfl⟩
  obtain⟨h1,h2⟩:=List.mem_filter.mp h
  have:j=i:=by simpa using h2
  subst this;exact h1
theorem kS.after(I:k8 ps g rows lk st Es)(W:za ps g rows)(K:kS g rows lk st.log){f:Nat×ah}{r:List ah}(hr:st.rest[f.1]?=some (f.2::r))(ha:aF st.held f=true):kS g rows lk (eY lk st f r).log:=by
 obtain⟨i,b,x⟩:=f
 cases b with
 |false=>exact K
 |true=>
  show kS g rows lk (st.log ++[(x,i)])
  have hi:i<rows.length:=by
   have:=(List.getElem?_eq_some_iff.mp hr).1
   rw[I.len]at this;exact this
  have hsp:=I.split i hi
  have hrest:st.rest.getD i []=(true,x)::r:=by rw[List.getD_eq_getElem?_getD,hr];rfl
  rw[hrest]at hsp
  have hst:aZ ps g (Es i ++(true,x)::r):=hsp▸W i hi
  obtain⟨u1,u2⟩:=g6 hst
  have new:(x,i)∉st.log:=fun h=>u2 (I.log_mem.mp h)
  refine⟨?_,fun A B y j e=>?_,fun hl A B y j e k hk hy z hz hzt=>?_⟩
  ·rw[List.nodup_append]
   refine⟨K.nd,by simp,fun a ha b hb=>?_⟩
   rw[List.mem_singleton.mp hb]
   exact fun q=>new (q▸ha)
  ·rcases mK e with⟨rfl,q⟩|⟨B',q⟩
   ·injection q with q1 q2;subst q1;subst q2
    refine⟨hi,?_,?_⟩
    ·rw[hsp];exact hY.mpr ⟨_,_,rfl⟩
    ·rcases u1 with u1|u1
     ·left;rw[hsp,u1];rfl
     ·right;exact I.log_mem.mpr ((cU _ (I.steps W _)).sub _ u1)
   ·exact K.ord A B' y j q
  ·rcases mK e with⟨rfl,q⟩|⟨B',q⟩
   ·injection q with q1 q2;subst q1;subst q2
    have ht:y∈aK (Es k):=I.log_mem.mp hy
    have hk':k<rows.length:=by
     by_cases q:k<rows.length
     ·exact q
     ·rw[I.out k (by exact Nat.le_of_not_lt ‹_›)]at ht;cases ht
    have nh:y∉bk (Es k):=fun q=>by
     have hh:=(I.held hl y).mpr ⟨k,q⟩
     have:aF st.held (j,(true,y))=false:=by
      unfold aF
      have:(st.held.any fun z=>z==y)=true:=List.any_eq_true.mpr ⟨y,hh,by simp⟩
      show(false||!(st.held.any fun z=>z==y))=false
      rw[this];rfl
     rw[this]at ha;cases ha
    apply Classical.byContradiction
    intro hn
    have hz':z∉aK (Es k):=fun q=>hn (I.log_mem.mpr q)
    rw[I.split k hk']at hzt
    exact pW _ _ ((I.split k hk')▸W k hk') ht nh hz hzt hz'
   ·exact K.lock hl A B' y j q k hk hy z hz hzt
end
noncomputable abbrev tm(log:List (Str×Nat))(x:Str)(i:Nat):Nat:=log.idxOf (x,i)
theorem fg{log:List (Str×Nat)}{x:Str}{i:Nat}:tm log x i<log.length↔(x,i)∈log:=List.idxOf_lt_length_iff
theorem jr{log:List (Str×Nat)}{x:Str}{i:Nat}(h:(x,i)∈log):log=log.take (tm log x i) ++(x,i)::log.drop (tm log x i +1):=by
 have hl:=fg.mpr h
 conv=>lhs;rw[<-List.take_append_drop (tm log x i) log]
 rw[List.drop_eq_getElem_cons hl,List.getElem_idxOf]
theorem pP{log:List (Str×Nat)}{x:Str}{i k:Nat}(h:(x,i)∈log.take k):tm log x i<k:=by
 have e:tm log x i=(log.take k).idxOf (x,i):=by
  conv=>lhs;rw[tm,<-List.take_append_drop k log]
  rw[List.idxOf_append,if_pos h]
 rw[e]
 exact Nat.lt_of_lt_of_le (List.idxOf_lt_length_iff.mpr h) (List.length_take_le ..)
theorem kM{log:List (Str×Nat)}{x:Str}{i k:Nat}(h:tm log x i<k)(hm:(x,i)∈log):(x,i)∈log.take k:=by
 have hl:=fg.mpr hm
 have e:(log.take k)[tm log x i]?=some (x,i):=by
  rw[List.getElem?_take,if_pos h,List.getElem?_eq_getElem hl,List.getElem_idxOf]
 exact List.mem_of_getElem? e
theorem yr{log:List (Str×Nat)}{x y:Str}{i j:Nat}(h:(x,i)∈log)(e:tm log x i=tm log y j):x=y/\i=j:=by
 have h1:=fg.mpr h
 have h2:(y,j)∈log:=fg.mp (e▸h1)
 have a:log[tm log x i]?=some (x,i):=by rw[List.getElem?_eq_getElem h1,List.getElem_idxOf]
 have b:log[tm log y j]?=some (y,j):=by rw[List.getElem?_eq_getElem (fg.mpr h2),List.getElem_idxOf]
 rw[e,b]at a
 injection a with a;injection a with a1 a2
 exact⟨a1.symm,a2.symm⟩
structure gm(ps:List Str)(g:Str->Str)(mz:Str->Str->Prop):Prop where
 len:∀x∈ps,g x=x\/(g x).length<x.length
 bel:∀x∈ps,mz (g x) x
 refl:∀x,mz x x
 trans:∀x y z,mz x y->mz y z->mz x z
section
variable{ps:List Str}{g:Str->Str}{mz:Str->Str->Prop}{rows:List (List ah)}{lk:Bool}{log:List (Str×Nat)}
noncomputable abbrev tk(rows:List (List ah))(i:Nat):List Str:=aK (rows.getD i [])
noncomputable abbrev dk(rows:List (List ah))(i:Nat):Str:=hX (rows.getD i [])
theorem lR(T:gm ps g mz){row:List ah}(hs:aZ ps g row){x:Str}(hx:x∈aK row)(hn:x≠hX row):A3 (g x∈aK row) ((g x).length<x.length) (x∈ps):=by
 obtain⟨A,B,e⟩:=hY.mp hx
 have hs':=hs
 rw[e]at hs'
 obtain⟨u1,u2⟩:=g6 hs'
 have hA:A≠[]:=fun q=>hn (by rw[e,q];rfl)
 have P:=cU A (aZ.prefix hs')
 have hg:g x∈aK A:=P.sub _ (u1.resolve_left hA)
 have hm:=(cU row hs).mem x hx
 refine⟨by rw[e,bW];exact List.mem_append_left _ hg,(T.len x hm).resolve_left fun q=>u2 (q▸hg),hm⟩
theorem fe(T:gm ps g mz){row:List ah}(hs:aZ ps g row):∀(n:Nat)(x:Str),x.length<=n->x∈aK row->x=hX row\/(hX row).length<x.length
 |n,x,hn,hx=>by
  by_cases q:x=hX row
  ·exact .inl q
  ·obtain⟨a,b,_⟩:=lR T hs hx q
   cases n with
   |zero=>omega
   |succ n=>
    rcases fe T hs n (g x) (by exact Nat.le_of_lt_succ (Nat.lt_of_lt_of_le ‹_› ‹_›)) a with e|e
    ·right;rw[<-e];exact b
    ·right;exact Nat.lt_of_lt_of_le ‹_› (Nat.le_of_lt ‹_›)
structure tK(rows:List (List ah))(mz:Str->Str->Prop)(i j:Nat)(r x:Str):Prop where
 f:r=dk rows i\/r=dk rows j
 i:r∈tk rows i
 j:r∈tk rows j
 b:mz r x
theorem gr(T:gm ps g mz){i j:Nat}(hi:aZ ps g (rows.getD i []))(hj:aZ ps g (rows.getD j [])):∀(n:Nat)(x:Str),x.length<=n->x∈tk rows i->x∈tk rows j->
  ∃r,tK rows mz i j r x/\(kS g rows lk log->lk=true->i≠j->tm log x i<tm log x j->tm log r i<tm log r j)
 |n,x,hn,h1,h2=>by
  by_cases q:x=dk rows i\/x=dk rows j
  ·exact⟨x,⟨q,h1,h2,T.refl x⟩,fun O O O h=>h⟩
  ·have q1:x≠dk rows i:=fun z=>q (.inl z)
   have q2:x≠dk rows j:=fun z=>q (.inr z)
   obtain⟨a1,b1,c1⟩:=lR T hi h1 q1
   obtain⟨a2,_,_⟩:=lR T hj h2 q2
   cases n with
   |zero=>omega
   |succ n=>
    obtain⟨r,R,h⟩:=gr T hi hj n (g x) (by exact Nat.le_of_lt_succ (Nat.lt_of_lt_of_le ‹_› ‹_›)) a1 a2
    refine⟨r,⟨R.f,R.i,R.j,T.trans _ _ _ R.b (T.bel x c1)⟩,fun K hl ne lt=>h K hl ne ?_⟩
    have m1:(x,i)∈log:=fg.mp (Nat.lt_of_lt_of_le lt List.idxOf_le_length)
    obtain⟨_,_,o⟩:=K.ord _ _ x i (jr m1)
    have t1:=pP (o.resolve_left q1)
    have y1:(g x,i)∈log:=List.mem_of_mem_take (o.resolve_left q1)
    rcases Nat.lt_trichotomy (tm log (g x) i) (tm log (g x) j)with c|c|c
    ·exact c
    ·exact absurd (yr y1 c).2 ne
    ·have y2:(g x,j)∈log:=fg.mp (Nat.lt_trans c (fg.mpr y1))
     have:=pP (K.lock hl _ _ (g x) i (jr y1) j (Ne.symm ne) (kM c y2) x rfl h2)
     omega
theorem qh(T:gm ps g mz){i j:Nat}(hi:aZ ps g (rows.getD i []))(hj:aZ ps g (rows.getD j [])){r r' x x':Str}(R:tK rows mz i j r x)(R':tK rows mz i j r' x'):r=r':=by
 have key:∀{a b:Str},a=dk rows i->b=dk rows j->a∈tk rows j->b∈tk rows i->a=b:=fun{a b} ha hb h1 h2=>by
  rcases fe T hj _ a (Nat.le_refl _) h1 with e|e
  ·rw[e,hb]
  ·rcases fe T hi _ b (Nat.le_refl _) h2 with e'|e'
   ·rw[e',ha]
   ·change(dk rows j).length<_ at e;change(dk rows i).length<_ at e'
    rw[<-hb]at e;rw[<-ha]at e';exact absurd ‹_› (Nat.lt_asymm ‹_›)
 rcases R.f with e|e<;>rcases R'.f with e'|e'
 ·rw[e,e']
 ·exact key e e' R.j R'.i
 ·exact(key e' e R'.j R.i).symm
 ·rw[e,e']
noncomputable def dA(rows:List (List ah))(log:List (Str×Nat))(i j:Nat):Prop:=∃x,A3 (x∈tk rows i) (x∈tk rows j) (tm log x i<tm log x j)
variable(T:gm ps g mz)(K:kS g rows lk log)(hl:lk=true)
include T K hl
theorem j2{i j:Nat}(hi:aZ ps g (rows.getD i []))(hj:aZ ps g (rows.getD j []))(ne:i≠j)(a:dA rows log i j)(b:dA rows log j i):False:=by
 obtain⟨x,x1,x2,x3⟩:=a
 obtain⟨y,y1,y2,y3⟩:=b
 obtain⟨r,R,h⟩:=gr (lk:=lk) (log:=log) T hi hj _ x (Nat.le_refl _) x1 x2
 obtain⟨r',R',h'⟩:=gr (lk:=lk) (log:=log) T hj hi _ y (Nat.le_refl _) y1 y2
 have e:=qh T hi hj R ⟨R'.f.symm,R'.j,R'.i,R'.b⟩
 subst e
 have:=h K hl ne x3
 have:=h' K hl ne.symm y3
 exact absurd ‹_› (Nat.lt_asymm ‹_›)
theorem lZ{i j k:Nat}(hi:aZ ps g (rows.getD i []))(hj:aZ ps g (rows.getD j []))(hk:aZ ps g (rows.getD k []))(n1:i≠j)(n2:j≠k)(n3:k≠i)(l1:(dk rows i).length<=(dk rows k).length)(l2:(dk rows j).length<=(dk rows k).length)
  (a:dA rows log i j)(b:dA rows log j k)(c:dA rows log k i):False:=by
 obtain⟨x,x1,x2,x3⟩:=b
 obtain⟨y,y1,y2,y3⟩:=c
 obtain⟨r,R,h⟩:=gr (lk:=lk) (log:=log) T hj hk _ x (Nat.le_refl _) x1 x2
 obtain⟨r',R',h'⟩:=gr (lk:=lk) (log:=log) T hk hi _ y (Nat.le_refl _) y1 y2
 have top:∀{m:Nat}{r:Str},(dk rows m).length<=(dk rows k).length->(r=dk rows m\/r=dk rows k)->r∈tk rows k->r=dk rows k:=fun{m r} lm f hr=>by
  rcases f with e|e
  ·rcases fe T hk _ r (Nat.le_refl _) hr with q|q
   ·exact q
   ·change(dk rows k).length<_ at q
    rw[e]at q;exact absurd ‹_› (Nat.not_lt_of_le ‹_›)
  ·exact e
 have e1:=top l2 R.f R.j
 have e2:=top l1 R'.f.symm R'.i
 subst e1
 have t1:=h K hl n2 x3
 have t2:=h' K hl n3 y3
 rw[e2]at t2
 exact j2 T K hl hi hj n1 a ⟨dk rows k,R.i,e2▸R'.j,Nat.lt_trans t1 t2⟩
theorem uN{i j k:Nat}(hi:aZ ps g (rows.getD i []))(hj:aZ ps g (rows.getD j []))(hk:aZ ps g (rows.getD k []))(n1:i≠j)(n2:j≠k)(n3:k≠i)
  (a:dA rows log i j)(b:dA rows log j k)(c:dA rows log k i):False:=by
 by_cases p:(dk rows i).length<=(dk rows k).length/\(dk rows j).length<=(dk rows k).length
 ·exact lZ T K hl hi hj hk n1 n2 n3 p.1 p.2 a b c
 ·by_cases q:(dk rows j).length<=(dk rows i).length/\(dk rows k).length<=(dk rows i).length
  ·exact lZ T K hl hj hk hi n2 n3 n1 q.1 q.2 b c a
  ·exact lZ T K hl hk hi hj n3 n1 n2 (by exact FU ‹_› ‹_›) (by exact Fa ‹_› ‹_›) c a b
end
theorem oq:∀{rs:List (List ah)}{i k:Nat}{d:ah}{r:List ah},rs[k]?=some (d::r)->(i +k,d)∈cH i rs
 |[],_,_,_,_,h=>by simp at h
 |x::rs,i,0,d,r,h=>by
  simp only[List.getElem?_cons_zero,Option.some.injEq]at h
  subst h
  exact .head _
 |x::rs,i,k +1,d,r,h=>by
  simp only[List.getElem?_cons_succ]at h
  have:=oq (i:=i +1) h
  rw[show i +1 +k=i +(k +1) by exact Nat.succ_add_eq_add_succ _ _]at this
  cases x with
  |nil=>exact this
  |cons=>exact .tail _ this
section
variable{ps:List Str}{g:Str->Str}{mz:Str->Str->Prop}{rows:List (List ah)}{lk:Bool}{num:Nat}
structure kK(ps:List Str)(g:Str->Str)(rows:List (List ah))(lk:Bool)(st:bV):Prop where
 inv:∃Es,k8 ps g rows lk st Es
 log:kS g rows lk st.log
 off:lk=false->st.held=[]
theorem kK.start:kK ps g rows lk ⟨rows,[],[],0⟩:=by
 refine⟨⟨_,k8.start⟩,⟨List.nodup_nil,fun A B x i e=>?_,fun O A B x i e=>?_⟩,fun O=>rfl⟩
 all_goals
  have:=congrArg List.length e
  simp at this
theorem uJ(W:za ps g rows):∀(m:Nat)(st:bV),aR st.rest<m->kK ps g rows lk st->kK ps g rows lk (cO num lk m st)/\bP (cO num lk m st)=[]
 |0,st,h,_=>by exact absurd ‹_› (Nat.not_lt_zero _)
 |m +1,st,h,I=>by
  unfold cO
  change kK ps g rows lk (if bP st=[]then st else _)/\bP (if bP st=[]then st else _)=[]
  by_cases q:bP st=[]
  ·rw[if_pos q];exact⟨I,q⟩
  ·rw[if_neg q]
   obtain⟨f,r,_,hf,ha,hr,e⟩:=lQ (num:=num) (lk:=lk) q
   rw[e]
   obtain⟨Es,J⟩:=I.inv
   refine uJ W m _ ?_ ⟨⟨_,J.after W hr ha⟩,I.log.after J W hr ha,fun hl=>?_⟩
   ·have:=gc hr
    show aR (st.rest.set f.1 r)<m
    exact En ‹_› ‹_›
   ·show(if lk=true then _ else st.held)=[]
    rw[hl,if_neg (by decide)]
    exact I.off hl
theorem AM(W:za ps g rows):kK ps g rows lk (bC rows num lk)/\bP (bC rows num lk)=[]:=uJ W _ _ (Nat.lt_succ_self _) kK.start
theorem x9(T:gm ps g mz)(W:za ps g rows)(h3:rows.length=3)(hd:∀i,i<3->bk (rows.getD i [])=[]){st:bV}(I:kK ps g rows lk st)(ha:bP st=[]):∀i,st.rest.getD i []=[]:=by
 obtain⟨Es,J⟩:=I.inv
 have hlen:st.rest.length=3:=J.len.trans h3
 have get:∀{i d r},st.rest.getD i []=d::r->st.rest[i]?=some (d::r)/\i<3:=fun{i d r} e=>by
  rw[List.getD_eq_getElem?_getD]at e
  cases q:st.rest[i]? with
  |none=>rw[q]at e;cases e
  |some x=>
   rw[q]at e
   have:=(List.getElem?_eq_some_iff.mp q).1
   exact⟨congrArg some e,by exact Nat.lt_of_lt_of_eq ‹_› ‹_›⟩
 have stuck:∀{i d r},st.rest.getD i []=d::r->aF st.held (i,d)=false:=fun{i d r} e=>by
  have hm:=oq (i:=0) (get e).1
  rw[Nat.zero_add]at hm
  cases q:aF st.held (i,d)with
  |false=>rfl
  |true=>
   have:(i,d)∈bP st:=List.mem_filter.mpr ⟨hm,q⟩
   rw[ha]at this;cases this
 cases hl:lk with
 |false=>
  intro i
  cases e:st.rest.getD i []with
  |nil=>rfl
  |cons d r=>
   have:=stuck e
   rw[I.off hl]at this
   unfold aF at this
   simp at this
 |true=>
  have sw:∀i,i<3->aZ ps g (rows.getD i []):=fun i hi=>W i (by exact Nat.lt_of_lt_of_eq ‹_› (Eq.symm ‹_›))
  have next:∀i,st.rest.getD i []≠[]->i<3/\∃j,A4 (j<3) (j≠i) (st.rest.getD j []≠[]) (dA rows st.log j i):=fun i hi=>by
   obtain⟨⟨b,x⟩,r,e⟩:=List.exists_cons_of_ne_nil hi
   obtain⟨e1,i3⟩:=get e
   have hs:=stuck e
   unfold aF at hs
   obtain⟨rfl,hx⟩:b=true/\x∈st.held:=by
    simp only[Bool.or_eq_false_iff,Bool.not_eq_eq_eq_not,Bool.not_false,List.any_eq_true,beq_iff_eq]at hs
    obtain⟨a,y,hy,e⟩:=hs
    exact⟨a,e▸hy⟩
   obtain⟨j,hj⟩:=(J.held hl x).mp hx
   have j3:j<3:=by
    by_cases q:j<3
    ·exact q
    ·rw[J.out j (by omega)]at hj;cases hj
   have sp:=J.split i (by exact Nat.lt_of_lt_of_eq ‹_› (Eq.symm ‹_›))
   rw[e]at sp
   have hst:aZ ps g (Es i ++(true,x)::r):=sp▸sw i i3
   obtain⟨_,u2⟩:=g6 hst
   have hxj:x∈aK (Es j):=(cU _ (J.steps W j)).sub x hj
   have ne:j≠i:=fun q=>u2 (q▸hxj)
   refine⟨i3,j,j3,ne,fun q=>?_,x,?_,?_,?_⟩
   ·have:=hd j j3
    rw[J.split j (by exact Nat.lt_of_lt_of_eq ‹_› (Eq.symm ‹_›)),q,List.append_nil]at this
    rw[this]at hj;cases hj
   ·show x∈aK (rows.getD j [])
    rw[J.split j (by exact Nat.lt_of_lt_of_eq ‹_› (Eq.symm ‹_›)),bW];exact List.mem_append_left _ hxj
   ·show x∈aK (rows.getD i [])
    rw[sp];exact hY.mpr ⟨_,_,rfl⟩
   ·have a:(x,j)∈st.log:=J.log_mem.mpr hxj
    have b:(x,i)∉st.log:=fun q=>u2 (J.log_mem.mp q)
    have:=fg.mpr a
    have:¬tm st.log x i<st.log.length:=fun q=>b (fg.mp q)
    exact FJ ‹_› ‹_›
  intro i0
  apply Classical.byContradiction
  intro h0
  obtain⟨i3,j1,a1,a2,a3,a4⟩:=next i0 h0
  obtain⟨_,j₂,b1,b2,b3,b4⟩:=next j1 a3
  obtain⟨_,j₃,c1,c2,c3,c4⟩:=next j₂ b3
  by_cases q:j₂=i0
  ·subst q
   exact j2 T I.log hl (sw _ a1) (sw _ i3) a2 a4 b4
  ·by_cases q':j₃=j1
   ·subst q'
    exact j2 T I.log hl (sw _ a1) (sw _ b1) b2.symm c4 b4
   ·have:j₃=i0:=ER i3 a1 a2 b1 b2 c1 c2 q q'
    subst this
    exact uN T I.log hl (sw _ i3) (sw _ b1) (sw _ a1) c2 b2 a2 c4 b4 a4
structure fJ(g:Str->Str)(rows:List (List ah))(lk:Bool)(log:List (Str×Nat)):Prop where
 ok:kS g rows lk log
 all:∀x i,(x,i)∈log↔x∈tk rows i
theorem Ab(T:gm ps g mz)(W:za ps g rows)(h3:rows.length=3)(hd:∀i,i<3->bk (rows.getD i [])=[]):ai (bC rows num lk).rest=[]/\fJ g rows lk (bC rows num lk).log:=by
 obtain⟨I,ha⟩:=AM (lk:=lk) (num:=num) W
 have hr:=x9 T W h3 hd I ha
 obtain⟨Es,J⟩:=I.inv
 refine⟨?_,I.log,fun x i=>?_⟩
 ·cases e:ai (bC rows num lk).rest with
  |nil=>rfl
  |cons f fs=>
   obtain⟨r,q⟩:=dL (f:=f) (rs:=(bC rows num lk).rest) (by rw[e];exact .head _)
   have:=hr f.1
   rw[List.getD_eq_getElem?_getD,q]at this
   cases this
 ·rw[J.log_mem]
  by_cases q:i<rows.length
  ·have:=J.split i q
   rw[hr i,List.append_nil]at this
   rw[tk,this]
  ·rw[J.out i (by exact Nat.le_of_not_lt ‹_›),tk,List.getD_eq_getElem?_getD,List.getElem?_eq_none (by exact Nat.le_of_not_lt ‹_›)]
   rfl
end
section
variable{z:Bool}{ρ1:LS}{l r:Ep}{R R1 R2:RK}{o:kR}
theorem kX(xs:List Int):∀k,k<=xs.length->preSum (fun i=>xs.getD i 0) k=(xs.take k).sum
 |0,_=>rfl
 |k +1,h=>by
  show preSum _ k +xs.getD k 0=_
  rw[kX xs k (by exact Nat.le_of_succ_le ‹_›),List.take_add_one,List.getD_eq_getElem?_getD,List.getElem?_eq_getElem (by omega),List.sum_append]
  simp
theorem wx(xs:List Int):preSum (fun i=>xs.getD i 0) xs.length=xs.sum:=by
 rw[kX xs _ (Nat.le_refl _),List.take_length]
theorem zA{xs:List Int}:gO hg n (.builtin "sum") [rL (xs.map .int)] (RF (DV (.int xs.sum))):=fun A fr h₀ hb s vs Q E ok sg sb ff al h=>by
 obtain⟨v,rfl,r1⟩:=al.one
 obtain⟨a,us,bs,rfl,hl,hr⟩:=r1
 obtain⟨oa,hoa,hca,ka,hda⟩:=id hl
 have hra:RA hb us.toList (xs.map .int):=⟨bs,hr⟩
 have hlen:us.size=xs.length:=by simpa using hra.length
 have hne:a≠s.heap.objs.size:=Nat.ne_of_lt (Hp.lt_size hoa)
 refine call_sum_walkG (wpAny_pyIter_list hl ⟨s.heap.objs.size,_,_,us.size,_,_,fun i=>xs.getD i 0,rfl,Walks.list (A:=A.in1) ok.h s.heap.objs.size a hne us,⟨⟨_,Hp.get?_push_size _ rfl,rfl,rfl⟩,hl.push _⟩,fun b hb=>?_,fun i v hv=>?_,fun h' tk t' k=>?_⟩)
 ·rcases List.mem_cons.mp hb with rfl|hb
  ·rw[Hp.size_push];exact Nat.lt_succ_self _
  ·rw[List.mem_singleton.mp hb,Hp.size_push];exact Nat.lt_succ_of_lt (Hp.lt_size hoa)
 ·have hv':us.toList[i]?=some v:=by simpa using hv
  have hi:i<xs.length:=by rw[<-hlen];have:=(Array.getElem?_eq_some_iff.mp hv).1;exact this
  obtain⟨u,hu,ru⟩:=hra.get (k:=i) (d:=.int (xs.getD i 0)) (by rw[List.getElem?_map,List.getD_eq_getElem?_getD,List.getElem?_eq_getElem hi];rfl)
  rw[hu]at hv';injection hv' with hv';subst hv'
  obtain⟨t,rfl⟩:=aj ru
  exact⟨t,rfl⟩
 ·rw[hlen,wx xs]
  have st1:=aL (h:=s.heap) (hb:=hb) {cls:=.type "list_iterator",data:=.fields #[.ref a,rawInt 0]} sb
  have st2:=cZ (h':=h') st1.stay k (fun b hb=>by rw[List.mem_singleton.mp hb];exact⟨_,_,Hp.get?_push_size _ rfl,rfl⟩) (fun b hb=>by rw[List.mem_singleton.mp hb];exact Hp.StaysIn.fresh sb)
  exact h _ h' hb tk (st1.trans st2) cQ
theorem rM{a b:Int}:gO hg n (.builtin "sorted") [rL [.int a,.int b]] (RB (.list (if a<=b then[.int a,.int b]else[.int b,.int a]))):=fun A fr h₀ hb s vs Q E ok sg sb ff al h=>by
 obtain⟨v,rfl,r1⟩:=al.one
 obtain⟨l,us,bs,rfl,hl,hr⟩:=r1
 have hra:RA hb us.toList [.int a,.int b]:=⟨bs,hr⟩
 obtain⟨x,us',e1,rx,hra'⟩:=hra.inv
 obtain⟨y,us'',e2,ry,hra''⟩:=hra'.inv
 have e3:=hra''.inv0
 obtain⟨t,rfl⟩:=aj rx
 obtain⟨t',rfl⟩:=aj ry
 subst e3
 rw[e2]at e1
 have eu:us=([.int a t,.int b t']:List Vl).toArray:=by rw[<-e1]
 subst eu
 refine sorted_ints (vs:=[.int a t,.int b t']) (ns:=[a,b]) hl ?_ (by simp) fun out ns' hI hp hs=>?_
 ·exact .cons a t (.cons b t' .nil)
 ·have hns:ns'=if a<=b then[a,b]else[b,a]:=by
   match ns',hp.length_eq with
   |[x,y],_=>
    have h1:x=a\/x=b:=by have:=hp.mem_iff (a:=x);simpa using this
    have h2:y=a\/y=b:=by have:=hp.mem_iff (a:=y);simpa using this
    have h3:a=x\/a=y:=by have:=hp.mem_iff (a:=a);simpa using this
    have h4:b=x\/b=y:=by have:=hp.mem_iff (a:=b);simpa using this
    have h5:x<=y:=by simpa using hs
    split
    ·have e1:x=a:=by exact C7 ‹_› ‹_› ‹_› ‹_›
     have e2:y=b:=by omega
     rw[e1,e2]
    ·have e1:x=b:=by omega
     have e2:y=a:=by omega
     rw[e1,e2]
  obtain⟨k,ha⟩:=sortedAll_at s.heap [.int a t,.int b t'] out
  have st:ay s.heap hb (sortedAll s.heap [.int a t,.int b t'] out) hb:=⟨Hp.UpToSlots.of_keeps fun O O e=>sortedAll_old e,fun O O e=>e,fun b o e=>sortedAll_old (sb b o e),fun O O O O e=>e⟩
  have read:∀{vs:List Vl}{ns:List Int}{h:Hp},IntsAre vs ns->RA h vs (ns.map .int):=by
   intro vs ns h q
   induction q with
   |nil=>exact .nil
   |cons n t _ ih=>exact .cons ⟨_,.int n t⟩ ih
  obtain⟨bs',rr⟩:=read (h:=sortedAll s.heap [.int a t,.int b t'] out) hI
  have e:(ns'.map PyD.int)=if a<=b then[.int a,.int b]else[.int b,.int a]:=by rw[hns];split<;>rfl
  rw[e]at rr
  exact h _ _ hb s.toks st ⟨_,.list ha rfl rfl rr⟩
theorem j6(bt:Nat->Nat->Bool):∀k,argBest bt k<=k
 |0=>Nat.le_refl _
 |k +1=>by
  unfold argBest
  split
  ·exact Nat.le_refl _
  ·exact Nat.le_succ_of_le (j6 bt k)
noncomputable def Cb(x y:Str):Bool:=decide (x.cps.toList<y.cps.toList)
noncomputable def vy(xs:List Str):Str:=xs.getD (argBest (fun i j=>Cb (xs.getD i "") (xs.getD j "")) (xs.length - 1)) ""
theorem zC{xs:List Str}(hx:xs≠[]):gO hg n (.builtin "min") [rL (xs.map .str)] (RF (DV (.str (vy xs)))):=fun A fr h₀ hb s vs Q E ok sg sb ff al h=>by
 obtain⟨v,rfl,r1⟩:=al.one
 obtain⟨a,us,bs,rfl,hl,hr⟩:=r1
 obtain⟨oa,hoa,hca,ka,hda⟩:=id hl
 have hra:RA hb us.toList (xs.map .str):=⟨bs,hr⟩
 have hlen:us.size=xs.length:=by simpa using hra.length
 have hpos:0<xs.length:=List.length_pos_iff.mpr hx
 have hne:a≠s.heap.objs.size:=Nat.ne_of_lt (Hp.lt_size hoa)
 have item:∀i v,us[i]?=some v->i<xs.length/\∃t,v= .str (xs.getD i "") t:=fun i v hv=>by
  have hv':us.toList[i]?=some v:=by simpa using hv
  have hi:i<xs.length:=by rw[<-hlen];have:=(Array.getElem?_eq_some_iff.mp hv).1;exact this
  obtain⟨u,hu,ru⟩:=hra.get (k:=i) (d:=.str (xs.getD i "")) (by rw[List.getElem?_map,List.getD_eq_getElem?_getD,List.getElem?_eq_getElem hi];rfl)
  rw[hu]at hv';injection hv' with hv';subst hv'
  obtain⟨t,rfl⟩:=az ru
  exact⟨hi,t,rfl⟩
 refine call_min_walk (wpAny_pyIter_list hl ⟨s.heap.objs.size,_,_,us.size,_,_,fun i j=>Cb (xs.getD i "") (xs.getD j ""),rfl,Walks.list (A:=A.in1) ok.h s.heap.objs.size a hne us,⟨⟨_,Hp.get?_push_size _ rfl,rfl,rfl⟩,hl.push _⟩,fun b hb=>?_,by rw[hlen];exact hpos,fun i j vi vj s' Q' E' hi hj hq=>?_,fun v h' tk hv k=>?_⟩)
 ·rcases List.mem_cons.mp hb with rfl|hb
  ·rw[Hp.size_push];exact Nat.lt_succ_self _
  ·rw[List.mem_singleton.mp hb,Hp.size_push];exact Nat.lt_succ_of_lt (Hp.lt_size hoa)
 ·obtain⟨_,t,rfl⟩:=item i vi hi
  obtain⟨_,t',rfl⟩:=item j vj hj
  have:=PyProof.Rows.lt_str (prog:=PG) (w:=W0) (A:=A.in1) (E:=E') (s:=s') (x:=xs.getD i "") (y:=xs.getD j "") (t:=t) (u:=t') (Q:=Q') (by exact hq)
  exact this
 ·obtain⟨_,t,rfl⟩:=item _ v hv
  have st1:=aL (h:=s.heap) (hb:=hb) {cls:=.type "list_iterator",data:=.fields #[.ref a,rawInt 0]} sb
  have st2:=cZ (h':=h') st1.stay k (fun b hb=>by rw[List.mem_singleton.mp hb];exact⟨_,_,Hp.get?_push_size _ rfl,rfl⟩) (fun b hb=>by rw[List.mem_singleton.mp hb];exact Hp.StaysIn.fresh sb)
  have:=h (.str (vy xs) t) h' hb tk (st1.trans st2) d7
  unfold vy at this
  rw[hlen]
  exact this
end
noncomputable abbrev Fg:=Ad->Option Obj
noncomputable def lz(F:Fg)(h:Hp):Prop:=∀a o,F a=some o->h.get? a=some o
noncomputable def DJ(F:Fg)(h:Hp):Prop:=∀a o,F a=some o->h.get? a=none
noncomputable def Fg.put(F:Fg)(a:Ad)(o:Obj):Fg:=fun b=>if b=a then some o else F b
theorem Fg.put_same(F:Fg)(a:Ad)(o:Obj):F.put a o a=some o:=if_pos rfl
theorem Fg.put_ne(F:Fg){a b:Ad}(o:Obj)(h:b≠a):F.put a o b=F b:=if_neg h
structure ae(F:Fg)(h hm:Hp):Prop where
 sub:hm.StaysIn h
 at_:lz F h
 dis:DJ F hm
theorem gn{h:Hp}:ae (fun O=>none) h h:=⟨fun O O e=>e,fun O O e=>(nomatch e),fun O O e=>(nomatch e)⟩
theorem sQ{F:Fg}{h hm hb:Hp}(B:ae F h hm)(k:hb.StaysIn hm):∃hp:Hp,A4 (hb.StaysIn hp) (lz F hp) (hp.StaysIn h) (∀b,hb.get? b=none->F b=none->hp.get? b=none):=by
 obtain⟨g,g1,g2⟩:=cu h fun b=>(hb.get? b).isSome=true\/(F b).isSome=true
 refine⟨g,fun b o e=>?_,fun b o e=>?_,fun b o e=>?_,fun b e1 e2=>g2 b ?_⟩
 ·rw[g1 b (.inl (by rw[e];rfl))];exact B.sub b o (k b o e)
 ·rw[g1 b (.inr (by rw[e];rfl))];exact B.at_ b o e
 ·by_cases q:(hb.get? b).isSome=true\/(F b).isSome=true
  ·rw[g1 b q]at e;exact e
  ·rw[g2 b q]at e;cases e
 ·rw[e1,e2];simp
theorem cx(F:Fg)(h:Hp):∃g:Hp,(∀b,F b=none->g.get? b=h.get? b)/\∀b,F b≠none->g.get? b=none:=by
 obtain⟨g,g1,g2⟩:=cu h fun b=>F b=none
 exact⟨g,g1,g2⟩
section
variable{l r:Ep}{R R1 R2:RK}{F F':Fg}{A:Ar}{fr:List Env}{h hm hb h' hb' hm':Hp}
theorem ae.sees(B:ae F h hm)(S:dc hg hb hm env fr ρ):∃hp:Hp,A5 (hg.StaysIn hp) (lz F hp) (hb.StaysIn hp) (dc hp hp h env fr ρ) (∀b,hb.get? b=none->F b=none->hp.get? b=none):=by
 obtain⟨hp,p1,p2,p3,p4⟩:=sQ B S.b
 refine⟨hp,fun b o e=>p1 b o (S.g b o e),p2,p1,⟨fun O O e=>e,p3,?_,S.k,S.gl,S.bl,fun x lv e=>?_⟩,p4⟩
 ·refine bJ (be B.sub) (fun a o ha O q=>p4 a q ?_) S.f
  cases z:F a with
  |none=>rfl
  |some o'=>rw[B.dis a o' z]at ha;cases ha
 ·obtain⟨v,r,lo⟩:=S.v x lv e
  refine⟨v,r.up (be B.sub),?_⟩
  cases lv with
  |fz G=>exact G.stays p1 lo
  |own ds=>
   obtain⟨a,vs,bs,rfl,q1,q2⟩:=lo
   exact⟨a,vs,bs,rfl,q1.up (be B.sub),ReadsAll.keeps p1 q2⟩
theorem ae.after{hp hp':Hp}(B:ae F h hm)(k:hb.StaysIn hm)(p1:hb.StaysIn hp)(p2:lz F hp)(p4:∀b,hb.get? b=none->F b=none->hp.get? b=none)(st:ay h hp h' hp'):
  X2 fun hm' hb'=>A4 (ae F h' hm') (ay hm hb hm' hb') (hb'.StaysIn hp') (∀b,F b=none->hb'.get? b=hp'.get? b):=by
 obtain⟨hm',m1,m2⟩:=cx F h'
 obtain⟨hb',b1,b2⟩:=cx F hp'
 have dis:∀{g:Hp}{b:Ad}{o:Obj},g.StaysIn hm->g.get? b=some o->F b=none:=fun{g b o} kg e=>by
  cases q:F b with
  |none=>rfl
  |some o'=>have:=B.dis b o' q;rw[kg b o e]at this;cases this
 have back:∀{g g':Hp},(∀b,F b=none->g.get? b=g'.get? b)->(∀b,F b≠none->g.get? b=none)->g.StaysIn g':=fun{g g'} x1 x2 b o e=>by
  by_cases q:F b=none
  ·rw[<-x1 b q];exact e
  ·rw[x2 b q]at e;cases e
 refine⟨hm',hb',⟨back m1 m2,fun b o e=>st.stay b o (st.sub b o (p2 b o e)),fun b o e=>m2 b (by rw[e];exact fun q=>(nomatch q))⟩,⟨fun b o e hd=>?_,fun b o e=>?_,fun b o e=>?_,fun b o e hd q=>?_⟩,back b1 b2,b1⟩
 ·have hF:=dis (g:=hm) (fun O O q=>q) e
  obtain⟨sl,e'⟩:=st.up b o (B.sub b o e) hd
  exact⟨sl,(m1 b hF).trans e'⟩
 ·have hF:=dis k e
  exact(b1 b hF).trans (st.sub b o (p1 b o e))
 ·by_cases q:F b=none
  ·rw[b1 b q]at e
   exact(m1 b q).trans (st.stay b o e)
  ·rw[b2 b q]at e;cases e
 ·have hF:=dis (g:=hm) (fun O O q=>q) e
  exact(b1 b hF).trans (st.fresh b o (B.sub b o e) hd (p4 b q hF))
variable(hg n env)
noncomputable def cB(F:Fg)(ρ:LS)(e:Ep)(P:Hp->Vl->Fg->Prop):Prop:=
 ∀(A:Ar)(fr:List Env)(hb hm:Hp)(s:SD)(Q:VS)(E:VS),br A fr n->dc hg hb hm env fr ρ->ae F s.heap hm->
  (∀v F' h' hm' hb' tk,ay hm hb hm' hb'->ae F' h' hm'->P hb' v F'->Q v (aA s h' tk))->wA MD A (eval e env) Q E s
noncomputable def s7(F:Fg)(ρ:LS)(e:Ep)(P:Bool->Fg->Prop):Prop:=
 ∀(A:Ar)(fr:List Env)(hb hm:Hp)(s:SD)(Q:Bool->SD->Prop)(E:VS),br A fr n->dc hg hb hm env fr ρ->ae F s.heap hm->
  (∀b F' h' hm' hb' tk,ay hm hb hm' hb'->ae F' h' hm'->P b F'->Q b (aA s h' tk))->wA MD A (isTrue e env (eval e env)) Q E s
variable{hg n env}
noncomputable def CQ(F:Fg)(R:RK)(P:Hp->Vl->Prop):Prop:=∀{h h' hp hb v},R h hp h' v->hb.StaysIn hp->(∀b,F b=none->hb.get? b=hp.get? b)->P hb v
theorem aV{P:Hp->Vl->Prop}(he:∀hp,hg.StaysIn hp->lz F hp->Ev hp n env ρ e R)(ho:CQ F R P):cB hg n env F ρ e fun hb v F'=>F'=F/\P hb v:=fun A fr hb hm s Q E ok S B h=>by
 obtain⟨hp,p0,p2,p1,S',p4⟩:=B.sees S
 refine he hp p0 p2 A fr hp s Q E ok S' fun v h' hp' tk st r=>?_
 obtain⟨hm',hb',B',st',k1,k2⟩:=B.after S.b p1 p2 p4 st
 exact h v F h' hm' hb' tk st' B' ⟨rfl,ho r k1 k2⟩
theorem cA{b:Bool}(he:∀hp,hg.StaysIn hp->lz F hp->Tv hp n env ρ e b):s7 hg n env F ρ e fun b' F'=>F'=F/\b'=b:=fun A fr hb hm s Q E ok S B h=>by
 obtain⟨hp,p0,p2,p1,S',p4⟩:=B.sees S
 refine he hp p0 p2 A fr hp s Q E ok S' fun h' hp' tk st=>?_
 obtain⟨hm',hb',B',st',k1,k2⟩:=B.after S.b p1 p2 p4 st
 exact h b F h' hm' hb' tk st' B' ⟨rfl,rfl⟩
theorem fA{u:Vl}:CQ F (RF (RV u)) fun O v=>v=u:=fun r O O=>r
theorem e7{i:Int}:CQ F (RF (DV (.int i))) fun O v=>∃t,v= .int i t:=fun r O O=>aj r
end
theorem ae.step{F:Fg}{h hm hb:Hp}(B:ae F h hm)(k:hb.StaysIn hm):ay hm hb h hb:=⟨be B.sub,fun O O e=>e,fun b o e=>B.sub b o (k b o e),fun O O O O e=>e⟩
theorem ae.off{F:Fg}{h hm:Hp}(B:ae F h hm){a:Ad}{o:Obj}(e:hm.get? a=some o):F a=none:=by
 cases q:F a with
 |none=>rfl
 |some o'=>rw[B.dis a o' q]at e;cases e
theorem hW{F:Fg}{h₁ b1 h' hm' hb:Hp}(off:∀a o,h₁.get? a=some o->F a=none)(m1:∀b,F b=none->hm'.get? b=h'.get? b):∀{l:List Env},h₁.FunFrames b1 l->h'.FunFrames hb l->hm'.FunFrames hb l
 |[],_,_=>trivial
 |_::_,⟨_,⟨L1,o1,hf1,hn1,ho1,hd1⟩,hr1⟩,⟨hk,⟨L,o,hf,hn,ho,hd⟩,hr⟩=>by
  rw[hf1]at hf;injection hf with hf;subst hf
  exact⟨hk,⟨_,o,hf1,hn,(m1 _ (off _ _ ho1)).trans ho,hd⟩,hW off m1 hr1 hr⟩
section
variable{h₀ hb₀ hb hb' h hm h' hm':Hp}{fr:List Env}{F F':Fg}
theorem co.lift(R:co hg h₀ hb₀ hb hm env fr ρ)(B:ae F h hm):co hg h₀ hb₀ hb h env fr ρ:=R.step (B.step R.s.b)
theorem co.down(R:co hg h₀ hb₀ hb hm env fr ρ)(B:ae F h hm)(R':co hg h₀ hb₀ hb' h' env fr ρ')(m1:∀b,F b=none->hm'.get? b=h'.get? b)(hbF:∀b o,hb'.get? b=some o->F b=none)
  (own:∀y ds a,ρ'.lookup y=some (.own ds)->dY env h' y (.ref a)->F a=none):co hg h₀ hb₀ hb' hm' env fr ρ':=by
 obtain⟨⟨m0,hm0⟩,_,_⟩:=R.l
 obtain⟨ol0,hol0,_⟩:=cv hm0
 have fl:F env.locals=none:=B.off hol0
 have fc:∀y c,env.cells.lookup y=some c->F c=none:=fun y c e=>by
  obtain⟨⟨v,o,ho,_⟩,_⟩:=R.c y c e
  exact B.off ho
 have fh:∀b o,h₀.get? b=some o->(∀vs,o.data≠ .fields vs)->F b=none:=fun b o e hd=>by
  obtain⟨sl,e'⟩:=R.st.up b o e hd
  exact B.off e'
 have ns:∀{m},h'.Ns env.locals m->hm'.Ns env.locals m:=fun{m} x=>by
  obtain⟨o,es,ep,ho,r⟩:=x
  exact⟨o,es,ep,(m1 _ fl).trans ho,r⟩
 have ce:∀y c v,env.cells.lookup y=some c->h'.IsCell c v->hm'.IsCell c v:=fun y c v e x=>by
  obtain⟨o,ho,hd⟩:=x
  exact⟨o,(m1 _ (fc y c e)).trans ho,hd⟩
 have rd:∀y u,dY env h' y u->dY env hm' y u:=fun y u r=>by
  rcases r with⟨a,m,b,c⟩|⟨a,c,b,hc⟩
  ·exact .inl ⟨a,m,ns b,c⟩
  ·exact .inr ⟨a,c,b,ce y c _ b hc⟩
 have pl:∀a vs,F a=none->PL h' a vs->PL hm' a vs:=fun a vs q x=>by
  obtain⟨o,ho,r⟩:=x
  exact⟨o,(m1 _ q).trans ho,r⟩
 obtain⟨⟨m',hm1⟩,l2,l3⟩:=R'.l
 refine⟨⟨R'.s.g,fun b o e=>(m1 b (hbF b o e)).trans (R'.s.b b o e),hW (fun a o e=>B.off e) m1 R.s.f R'.s.f,R'.s.k,R'.s.gl,R'.s.bl,fun y lv e=>?_⟩,⟨fun b o e hd=>?_,R'.st.sub,fun b o e=>(m1 b (hbF b o e)).trans (R'.st.stay b o e),R'.st.fresh⟩,⟨⟨m',ns hm1⟩,l2,l3⟩,fun y c e=>?_,R'.ci,R'.hd,fun y ds e=>?_,fun y z dy dz a ey ez ry rz=>?_⟩
 ·obtain⟨v,r,lo⟩:=R'.s.v y lv e
  refine⟨v,rd y v r,?_⟩
  cases lv with
  |fz G=>exact lo
  |own ds=>
   obtain⟨a,vs,bs,rfl,p1,p2⟩:=lo
   exact⟨a,vs,bs,rfl,pl _ _ (own y ds a e r) p1,p2⟩
 ·obtain⟨sl,e'⟩:=R'.st.up b o e hd
  exact⟨sl,(m1 b (fh b o e hd)).trans e'⟩
 ·obtain⟨⟨v,hv⟩,c2,c3⟩:=R'.c y c e
  exact⟨⟨v,ce y c v e hv⟩,c2,c3⟩
 ·obtain⟨a,vs,r,p,q⟩:=R'.o y ds e
  exact⟨a,vs,rd _ _ r,pl _ _ (own y ds a e r) p,q⟩
 ·have back:∀y dy,ρ'.lookup y=some (.own dy)->dY env hm' y (.ref a)->dY env h' y (.ref a):=fun y dy e r=>by
   obtain⟨a1,_,r1,_⟩:=R'.o y dy e
   have:=bM (rd _ _ r1) r
   injection this with this;subst this;exact r1
  exact R'.oi y z dy dz a ey ez (back y dy ey ry) (back z dz ez rz)
structure PX where
 next:LS->Fg->Prop:=fun O O=>False
 brk:LS->Fg->Prop:=fun O O=>False
 cont:LS->Fg->Prop:=fun O O=>False
 ret:Hp->Vl->Fg->Prop:=fun O O O=>False
noncomputable def B8(hg h₀ hb₀:Hp)(env:Env)(fr:List Env)(P:PX)(f:Flow)(hb' hm':Hp)(F':Fg):Prop:=
 (f= .next/\∃ρ',P.next ρ' F'/\co hg h₀ hb₀ hb' hm' env fr ρ')\/(f= .brk/\∃ρ',P.brk ρ' F'/\co hg h₀ hb₀ hb' hm' env fr ρ')\/(f= .cont/\∃ρ',P.cont ρ' F'/\co hg h₀ hb₀ hb' hm' env fr ρ')\/
 (∃v,A3 (f= .ret v) (P.ret hb' v F') (ay h₀ hb₀ hm' hb'))
end
section
variable(hg:Hp)(n:Nat)(env:Env)
noncomputable def XX(F:Fg)(ρ:LS)(st:Stmt)(P:PX):Prop:=
 ∀(A:Ar)(fr:List Env)(h₀ hb₀ hb hm:Hp)(s:SD)(Q:Flow->SD->Prop)(E:VS),br A fr n->co hg h₀ hb₀ hb hm env fr ρ->ae F s.heap hm->
  (∀f F' h' hm' hb' tk,ae F' h' hm'->B8 hg h₀ hb₀ env fr P f hb' hm' F'->hb.StaysIn hb'->Q f (aA s h' tk))->wA MD A (exec st env) Q E s
noncomputable def ly(F:Fg)(ρ:LS)(ss:List Stmt)(P:PX):Prop:=
 ∀(A:Ar)(fr:List Env)(h₀ hb₀ hb hm:Hp)(s:SD)(Q:Flow->SD->Prop)(E:VS),br A fr n->co hg h₀ hb₀ hb hm env fr ρ->ae F s.heap hm->
  (∀f F' h' hm' hb' tk,ae F' h' hm'->B8 hg h₀ hb₀ env fr P f hb' hm' F'->hb.StaysIn hb'->Q f (aA s h' tk))->wA MD A (execs ss env) Q E s
end
section
variable{l r:Ep}{F F':Fg}{P P':PX}{st:Stmt}{ss:List Stmt}
structure PX.Le(P P':PX):Prop where
 next:∀ρ F,P.next ρ F->P'.next ρ F
 brk:∀ρ F,P.brk ρ F->P'.brk ρ F
 cont:∀ρ F,P.cont ρ F->P'.cont ρ F
 ret:∀h v F,P.ret h v F->P'.ret h v F
theorem B8.le(k:P.Le P'){h₀ hb₀ hb' hm':Hp}{fr:List Env}{f:Flow}(x:B8 hg h₀ hb₀ env fr P f hb' hm' F'):B8 hg h₀ hb₀ env fr P' f hb' hm' F':=by
 rcases x with⟨e,ρ',a,b⟩|⟨e,ρ',a,b⟩|⟨e,ρ',a,b⟩|⟨v,e,a,b⟩
 ·exact .inl ⟨e,ρ',k.next _ _ a,b⟩
 ·exact .inr (.inl ⟨e,ρ',k.brk _ _ a,b⟩)
 ·exact .inr (.inr (.inl ⟨e,ρ',k.cont _ _ a,b⟩))
 ·exact .inr (.inr (.inr ⟨v,e,k.ret _ _ _ a,b⟩))
theorem B7(x:XX hg n env F ρ st P)(k:P.Le P'):XX hg n env F ρ st P':=fun A fr h₀ hb₀ hb hm s Q E ok Rl B h=>
 x A fr h₀ hb₀ hb hm s Q E ok Rl B fun f F' h' hm' hb' tk B' o kb=>h f F' h' hm' hb' tk B' (o.le k) kb
theorem yI(x:ly hg n env F ρ ss P)(k:P.Le P'):ly hg n env F ρ ss P':=fun A fr h₀ hb₀ hb hm s Q E ok Rl B h=>
 x A fr h₀ hb₀ hb hm s Q E ok Rl B fun f F' h' hm' hb' tk B' o kb=>h f F' h' hm' hb' tk B' (o.le k) kb
theorem aP(h:P.next ρ F):ly hg n env F ρ [] P:=fun A fr h₀ hb₀ hb hm s Q E ok Rl B hq=>
 wpAny_execs_nil (hq .next F s.heap hm hb s.toks B (.inl ⟨rfl,ρ,h,Rl⟩) fun O O e=>e)
theorem ad{N:LS->Fg->Prop}(x:XX hg n env F ρ st {P with next:=N})(y:∀ρ1 F1,N ρ1 F1->ly hg n env F1 ρ1 ss P):ly hg n env F ρ (st::ss) P:=fun A fr h₀ hb₀ hb hm s Q E ok Rl B h=>
 wpAny_execs_cons (x A fr h₀ hb₀ hb hm s _ E ok Rl B fun f F1 h₁ hm1 hb1 tk1 B1 o k1=>by
  rcases o with⟨rfl,ρ1,a,b⟩|⟨rfl,ρ1,a,b⟩|⟨rfl,ρ1,a,b⟩|⟨v,rfl,a,b⟩
  ·exact y ρ1 F1 a A fr h₀ hb₀ hb1 hm1 _ Q E ok b B1 fun f F' h' hm' hb' tk B' o k2=>h f F' h' hm' hb' tk B' o fun b o e=>k2 b o (k1 b o e)
  ·exact h _ F1 h₁ hm1 hb1 tk1 B1 (.inr (.inl ⟨rfl,ρ1,a,b⟩)) k1
  ·exact h _ F1 h₁ hm1 hb1 tk1 B1 (.inr (.inr (.inl ⟨rfl,ρ1,a,b⟩))) k1
  ·exact h _ F1 h₁ hm1 hb1 tk1 B1 (.inr (.inr (.inr ⟨v,rfl,a,b⟩))) k1)
theorem nS{PB:Bool->Fg->Prop}{test:Ep}{body orelse:List Stmt}(ht:s7 hg n env F ρ test PB)(h1:∀F',PB true F'->ly hg n env F' ρ body P)(h2:∀F',PB false F'->ly hg n env F' ρ orelse P):XX hg n env F ρ (.If test body orelse pos) P:=fun A fr h₀ hb₀ hb hm s Q E ok Rl B h=>
 wpAny_If (ht A fr hb hm s _ E ok Rl.s B fun b F1 h₁ hm1 hb1 tk1 st1 B1 p=>by
  cases b with
  |true=>exact h1 F1 p A fr h₀ hb₀ hb1 hm1 _ Q E ok (Rl.step st1) B1 fun f F' h' hm' hb' tk B' o k2=>h f F' h' hm' hb' tk B' o fun b o e=>k2 b o (st1.sub b o e)
  |false=>exact h2 F1 p A fr h₀ hb₀ hb1 hm1 _ Q E ok (Rl.step st1) B1 fun f F' h' hm' hb' tk B' o k2=>h f F' h' hm' hb' tk B' o fun b o e=>k2 b o (st1.sub b o e))
theorem jV{PV:Hp->Vl->Fg->Prop}(he:cB hg n env F ρ e PV)(hp:∀h v F',PV h v F'->P.ret h v F'):XX hg n env F ρ (.Return (some e) pos) P:=fun A fr h₀ hb₀ hb hm s Q E ok Rl B h=>
 wpAny_Return_some (he A fr hb hm s _ E ok Rl.s B fun v F1 h₁ hm1 hb1 tk1 st1 B1 p=>h _ F1 h₁ hm1 hb1 tk1 B1 (.inr (.inr (.inr ⟨v,rfl,hp _ _ _ p,Rl.st.trans st1⟩))) st1.sub)
theorem ei{PV:Hp->Vl->Fg->Prop}(he:cB hg n env F ρ e PV)(hp:∀h v F',PV h v F'->P.next ρ F')(hi:autoParam (interactive env=false) Rf)(hs:autoParam (swapsWith e none pos.line env=pure false) Rf):XX hg n env F ρ (.Expr e pos) P:=fun A fr h₀ hb₀ hb hm s Q E ok Rl B h=>
 wpAny_Expr_any (hi:=hi) (hs:=hs) (he A fr hb hm s _ E ok Rl.s B fun v F1 h₁ hm1 hb1 tk1 st1 B1 p=>h _ F1 h₁ hm1 hb1 tk1 B1 (.inl ⟨rfl,ρ,hp _ _ _ p,Rl.step st1⟩) st1.sub)
theorem bH{A:Ar}{fr:List Env}{h₀ hb₀ hb hm:Hp}{s:SD}{Q:Unit->SD->Prop}{E:VS}{x:Str}{v:Vl}{G:FP}(Rl:co hg h₀ hb₀ hb hm env fr ρ)(B:ae F s.heap hm)(kx:cM env x)(hv:G.P hb v)
  (hown:∀y ds,y≠x->ρ.lookup y≠some (.own ds))
  (h:∀h' hm' tk,ae F h' hm'->co hg h₀ hb₀ hb hm' env fr ((x,.fz G)::ρ)->Q () (aA s h' tk)):wA MD A (storeName env x v) Q E s:=by
 have R1:=Rl.lift B
 refine R1.store kx (lv:=.fz G) hv fun h' tk R' hk O O O=>?_
 obtain⟨C,hC,k⟩:=hk
 have fC:F C=none:=by
  rcases hC with rfl|e
  ·obtain⟨⟨m,hm0⟩,_⟩:=Rl.l
   obtain⟨o,ho,_⟩:=cv hm0
   exact B.off ho
  ·obtain⟨⟨u,o,ho,_⟩,_⟩:=Rl.c x C e
   exact B.off ho
 obtain⟨hm',m1,m2⟩:=cx F h'
 refine h h' hm' tk ⟨fun b o e=>?_,fun a o e=>k a o (fun q=>by rw[q,fC]at e;cases e) (B.at_ a o e),fun a o e=>m2 a (by rw[e];exact fun q=>(nomatch q))⟩ (Rl.down B R' m1 (fun b o e=>B.off (Rl.s.b b o e)) fun y ds a e r=>?_)
 ·by_cases q:F b=none
  ·rw[<-m1 b q];exact e
  ·rw[m2 b q]at e;cases e
 ·rw[aw]at e
  by_cases q:y=x
  ·rw[if_pos q]at e;injection e with e;cases e
  ·rw[if_neg q]at e;exact absurd e (hown y ds q)
end
section
open Builtin Builtin.ObjectAttr Builtin.Getset_descriptor
section
variable{A:Ar}{E:VS}{s:SD}{K:Frag}{x C p dx:Ad}{ox od:Obj}{name:Str}{v:Vl}{i:Nat}{R:Result->SD->Prop}
theorem jF{o:Obj}(h:X2 fun es n=>o.data= .dict es n):o.isFreed=false:=by
 obtain⟨es,n,h⟩:=h
 obtain⟨_,_,d,_⟩:=o
 cases h;rfl
set_option tactic.hygienic true in
theorem qU{tk:Tok}(X:K.In s.heap)(I:InstAt s.heap x ox C (some od))(hd:ox.dict=some dx)(hp:plainOver K C=true)(ht:takerIn K C name=some none)(hh:(clsIn K C).any (·.hasDict)=true)
  (hl:(lookIn name od).isSome=true)(e':∀t,X2 fun es n=>(Obj.putName name (PyD.keyHash W0.params name) (.str name t) v od).data= .dict es n/\es.size<=1000)
  (h:R (.ok (.ret .none)) (aA s (s.heap.update dx (Obj.putName name (PyD.keyHash W0.params name) (.str name s.toks) v)) (s.toks +1))):
  codeAny MD A (.call (.builtin "object.__setattr__") ⟨[.ref x,.str name tk,v],[]⟩) R s:=by
 refine osa_open X I hp ht fun b=>?_
 obtain⟨cd,hc,hd'⟩:=any_some hh
 have D:s.heap.get? dx=some od:=by have:=I.dict;rw[hd]at this;exact this
 obtain⟨es',n',e1,e2⟩:=e' s.toks
 have D':(s.heap.update dx (Obj.putName name (PyD.keyHash W0.params name) (.str name s.toks) v)).get? dx=some (Obj.putName name (PyD.keyHash W0.params name) (.str name s.toks) v od):=Hp.get?_update_self _ D (jF ⟨_,_,e1⟩)
 obtain⟨hx,hcl,hn,-⟩:=I
 obtain⟨oc,odi,oda,osl⟩:=ox
 dsimp only at hcl hd
 subst hcl hd
 refine wBi (wP (wBi (wBi (wpAny_loadPart hx (wBi ((looks_clsIn X hc).here ?_))))))
 rw[hd']
 refine wP (a:=some dx) (wBi (wP (wBi ?_)))
 unfold nsSet
 refine wBi (wBi (wpAny_askSetting (wP (wBi (wpAny_mkText (wBi (wpAny_loadPart D ?_)))))))
 unfold lookIn at hl
 split at hl
 ·rename_i es0 n0 q
  rw[q]
  dsimp only
  have c:(!es0.any (·.key.isStr name)&&es0.any (·.refKey))=false:=by
   rw[<-Array.any_toList,<-Array.any_toList]
   split at hl
   ·rename_i en he
    rw[List.any_eq_true.mpr ⟨en,List.mem_of_find?_eq_some he,List.find?_some he⟩];rfl
   ·split at hl
    ·cases hl
    ·rename_i z;rw[Bool.not_eq_true]at z;rw[z,Bool.and_false]
  rw[aRefKeyMayBeTheName_at,c]
  refine wpAny_updatePart D ?_
  refine wBi (wpAny_lookBehind D' (by rw[e1];exact pastItsLine_dict (by rw[sizeLine_eq];exact Nat.le_trans ‹_› (by decide))) ?_)
  exact wP h
 ·cases hl
theorem sj{Q:Unit->SD->Prop}(X:K.In s.heap)(I:InstAt s.heap x ox C (some od))(hs:findIn K (.ref C) "__setattr__"=some (some (.builtin "object.__setattr__")))(hd:ox.dict=some dx)(hp:plainOver K C=true)(ht:takerIn K C name=some none)(hh:(clsIn K C).any (·.hasDict)=true)
  (hl:(lookIn name od).isSome=true)(e':∀t,X2 fun es n=>(Obj.putName name (PyD.keyHash W0.params name) (.str name t) v od).data= .dict es n/\es.size<=1000)
  (h:∀h' t tk,(∀b,b≠dx->h'.get? b=s.heap.get? b)->h'.get? dx=some (Obj.putName name (PyD.keyHash W0.params name) (.str name t) v od)->Q () (aA s h' tk)):wA MD A (setAttr (.ref x) name v) Q E s:=by
 refine set_plain X I hs (qU (s:={s with toks:=s.toks +1}) X I hd hp ht hh hl e' ?_)
 have D:s.heap.get? dx=some od:=by have:=I.dict;rw[hd]at this;exact this
 obtain⟨es',n',e1,e2⟩:=e' (s.toks +1)
 exact h _ (s.toks +1) _ (fun b q=>Hp.get?_update_ne _ _ _ _ q) (Hp.get?_update_self _ D (jF ⟨_,_,e1⟩))
noncomputable def cm(i:Nat)(v:Vl)(o:Obj):Obj:={o with slots:=(o.slots ++Array.replicate (i +1 - o.slots.size) none).setIfInBounds i (some v)}
theorem sd{ox:Obj}{od:Option Obj}(X:K.In s.heap)(I:InstAt s.heap x ox C od)(hp:slotIn K p C=some i)(hi:i<1000)
  (h:R (.ok (.ret .none)) {s with heap:=s.heap.update x (cm i v)}):
  codeAny MD A (.call (.builtin "member_descriptor.__set__") ⟨[.ref p,.ref x,v],[]⟩) R s:=by
 obtain⟨n,tn,owner,behind,tb,d,sl,cd,ho,hc,hm,hb,rfl⟩:=slot_of X hp
 obtain⟨hh,g,dr,t,os⟩:=s
 have L0:=I.type (M:=MD)
 have L1:=looks_mroIn (M:=MD) X hm
 have L2:Looks MD hh (Slots.slotNamesOf (.ref C)) cd.slotNames:=(looks_clsIn X hc).andThen .now
 have hx:=I.at_
 dsimp only at ho hx L0 L1
 have f0:=looks_field (M:=MD) ho 0 (v:=.str n tn) rfl
 have f1:=looks_field (M:=MD) ho 1 (v:=owner) rfl
 have f3:=looks_field (M:=MD) ho 3 (v:=.builtin "proto.slot#set") rfl
 have f4:=looks_field (M:=MD) ho 4 (v:=.int behind tb) rfl
 refine codeAny_call_builtin KF.slot_mset.plain KF.entry_mset (KF.slot_mset.check _ _ _ _ _ _ _ _ ⟨_,ho,rfl⟩ (KF.args_mset _ _ _) ?_)
 unfold Builtin.«member_descriptor.__set__» descrSet descrStoreThrough descrCheckInstance descrNameAndClass isInstance
 have f5:Looks MD hh (descrItself (.ref p)) [.ref p]:=((Looks.ld (part:=none) ho).andThen .now).andThen (Looks.of_pure (by kernel_rfl))
 repeat lk
 refine⟨Code.quiet_builtin _ (by decide +kernel),codeAny_builtin KF.entry_slotset ?_⟩
 unfold Builtin.«proto.slot#set» Slots.target
 repeat lk
 rw[if_neg hb]
 refine wP (wBi ?_)
 unfold setSlotAt
 dsimp only
 rw[if_neg (by rw[sizeLine_eq];omega)]
 exact wpAny_updatePart hx (wP h)
theorem sA{od:Option Obj}{Q:Unit->SD->Prop}(X:K.In s.heap)(I:InstAt s.heap x ox C od)
  (hs:findIn K (.ref C) "__setattr__"=some (some (.builtin "object.__setattr__")))(hp:plainOver K C=true)(ht:takerIn K C name=some (some (.ref p)))(hT:typeIn K (.ref p)=some (.type "member_descriptor"))(hi:slotIn K p C=some i)(hz:i<1000)(hf:ox.isFreed=false)
  (h:∀h' tk,(∀b,b≠x->h'.get? b=s.heap.get? b)->h'.get? x=some (cm i v ox)->Q () (aA s h' tk)):wA MD A (setAttr (.ref x) name v) Q E s:=by
 refine set_plain X I hs (osa_descr (s:={s with toks:=s.toks +1}) KF.slot_mset X I hp ht hT (sd (s:={s with toks:=s.toks +1}) X I hi hz ?_))
 refine h _ _ (fun b q=>Hp.get?_update_ne _ _ _ _ q) (Hp.get?_update_self _ I.at_ ?_)
 obtain⟨_,_,d,_⟩:=ox
 cases d<;>first|rfl|exact hf
theorem kT{expr:Bool}{Q:VS}(X:K.In s.heap)(I:InstAt s.heap x ox C (some od))(hg:plainGet K C name=true)(hc:isClsIn K C=true)
  (ha:findIn K (.ref C) name=some (some (.ref p)))(hn:specialIn K (.ref p) "__get__"=some (some (.builtin "member_descriptor.__get__")))(ht:takesIn K (.ref p)=some true)(hp:slotIn K p C=some i)
  (hv:(ox.slots[i]?).join=some v)(hh:handedIn v=true)(h:Q v {s with toks:=s.toks +1}):wA MD A (getAttr (.ref x) name expr) Q E s:=
 get_bind X I (plainGet_of hg).1 (findObj_data hc ha hn ht) (plainGet_of hg).2 (wpAny_call (slot_get (s:={s with toks:=s.toks +1}) X I hp hv (handed_on hh h)))
end
end
section
open Builtin Builtin.ObjectAttr
theorem jL{h h':Hp}{x C:Ad}{ox:Obj}{od:Option Obj}(I:InstAt h x ox C od)(k:h.StaysIn h'):InstAt h' x ox C od:=
 ⟨k _ _ I.at_,I.cls,I.no,by
  have:=I.dict
  cases q:ox.dict<;>cases od<;>rw[q]at this<;>first|exact this|exact k _ _ this⟩
section
variable{l r:Ep}{R R1 R2:RK}{F F':Fg}{K:Frag}{name:Str}
theorem pz{A:Ar}{s:SD}{Q:VS}{E:VS}(h:wA MD A (eval e env) (fun v s₁=>wA MD A (getAttr v name true) Q E s₁) E s)
  (hbase:autoParam (attributeBase e name env (eval e env)=eval e env) Rf):
  wA MD A (eval (.Attribute e name pos) env) Q E s:=by
 rw[arm_eval_Attribute,hbase]
 refine wBi (wpAny_mono h (fun v s₁ h₁=>?_) fun O O x=>x)
 refine wBi (wpAny_standAt (wBi (wpAny_holding (wpAny_mono h₁ (fun u s₂ h2=>?_) fun O O x=>x))))
 exact wBi (wpAny_letTemporaryGo (wP h2))
theorem zW{x C:Ad}{ox od:Obj}{v:Vl}(X:K.In hg)(I:InstAt hg x ox C (some od))(he:Ev hg n env ρ e (RF (RV (.ref x))))(hga:findIn K (.ref C) "__getattribute__"=some (some (.builtin "object.__getattribute__")))
  (hf:findObj K C (some od) name=some (.value v))(hh:handedIn v=true)(hbase:autoParam (attributeBase e name env (eval e env)=eval e env) Rf):
  Ev hg n env ρ (.Attribute e name pos) (RF (RV v)):=fun A fr hb s Q E ok S h=>by
 have key:=he A fr hb s (fun v s₁=>wA MD A (getAttr v name true) Q E s₁) E ok S fun u h₁ hb1 tk1 st1 r1=>by
  obtain rfl:u= .ref x:=r1
  have S1:=S.step st1
  have k:hg.StaysIn h₁:=fun b o q=>S1.b b o (S1.g b o q)
  exact get_value (X.keeps k) (jL I k) hga hf hh (h v h₁ hb1 _ st1 rfl)
 exact pz key hbase
theorem zR{x C p i:Nat}{ox od:Obj}{v:Vl}(X:K.In hg)(I:InstAt hg x ox C (some od))(he:Ev hg n env ρ e (RF (RV (.ref x))))(hpl:plainGet K C name=true)(hc:isClsIn K C=true)
  (ha:findIn K (.ref C) name=some (some (.ref p)))(hn:specialIn K (.ref p) "__get__"=some (some (.builtin "member_descriptor.__get__")))(ht:takesIn K (.ref p)=some true)(hp:slotIn K p C=some i)
  (hv:(ox.slots[i]?).join=some v)(hh:handedIn v=true)(hbase:autoParam (attributeBase e name env (eval e env)=eval e env) Rf):
  Ev hg n env ρ (.Attribute e name pos) (RF (RV v)):=fun A fr hb s Q E ok S h=>by
 have key:=he A fr hb s (fun v s₁=>wA MD A (getAttr v name true) Q E s₁) E ok S fun u h₁ hb1 tk1 st1 r1=>by
  obtain rfl:u= .ref x:=r1
  have S1:=S.step st1
  have k:hg.StaysIn h₁:=fun b o q=>S1.b b o (S1.g b o q)
  exact kT (X.keeps k) (jL I k) hpl hc ha hn ht hp hv hh (h v h₁ hb1 _ st1 rfl)
 exact pz key hbase
theorem ae.change{h hm h':Hp}{a:Ad}{o o':Obj}(B:ae F h hm)(ha:F a=some o)(k:∀b,b≠a->h'.get? b=h.get? b)(ka:h'.get? a=some o'):ae (F.put a o') h' hm:=
 ⟨fun b u e=>(k b fun q=>by rw[q,B.dis a o ha]at e;cases e).trans (B.sub b u e),fun b u e=>by
  by_cases q:b=a
  ·subst q;rw[Fg.put_same]at e;rw[ka];exact e
  ·rw[Fg.put_ne _ _ q]at e;exact(k b q).trans (B.at_ b u e),fun b u e=>by
  by_cases q:b=a
  ·subst q;exact B.dis b o ha
  ·rw[Fg.put_ne _ _ q]at e;exact B.dis b u e⟩
theorem fk{h hm:Hp}{x C dx:Ad}{ox od:Obj}(B:ae F h hm)(hx:F x=some ox)(hcl:ox.cls= .ref C)(hno:notCls ox=true)(hd:ox.dict=some dx)(hdx:F dx=some od):InstAt h x ox C (some od):=
 ⟨B.at_ _ _ hx,hcl,hno,by rw[hd];exact B.at_ _ _ hdx⟩
noncomputable def jb(hg:Hp)(F:Fg)(x:Ad)(name:Str)(v:Vl)(F':Fg->Prop):Prop:=
 ∀(A:Ar)(hm:Hp)(s:SD)(Q:Unit->SD->Prop)(E:VS),hg.StaysIn hm->ae F s.heap hm->(∀h' F1 tk,F' F1->ae F1 h' hm->Q () (aA s h' tk))->wA MD A (setAttr (.ref x) name v) Q E s
theorem nV{x C dx:Ad}{ox od:Obj}{v:Vl}(X:K.In hg)(hx:F x=some ox)(hcl:ox.cls= .ref C)(hno:notCls ox=true)(hd:ox.dict=some dx)(hdx:F dx=some od)(hs:findIn K (.ref C) "__setattr__"=some (some (.builtin "object.__setattr__")))(hp:plainOver K C=true)(ht:takerIn K C name=some none)(hh:(clsIn K C).any (·.hasDict)=true)
  (hl:(lookIn name od).isSome=true)(e':∀t,X2 fun es n=>(Obj.putName name (PyD.keyHash W0.params name) (.str name t) v od).data= .dict es n/\es.size<=1000):
  jb hg F x name v fun F1=>∃t,F1=F.put dx (Obj.putName name (PyD.keyHash W0.params name) (.str name t) v od):=fun A hm s Q E k B h=>
 sj (X.keeps fun b o e=>B.sub b o (k b o e)) (fk B hx hcl hno hd hdx) hs hd hp ht hh hl e' fun h' t tk k1 k2=>h h' _ tk ⟨t,rfl⟩ (B.change hdx k1 k2)
theorem wE{x C dx p i:Nat}{ox od:Obj}{v:Vl}(X:K.In hg)(hx:F x=some ox)(hcl:ox.cls= .ref C)(hno:notCls ox=true)(hd:ox.dict=some dx)(hdx:F dx=some od)(hs:findIn K (.ref C) "__setattr__"=some (some (.builtin "object.__setattr__")))(hp:plainOver K C=true)(ht:takerIn K C name=some (some (.ref p)))(hT:typeIn K (.ref p)=some (.type "member_descriptor"))(hi:slotIn K p C=some i)(hz:i<1000)(hf:ox.isFreed=false):
  jb hg F x name v fun F1=>F1=F.put x (cm i v ox):=fun A hm s Q E k B h=>
 sA (X.keeps fun b o e=>B.sub b o (k b o e)) (fk B hx hcl hno hd hdx) hs hp ht hT hi hz hf fun h' tk k1 k2=>h h' _ tk rfl (B.change hx k1 k2)
theorem cg{x:Ad}{o e:Ep}{pa:Pos}{PV:Hp->Vl->Fg->Prop}{P:PX}(he:cB hg n env F ρ e PV)(ho:∀v h F1,PV h v F1->cB hg n env F1 ρ o fun O u F2=>F2=F1/\u= .ref x)
  (hset:∀v h F1,PV h v F1->jb hg F1 x name v (P.next ρ))(hs:autoParam (swapsWith e (some (.Attribute o name pa)) pos.line env=pure false) Rf):XX hg n env F ρ (.Assign [.Attribute o name pa] e pos) P:=fun A fr h₀ hb₀ hb hm s Q E ok Rl B h=>by
 refine plainObj_wpAny_Assign_Attribute (hs:=hs) (he A fr hb hm s _ E ok Rl.s B fun v F1 h₁ hm1 hb1 tk1 st1 B1 p=>?_)
 have R1:=Rl.step st1
 refine ho v hb1 F1 p A fr hb1 hm1 _ _ E ok R1.s B1 fun u F2 h2 hm2 hb2 tk2 st2 B2 q=>?_
 obtain⟨rfl,rfl⟩:=q
 have R2:=R1.step st2
 exact hset v hb1 F2 p A hm2 _ _ E (fun b o e=>R2.s.b b o (R2.s.g b o e)) B2 fun h3 F3 tk3 q3 B3=>h .next F3 h3 hm2 hb2 tk3 B3 (.inl ⟨rfl,ρ,q3,R2⟩) fun b o e=>st2.sub b o (st1.sub b o e)
end
end
section
open Builtin Builtin.ObjectAttr
section
variable(hg:Hp)(n:Nat)
noncomputable def rm(F:Fg)(f:Vl)(Fs:List FP)(P:Hp->Vl->Fg->Prop):Prop:=
 ∀(A:Ar)(fr:List Env)(hb hm:Hp)(s:SD)(vs:List Vl)(Q:VS)(E:VS),br A fr n->hg.StaysIn hb->hb.StaysIn hm->hm.FunFrames hb fr->ae F s.heap hm->
  bF hm hb hm vs (Fs.map rF)->(∀v F' h' hm' hb' tk,ay hm hb hm' hb'->ae F' h' hm'->P hb' v F'->Q v (aA s h' tk))->wA MD A (call f vs) Q E s
noncomputable def gG(env:Env)(F:Fg)(ρ:LS)(es:List Ep)(Fs:List FP):Prop:=
 ∀(pos:Pos)(A:Ar)(fr:List Env)(hb hm:Hp)(s:SD)(Q:List Vl->SD->Prop)(E:VS),br A fr n->dc hg hb hm env fr ρ->ae F s.heap hm->
  (∀vs h' hm' hb' tk,ay hm hb hm' hb'->ae F h' hm'->bF hm hb' hm' vs (Fs.map rF)->Q vs (aA s h' tk))->wA MD A (spliced (backTo pos (sE es env))) Q E s
end
theorem fj{h₀ hb h h₁ h2:Hp}:∀{vs:List Vl}{Fs:List FP},bF h₀ hb h vs (Fs.map rF)->bF h₁ hb h2 vs (Fs.map rF)
 |[],[],_=>.nil
 |_::_,_::_,.cons a b=>.cons a (fj b)
section
variable{l r:Ep}{F F':Fg}{K:Frag}{name:Str}
theorem bE:gG hg n env F ρ [] []:=fun pos A fr hb hm s Q E ok S B h=>wpAny_items_nil (h [] s.heap hm hb s.toks (.refl S.b) B .nil)
theorem aW{G:FP}{es:List Ep}{Fs:List FP}(he:cB hg n env F ρ e fun hb v F'=>F'=F/\G.P hb v)(hs:gG hg n env F ρ es Fs)(hn:autoParam (sE (e::es) env=(false,eval e env)::sE es env) Rf):
  gG hg n env F ρ (e::es) (G::Fs):=fun pos A fr hb hm s Q E ok S B h=>
 wpAny_items_cons (he:=hn) (he A fr hb hm s _ E ok S B fun v F1 h₁ hm1 hb1 tk1 st1 B1 p=>by
  obtain⟨rfl,p⟩:=p
  exact hs pos A fr hb1 hm1 _ _ E ok (S.step st1) B1 fun vs h2 hm2 hb2 tk2 st2 B2 r2=>h (v::vs) h2 hm2 hb2 tk2 (st1.trans st2) B2 (.cons (R:=rF G) (G.stays st2.sub p) (fj r2)))
theorem bX{x:Str}{p:Pos}{G:FP}(hx:ρ.lookup x=some (.fz G))(hd:autoParam ((x==("__debug__":Str))=false) Dc):cB hg n env F ρ (.Name x p) fun hb v F'=>F'=F/\G.P hb v:=fun A fr hb hm s Q E ok S B h=>by
 obtain⟨v,r,lo⟩:=S.v x _ hx
 exact cP S.k (r.up (be B.sub)) (h v F s.heap hm hb s.toks (.refl S.b) B ⟨rfl,lo⟩) hd
theorem j4{P P':Hp->Vl->Fg->Prop}(x:cB hg n env F ρ e P)(k:∀h v F',P h v F'->P' h v F'):cB hg n env F ρ e P':=fun A fr hb hm s Q E ok S B h=>
 x A fr hb hm s Q E ok S B fun v F' h' hm' hb' tk st B' p=>h v F' h' hm' hb' tk st B' (k _ _ _ p)
theorem ki{x C f:Ad}{ox od:Obj}{dx:Ad}{o:Ep}{pa pc:Pos}{es:List Ep}{A:Ar}{fr:List Env}{hb hm:Hp}{s:SD}{Q E:VS}(X:K.In hg)(ho:cB hg n env F ρ o fun O v F'=>F'=F/\v= .ref x)
  (hx:F x=some ox)(hcl:ox.cls= .ref C)(hno:notCls ox=true)(hd:ox.dict=some dx)(hdx:F dx=some od)(hga:findIn K (.ref C) "__getattribute__"=some (some (.builtin "object.__getattribute__")))(hk:findIn K (.ref C) "__getattr__"=some none)
  (hf:findIn K (.ref C) name=some (some (.ref f)))(ht:typeIn K (.ref f)=some (.type "function"))(hsh:shadowIn (some od) name=some false)(pl:Sem Bool)
  (hev:cF o name pl pa pc es env)
  (ok:br A fr n)(S:dc hg hb hm env fr ρ)(B:ae F s.heap hm)
  (h:∀h₁ hm1 hb1 tk1,ay hm hb hm1 hb1->ae F h₁ hm1->dc hg hb1 hm1 env fr ρ->wA MD A (callWith pc (.ref f) [.ref x] (backTo pc (sE es env)) []) Q E (aA s h₁ tk1)):
  wA MD A (eval (.Call (.Attribute o name pa) es [] pc) env) Q E s:=by
 rw[hev]
 refine wBi (ho A fr hb hm s _ E ok S B fun v F1 h₁ hm1 hb1 tk1 st1 B1 p1=>?_)
 obtain⟨rfl,rfl⟩:=p1
 have S1:=S.step st1
 have k1:hg.StaysIn h₁:=fun b o q=>B1.sub b o (S1.b b o (S1.g b o q))
 exact wBi (wpAny_standAt (wBi (wpAny_holding (method_fn (s:=(aA s h₁ tk1)) (X.keeps k1) (fk B1 hx hcl hno hd hdx) hga hk hf ht hsh (h h₁ hm1 hb1 tk1 st1 B1 S1)))))
theorem w8{x C f:Ad}{ox od:Obj}{dx:Ad}{o e:Ep}{pa pc:Pos}{es:List Ep}{Fs:List FP}{P:Hp->Vl->Fg->Prop}(X:K.In hg)(ho:cB hg n env F ρ o fun O v F'=>F'=F/\v= .ref x)
  (hx:F x=some ox)(hcl:ox.cls= .ref C)(hno:notCls ox=true)(hd:ox.dict=some dx)(hdx:F dx=some od)(hga:findIn K (.ref C) "__getattribute__"=some (some (.builtin "object.__getattribute__")))(hk:findIn K (.ref C) "__getattr__"=some none)
  (hf:findIn K (.ref C) name=some (some (.ref f)))(ht:typeIn K (.ref f)=some (.type "function"))(hsh:shadowIn (some od) name=some false)(hce:ft hg (.ref f))(ha:gG hg n env F ρ (e::es) Fs)(hc:rm hg n F (.ref f) (RV (.ref x)::Fs) P)(pl:Sem Bool)
  (hev:autoParam (cF o name pl pa pc (e::es) env) Rf)
  (hn:autoParam (sE (e::es) env=(false,eval e env)::sE es env) Rf)(hplain:autoParam ((backTo pc (sE es env)).any (·.1)=false) Rf):
  cB hg n env F ρ (.Call (.Attribute o name pa) (e::es) [] pc) P:=fun A fr hb hm s Q E ok S B h=>by
 refine ki X ho hx hcl hno hd hdx hga hk hf ht hsh pl hev ok S B fun h₁ hm1 hb1 tk1 st1 B1 S1=>?_
 have hargs:=ha pc A fr hb1 hm1 (aA s h₁ tk1) (fun vs s₂=>hg.StaysIn s₂.heap/\wA MD A (call (.ref f) ([.ref x] ++vs)) Q E s₂) E ok S1 B1 fun vs h2 hm2 hb2 tk2 st2 B2 r2=>by
  have S2:=S1.step st2
  refine⟨fun b o q=>B2.sub b o (S2.b b o (S2.g b o q)),hc A fr hb2 hm2 _ (.ref x::vs) Q E ok S2.g S2.b S2.f B2 (.cons (R:=rF (RV (.ref x))) rfl (fj r2)) fun v F' h' hm' hb' tk st3 B3 p3=>h v F' h' hm' hb' tk (st1.trans (st2.trans st3)) B3 p3⟩
 rw[hn]at hargs⊢
 exact bh (hg:=hg) hce hplain hargs
theorem wM{x C f:Ad}{ox od of:Obj}{fd:FuncData}{dx:Ad}{o:Ep}{pa pc:Pos}{P:Hp->Vl->Fg->Prop}(X:K.In hg)(ho:cB hg n env F ρ o fun O v F'=>F'=F/\v= .ref x)
  (hx:F x=some ox)(hcl:ox.cls= .ref C)(hno:notCls ox=true)(hd:ox.dict=some dx)(hdx:F dx=some od)(hga:findIn K (.ref C) "__getattribute__"=some (some (.builtin "object.__getattribute__")))(hk:findIn K (.ref C) "__getattr__"=some none)
  (hf:findIn K (.ref C) name=some (some (.ref f)))(ht:typeIn K (.ref f)=some (.type "function"))(hsh:shadowIn (some od) name=some false)(hof:hg.get? f=some of)(hfd:of.data= .func fd)(hc:rm hg n F (.ref f) [RV (.ref x)] P)(pl:Sem Bool)
  (hev:autoParam (cF o name pl pa pc [] env) Rf):
  cB hg n env F ρ (.Call (.Attribute o name pa) [] [] pc) P:=fun A fr hb hm s Q E ok S B h=>by
 refine ki X ho hx hcl hno hd hdx hga hk hf ht hsh pl hev ok S B fun h₁ hm1 hb1 tk1 st1 B1 S1=>?_
 have k1:hg.StaysIn h₁:=fun b o q=>B1.sub b o (S1.b b o (S1.g b o q))
 exact callWith_function_kw (evalArgs_nil3 ⟨⟨k1 _ _ hof,hfd⟩,hc A fr hb1 hm1 _ [.ref x] Q E ok S1.g S1.b S1.f B1 (.cons (R:=rF (RV (.ref x))) rfl .nil) fun v F' h' hm' hb' tk st3 B3 p3=>h v F' h' hm' hb' tk (st1.trans st3) B3 p3⟩)
end
end
noncomputable def jJ(hg:Hp)(F:Fg)(fd:FuncData)(Gs:List FP)(xs:List Str)(Fs:List FP):Prop:=
 ∀(A:Ar)(hb hm:Hp)(s:SD)(vs:List Vl)(Q:List (Str×Vl)->SD->Prop)(E:VS),hg.StaysIn hb->hb.StaysIn hm->ae F s.heap hm->bF hm hb hm vs (Gs.map rF)->
  (∀us h' hm' hb' tk,ay hm hb hm' hb'->ae F h' hm'->us.length=xs.length->bF hm hb' hm' us (Fs.map rF)->Q (xs.zip us) (aA s h' tk))->wA MD A (bindArgs fd ⟨vs,[]⟩) Q E s
theorem ct{hg:Hp}{F:Fg}{fd:FuncData}{xs:List Str}{Fs:List FP}(hl:xs.length=Fs.length)(hbind:∀vs:List Vl,vs.length=xs.length->bindArgs fd ⟨vs,[]⟩=pure (xs.zip vs)):jJ hg F fd Fs xs Fs:=fun A hb hm s vs Q E O k B al h=>by
 have hvl:vs.length=xs.length:=by rw[al.length,hl,List.length_map]
 rw[hbind vs hvl]
 exact wP (h vs s.heap hm hb s.toks (.refl k) B hvl al)
noncomputable def fK(hg:Hp)(n:Nat)(F:Fg)(f:Vl)(Fs:List FP)(P:Hp->Vl->Fg->Prop):Prop:=
 ∀(A:Ar)(fr:List Env)(hb hm:Hp)(s:SD)(vs:List Vl)(R:Result->SD->Prop),br A fr n->hg.StaysIn hb->hb.StaysIn hm->hm.FunFrames hb fr->ae F s.heap hm->
  bF hm hb hm vs (Fs.map rF)->(∀v F' h' hm' hb' tk,ay hm hb hm' hb'->ae F' h' hm'->P hb' v F'->R (.ok (.ret v)) (aA s h' tk))->codeAny MD A (.call f ⟨vs,[]⟩) R s
section
variable{F:Fg}
theorem fK.x{f:Vl}{Fs:List FP}{P:Hp->Vl->Fg->Prop}(x:fK hg n F f Fs P):rm hg n F f Fs P:=fun A fr hb hm s vs Q E ok sg sb ff B al h=>
 wpAny_call (x A fr hb hm s vs _ ok sg sb ff B al h)
theorem xA{a:Ad}{ob:Obj}{fd:FuncData}{body:List Stmt}{xs:List Str}{Fs Gs:List FP}{P:Hp->Vl->Fg->Prop}(ho:hg.get? a=some ob)(hd:ob.data= .func fd)(hlim:hg.NoLimit)(hcd:hg.CodeRec fd.code fd.qualname)
  (hbody:fd.body= .stmts body)(hbind:jJ hg F fd Gs xs Fs)
  (nd:xs.Nodup)(hclo:fd.closure=[])(hgl:fd.globals=mainGlobals)(hbl:fd.builtins=builtinsNs)
  (hx:∀L:Nat,∀x∈xs,fd.scope.names.lookup x=some .local\/(fd.scope.names.lookup x=some .cell/\((cellsFrom (L +1) fd.scope.names []).lookup x).isSome=true))
  (hex:∀L,ly hg n (callEnvC fd L a) F (bz xs Fs) body {ret:=P,next:=fun O F'=>∀hb',P hb' .none F'})
  (hco:autoParam (fd.scope.isCoroutine=false) Rf)(hgen:autoParam (fd.scope.isGenerator=false) Rf)(hk:autoParam (fd.scope.kind= .function) Rf):fK hg (n +1) F (.ref a) Gs P:=fun A fr hb₀ hm0 s0 vs0 Q ok sg0 sb0 ff0 B0 al0 h=>by
 have st0:hg.StaysIn s0.heap:=fun b o e=>B0.sub b o (sb0 b o (sg0 b o e))
 refine(codeAny_call_function ok.room (st0 _ _ ho) hd hco hgen hbody (hcd.keeps st0) (hbind A.in1 hb₀ hm0 s0 vs0 _ _ sg0 sb0 B0 al0 fun vs hq hm hb tkq stq B hvl al=>?_))
 replace h:∀v F' h' hm' hb' tk,ay hm hb hm' hb'->ae F' h' hm'->P hb' v F'->Q (.ok (.ret v)) (aA s0 h' tk):=fun v F' h' hm' hb' tk st B' r=>h v F' h' hm' hb' tk (stq.trans st) B' r
 have sg:hg.StaysIn hb:=fun b o e=>stq.sub b o (sg0 b o e)
 have sb:hb.StaysIn hm:=stq.stay
 have ff:hm.FunFrames hb fr:=stq.frames ff0
 clear al0
 generalize hs:(aA s0 hq tkq)=s
 have es:s.heap=hq:=by rw[<-hs]
 have hQ:∀h' tk,(aA s0 h' tk)=(aA s h' tk):=fun h' tk=>by rw[<-hs]
 subst es
 have st:hg.StaysIn s.heap:=fun b o e=>B.sub b o (sb b o (sg b o e))
 have hzip:(xs.zip vs).map (·.1)=xs:=by
  rw[List.map_fst_zip];exact Nat.le_of_eq (Eq.symm ‹_›)
 rw[hclo]
 refine wpAny_newFunctionEnv_cells hk (fun x hm=>hx _ x.1 ?_) fun env he s₁ X=>⟨(hlim.keeps st).keeps X.toInCall.keep,codeAny_func ?_⟩
 ·rw[<-hzip];exact List.mem_map_of_mem hm
 have henv:callEnvC fd s.heap.objs.size a=env:=by rw[he];rfl
 clear he
 obtain⟨h₁,tk1,hs1,keep⟩:=X.done
 subst hs1
 have eL:env.locals=s.heap.objs.size:=by rw[<-henv];rfl
 have ek:∀x,env.kindOf x=fd.scope.names.lookup x:=fun x=>by rw[<-henv];rfl
 have esc:env.scope=fd.scope:=by rw[<-henv];rfl
 have ec:env.cells=cellsFrom (s.heap.objs.size +1) fd.scope.names []:=by rw[<-henv];rfl
 have hmn:=X.toInCall.ns
 obtain⟨oL,hoL,hdL⟩:=cv hmn
 obtain⟨hm1,m1,m2⟩:=cx F h₁
 have fresh:∀b,s.heap.objs.size<=b->A3 (F b=none) (hm.get? b=none) (hb.get? b=none):=fun b hbz=>by
  have hn:s.heap.get? b=none:=by
   cases q:s.heap.get? b with
   |none=>rfl
   |some o=>exact absurd (Hp.lt_size q) (Nat.not_lt_of_le hbz)
  have hmnone:=am B.sub hn
  refine⟨?_,hmnone,am sb hmnone⟩
  cases q:F b with
  |none=>rfl
  |some o=>rw[B.at_ b o q]at hn;cases hn
 have B1:ae F h₁ hm1:=by
  refine⟨fun b o e=>?_,fun b o e=>keep b o (B.at_ b o e),fun b o e=>m2 b (by rw[e];exact fun q=>(nomatch q))⟩
  by_cases q:F b=none
  ·rw[<-m1 b q];exact e
  ·rw[m2 b q]at e;cases e
 have kmm:hm.StaysIn hm1:=fun b o e=>(m1 b (B.off e)).trans (keep b o (B.sub b o e))
 have sb1:hb.StaysIn hm1:=fun b o e=>kmm b o (sb b o e)
 have st1:ay hm hb hm1 hb:=⟨Hp.UpToSlots.of_keeps kmm,fun O O e=>e,sb1,fun O O O O e=>e⟩
 have hL1:=fresh env.locals (by rw[eL];exact Nat.le_refl _)
 have ns1:=(show∀{m},h₁.Ns env.locals m->hm1.Ns env.locals m from fun{m} x=>by
  obtain⟨o,es,ep,h1,r⟩:=x
  exact⟨o,es,ep,(m1 _ hL1.1).trans h1,r⟩) hmn
 have ff1:hm1.FunFrames hb (env::fr):=by
  refine⟨by rw[esc,hk];decide,⟨env.locals,oL,by rw[<-henv];rfl,hL1.3,(m1 _ hL1.1).trans hoL,hdL⟩,bJ st1.up (fun O O O O e=>e) ff⟩
 have ce:∀y c,env.cells.lookup y=some c->s.heap.objs.size<=c:=fun y c e=>by
  have hlt:=X.above y c (PySem.mem_of_lookup e)
  rw[eL]at hlt;exact Nat.le_of_lt hlt
 have Rl:co hg hm hb hb hm1 env (env::fr) (bz xs Fs):=by
  refine⟨⟨sg,sb1,ff1,by rw[esc];exact hk,by rw[<-henv];exact hgl,by rw[<-henv];exact hbl,fun y lv e=>?_⟩,st1,⟨⟨_,ns1⟩,hL1.3,.of_none hL1.2⟩,
   fun y c e=>?_,fun x y c ex ey=>name_of_addr X.apart (PySem.mem_of_lookup ex) (PySem.mem_of_lookup ey),⟨_,env.locals,rfl,by rw[<-henv];rfl⟩,fun y ds e=>?_,fun y O dy O O e O O O=>?_⟩
  ·obtain⟨G,v,rfl,hm',hF,hy⟩:=cq al e
   have hnd:((xs.zip vs).map (·.1)).Nodup:=by rw[hzip];exact nd
   refine⟨v,?_,hF⟩
   rcases hx s.heap.objs.size y hy with q|⟨q,q'⟩
   ·exact .inl ⟨(ek y).trans q,_,ns1,jq ((ek y).trans q) hnd hm'⟩
   ·obtain⟨c,hc⟩:=Option.isSome_iff_exists.mp q'
    have hnl:env.kindOf y≠some .local:=by rw[ek,q];decide
    refine .inr ⟨.inl ((ek y).trans q),c,by rw[ec];exact hc,?_⟩
    have:=X.cell y c (by rw[ec];exact hc)
    rw[jx hnl hnd hm']at this
    obtain⟨oc,hoc,hdc⟩:=this
    exact⟨oc,(m1 _ (fresh c (ce y c (by rw[ec];exact hc))).1).trans hoc,hdc⟩
  ·obtain⟨q1,q2,q3⟩:=fresh c (ce y c e)
   obtain⟨oc,hoc,hdc⟩:=X.cell y c e
   exact⟨⟨_,oc,(m1 _ q1).trans hoc,hdc⟩,q3,.of_none q2⟩
  ·obtain⟨G,v,q,_⟩:=cq al e
   cases q
  ·obtain⟨G,v,q,_⟩:=cq al e
   cases q
 have ok':br (A.deeper env) (env::fr) n:=⟨ok.h,by show A.depth +1 +n<_;have:=ok.d;exact o4 ‹_›,by show A.units +3 +100*n<_;have:=ok.u;exact o6 3 (by decide) ‹_›,by show A.frames.map (env::·)=_;rw[ok.f];rfl⟩
 have key:=hex s.heap.objs.size
 rw[henv]at key
 refine key (A.deeper env) (env::fr) hm hb hb hm1 (aA s h₁ tk1) _ _ ok' Rl B1 fun f F' h' hm' hb' tk B' out O=>?_
 rcases out with⟨rfl,ρ',p,R'⟩|⟨rfl,ρ',p,R'⟩|⟨rfl,ρ',p,R'⟩|⟨v,rfl,p,st'⟩
 ·have:=h .none F' h' hm' hb' tk R'.st B' (p hb')
  rw[hQ]at this
  exact this
 ·exact p.elim
 ·exact p.elim
 ·have:=h v F' h' hm' hb' tk st' B' p
  rw[hQ]at this
  exact this
end
noncomputable def ar(ρ:LS):Prop:=∀y ds,ρ.lookup y≠some (.own ds)
theorem oy:ar []:=fun O O q=>by cases q
theorem an{ρ:LS}{x:Str}{G:FP}(h:ar ρ):ar ((x,.fz G)::ρ):=fun y ds q=>by
 rw[aw]at q
 by_cases e:y=x
 ·rw[if_pos e]at q;cases q
 ·rw[if_neg e]at q;exact h y ds q
theorem bK(xs:List Str)(Fs:List FP):ar (bz xs Fs):=by
 induction xs generalizing Fs with
 |nil=>exact oy
 |cons x xs ih=>
  cases Fs with
  |nil=>exact oy
  |cons G Fs=>exact an (ih Fs)
section
variable{l r:Ep}{F F':Fg}{K:Frag}{name:Str}{P:PX}{PV:Hp->Vl->Fg->Prop}
theorem cE{x:Str}{p:Pos}(he:cB hg n env F ρ e PV)(kx:cM env x)(no:ar ρ)(hp:∀h v F',PV h v F'->∃G:FP,G.P h v/\P.next ((x,.fz G)::ρ) F')(hs:autoParam (swapsWith e (some (.Name x p)) pos.line env=pure false) Rf):
  XX hg n env F ρ (.Assign [.Name x p] e pos) P:=fun A fr h₀ hb₀ hb hm s Q E ok Rl B h=>
 wpAny_Assign_Name (hs:=hs) (he A fr hb hm s _ E ok Rl.s B fun v F1 h₁ hm1 hb1 tk1 st1 B1 p1=>by
  obtain⟨G,g,q⟩:=hp _ _ _ p1
  exact bH (s:=(aA s h₁ tk1)) (Rl.step st1) B1 kx g (fun y ds O=>no y ds) fun h' hm' tk B' R'=>h .next F1 h' hm' hb1 tk B' (.inl ⟨rfl,_,q,R'⟩) st1.sub)
theorem gy{x:Ad}{o:Ep}{pa:Pos}{op:Operator}{old:Vl}{PN:Vl->Fg->Prop}(ho:cB hg n env F ρ o fun O u F2=>F2=F/\u= .ref x)
  (hget:∀(A:Ar)(hm:Hp)(s:SD)(Q:VS)(E:VS),hg.StaysIn hm->ae F s.heap hm->(∀tk,Q old {s with toks:=tk})->wA MD A (getAttr (.ref x) name true) Q E s)
  (he:cB hg n env F ρ e PV)
  (hop:∀h v F1,PV h v F1->∀(A:Ar)(s:SD)(Q:VS)(E:VS),(∀u tk,PN u F1->Q u {s with toks:=tk})->wA MD A (inplaceOp op old v) Q E s)
  (hset:∀v F1,PN v F1->jb hg F1 x name v (P.next ρ)):XX hg n env F ρ (.AugAssign (.Attribute o name pa) op e pos) P:=fun A fr h₀ hb₀ hb hm s Q E ok Rl B h=>by
 refine wpAny_AugAssign_AttributeAny (ho A fr hb hm s _ E ok Rl.s B fun v F1 h₁ hm1 hb1 tk1 st1 B1 p1=>?_)
 obtain⟨rfl,rfl⟩:=p1
 have R1:=Rl.step st1
 refine hget A hm1 (aA s h₁ tk1) _ E (fun b o e=>R1.s.b b o (R1.s.g b o e)) B1 fun tk2=>?_
 refine he A fr hb1 hm1 (aA s h₁ tk2) _ E ok R1.s B1 fun v F3 h3 hm3 hb3 tk3 st3 B3 p3=>?_
 have R3:=R1.step st3
 refine hop _ _ _ p3 A (aA s h3 tk3) _ E fun u tk4 q=>?_
 exact hset u F3 q A hm3 (aA s h3 tk4) _ E (fun b o e=>R3.s.b b o (R3.s.g b o e)) B3 fun h5 F5 tk5 q5 B5=>h .next F5 h5 hm3 hb3 tk5 B5 (.inl ⟨rfl,ρ,q5,R3⟩) fun b o e=>st3.sub b o (st1.sub b o e)
end
structure w7(T:String)(a:Ad)(vs:Array Vl)(S:Hp->Prop):Prop where
 iter:∀{A:Ar}{s:SD}{Q:VS}{E:VS},S s.heap->Q (.ref s.heap.objs.size) {s with heap:=s.heap.push {cls:=.type T,data:=.fields #[.ref a,.int 0 0]}}->wA MD A (pyIter (.ref a)) Q E s
 next:∀{A:Ar}{s:SD}{Q:Option Vl->SD->Prop}{E:VS}{I i:Nat}{v:Vl},S s.heap->(∃o,s.heap.get? I=some o/\o.cls= .type T/\o.data= .fields #[.ref a,.int i 0])->vs[i]?=some v->
  (∀h',(∃o,h'.get? I=some o/\o.cls= .type T/\o.data= .fields #[.ref a,.int ((i +1:Nat):Int) 0])->Hp.SameBut I s.heap h'->Q (some v) {s with heap:=h'})->wA MD A (pyNext (.ref I)) Q E s
 done:∀{A:Ar}{s:SD}{Q:Option Vl->SD->Prop}{E:VS}{I i:Nat},A.handled=none->S s.heap->(∃o,s.heap.get? I=some o/\o.cls= .type T/\o.data= .fields #[.ref a,.int i 0])->vs[i]?=none->
  (∀h',Hp.ExtBut I s.heap h'->Q none {s with heap:=h'})->wA MD A (pyNext (.ref I)) Q E s
theorem rY{a:Ad}{vs:Array Vl}:w7 "tuple_iterator" a vs fun h=>h.IsTuple a vs:=
 ⟨fun x q=>wpAny_pyIter_tuple x q,fun x i v q=>wpAny_pyNext_tuple_item i x v q,fun hh x i v q=>wpAny_pyNext_tuple_end hh i x v q⟩
theorem zh{a:Ad}{vs:Array Vl}:w7 "list_iterator" a vs fun h=>h.IsList a vs:=
 ⟨fun x q=>wpAny_pyIter_list x q,fun x i v q=>wpAny_pyNext_list_item i x v q,fun hh x i v q=>wpAny_pyNext_list_end hh i x v q⟩
section
variable{l r:Ep}{F F':Fg}{K:Frag}{name:Str}{P:PX}
theorem ae.worked{h hm hb h':Hp}{I:Ad}(B:ae F h hm)(k:hb.StaysIn hm)(rec:∀o,h.get? I=some o->∃vs,o.data= .fields vs)(fI:F I=none)(bI:hb.get? I=none)(ke:∀b o,b≠I->h.get? b=some o->h'.get? b=some o):
  ∃hm',A3 (ae F h' hm') (ay hm hb hm' hb) (∀b,F b=none->hm'.get? b=h'.get? b):=by
 obtain⟨hm',m1,m2⟩:=cx F h'
 refine⟨hm',⟨fun b o e=>?_,fun b o e=>ke b o (fun q=>by rw[q,fI]at e;cases e) (B.at_ b o e),fun b o e=>m2 b (by rw[e];exact fun q=>(nomatch q))⟩,⟨fun b o e hd=>?_,fun O O e=>e,fun b o e=>?_,fun O O O O e=>e⟩,m1⟩
 ·by_cases q:F b=none
  ·rw[<-m1 b q];exact e
  ·rw[m2 b q]at e;cases e
 ·have hI:b≠I:=fun q=>by
   subst q
   obtain⟨vs,d⟩:=rec o (B.sub b o e)
   exact hd vs d
  exact⟨o.slots,(m1 b (B.off e)).trans (ke b o hI (B.sub b o e))⟩
 ·have e':=k b o e
  exact(m1 b (B.off e')).trans (ke b o (fun q=>by rw[q,bI]at e;cases e) (B.sub b o e'))
structure yK(tgt:Ep)(v₀:Vl)(N:Nat)(S:Hp->Prop)(Rc:Nat->Obj->Prop)(V:Nat->Hp->Vl->Prop):Prop where
 iter:∀{A:Ar}{s:SD}{Q:VS}{E:VS},S s.heap->(∀o,o.isFreed=false->Rc 0 o->Q (.ref s.heap.objs.size) {s with heap:=s.heap.push o})->wA MD A (pyIter v₀) Q E s
 fld:∀{i:Nat}{o:Obj},Rc i o->∃vs,o.data= .fields vs
 next:∀{A:Ar}{s:SD}{Q:VS}{E:VS}{I i:Nat},S s.heap->(∃o,s.heap.get? I=some o/\Rc i o)->i<N->
  (∀v h' tk,(∃o,h'.get? I=some o/\Rc (i +1) o)->Hp.ExtBut I s.heap h'->V i h' v->Q v (aA s h' tk))->wA MD A (pyNext (.ref I)) (fun r s₁=>∃v,r=some v/\wA MD A (letOwnedTupleGo tgt (.ref I) v) (fun O s₂=>Q v s₂) E s₁) E s
 done:∀{A:Ar}{s:SD}{Q:Option Vl->SD->Prop}{E:VS}{I:Nat},A.handled=none->S s.heap->(∃o,s.heap.get? I=some o/\Rc N o)->(∀h',Hp.ExtBut I s.heap h'->Q none {s with heap:=h'})->wA MD A (pyNext (.ref I)) Q E s
noncomputable def AR(hg:Hp)(env:Env)(F:Fg)(ρ:LS)(tgt:Ep)(V:Hp->Vl->Prop)(R:LS->Prop):Prop:=
 ∀(A:Ar)(fr:List Env)(h₀ hb₀ hb hm:Hp)(s:SD)(v:Vl)(Q:Unit->SD->Prop)(E:VS),A.handled=none->co hg h₀ hb₀ hb hm env fr ρ->ae F s.heap hm->V s.heap v->
  (∀h' hm' tk ρ2,ae F h' hm'->co hg h₀ hb₀ hb hm' env fr ρ2->R ρ2->Q () (aA s h' tk))->wA MD A (assign tgt env v) Q E s
theorem lB{tgt:Ep}{iter:Ep}{body:List Stmt}{PI:Hp->Vl->Fg->Prop}
  (he:cB hg n env F ρ iter PI)
  (h0:∀hb v F',PI hb v F'->X5 fun(N:Nat)(J:Nat->LS->Fg->Prop)(S:Hp->Prop)(Rc:Nat->Obj->Prop)(V:Nat->Hp->Vl->Prop)=>A5 (J 0 ρ F') (yK tgt v N S Rc V) (∀hb1 F1 hm h ρ1 i,hb.StaysIn hb1->hb1.StaysIn hm->ae F1 h hm->J i ρ1 F1->S h) (∀i ρ1 F1,J i ρ1 F1->i<N->∃R,(∀hb1,hb.StaysIn hb1->AR hb1 env F1 ρ1 tgt (V i) R)/\∀ρ2,R ρ2->ly hg n env F1 ρ2 body {P with next:=J (i +1),cont:=J (i +1),brk:=P.next}) (∀ρ1 F1,J N ρ1 F1->P.next ρ1 F1))
  (hs:autoParam (∀x,foldedSetIterable iter env x=pure x) If):XX hg n env F ρ (.For tgt iter body [] pos) P:=fun A fr h₀ hb₀ hb hm s Q E ok Rl B h=>by
 rw[exec_For]
 have hA:A.mark none=A:=by
  obtain⟨_⟩:=A
  rfl
 refine wBi (wpAny_standAt (wBi (he A fr hb hm s _ E ok Rl.s B fun v F1 h₁ hm1 hb1 tk1 st1 B1 p1=>?_)))
 obtain⟨N,J,S,Rc,V,j0,GS,hS,hbody,hend⟩:=h0 _ _ _ p1
 have R1:=Rl.step st1
 rw[hs]
 refine wBi (wP (wBi (wpAny_standAt (wBi (wpAny_holding (GS.iter (s:=(aA s h₁ tk1)) (hS hb1 F1 hm1 h₁ ρ 0 (fun O O e=>e) R1.s.b B1 j0) fun o1 of1 rc1=>wpAny_runOwn ?_))))))
 rw[hA]
 dsimp only
 have hnone:h₁.get? h₁.objs.size=none:=by
  cases q:h₁.get? h₁.objs.size with
  |none=>rfl
  |some o=>exact absurd (Hp.lt_size q) (Nat.lt_irrefl _)
 have fI1:F1 h₁.objs.size=none:=by
  cases q:F1 h₁.objs.size with
  |none=>rfl
  |some o=>have:=B1.at_ _ _ q;rw[hnone]at this;cases this
 have hmI1:=am B1.sub hnone
 have bI1:=am R1.s.b hmI1
 generalize hI:h₁.objs.size=I at*
 have hpush:(h₁.push o1).get? I=some o1:=by rw[<-hI];exact Hp.get?_push_size _ of1
 obtain⟨hm2,B2,st2,m2⟩:=B1.worked (I:=I) (h':=h₁.push o1) R1.s.b (fun o e=>by rw[hnone]at e;cases e) fI1 bI1 fun b o O e=>Hp.get?_push_of_some _ e
 have R2:=R1.step st2
 refine codeAny_forLoop_any (fun k s'=>X7 fun i ρ1 F3 hb3 hm3 h3 tk3=>CM (s'=(aA s h3 tk3)) (k=N - i) (i<=N) (J i ρ1 F3) (co hg h₀ hb₀ hb3 hm3 env fr ρ1) (ae F3 h3 hm3) (hb1.StaysIn hb3) (hb3.get? I=none) (∃o,hm3.get? I=some o/\Rc i o) (eO h₀ I))
  ?_ N ⟨0,ρ,F1,hb1,hm2,_,tk1,rfl,rfl,Nat.zero_le _,j0,R2,B2,fun O O e=>e,bI1,⟨_,(m2 I fI1).trans hpush,rc1⟩,eO.early R1.st.up (.of_none hmI1)⟩
 rintro k s' ⟨i,ρ1,F3,hb3,hm3,h3,tk3,rfl,rfl,hi,j,R3,B3,kb,bI3,⟨oI,hoI,rcI⟩,nI⟩
 have fI3:=B3.off hoI
 have hoI':=B3.sub _ _ hoI
 have Sh:=hS hb3 F3 hm3 h3 ρ1 i kb R3.s.b B3 j
 by_cases hlt:i<N
 ·obtain⟨R,asg,hex⟩:=hbody i ρ1 F3 j hlt
  refine wpAny_mono (GS.next (s:=(aA s h3 tk3)) (Q:=fun v s1'=>wA MD A (assign tgt env v) _ _ s1') Sh ⟨oI,hoI',rcI⟩ hlt fun v h4 tk4 it4 k4 vv=>?_) (fun r s₁ hr=>by obtain⟨v,rfl,hr⟩:=hr;exact hr) fun O O q=>q
  obtain⟨hm4,B4,st4,m4⟩:=B3.worked (I:=I) R3.s.b (fun o e=>by rw[hoI']at e;injection e with e;subst e;exact GS.fld rcI) fI3 bI3 fun b o q e=>k4 b o q e
  have R4:=R3.step st4
  obtain⟨o4,ho4,rc4⟩:=it4
  obtain⟨vs4,hd4⟩:=GS.fld rc4
  have hm4I:=(m4 I fI3).trans ho4
  obtain⟨hbF,sF,wF,_⟩:=iV (h:=hm4) (hb:=hb3) (h':=hm4) (.refl _) R4.s.b (fun b=>b=I) fun b hb o e=>by
   subst hb
   rw[hm4I]at e;injection e with e;subst e
   exact⟨_,hd4⟩
  have RF:=R4.step sF
  have RG:co hb3 h₀ hb₀ hbF hm4 env fr ρ1:=⟨⟨sF.sub,RF.s.b,RF.s.f,RF.s.k,RF.s.gl,RF.s.bl,RF.s.v⟩,RF.st,RF.l,RF.c,RF.ci,RF.hd,RF.o,RF.oi⟩
  refine asg hb3 kb A fr h₀ hb₀ hbF hm4 (aA s h4 tk4) v _ _ ok.h RG B4 vv fun h5 hm5 tk5 ρ2 B5 R5' r2=>?_
  have R5:co hg h₀ hb₀ hbF hm5 env fr ρ2:=⟨⟨RF.s.g,R5'.s.b,R5'.s.f,R5'.s.k,R5'.s.gl,R5'.s.bl,R5'.s.v⟩,R5'.st,R5'.l,R5'.c,R5'.ci,R5'.hd,R5'.o,R5'.oi⟩
  refine hex ρ2 r2 A fr h₀ hb₀ hbF hm5 (aA s h5 tk5) _ _ ok R5 B5 fun f F6 h6 hm6 hb6 tk6 B6 out k6=>?_
  have kk:hb3.StaysIn hb6:=fun b o e=>k6 b o (sF.sub b o e)
  have all:hb.StaysIn hb6:=fun b o e=>kk b o (kb b o (st1.sub b o e))
  have go:∀ρ',J (i +1) ρ' F6->co hg h₀ hb₀ hb6 hm6 env fr ρ'->∃m,m<N - i/\X7 fun i ρ1 F3 hb3 hm3 h3 tk3=>CM ((aA s h6 tk6)=(aA s h3 tk3)) (m=N - i) (i<=N) (J i ρ1 F3) (co hg h₀ hb₀ hb3 hm3 env fr ρ1) (ae F3 h3 hm3) (hb1.StaysIn hb3) (hb3.get? I=none) (∃o,hm3.get? I=some o/\Rc i o) (eO h₀ I):=fun ρ' j' R6=>by
   have I6:hb6.get? I=some o4:=k6 I o4 ((wF I rfl).trans hm4I)
   have mI6:=R6.s.b I o4 I6
   obtain⟨g,g1,g2,g3,g4⟩:=fR [I] (fun b hb=>by rw[List.mem_singleton.mp hb];exact⟨o4,_,mI6,hd4⟩) R6.s.b
   have keepg:∀b o,hb6.get? b=some o->b≠I->g.get? b=some o:=fun b o e q=>by rw[g4 b (by simpa using q)];exact e
   have notI:∀{x:Hp}{b:Ad}{o:Obj},x.StaysIn hb3->x.get? b=some o->b≠I:=fun{x b o} sx e q=>by
    have:=sx b o e
    rw[q,bI3]at this;cases this
   exact⟨N - (i +1),by exact Nat.sub_succ_lt_self _ _ ‹_›,i +1,ρ',F6,g,hm6,h6,tk6,rfl,rfl,hlt,j',R6.unfreeze g1 g2 (fun b o e=>keepg b o (R6.s.g b o e) (notI R3.s.g e)) (fun b o e=>keepg b o (R6.st.sub b o e) (notI R3.st.sub e)),B6,fun b o e=>keepg b o (kk b o (kb b o e)) (notI kb e),g3 I (.head _),⟨o4,mI6,rc4⟩,nI⟩
  rcases out with⟨rfl,ρ',p,R'⟩|⟨rfl,ρ',p,R'⟩|⟨rfl,ρ',p,R'⟩|⟨u,rfl,p,st'⟩
  ·exact go ρ' p R'
  ·exact h .next F6 h6 hm6 hb6 tk6 B6 (.inl ⟨rfl,ρ',p,R'⟩) all
  ·exact go ρ' p R'
  ·exact h _ F6 h6 hm6 hb6 tk6 B6 (.inr (.inr (.inr ⟨u,rfl,p,st'⟩))) all
 ·have e:i=N:=by exact Nat.le_antisymm ‹_› (Nat.le_of_not_lt ‹_›)
  subst e
  refine GS.done (s:=(aA s h3 tk3)) ok.h Sh ⟨oI,hoI',rcI⟩ fun h4 k4=>?_
  obtain⟨hm4,B4,st4,_⟩:=B3.worked (I:=I) R3.s.b (fun o e=>by rw[hoI']at e;injection e with e;subst e;exact GS.fld rcI) fI3 bI3 fun b o q e=>k4 b o q e
  exact wpAny_execs_nil (h .next F3 h4 hm4 hb3 tk3 B4 (.inl ⟨rfl,ρ1,hend _ _ j,R3.step st4⟩) fun b o e=>kb b o (st1.sub b o e))
theorem w7.g{T:String}{a:Ad}{vs:Array Vl}{S:Hp->Prop}{x:Str}{px:Pos}(q:w7 T a vs S):yK (.Name x px) (.ref a) vs.size S (fun i o=>o.cls= .type T/\o.data= .fields #[.ref a,.int i 0]) fun i O v=>vs[i]?=some v:=
 ⟨fun hS h=>q.iter hS (h _ rfl ⟨rfl,rfl⟩),fun r=>⟨_,r.2⟩,fun{A s Q E I i} hS r hi h=>by
  obtain⟨v,hv⟩:∃v,vs[i]?=some v:=⟨_,Array.getElem?_eq_getElem hi⟩
  exact q.next hS r hv fun h' it k=>⟨v,rfl,wP (h v h' s.toks it k.extBut hv)⟩,fun hh hS r h=>q.done hh hS r (Array.getElem?_eq_none_iff.mpr (Nat.le_refl _)) h⟩
theorem jW{x:Str}{px:Pos}{V:Hp->Vl->Prop}(kx:cM env x)(no:ar ρ):AR hg env F ρ (.Name x px) V fun ρ2=>X2 fun h v=>V h v/\ρ2=(x,.fz (RV v))::ρ:=fun A fr h₀ hb₀ hb hm s v Q E O Rl B vv h=>
 wpAny_assign_Name (bH (v:=v) (G:=RV v) Rl B kx rfl (fun y ds O=>no y ds) fun h' hm' tk B' R'=>h h' hm' tk _ B' R' ⟨_,v,vv,rfl⟩)
theorem t8{x:Str}{p:Pos}{iter:Ep}{body:List Stmt}{PI:Hp->Vl->Fg->Prop}{T:String}(J:Ad->Array Vl->Nat->LS->Fg->Prop)(S:Ad->Array Vl->Hp->Prop)
  (he:cB hg n env F ρ iter PI)(kx:cM env x)
  (h0:∀hb v F',PI hb v F'->X2 fun a vs=>A4 (v= .ref a) (J a vs 0 ρ F') (w7 T a vs (S a vs)) (∀hb1 F1 hm h ρ1 i,hb.StaysIn hb1->hb1.StaysIn hm->ae F1 h hm->J a vs i ρ1 F1->S a vs h))
  (hbody:∀a vs i v ρ1 F1,J a vs i ρ1 F1->vs[i]?=some v->ar ρ1/\ly hg n env F1 ((x,.fz (RV v))::ρ1) body {P with next:=J a vs (i +1),cont:=J a vs (i +1),brk:=P.next})
  (hend:∀a vs ρ1 F1,J a vs vs.size ρ1 F1->P.next ρ1 F1)(hs:autoParam (∀x,foldedSetIterable iter env x=pure x) If):XX hg n env F ρ (.For (.Name x p) iter body [] pos) P:=
 lB he (fun hb v F' pi=>by
  obtain⟨a,vs,rfl,j0,SQ,hS⟩:=h0 hb v F' pi
  refine⟨vs.size,J a vs,S a vs,_,_,j0,SQ.g,hS,fun i ρ1 F1 j hi=>?_,fun ρ1 F1 j=>hend a vs ρ1 F1 j⟩
  refine⟨_,fun hb1 k=>jW kx (hbody a vs i vs[i] ρ1 F1 j (Array.getElem?_eq_getElem hi)).1,?_⟩
  rintro ρ2 ⟨_,v,hv,rfl⟩
  exact(hbody a vs i v ρ1 F1 j hv).2) hs
end
section
variable{l r:Ep}{F F':Fg}{K:Frag}{name:Str}{P:PX}
theorem ae.fresh{h hm:Hp}(B:ae F h hm)(o:Obj)(hf:o.isFreed=false):ae (F.put h.objs.size o) (h.push o) hm/\F h.objs.size=none:=by
 have hnone:h.get? h.objs.size=none:=by
  cases q:h.get? h.objs.size with
  |none=>rfl
  |some o=>exact absurd (Hp.lt_size q) (Nat.lt_irrefl _)
 refine⟨⟨fun b u e=>Hp.get?_push_of_some _ (B.sub b u e),fun b u e=>?_,fun b u e=>?_⟩,?_⟩
 ·by_cases q:b=h.objs.size
  ·subst q;rw[Fg.put_same]at e;injection e with e;subst e;exact Hp.get?_push_size _ hf
  ·rw[Fg.put_ne _ _ q]at e;exact Hp.get?_push_of_some _ (B.at_ b u e)
 ·by_cases q:b=h.objs.size
  ·subst q;exact am B.sub hnone
  ·rw[Fg.put_ne _ _ q]at e;exact B.dis b u e
 ·cases q:F h.objs.size with
  |none=>rfl
  |some o=>have:=B.at_ _ _ q;rw[hnone]at this;cases this
theorem s4{A:Ar}{fr:List Env}{C:Ad}{vals:List Vl}(ok:br A fr (n +1)):br (A.under (.builtin "type.__call__" ⟨.ref C::vals,[]⟩)) fr n:=
 ⟨ok.h,by rw[depth_under_make];have:=ok.d;exact o4 ‹_›,by rw[units_under_make];have:=ok.u;exact o6 1 (by decide) ‹_›,ok.f⟩
theorem vc{x:Str}{p pc:Pos}{C fI:Ad}{es:List Ep}{Fs:List FP}{P:Hp->Vl->Fg->Prop}(X:K.In hg)(hc:cB hg (n +1) env F ρ (.Name x p) fun O v F'=>F'=F/\v= .ref C)(hk:keepIn K (.ref C)=true)
  (ha:gG hg (n +1) env F ρ (e::es) Fs)(hm:makesIn K C=true)(hi:findIn K (.ref C) "__init__"=some (some (.ref fI)))(hf:typeIn K (.ref fI)=some (.type "function"))
  (hinit:∀ob dx,F dx=none->F ob=none->ob≠dx->fK hg n ((F.put dx emptyDict).put ob (instObj C dx)) (.ref fI) (RV (.ref ob)::Fs) (fun hb v F'=>v= .none/\P hb (.ref ob) F'))
  (hn:autoParam (sE (e::es) env=(false,eval e env)::sE es env) Rf)(hplain:autoParam (((backTo pc (sE (e::es) env)).any (·.1)||([]:List (Option Str×Sem Vl)).any (·.1.isNone))=false) Rf):
  cB hg (n +1) env F ρ (.Call (.Name x p) (e::es) [] pc) P:=fun A fr hb hm0 s Q E ok S B h=>by
 refine wpAny_Call_NameR (hc A fr hb hm0 s _ E ok S B fun v F1 h₁ hm1 hb1 tk1 st1 B1 p1=>?_)
 obtain⟨rfl,rfl⟩:=p1
 have S1:=S.step st1
 refine callWith_of (P:=K.In) hplain (keeps_K hk) ?_
 have hargs:=ha pc A fr hb1 hm1 (aA s h₁ tk1) (fun vs s₂=>K.In s₂.heap/\wA MD A (call (.ref C) ([] ++vs)) Q E s₂) E ok S1 B1 fun vs h2 hm2 hb2 tk2 st2 B2 r2=>by
  have S2:=S1.step st2
  have X2:K.In h2:=X.keeps fun b o q=>B2.sub b o (S2.b b o (S2.g b o q))
  refine⟨X2,wpAny_call (make_core (makes_of X2 hm) (looks_findIn X2 hi) (fun self=>bind_fn X2 self hf) (.inl rfl) ?_)⟩
  obtain⟨B3,f3⟩:=B2.fresh emptyDict rfl
  obtain⟨B4,f4⟩:=B3.fresh (instObj C h2.objs.size) rfl
  rw[Hp.size_push]at B4 f4
  have ne:h2.objs.size +1≠h2.objs.size:=Nat.succ_ne_self _
  rw[Fg.put_ne _ _ ne]at f4
  refine hinit (h2.objs.size +1) h2.objs.size f3 f4 ne _ fr hb2 hm2 _ (.ref (h2.objs.size +1)::vs) _ (s4 ok) S2.g S2.b S2.f B4 (.cons (R:=rF (RV _)) rfl (fj r2)) fun v F' h' hm' hb' tk st3 B5 p3=>?_
  obtain⟨rfl,p3⟩:=p3
  exact⟨rfl,h _ F' h' hm' hb' tk (st1.trans (st2.trans st3)) B5 p3⟩
 rw[hn]at hargs⊢
 exact Calls.evalArgs_plain hargs
end
section
variable{l r:Ep}{F F':Fg}
theorem qR{d:Ad}{o:Obj}{kvs:List (Int×Vl)}{k:Int}{v:Vl}(ho:hg.get? d=some o)(hd:o.IsDictOf (intKind PG W0) kvs)(hv:valueAt kvs k=some v):m5 hg n (RF (RV (.ref d))) (RF (DV (.int k))) (RF (RV v)):=fun A fr h₀ h₁ hb s a b Q E ok sg st O ra rb h=>by
 obtain rfl:a= .ref d:=ra
 obtain⟨t,rfl⟩:=aj rb
 have hD:s.heap.DictOf (intKind PG W0) d kvs:=Hp.dictOf_iff.mpr ⟨o,st _ _ (sg _ _ ho),hd⟩
 exact⟨"dict",_,hD.typeIs,slot_dict_getitem.lookup,wpAny_getItem_of (intKind_is PG W0 k t) hD.mapOf hv (h v s.heap hb _ (.refl st) rfl)⟩
theorem kw{A:Ar}{hm:Hp}{s:SD}{Q:Unit->SD->Prop}{E:VS}{d:Ad}{o:Obj}{kvs:List (Int×Vl)}{k:Int}{t:Tok}{v:Vl}(ho:F d=some o)(hd:o.IsDictOf (intKind PG W0) kvs)(hz:kvs.length<=1000)(B:ae F s.heap hm)
  (h:∀h' o' tk,o'.IsDictOf (intKind PG W0) (stored kvs k v)->ae (F.put d o') h' hm->Q () (aA s h' tk)):wA MD A (setItem (.ref d) (.int k t) v) Q E s:=by
 refine wpAny_setItem_pairs (hsz:=by rw[sizeLine_eq];exact Nat.le_trans ‹_› (by decide)) (intKind_is PG W0 k t) (Hp.dictOf_iff.mpr ⟨o,B.at_ _ _ ho,hd⟩) fun h' hm' hs=>?_
 obtain⟨o',ho',hd'⟩:=Hp.dictOf_iff.mp hm'
 exact h h' o' _ hd' (B.change ho (fun b q=>hs.2 b q) ho')
theorem uv{o:Ep}{pa pc:Pos}{d:Ad}{od:Obj}{kvs:List (Int×Vl)}{k:Int}(lo:(d==sysModules)=false)(hd0:hg.get? d=some od)(hd:od.IsDictOf (intKind PG W0) kvs)(ho:Ev hg n env ρ o (RF (RV (.ref d))))(he:Ev hg n env ρ e (RF (DV (.int k))))(pl:Sem Bool)
  (hev:autoParam (cF o ("get":Str) pl pa pc [e] env) Rf)
  (hn:autoParam (sE [e] env=(false,eval e env)::sE [] env) Rf):Ev hg n env ρ (.Call (.Attribute o ("get":Str) pa) [e] [] pc) (RF (RV ((valueAt kvs k).getD .none))):=fun A fr hb s Q E ok S h=>by
 rw[hev]
 refine wBi (ho A fr hb s _ E ok S fun v h₁ hb1 tk1 st1 r1=>?_)
 obtain rfl:v= .ref d:=r1
 have S1:=S.step st1
 have hD:∀{h:Hp},hg.StaysIn h->h.DictOf (intKind PG W0) d kvs:=fun{h} k=>Hp.dictOf_iff.mpr ⟨od,k _ _ hd0,hd⟩
 have D1:h₁.DictOf (intKind PG W0) d kvs:=hD fun b o e=>S1.b b o (S1.g b o e)
 refine wBi (wpAny_standAt (wBi (wpAny_holding (getMethod_builtin (s:=(aA s h₁ tk1)) D1.typeIs PySem.F.plainAttrs_dict PySem.F.slot_dict_get PySem.F.type_dict_get D1.mapOf.noDict ?_))))
 have key:=cJ (R:=rF (DV (.int k))) he ao hn pc A fr hb1 (aA s h₁ tk1) (fun us s₁=>hg.StaysIn s₁.heap/\wA MD A (call (.builtin "dict.get") ([.ref d] ++us)) Q E s₁) E ok S1 fun us h2 hb2 tk2 st2 r2=>by
  obtain⟨v,rfl,rv⟩:=r2.one
  obtain⟨t,rfl⟩:=aj rv
  have S2:=S1.step st2
  have k2:hg.StaysIn h2:=fun b o e=>S2.b b o (S2.g b o e)
  have D2:=hD k2
  exact⟨k2,call_meetsIn (s:=(aA s h2 tk2)) PySem.F.slot_dict_get D2.typeIs PySem.F.entry_dict_get (PySem.F.args_dict_get_2 _ _) (meets_dict_get (intKind PG W0) d (intKind_is PG W0 k t) lo) ⟨_,D2.mapOf,h _ h2 hb2 _ (st1.trans st2) rfl⟩⟩
 rw[hn]at key
 rw[hn]
 exact bh (hg:=hg) (.builtin "dict.get") rfl key
end
noncomputable def LO(o:Obj)(vs:Array Vl):Prop:=A3 (o.cls= .type "list") (o.dict=none) (∃n,o.data= .seq vs n)
section
variable{l r:Ep}{F F':Fg}
theorem ae.changeX{h hm h':Hp}{a:Ad}{o o':Obj}(B:ae F h hm)(ha:F a=some o)(k:∀b u,b≠a->h.get? b=some u->h'.get? b=some u)(ka:h'.get? a=some o'):ae (F.put a o') h' hm:=
 ⟨fun b u e=>k b u (fun q=>by rw[q,B.dis a o ha]at e;cases e) (B.sub b u e),fun b u e=>by
  by_cases q:b=a
  ·subst q;rw[Fg.put_same]at e;rw[ka];exact e
  ·rw[Fg.put_ne _ _ q]at e;exact k b u q (B.at_ b u e),fun b u e=>by
  by_cases q:b=a
  ·subst q;exact B.dis b o ha
  ·rw[Fg.put_ne _ _ q]at e;exact B.dis b u e⟩
theorem iU{o:Ep}{pa pc:Pos}{a:Ad}{ob:Obj}{vs:Array Vl}{G:FP}(ho:cB hg n env F ρ o fun O v F'=>F'=F/\v= .ref a)(hob:F a=some ob)(hl:LO ob vs)(hz:vs.size<=1000)(he:cB hg n env F ρ e fun hb v F'=>F'=F/\G.P hb v)(pl:Sem Bool)
  (hev:autoParam (cF o ("append":Str) pl pa pc [e] env) Rf)
  (hn:autoParam (sE [e] env=(false,eval e env)::sE [] env) Rf):cB hg n env F ρ (.Call (.Attribute o ("append":Str) pa) [e] [] pc) (fun hb u F'=>u= .none/\X2 fun v o'=>A3 (G.P hb v) (LO o' (vs.push v)) (F'=F.put a o')):=fun A fr hb hm s Q E ok S B h=>by
 rw[hev]
 refine wBi (ho A fr hb hm s _ E ok S B fun v F1 h₁ hm1 hb1 tk1 st1 B1 p1=>?_)
 obtain⟨rfl,rfl⟩:=p1
 have S1:=S.step st1
 obtain⟨l1,l2,k,l3⟩:=hl
 have L:∀{h hm},ae F1 h hm->PL h a vs:=fun{h hm} B=>⟨ob,B.at_ _ _ hob,l1,l2,k,l3⟩
 refine wBi (wpAny_standAt (wBi (wpAny_holding (getMethod_builtin (s:=(aA s h₁ tk1)) (L B1).isList.typeIs PySem.F.plainAttrs_list slot_list_append type_list_append (fun b eb=>by injection eb with eb;subst eb;exact⟨ob,B1.at_ _ _ hob,l2⟩) ?_))))
 have key:=aW he bE hn pc A fr hb1 hm1 (aA s h₁ tk1) (fun us s₁=>hg.StaysIn s₁.heap/\wA MD A (call (.builtin "list.append") ([.ref a] ++us)) Q E s₁) E ok S1 B1 fun us h2 hm2 hb2 tk2 st2 B2 r2=>by
  obtain⟨v,rfl,rv⟩:=r2.one
  have S2:=S1.step st2
  refine⟨fun b o e=>B2.sub b o (S2.b b o (S2.g b o e)),?_⟩
  refine iq (s:=(aA s h2 tk2)) (L B2) (by exact Nat.le_trans ‹_› (by decide)) fun h3 pl3 k3=>?_
  obtain⟨o',ho',q1,q2,q3⟩:=pl3
  exact h .none _ h3 hm2 hb2 tk2 (st1.trans st2) (B2.changeX hob k3 ho') ⟨rfl,v,o',rv,⟨q1,q2,q3⟩,rfl⟩
 rw[hn]at key
 rw[hn]
 exact bh (hg:=hg) (.builtin "list.append") rfl key
end
section
variable{l r:Ep}{F F':Fg}
theorem eP{ds:List PyD}(he:∀hp,hg.StaysIn hp->lz F hp->Ev hp n env ρ e (RN ds)):cB hg n env F ρ e fun hb v F'=>X3 fun a o vs=>A5 (v= .ref a) (F a=none) (LO o vs) (∃g,RA g vs.toList ds) (F'=F.put a o):=fun A fr hb hm s Q E ok S B h=>by
 obtain⟨hp,p0,p2,p1,S',p4⟩:=B.sees S
 refine he hp p0 p2 A fr hp s Q E ok S' fun v h' hp' tk st r=>?_
 obtain⟨a,vs,bs,rfl,⟨o,ho,l1,l2,k,l3⟩,hr,n1,n2⟩:=r
 obtain⟨hm',hb',B',st',k1,k2⟩:=B.after S.b p1 p2 p4 st
 have fa:F a=none:=by
  cases q:F a with
  |none=>rfl
  |some o'=>
   have e1:=B'.at_ a o' q
   rw[ho]at e1;injection e1 with e1;subst e1
   obtain⟨us,d⟩:=n2 _ (B.at_ a _ q)
   rw[l3]at d;cases d
 have ba:hb'.get? a=none:=by rw[k2 a fa];exact n1
 obtain⟨hm'',m1,m2⟩:=cu hm' fun b=>b≠a
 have back:hm''.StaysIn hm':=fun b u e=>by
  by_cases q:b=a
  ·rw[m2 b (fun z=>z q)]at e;cases e
  ·rw[<-m1 b q];exact e
 refine h _ (F.put a o) h' hm'' hb' tk ⟨fun b u e hd=>?_,st'.sub,fun b u e=>?_,st'.fresh⟩ ⟨fun b u e=>B'.sub b u (back b u e),fun b u e=>?_,fun b u e=>?_⟩ ⟨a,o,vs,rfl,fa,⟨l1,l2,k,l3⟩,⟨hp',bs,hr⟩,rfl⟩
 ·have q:b≠a:=fun q=>by
   subst q
   obtain⟨us,d⟩:=n2 u (B.sub b u e)
   exact hd us d
  obtain⟨sl,e'⟩:=st'.up b u e hd
  exact⟨sl,(m1 b q).trans e'⟩
 ·have q:b≠a:=fun q=>by rw[q,ba]at e;cases e
  exact(m1 b q).trans (st'.stay b u e)
 ·by_cases q:b=a
  ·subst q;rw[Fg.put_same]at e;rw[ho];exact e
  ·rw[Fg.put_ne _ _ q]at e;exact B'.at_ b u e
 ·by_cases q:b=a
  ·subst q;exact m2 b fun z=>z rfl
  ·rw[Fg.put_ne _ _ q]at e;rw[m1 b q];exact B'.dis b u e
end
section
variable{l r:Ep}{F F':Fg}{P:PX}
theorem lK{x:Str}{p p1 p2 p3:Pos}{u:Vl}{k:Nat}{body orelse:List Stmt}(he:cB hg n env F ρ e fun O v F'=>F'=F/\v=u)(kx:cM env x)(no:ar ρ)(hu:u= .none\/∃a,u= .ref a)
  (h1:u= .none->ly hg n env F ((x,.fz (RV u))::ρ) body P)(h2:u≠ .none->ly hg n env F ((x,.fz (RV u))::ρ) orelse P)
  (hm:autoParam (behindInMarks .Is (.Constant .none k p2)=false) Wf):
  XX hg n env F ρ (.If (.Compare (.NamedExpr (.Name x p) e p1) [.Is] [.Constant .none k p2] p3) body orelse pos) P:=fun A fr h₀ hb₀ hb hm0 s Q E ok Rl B h=>by
 refine wpAny_If (wpAny_isTrue_Compare1 (hm:=hm) (wpAny_NamedExpr (he A fr hb hm0 s _ E ok Rl.s B fun v F1 h₁ hm1 hb1 tk1 st1 B1 p₁=>?_)))
 obtain⟨rfl,rfl⟩:=p₁
 refine wpAny_assign_Name (bH (s:=(aA s h₁ tk1)) (v:=v) (G:=RV v) (Rl.step st1) B1 kx rfl (fun y ds O=>no y ds) fun h₂ hm2 tk2 B2 R2=>?_)
 refine wP ?_
 have fin:∀b:Bool,(b=(v== .none))->wA MD A (truthy (.bool b)) (fun b s₁=>if b=true then wA MD A (execs body env) Q E s₁ else wA MD A (execs orelse env) Q E s₁) E (aA s h₂ tk2):=fun b e=>by
  refine wpAny_truthy_bool ?_
  rcases hu with rfl|⟨a,rfl⟩
  ·subst e
   exact h1 rfl A fr h₀ hb₀ hb1 hm2 _ Q E ok R2 B2 fun f F' h' hm' hb' tk B' o k2=>h f F' h' hm' hb' tk B' o fun b o e=>k2 b o (st1.sub b o e)
  ·subst e
   exact h2 (by simp) A fr h₀ hb₀ hb1 hm2 _ Q E ok R2 B2 fun f F' h' hm' hb' tk B' o k2=>h f F' h' hm' hb' tk B' o fun b o e=>k2 b o (st1.sub b o e)
 refine wpAny_is_plain ?_ ?_
 ·rcases hu with rfl|⟨a,rfl⟩<;>rfl
 ·exact fin _ rfl
end
noncomputable abbrev DA(h:Hp)(d:Ad)(kvs:List (Int×Vl))(ep:Nat):Prop:=h.DictAt (intKind PG W0) d kvs ep
theorem oU{kvs:List (Int×Vl)}{i:Nat}(h:i<kvs.length):X2 fun k v=>kvs[i]?=some (k,v):=⟨_,_,List.getElem?_eq_getElem h⟩
theorem xe{x:Str}{px:Pos}{d:Ad}{kvs:List (Int×Vl)}{ep:Nat}(hd:(d==sysModules)=false):yK (.Name x px) (.ref d) kvs.length (fun h=>DA h d kvs ep)
  (fun i o=>o.cls= .type "dict_keyiterator"/\o.data= .fields #[.ref d,.int i 0,.int kvs.length 0,.int ep 0]) fun i O v=>X3 fun k val t=>kvs[i]?=some (k,val)/\v=Vl.int k t:=
 ⟨fun hS h=>wpAny_pyIter_dict hd hS (h _ rfl ⟨rfl,rfl⟩),fun r=>⟨_,r.2⟩,fun{A s Q E I i} hS ⟨o,ho,r1,r2⟩ hi h=>by
  obtain⟨k,val,hk⟩:=oU hi
  refine wpAny_pyNext_dict_item (knd:=intKind PG W0) ⟨o,ho,r1,r2⟩ hS hk fun key h' hkey it hs=>?_
  obtain⟨t,rfl⟩:=Vl.isInt_shape hkey
  exact⟨_,rfl,wP (h _ h' _ it hs.extBut ⟨k,val,t,hk,rfl⟩)⟩,fun hh hS ⟨o,ho,r1,r2⟩ h=>wpAny_pyNext_dict_end (knd:=intKind PG W0) hh ⟨o,ho,r1,r2⟩ hS (List.getElem?_eq_none_iff.mpr (Nat.le_refl _)) h⟩
theorem wJ{elts:List Ep}{c:Nat}{pt:Pos}{d a:Ad}{kvs:List (Int×Vl)}{ep:Nat}:yK (.Tuple elts c pt) (.ref a) kvs.length (fun h=>DA h d kvs ep/\h.IsItemsView a d)
  (fun i o=>X2 fun ok ov=>o={cls:=.type "dict_itemiterator",dict:=none,data:=.fields #[.none,.bool false,.ref d,.int i 0,.int kvs.length 0,.int ep 0,ok,ov],slots:=#[]}) fun i h v=>X4 fun k val t tp=>A3 (kvs[i]?=some (k,val)) (v= .ref tp) (h.IsTuple tp #[Vl.int k t,val]):=
 ⟨fun hS h=>wpAny_pyIter_items (knd:=intKind PG W0) hS.2 hS.1 (h _ rfl ⟨.none,.none,rfl⟩),fun r=>by obtain⟨ok,ov,rfl⟩:=r;exact⟨_,rfl⟩,fun{A s Q E I i} hS r hi h=>by
  obtain⟨o,ho,ok,ov,rfl⟩:=r
  obtain⟨k,val,hk⟩:=oU hi
  have hI:I<s.heap.objs.size:=Hp.lt_size ho
  refine wpAny_pyNext_items_item (knd:=intKind PG W0) ho hS.1 hk fun key h₁ hkey heo ht hz k1=>?_
  obtain⟨t,rfl⟩:=Vl.isInt_shape hkey
  refine⟨_,rfl,wpAny_letOwnedTupleGo_items (s:={s with heap:=h₁}) heo fun h2 it2 s₂=>?_⟩
  refine h _ h2 _ ⟨_,it2,_,_,rfl⟩ (fun b o q e=>(s₂.2 b q).trans (k1 b o q e)) ⟨k,val,t,_,hk,rfl,_,(s₂.2 _ (Nat.ne_of_gt hI)).trans ht,rfl,_,rfl⟩,fun hh hS r h=>by
  obtain⟨o,ho,ok,ov,rfl⟩:=r
  exact wpAny_pyNext_items_end (knd:=intKind PG W0) hh ho hS.1 (List.getElem?_eq_none_iff.mpr (Nat.le_refl _)) h⟩
section
variable{o r:Ep}{F F':Fg}{P:PX}
theorem vX{x y:Str}{px py pt:Pos}{c:Nat}{G₁ G₂:FP}{V:Hp->Vl->Prop}(kx:cM env x)(ky:cM env y)(no:ar ρ)(hV:∀h v,V h v->X3 fun tp u1 u2=>A3 (v= .ref tp) (h.IsTuple tp #[u1,u2]) (∀g,hg.StaysIn g->G₁.P g u1/\G₂.P g u2)):
  AR hg env F ρ (.Tuple [.Name x px,.Name y py] c pt) V fun ρ2=>ρ2=(y,.fz G₂)::(x,.fz G₁)::ρ:=fun A fr h₀ hb₀ hb hm s v Q E hh Rl B vv h=>by
 obtain⟨tp,u1,u2,rfl,ht,hG⟩:=hV _ _ vv
 refine wpAny_assign_Tuple hh ht rfl rfl fun h₁ k1=>?_
 obtain⟨hm1,B1,st1,_⟩:=B.worked (I:=s.heap.objs.size) (h':=h₁) Rl.s.b (fun o e=>absurd (Hp.lt_size e) (Nat.lt_irrefl _)) (by
  cases q:F s.heap.objs.size with
  |none=>rfl
  |some o=>exact absurd (Hp.lt_size (B.at_ _ _ q)) (Nat.lt_irrefl _)) (by
  cases q:hb.get? s.heap.objs.size with
  |none=>rfl
  |some o=>exact absurd (Hp.lt_size (B.sub _ _ (Rl.s.b _ _ q))) (Nat.lt_irrefl _)) fun b o q e=>k1 b o q e
 obtain⟨g1,g2⟩:=hG hb Rl.s.g
 refine wpAny_assignInOrder_more (wpAny_assign_Name (bH (s:={s with heap:=h₁}) (v:=u1) (G:=G₁) (Rl.step st1) B1 kx g1 (fun y ds O=>no y ds) fun h2 hm2 tk2 B2 R2=>?_))
 refine wpAny_assignInOrder_more (wpAny_assign_Name (bH (s:=(aA s h2 tk2)) (v:=u2) (G:=G₂) R2 B2 ky g2 (fun y ds O=>an no y ds) fun h3 hm3 tk3 B3 R3=>?_))
 exact wpAny_assignInOrder_none (h h3 hm3 tk3 _ B3 R3 rfl)
theorem yF{name:Str}{id T:String}{PD:Hp->Ad->Prop}(ho:cB hg n env F ρ o fun hb v F'=>F'=F/\∃d,v= .ref d/\PD hb d)(hup:∀hb hb' d,hb.StaysIn hb'->PD hb d->PD hb' d)
  (hD:∀hb hm h d,hg.StaysIn hb->hb.StaysIn hm->ae F h hm->PD hb d->(d==sysModules)=false/\∃kvs,h.DictOf (intKind PG W0) d kvs)(hslot:Slot "dict" name id)(hty:typeOf (.builtin id)=pure (.type "method_descriptor"))
  (hm:∀{A:Ar}{s:SD}{Q:VS}{E:VS}{d:Ad}{kvs:List (Int×Vl)},(d==sysModules)=false->s.heap.DictOf (intKind PG W0) d kvs->Q (.ref s.heap.objs.size) {s with heap:=s.heap.push {cls:=.type T,data:=.fields #[.ref d]}}->wA MD A (callWith pc (.builtin id) [.ref d] [] []) Q E s)(pl:Sem Bool)
  (hev:autoParam (cF o name pl pa pc [] env) Rf):
  cB hg n env F ρ (.Call (.Attribute o name pa) [] [] pc) fun hb v F'=>F'=F/\X2 fun a d=>A3 (v= .ref a) (PD hb d) (hb.get? a=some {cls:=.type T,data:=.fields #[.ref d]}):=fun A fr hb hm0 s Q E ok S B h=>by
 rw[hev]
 refine wBi (ho A fr hb hm0 s _ E ok S B fun v F1 h₁ hm1 hb1 tk1 st1 B1 p1=>?_)
 obtain⟨rfl,d,rfl,pd⟩:=p1
 have S1:=S.step st1
 obtain⟨lo,kvs,D⟩:=hD hb1 hm1 h₁ d S1.g S1.b B1 pd
 refine wBi (wpAny_standAt (wBi (wpAny_holding (getMethod_builtin (s:=(aA s h₁ tk1)) D.typeIs PySem.F.plainAttrs_dict hslot hty D.mapOf.noDict ?_))))
 refine hm (s:=(aA s h₁ tk1)) lo D ?_
 have e0:h₁.get? h₁.objs.size=none:=by
  cases q:h₁.get? h₁.objs.size with
  |none=>rfl
  |some o=>exact absurd (Hp.lt_size q) (Nat.lt_irrefl _)
 have f0:F1 h₁.objs.size=none:=by
  cases q:F1 h₁.objs.size with
  |none=>rfl
  |some o=>have:=B1.at_ _ _ q;rw[e0]at this;cases this
 have m0:=am B1.sub e0
 obtain⟨hm2,B2,st2,w2⟩:=B1.worked (I:=h₁.objs.size) (h':=h₁.push {cls:=.type T,data:=.fields #[.ref d]}) S1.b (fun o e=>by rw[e0]at e;cases e) f0 (am S1.b m0) fun b o O e=>Hp.get?_push_of_some _ e
 obtain⟨hb2,st3,w3,_⟩:=iV st2.up st2.stay (fun a=>a=h₁.objs.size) fun a ha=>ha▸eO.of_none m0
 exact h _ F1 _ hm2 hb2 tk1 (st1.trans st3) B2 ⟨rfl,_,d,rfl,hup _ _ _ st3.sub pd,(w3 _ rfl).trans ((w2 _ f0).trans (Hp.get?_push_size _ rfl))⟩
end
section
open AutoSeq1 (wpAny_loadPart')
open MeetsSeq SeqAt
theorem nA(l:Ad)(items:Array Vl)(n:Nat)(dd:Option Ad)(sl:Array (Option Vl))(hs1:items.size<=sizeLine):
  Meets (Builtin.«list.clear» ⟨[.ref l],[]⟩) (fun O R s=>s.heap.get? l=some {cls:=.type "list",dict:=dd,data:=.seq items n,slots:=sl}/\R (.ok (.ret Vl.none)) (aA s (s.heap.update l (Obj.mapSeq fun O=>#[])) s.toks)):=
 .of_wp fun pg wd A R s h=>by obtain⟨hp,g,d,tk,os⟩:=s;obtain⟨hl,h⟩:=h;wp_walk using(wpAny_updateSeq hl rfl (hz:=hs1)),wpAny_loadPart' hl;exact⟨_,rfl,h⟩
theorem o0(l:Ad)(items:Array Vl)(n:Nat)(dd:Option Ad)(sl:Array (Option Vl))(y:Vl)(hy:items[items.size - 1]?=some y)(hs1:items.size<=sizeLine):
  Meets (Builtin.«list.pop» ⟨[.ref l],[]⟩)
   (fun O R s=>s.heap.get? l=some {cls:=.type "list",dict:=dd,data:=.seq items n,slots:=sl}/\R (.ok (.ret y)) {s with heap:=s.heap.update l (Obj.mapSeq fun xs=>xs.eraseIdxIfInBounds (items.size - 1))}):=
 .of_wp fun pg wd A R s h=>by
  obtain⟨hp,g,d,tk,os⟩:=s;obtain⟨hl,h⟩:=h
  have hpos:0<items.size:=by
   rcases Nat.eq_zero_or_pos items.size with h0|h0
   ·simp[h0]at hy
   ·exact h0
  have hne:¬items.isEmpty=true:=by
   intro he;have:items.size=0:=by simpa using he
   exact absurd ‹_› (Nat.ne_of_gt ‹_›)
  have hk:seqIndex? (-1) items.size=some (items.size - 1):=by
   rw[MeetsSeq.seqIndex_neg (by decide) (by exact Fw ‹_›)];congr 1;exact EP ‹_›
  wp_walk using wpAny_loadPart' hl
  simp only[hk,hy,Option.bind_some,Option.map_some]
  have hz':(items.eraseIdxIfInBounds (items.size - 1)).size<=sizeLine +1:=Nat.le_trans (size_erased items _) (Nat.le_succ_of_le hs1)
  wp_walk using(wpAny_updateSeq hl rfl (hz:=hs1) (_hz':=hz')),wpAny_loadPart' hl
  exact⟨_,rfl,h⟩
section
variable{o r:Ep}{F F':Fg}{P:PX}{name:Str}
theorem vU{id:String}{B0:Builtin}{a:Ad}{ob:Obj}{vs:Array Vl}{f:Array Vl->Array Vl}{u:Vl}(ho:cB hg n env F ρ o fun O v F'=>F'=F/\v= .ref a)(hob:F a=some ob)(hl:LO ob vs)
  (hslot:Slot "list" name id)(hty:typeOf (.builtin id)=pure (.type "method_descriptor"))(hentry:entryFor table id=some B0)(hargs:argsOk id ⟨[.ref a],[]⟩)
  (hm:∀m dd sl,Meets (B0 ⟨[.ref a],[]⟩) (fun O R s=>s.heap.get? a=some {cls:=.type "list",dict:=dd,data:=.seq vs m,slots:=sl}/\R (.ok (.ret u)) {s with heap:=s.heap.update a (Obj.mapSeq f)}))(pl:Sem Bool)
  (hev:autoParam (cF o name pl pa pc [] env) Rf):cB hg n env F ρ (.Call (.Attribute o name pa) [] [] pc) (fun O v F'=>v=u/\∃o',LO o' (f vs)/\F'=F.put a o'):=fun A fr hb hm' s Q E ok S B h=>by
 rw[hev]
 refine wBi (ho A fr hb hm' s _ E ok S B fun v F1 h₁ hm1 hb1 tk1 st1 B1 p1=>?_)
 obtain⟨rfl,rfl⟩:=p1
 obtain⟨l1,l2,k,l3⟩:=hl
 have L:PL h₁ a vs:=⟨ob,B1.at_ _ _ hob,l1,l2,k,l3⟩
 refine wBi (wpAny_standAt (wBi (wpAny_holding (getMethod_builtin (s:=(aA s h₁ tk1)) L.isList.typeIs PySem.F.plainAttrs_list hslot hty (fun b eb=>by injection eb with eb;subst eb;exact⟨ob,B1.at_ _ _ hob,l2⟩) ?_))))
 obtain⟨o',ho',q1,q2,q3⟩:=gf L f
 have hob':h₁.get? a=some {cls:=.type "list",dict:=ob.dict,data:=.seq vs k,slots:=ob.slots}:=by
  rw[B1.at_ _ _ hob,<-l1,<-l3]
 show wA _ _ (callWith pc (.builtin id) [.ref a] [] []) Q E _
 exact seqMethod0_meets (s:=(aA s h₁ tk1)) hslot hentry L.isList.typeIs hargs (hm k ob.dict ob.slots) ⟨hob',h _ _ _ hm1 hb1 tk1 st1 (B1.changeX hob (fun b x q e=>(Hp.get?_update_ne _ _ _ _ q).trans e) ho') ⟨rfl,o',⟨q1,q2,q3⟩,rfl⟩⟩
theorem wG{a:Ad}{ob:Obj}{vs:Array Vl}(ho:cB hg n env F ρ o fun O v F'=>F'=F/\v= .ref a)(hob:F a=some ob)(hl:LO ob vs)(hz:vs.size<=1000)(pl:Sem Bool)
  (hev:autoParam (cF o ("clear":Str) pl pa pc [] env) Rf):cB hg n env F ρ (.Call (.Attribute o ("clear":Str) pa) [] [] pc) (fun O v F'=>v= .none/\∃o',LO o' #[]/\F'=F.put a o'):=
 vU ho hob hl PySem.F.slot_list_clear PySem.F.type_list_clear PySem.F.entry_list_clear (PySem.F.args_list_clear_1 _) (fun m dd sl=>nA a vs m dd sl (by rw[sizeLine_eq];exact Nat.le_trans ‹_› (by decide))) pl hev
theorem nZ{x:Str}{px:Pos}{f:Vl}{es:List Ep}{Fs:List FP}{P:Hp->Vl->Fg->Prop}(hf:cB hg n env F ρ (.Name x px) fun O v F'=>F'=F/\v=f)(c:ft hg f)(ha:gG hg n env F ρ (e::es) Fs)(hc:rm hg n F f Fs P)
  (hn:autoParam (sE (e::es) env=(false,eval e env)::sE es env) Rf)(hplain:autoParam ((backTo pc (sE es env)).any (·.1)=false) Rf):cB hg n env F ρ (.Call (.Name x px) (e::es) [] pc) P:=fun A fr hb hm s Q E ok S B h=>by
 refine wpAny_Call_NameR (hf A fr hb hm s _ E ok S B fun v F1 h₁ hm1 hb1 tk1 st1 B1 p1=>?_)
 obtain⟨rfl,rfl⟩:=p1
 have S1:=S.step st1
 have hargs:=ha pc A fr hb1 hm1 (aA s h₁ tk1) (fun vs s₂=>hg.StaysIn s₂.heap/\wA MD A (call v ([] ++vs)) Q E s₂) E ok S1 B1 fun vs h2 hm2 hb2 tk2 st2 B2 r2=>by
  have S2:=S1.step st2
  exact⟨fun b o q=>B2.sub b o (S2.b b o (S2.g b o q)),hc A fr hb2 hm2 (aA s h2 tk2) vs Q E ok S2.g S2.b S2.f B2 (fj r2) fun v' F' h' hm' hb' tk st3 B3 p3=>h v' F' h' hm' hb' tk (st1.trans (st2.trans st3)) B3 p3⟩
 rw[hn]at hargs⊢
 exact bh c hplain hargs
theorem ae.put0{F:Fg}{h hm hb h':Hp}{o:Obj}(B:ae F h hm)(k:hb.StaysIn hm)(hk:∀b o,h.get? b=some o->h'.get? b=some o){a:Ad}(ha:h'.get? a=some o)(hn:h.get? a=none):X2 fun hm' hb'=>A3 (ae F h' hm') (ay hm hb hm' hb') (hb'.get? a=some o):=by
 have fa:F a=none:=by
  cases q:F a with
  |none=>rfl
  |some o=>have:=B.at_ _ _ q;rw[hn]at this;cases this
 have ma:=am B.sub hn
 obtain⟨hm2,B2,st2,w2⟩:=B.worked (I:=a) (h':=h') k (fun o e=>by rw[hn]at e;cases e) fa (am k ma) fun b o O e=>hk b o e
 obtain⟨hb2,st3,w3,_⟩:=iV st2.up st2.stay (fun b=>b=a) fun b hb=>hb▸eO.of_none ma
 exact⟨hm2,hb2,B2,st3,(w3 _ rfl).trans ((w2 _ fa).trans ha)⟩
theorem um{a:Ad}{ob:Obj}{vs:Array Vl}{ds:List PyD}(hob:F a=some ob)(hl:LO ob vs)(ia:∀g:Hp,∃as,ReadsAll g vs.toList ds as)(hz:vs.size<=1000):rm hg n F (.type "tuple") [RV (.ref a)] fun hb v F'=>F'=F/\(DV (.tuple ds)).P hb v:=fun A fr hb hm s us Q E ok sg sb ff B al h=>by
 obtain⟨v,rfl,r⟩:=al.one
 obtain rfl:v= .ref a:=r
 obtain⟨l1,l2,k,l3⟩:=hl
 refine call_tuple_list (l:=a) (items:=vs) ⟨ob,B.at_ _ _ hob,l1,k,l3⟩ (fun h₁ hk=>?_) (by rw[sizeLine_eq];exact Nat.le_trans ‹_› (by decide))
 have hn:s.heap.get? h₁.objs.size=none:=by
  cases q:s.heap.get? h₁.objs.size with
  |none=>rfl
  |some o=>exact absurd (Hp.lt_size (hk _ _ q)) (Nat.lt_irrefl _)
 obtain⟨hm',hb',B',st',e'⟩:=B.put0 (h':=h₁.push {cls:=.type "tuple",data:=.seq vs}) sb (fun b o e=>Hp.get?_push_of_some _ (hk b o e)) (Hp.get?_push_size _ rfl) hn
 obtain⟨as,hr⟩:=ia hb'
 exact h _ F _ hm' hb' s.toks st' B' ⟨rfl,_,.tuple e' rfl rfl hr⟩
end
end
theorem fH:entryFor table "dict_valueiterator.__iter__"=some Builtin.«dict_keyiterator.__iter__»:=
 entryFor_alias (id':="dict_keyiterator.__iter__") (by rw[fastTable_eq_tree];kernel_rfl) (by first|rfl|decide +kernel) (by decide +kernel) (by rw[fastTable_eq_tree];kernel_rfl)
section
variable{o r:Ep}{F F':Fg}{P:PX}{name:Str}
theorem wn{A:Ar}(hh:A.handled=none){x:Str}{px:Pos}{I d:Ad}{od:Obj}{kvs:List (Int×Vl)}{es:Array DictEntry}{ep:Nat}{hbI:Hp}(hd:hbI.get? d=some od)(hx:(od.ExactDict/\od.data= .dict es ep/\KeysOf (intKind PG W0) es/\Pairs (intKind PG W0) es.toList kvs/\(kvs.map (·.1)).Nodup)):
  BS A (.Name x px) I [] [I] hbI (kvs.map fun kv=>RV kv.2) fun i h=>h.IsValIter I d i kvs.length ep:=by
 have da:∀{h:Hp},hbI.StaysIn h->DA h d kvs ep:=fun{h} k=>⟨od,es,k _ _ hd,hx⟩
 refine⟨fun i h h' ⟨o,ho,hc,hf⟩ up k=>⟨o,k I (.head _) o ho,hc,hf⟩,fun i h ⟨o,ho,_,hf⟩ b hb=>⟨o,_,by rw[List.mem_singleton.mp hb];exact ho,hf⟩,fun i G hb s Q E hi it kb ks hw h=>?_,fun hb s Q E kb ks it h=>?_,fun i s Q E it h=>?_⟩
 ·rw[List.getElem?_map]at hi
  cases q:kvs[i]? with
  |none=>rw[q]at hi;cases hi
  |some kv=>
   rw[q]at hi;cases hi
   obtain⟨k,v⟩:=kv
   refine wpAny_pyNext_values_item (knd:=intKind PG W0) it (da fun b o e=>ks b o (kb b o e)) q fun h' it' hs=>⟨v,rfl,wP ?_⟩
   obtain⟨oI,hoI,hcI,hdI⟩:=it
   have kk:∀b o,b∉[I]->s.heap.get? b=some o->h'.get? b=some o:=fun b o nb e=>hs.extBut b o (fun z=>nb (by simp[z])) e
   exact h v h' hb s.toks (cZ ks kk (fun b hb=>⟨oI,_,by rw[List.mem_singleton.mp hb];exact hoI,hdI⟩) hw) kk hw rfl it'
 ·rw[List.length_map]at it
  exact wpAny_pyNext_values_end (knd:=intKind PG W0) hh it (da fun b o e=>ks b o (kb b o e)) (List.getElem?_eq_none_iff.mpr (Nat.le_refl _)) fun h' k=>h h' s.toks fun b o nb e=>k b o (fun z=>nb (by simp[z])) e
 ·have hT:s.TypeIs (.ref I) "dict_valueiterator":=it.typeIs
  refine wpAny_pyIter_slot hT PySem.F.slot_dict_valueiterator_iter (wpAny_call_entry PySem.F.slot_dict_valueiterator_iter hT fH ?_ (PySem.F.args_dict_valueiterator_iter_1 _))
  show wA _ _ (ret (.ref I)) _ _ s
  exact wP ⟨_,rfl,"dict_valueiterator",_,hT,PySem.F.slot_dict_valueiterator_next.lookup,h⟩
theorem qC{x:Str}{px:Pos}{d:Ad}{od:Obj}{kvs:List (Int×Vl)}(lo:(d==sysModules)=false)(hd0:hg.get? d=some od)(hd:od.IsDictOf (intKind PG W0) kvs)(ho:Ev hg n env ρ o (RF (RV (.ref d))))(pl:Sem Bool)
  (hev:autoParam (cF o ("values":Str) pl pa pc [] env) Rf):qG hg n env ρ (.Call (.Attribute o ("values":Str) pa) [] [] pc) (.Name x px) (kvs.map fun kv=>RV kv.2):=fun A fr hb s Q E ok S h=>by
 rw[hev]
 refine wBi (ho A fr hb s _ E ok S fun v h₁ hb1 tk1 st1 r1=>?_)
 obtain rfl:v= .ref d:=r1
 have S1:=S.step st1
 obtain⟨es,ep,hx⟩:=hd
 have hb1d:hb1.get? d=some od:=S1.g _ _ hd0
 have D:h₁.DictOf (intKind PG W0) d kvs:=⟨od,es,ep,S1.b _ _ hb1d,hx⟩
 refine wBi (wpAny_standAt (wBi (wpAny_holding (getMethod_builtin (s:=(aA s h₁ tk1)) D.typeIs PySem.F.plainAttrs_dict PySem.F.slot_dict_values PySem.F.type_dict_values D.mapOf.noDict ?_))))
 show wA _ _ (callWith pc (.builtin "dict.values") [.ref d] [] []) _ E _
 refine method_meetsIn PySem.F.slot_dict_values PySem.F.entry_dict_values rfl (PySem.evalArgs_none ⟨rfl,D.typeIs,PySem.F.args_dict_values_1 _,_,meets_dict_values (intKind PG W0) d lo,⟨kvs,D⟩,?_⟩)
 have DA1:DA h₁ d kvs ep:=⟨od,es,S1.b _ _ hb1d,hx⟩
 show wA _ _ (pyIter _) Q E _
 refine wpAny_pyIter_values (knd:=intKind PG W0) (d:=d) ⟨_,Hp.get?_push_size _ rfl,rfl,rfl⟩ (DA1.push _) ?_
 have st2:=aL {cls:=.type "dict_values",data:=.fields #[.ref d]} st1.stay
 have st3:=aL {cls:=.type "dict_valueiterator",data:=.fields #[.ref d,.int 0 0,.int kvs.length 0,.int ep 0]} st2.stay
 refine h _ [] [(h₁.push {cls:=.type "dict_values",data:=.fields #[.ref d]}).objs.size] _ _ hb1 tk1 (st1.trans (st2.trans st3)) (wn ok.h hb1d hx) ⟨_,Hp.get?_push_size _ rfl,rfl,rfl⟩ (fun b hb=>?_) fun b hb=>by cases hb
 rw[List.mem_singleton.mp hb];exact Hp.StaysIn.fresh st2.stay
end
noncomputable def lW(o:Obj)(S:Int->Bool)(n:Nat):Prop:=
 X3 fun es ep t=>(o.ExactSet/\o.data= .set es ep t/\ElemsOf (intKind PG W0) es.toList/\(∀k,S k=true↔∃e∈es.toList,(intKind PG W0).is k e.2=true)/\es.size<scanBound/\t.fits es.size=true/\es.size=n)
theorem kq{h:Hp}{a:Ad}{S:Int->Bool}{n:Nat}:h.SetOf (intKind PG W0) a S n↔∃o,h.get? a=some o/\lW o S n:=
 ⟨fun⟨o,es,ep,t,ho,r⟩=>⟨o,ho,es,ep,t,r⟩,fun⟨o,ho,es,ep,t,r⟩=>⟨o,es,ep,t,ho,r⟩⟩
section
variable{o i l r:Ep}{F F':Fg}{P:PX}{name:Str}{PV:Hp->Vl->Fg->Prop}
theorem yx{x:Str}{px:Pos}(hf:cB hg n env F ρ (.Name x px) fun O v F'=>F'=F/\v= .type "set"):cB hg n env F ρ (.Call (.Name x px) [] [] pc) fun O v F'=>X2 fun a o=>A4 (v= .ref a) (F a=none) (lW o (fun O=>false) 0) (F'=F.put a o):=fun A fr hb hm s Q E ok S B h=>by
 refine Call_Name0 (hf A fr hb hm s _ E ok S B fun v F1 h₁ hm1 hb1 tk1 st1 B1 p1=>?_)
 obtain⟨rfl,rfl⟩:=p1
 refine PyProof.Rows.callWith_type rfl (evalArgs_nil3 (call_set_0 fun led=>?_))
 obtain⟨B',f⟩:=B1.fresh {cls:=.type "set",dict:=none,data:=.set #[] 0 (.fresh 0 0 led)} rfl
 exact h _ _ _ hm1 hb1 tk1 st1 B' ⟨_,_,rfl,f,⟨#[],0,_,⟨rfl,rfl,rfl⟩,rfl,fun e he=>(by simp at he),fun k=>by simp,by decide,by rfl,rfl⟩,rfl⟩
theorem sV{a:Ad}{ob:Obj}{S:Int->Bool}{m:Nat}{k:Int}(ho:cB hg n env F ρ o fun O v F'=>F'=F/\v= .ref a)(hob:F a=some ob)(hl:lW ob S m)(hz:m<=1000)(he:cB hg n env F ρ e fun hb v F'=>F'=F/\(DV (.int k)).P hb v)(pl:Sem Bool)
  (hev:autoParam (cF o ("add":Str) pl pa pc [e] env) Rf)
  (hn:autoParam (sE [e] env=(false,eval e env)::sE [] env) Rf):cB hg n env F ρ (.Call (.Attribute o ("add":Str) pa) [e] [] pc) (fun hb u F'=>u= .none/\∃o',lW o' (fun k'=>S k'||decide (k'=k)) (if S k then m else m +1)/\F'=F.put a o'):=fun A fr hb hm s Q E ok Sx B h=>by
 rw[hev]
 refine wBi (ho A fr hb hm s _ E ok Sx B fun v F1 h₁ hm1 hb1 tk1 st1 B1 p1=>?_)
 obtain⟨rfl,rfl⟩:=p1
 have S1:=Sx.step st1
 have L:∀{h hm},ae F1 h hm->h.SetOf (intKind PG W0) a S m:=fun{h hm} B=>kq.mpr ⟨ob,B.at_ _ _ hob,hl⟩
 refine wBi (wpAny_standAt (wBi (wpAny_holding (getMethod_set_add (s:=(aA s h₁ tk1)) (L B1) ?_))))
 have key:=aW he bE hn pc A fr hb1 hm1 (aA s h₁ tk1) (fun us s₁=>hg.StaysIn s₁.heap/\wA MD A (call (.builtin "set.add") ([.ref a] ++us)) Q E s₁) E ok S1 B1 fun us h2 hm2 hb2 tk2 st2 B2 r2=>by
  obtain⟨v,rfl,rv⟩:=r2.one
  obtain⟨t,rfl⟩:=aj rv
  have S2:=S1.step st2
  refine⟨fun b o e=>B2.sub b o (S2.b b o (S2.g b o e)),?_⟩
  refine call_set_add (s:=(aA s h2 tk2)) (intKind_is PG W0 k t) rfl (L B2) (by unfold scanBound;omega) fun h3 k3 so3=>?_
  obtain⟨o',ho',so'⟩:=kq.mp so3
  exact h .none _ h3 hm2 hb2 _ (st1.trans st2) (B2.changeX hob (fun b u q e=>(k3.2 b q).trans e) ho') ⟨rfl,o',so',rfl⟩
 rw[hn]at key
 rw[hn]
 exact bh (hg:=hg) (.builtin "set.add") rfl key
theorem vJ{a:Ad}{ob:Obj}{S:Int->Bool}{m:Nat}{k:Int}(hob:hg.get? a=some ob)(hl:lW ob S m):ic hg n (compareOp .In) (RF (DV (.int k))) (RF (RV (.ref a))) (RF (DV (.bool (S k)))):=fun A fr h₀ h₁ hb s x y Q E O sg st O rx ry h=>by
 obtain⟨t,rfl⟩:=aj rx
 obtain rfl:y= .ref a:=ry
 exact wpAny_inSet_of (intKind_is PG W0 k t) rfl (kq.mpr ⟨ob,st _ _ (sg _ _ hob),hl⟩) (h _ s.heap hb _ (.refl st) bp)
theorem t7{d:Ad}{od:Obj}{kvs:List (Int×Vl)}{k:Int}(lo:(d==sysModules)=false)(hob:hg.get? d=some od)(hd:od.IsDictOf (intKind PG W0) kvs):ic hg n (compareOp .In) (RF (DV (.int k))) (RF (RV (.ref d))) (RF (DV (.bool (valueAt kvs k).isSome))):=fun A fr h₀ h₁ hb s x y Q E O sg st O rx ry h=>by
 obtain⟨t,rfl⟩:=aj rx
 obtain rfl:y= .ref d:=ry
 have hD:s.heap.DictOf (intKind PG W0) d kvs:=Hp.dictOf_iff.mpr ⟨od,st _ _ (sg _ _ hob),hd⟩
 exact wpAny_in_of (intKind_is PG W0 k t) lo hD.mapOf (h _ s.heap hb _ (.refl st) bp)
theorem vr{ps:Pos}(he:cB hg n env F ρ e PV)
  (hp:∀h v F1,PV h v F1->X4 fun d od kvs k=>A6 (∀hp,hg.StaysIn hp->lz F1 hp->Ev hp n env ρ o (RF (RV (.ref d)))) (∀hp,hg.StaysIn hp->lz F1 hp->Ev hp n env ρ i (RF (DV (.int k)))) (F1 d=some od) (od.IsDictOf (intKind PG W0) kvs) (kvs.length<=1000) (∀o',o'.IsDictOf (intKind PG W0) (stored kvs k v)->P.next ρ (F1.put d o')))
  (hs:autoParam (swapsWith e (some (.Subscript o i ps)) pos.line env=pure false) Rf):
  XX hg n env F ρ (.Assign [.Subscript o i ps] e pos) P:=fun A fr h₀ hb₀ hb hm s Q E ok Rl B h=>by
 refine wpAny_Assign_Subscript (hs:=hs) (he A fr hb hm s _ E ok Rl.s B fun v F1 h₁ hm1 hb1 tk1 st1 B1 p1=>?_)
 obtain⟨d,od,kvs,k,ho,hi,e1,e2,e3,e4⟩:=hp _ _ _ p1
 have R1:=Rl.step st1
 refine aV ho fA A fr hb1 hm1 (aA s h₁ tk1) _ E ok R1.s B1 fun ov F2 h2 hm2 hb2 tk2 st2 B2 p2=>?_
 obtain⟨rfl,rfl⟩:=p2
 have R2:=R1.step st2
 refine aV hi e7 A fr hb2 hm2 (aA s h2 tk2) _ E ok R2.s B2 fun iv F3 h3 hm3 hb3 tk3 st3 B3 p3=>?_
 obtain⟨rfl,t,rfl⟩:=p3
 have R3:=R2.step st3
 refine kw (s:=(aA s h3 tk3)) e1 e2 e3 B3 fun h4 o' tk4 hd B4=>?_
 exact h .next _ h4 hm3 hb3 tk4 B4 (.inl ⟨rfl,_,e4 o' hd,R3⟩) fun b o e=>st3.sub b o (st2.sub b o (st1.sub b o e))
theorem wK{A:Ar}{hm:Hp}{s:SD}{Q:Unit->SD->Prop}{E:VS}{d:Ad}{o:Obj}{kvs:List (Int×Vl)}{k:Int}{t:Tok}(ho:F d=some o)(hd:o.IsDictOf (intKind PG W0) kvs)(hz:kvs.length<=1000)(hl:(valueAt kvs k).isSome=true)(B:ae F s.heap hm)
  (h:∀h' o' tk,o'.IsDictOf (intKind PG W0) (without kvs k)->ae (F.put d o') h' hm->Q () (aA s h' tk)):wA MD A (delItem (.ref d) (.int k t)) Q E s:=by
 have hD:s.heap.DictOf (intKind PG W0) d kvs:=Hp.dictOf_iff.mpr ⟨o,B.at_ _ _ ho,hd⟩
 unfold delItem
 try with_reducible refine wpAny_holding ?_
 refine wBi (wpAny_sequenceKey hD.typeIs (by decide) ?_)
 refine wBi (wpAny_callSpecial?_slot (name:=Str.ofString "__delitem__") hD.typeIs PySem.F.slot_dict_delitem
  (call_meetsIn PySem.F.slot_dict_delitem hD.typeIs PySem.F.entry_dict_delitem (PySem.F.args_dict_delitem_2 _ _) (meets_dict_delitem_pairs (intKind PG W0) d (intKind_is PG W0 k t)) ⟨kvs,hD,(by rw[sizeLine_eq];exact Nat.le_trans ‹_› (by decide)),hl,fun h' hmm hs=>?_⟩))
 obtain⟨o',ho',hd'⟩:=Hp.dictOf_iff.mp hmm
 exact wP (h h' o' _ hd' (B.change ho (fun b q=>hs.2 b q) ho'))
end
theorem gB:Slot "list_iterator" "__getattribute__" "object.__getattribute__":=.of (owner:="object") (n:="__getattribute__") (by rw[typeLookup_type,builtinLookup_eq_fast];kernel_rfl) (by decide +kernel) (by decide +kernel) (by decide +kernel)
  (by first|exact .inl (by decide +kernel)|exact .inr (by decide +kernel)) (by rw[isSubtype_type];kernel_rfl)
theorem uH:typeOf (.builtin "list_iterator.__next__")=pure (.type "wrapper_descriptor"):=by show builtinType _=_;rw[builtinType_eq_fast];kernel_rfl
theorem Ba:typeLookup (.type "wrapper_descriptor") "__get__"=pure (some (.builtin "wrapper_descriptor.__get__")):=by rw[typeLookup_type,builtinLookup_eq_fast];kernel_rfl
theorem Bu:typeLookup (.type "wrapper_descriptor") "__set__"=pure none:=by rw[typeLookup_type,builtinLookup_eq_fast];kernel_rfl
theorem BD:typeLookup (.type "wrapper_descriptor") "__delete__"=pure none:=by rw[typeLookup_type,builtinLookup_eq_fast];kernel_rfl
noncomputable def dS(it:Ad):Obj:={cls:=.type "method-wrapper",data:=.fields #[.builtin "list_iterator.__next__",.ref it]}
noncomputable def cI(l:Ad)(i:Int):Obj:={cls:=.type "list_iterator",data:=.fields #[.ref l,.int i 0]}
section
variable{A:Ar}{E:VS}
theorem rG:Slot "wrapper_descriptor" "__get__" "wrapper_descriptor.__get__":=
 .of (owner:="wrapper_descriptor") (n:="__get__") (by rw[typeLookup_type,builtinLookup_eq_fast];kernel_rfl) (by decide +kernel) (by decide +kernel) (by decide +kernel)
  (by first|exact .inl (by decide +kernel)|exact .inr (by decide +kernel)) (by rw[isSubtype_type];kernel_rfl)
theorem pG:entryFor table "wrapper_descriptor.__get__"=some Builtin.«wrapper_descriptor.__get__»:=entryFor_of_tree (by kernel_rfl)
theorem qg(a b c:Vl):argsOk "wrapper_descriptor.__get__" ⟨[a,b,c],[]⟩:=by unfold argsOk;kernel_rfl
theorem Bf:isSubtype (.type "list_iterator") (.type "list_iterator")=pure true:=by rw[isSubtype_type];kernel_rfl
theorem Bw{s:SD}{it:Ad}{P:Fin->SD->Prop}(hT:s.TypeIs (.ref it) "list_iterator")(h:P (.done (.ret (.ref s.heap.objs.size))) {s with heap:=s.heap.push (dS it)}):
  wA MD A (Builtin.«wrapper_descriptor.__get__» ⟨[.builtin "list_iterator.__next__",.ref it,.type "list_iterator"],[]⟩) P E s:=by
 unfold Builtin.«wrapper_descriptor.__get__»
 refine wBi (wpAny_of_eq (a:=(.builtin "list_iterator.__next__",some (.ref it),some (.type "list_iterator"))) (by first|rfl|kernel_rfl) ?_)
 refine wBi (wBi (wpAny_of_eq (a:=(("__next__":Str),.type "list_iterator")) (by first|rfl|kernel_rfl) ?_))
 refine wBi (wpAny_isInstance hT Bf ?_)
 refine wP ?_
 exact wBi (wpAny_newObj_type (wP h))
theorem vn{s:SD}{it l:Ad}{i:Int}{Q:Builtin.ObjectAttr.Found->SD->Prop}(hx:s.heap.get? it=some {cls:=.type "list_iterator",data:=.fields #[.ref l,.int i 0]})
  (h:Q (.bind (.builtin "wrapper_descriptor.__get__") (.builtin "list_iterator.__next__")) s):wA MD A (Builtin.ObjectAttr.find (.ref it) (.type "list_iterator") ("__next__":Str)) Q E s:=by
 have f5:=slot_listiter_next.lookup
 have f6:=uH
 have f7:=Ba
 have f8:=Bu
 have f9:=BD
 unfold Builtin.ObjectAttr.find
 repeat (any_goals (first|assumption|wp_step))
theorem zk{s:SD}{it l:Ad}{i:Int}{k:Tok}{Q:Fin->SD->Prop}(hx:s.heap.get? it=some {cls:=.type "list_iterator",data:=.fields #[.ref l,.int i 0]})
  (h:Q (.done (.ret (.ref s.heap.objs.size))) {s with heap:=s.heap.push (dS it)}):wA MD A (Builtin.«object.__getattribute__» ⟨[.ref it,.str ("__next__":Str) k],[]⟩) Q E s:=by
 have hT:s.TypeIs (.ref it) "list_iterator":=⟨_,hx,rfl⟩
 unfold Builtin.«object.__getattribute__»
 refine wBi (wpAny_of_eq (a:=(.ref it,[.str ("__next__":Str) k])) (by first|rfl|kernel_rfl) ?_)
 refine wBi (wpAny_of_eq (a:=("__next__":Str)) (by first|rfl|kernel_rfl) ?_)
 refine wBi (wpAny_typeOf hT ?_)
 refine wBi (vn hx ?_)
 show wA _ _ (Builtin.ObjectAttr.bindTo _ _ _ _) _ _ _
 unfold Builtin.ObjectAttr.bindTo
 refine wBi (wpAny_holding (wpAny_call_entry rG uH pG (Bw hT ⟨_,rfl,wP h⟩) (qg _ _ _)))
theorem o8{s:SD}{it l:Ad}{i:Int}{Q:VS}(hx:s.heap.get? it=some (cI l i))
  (h:∀k,Q (.ref s.heap.objs.size) (aA s (s.heap.push (dS it)) k)):wA MD A (getAttr (.ref it) ("__next__":Str) true) Q E s:=by
 obtain⟨hp,g,d,tk,os⟩:=s
 replace hx:(⟨hp,g,d,tk,os⟩:SD).heap.get? it=some {cls:=.type "list_iterator",data:=.fields #[.ref l,.int i 0]}:=hx
 have hT:∀tk',(⟨hp,g,d,tk',os⟩:SD).TypeIs (.ref it) "list_iterator":=fun O=>⟨_,hx,rfl⟩
 have f3:=gB.lookup
 have f4:=gB.bind (.ref it)
 unfold getAttr getAttrBy
 repeat (any_goals (first|assumption|exact hT _|wp_step))
 refine codeAny_call_builtin gB.plain PySem.F.entry_object_getattribute (gB.check _ _ _ _ _ _ _ _ (hT _) (PySem.F.args_object_getattribute_2 _ _) ?_)
 exact zk hx (wP (h _))
theorem xV{as:PySem.Args}:(Code.builtin "list_iterator.__next__" as).quiet=true:=Code.quiet_builtin _ (by decide +kernel)
theorem yH{a:Ad}:checkBoundCall "list_iterator.__next__" ⟨[.ref a],[]⟩=pure ():=by first|kernel_rfl|rfl
theorem AI{α:Type}{M:Model}{s:SD}{c:Bool}{a b:Sem α}{Q:α->SD->Prop}(hc:c=true)(h:wA M A a Q E s):wA M A (if c=true then a else b) Q E s:=by
 subst hc
 exact h
theorem zv{s:SD}{m it:Ad}{Q:VS}(hm:s.heap.get? m=some (dS it))
  (h:∀{A':Ar}{P:Fin->SD->Prop}{E':VS},A'.handled=A.handled->(∀v s',Q v s'->P (.done (.ret v)) s')->(∀v s',E v s'->E' v s')->wA MD A' (Builtin.«list_iterator.__next__» ⟨[.ref it],[]⟩) P E' s):wA MD A (call (.ref m) []) Q E s:=by
 refine wpAny_call (codeAny_of_tree ?_)
 show wA _ A.in1 (callAny (.ref m) ⟨[],[]⟩) _ _ s
 simp only[callAny]
 refine wBi (wpAny_load hm ?_)
 simp only[dS,show(Vl.type "method-wrapper"==Vl.type "method"||Vl.type "method-wrapper"==Vl.type "builtin_function_or_method"||Vl.type "method-wrapper"==Vl.type "method-wrapper")=true by decide,if_true]
 refine AI (by decide) ?_
 refine wBi (wpAny_of_eq (a:=()) yH ?_)
 refine wBi (wP (wP ?_))
 exact⟨xV,codeAny_builtin entry_listiter_next (h rfl (fun O O q=>q) fun O O q=>q)⟩
theorem zq{s:SD}{it l:Ad}{i:Nat}{items:Array Vl}{x:Vl}{P:Fin->SD->Prop}(ho:s.heap.get? it=some (cI l i))(hl:s.heap.IsList l items)(hx:items[i]?=some x)
  (hQ:∀h',h'.get? it=some (cI l ((i +1:Nat):Int))->Hp.SameBut it s.heap h'->P (.done (.ret x)) {s with heap:=h'}):wA MD A (Builtin.«list_iterator.__next__» ⟨[.ref it],[]⟩) P E s:=by
 obtain⟨ol,hol,_,nl,hdl⟩:=hl
 have hd:(cI l i).data= .fields #[.ref l,.int i 0]:=rfl
 show wA _ _ (field (.ref it) 0>>=_) _ _ s
 refine wBi (wpAny_field ho hd (x:=.ref l) rfl ?_)
 show wA _ _ (if(Vl.ref l==Vl.none)=true then _ else _) _ _ s
 rw[if_neg (show¬((Vl.ref l==Vl.none)=true) from Bool.false_ne_true)]
 show wA _ _ (field (.ref it) 1>>=_) _ _ s
 refine wBi (wpAny_field ho hd (x:=.int i 0) rfl ?_)
 show wA _ _ (seqItems? (.ref l)>>=_) _ _ s
 refine wBi (wpAny_seqItems hol hdl ?_)
 simp only[Int.toNat_natCast,hx]
 exact wBi (wpAny_setField ho hd (by simp) (wP (hQ _ (Hp.get?_update_self _ ho rfl) (Hp.SameBut.update ..))))
noncomputable def sD(i:Int):Obj:={cls:=.type "list_iterator",data:=.fields #[.none,.int i 0]}
theorem Bn{s:SD}{it l:Ad}{i:Nat}{items:Array Vl}{P:Fin->SD->Prop}(hh:A.handled=none)(ho:s.heap.get? it=some (cI l i))(hl:s.heap.IsList l items)(hx:items[i]?=none)
  (hE:∀h₁ h' e,h₁.get? it=some (sD i)->Hp.SameBut it s.heap h₁->Hp.NewExc h₁ h' e "StopIteration"->E (.ref e) {s with heap:=h'}):wA MD A (Builtin.«list_iterator.__next__» ⟨[.ref it],[]⟩) P E s:=by
 obtain⟨ol,hol,_,nl,hdl⟩:=hl
 have hd:(cI l i).data= .fields #[.ref l,.int i 0]:=rfl
 show wA _ _ (field (.ref it) 0>>=_) _ _ s
 refine wBi (wpAny_field ho hd (x:=.ref l) rfl ?_)
 show wA _ _ (if(Vl.ref l==Vl.none)=true then _ else _) _ _ s
 rw[if_neg (show¬((Vl.ref l==Vl.none)=true) from Bool.false_ne_true)]
 show wA _ _ (field (.ref it) 1>>=_) _ _ s
 refine wBi (wpAny_field ho hd (x:=.int i 0) rfl ?_)
 show wA _ _ (seqItems? (.ref l)>>=_) _ _ s
 refine wBi (wpAny_seqItems hol hdl ?_)
 simp only[Int.toNat_natCast,hx]
 refine wBi (wpAny_rule (wBi (wpAny_setField ho hd (by simp) ?_)))
 show wA _ _ (newExc (.type "StopIteration") []>>=_) _ _ _
 refine wBi ?_
 simp only[newExc,newTuple]
 refine wBi (wpAny_newObj_type ?_ (by size_fits))
 refine wBi (m:=firstArgMember _ _) (wpAny_of_eq (a:=Vl.none) (by first|rfl|(simp only[firstArgMember];rfl)) ?_)
 refine wpAny_newObj_type ?_ (by size_fits)
 simp only[raiseNew]
 refine wBi (wpAny_handled ?_)
 rw[hh]
 refine wBi (wP (wpAny_throw (hE _ _ _ (Hp.get?_update_self _ ho rfl) (Hp.SameBut.update ..) ⟨fun b o q=>Hp.get?_push_of_some _ (Hp.get?_push_of_some _ q),Hp.get?_none_of_le (by simp),_,_,Hp.get?_push_size _ rfl,rfl,rfl⟩)))
end
section
variable{o i l r:Ep}{F F':Fg}{P:PX}{name:Str}{PV:Hp->Vl->Fg->Prop}
theorem vH{a:Ad}{ob:Obj}{vs:Array Vl}(hob:F a=some ob)(hl:LO ob vs):rm hg n F (.builtin "iter") [RV (.ref a)] fun O v F'=>∃it,A3 (v= .ref it) (F it=none) (F'=F.put it (cI a 0)):=fun A fr hb hm s us Q E ok sg sb ff B al h=>by
 obtain⟨v,rfl,r⟩:=al.one
 obtain rfl:v= .ref a:=r
 obtain⟨l1,l2,k,l3⟩:=hl
 refine call_function_entry (by decide +kernel) (by decide +kernel) kdk_entry_iter (kdk_args_iter _) ?_
 unfold Builtin.«iter»
 refine wBi (m:=someArgs "iter" 1 2 _) (wpAny_of_eq (a:=[Vl.ref a]) (by first|rfl|kernel_rfl!) ?_)
 show wA _ _ (pyIter (.ref a)>>=_) _ _ _
 obtain⟨B',f⟩:=B.fresh (cI a 0) rfl
 exact wBi (wpAny_pyIter_list ⟨ob,B.at_ _ _ hob,l1,k,l3⟩ (wP ⟨_,rfl,h _ _ _ hm hb s.toks (.refl sb) B' ⟨_,rfl,f,rfl⟩⟩))
theorem yc(ho:cB hg n env F ρ o PV)(hv:∀h v F',PV h v F'->X3 fun it l i=>v= .ref it/\F' it=some (cI l i))(hbase:autoParam (attributeBase o ("__next__":Str) env (eval o env)=eval o env) Rf):
  cB hg n env F ρ (.Attribute o ("__next__":Str) pos) fun O v F'=>X4 fun m it F1 h₁=>A4 (PV h₁ (.ref it) F1) (v= .ref m) (F1 m=none) (F'=F1.put m (dS it)):=fun A fr hb hm s Q E ok S B h=>by
 have key:=ho A fr hb hm s (fun v s₁=>wA MD A (getAttr v ("__next__":Str) true) Q E s₁) E ok S B fun v F1 h₁ hm1 hb1 tk1 st1 B1 p=>by
  obtain⟨it,l,i,rfl,e⟩:=hv _ _ _ p
  obtain⟨B',f⟩:=B1.fresh (dS it) rfl
  exact o8 (s:=(aA s h₁ tk1)) (B1.at_ _ _ e) fun k=>h _ _ _ hm1 hb1 k st1 B' ⟨_,it,F1,hb1,p,rfl,f,rfl⟩
 exact pz key hbase
theorem qD{a:Ad}{ob:Obj}{vs:Array Vl}(ho:cB hg n env F ρ o fun O v F'=>F'=F/\v= .ref a)(hob:F a=some ob)(hl:LO ob vs)(hz:vs.size<=1000)(he:cB hg n env F ρ e PV)(hk:∀h v F',PV h v F'->F' a=some ob)(pl:Sem Bool)
  (hev:autoParam (cF o ("append":Str) pl pa pc [e] env) Rf)
  (hn:autoParam (sE [e] env=(false,eval e env)::sE [] env) Rf):cB hg n env F ρ (.Call (.Attribute o ("append":Str) pa) [e] [] pc) (fun hb u F'=>u= .none/\X4 fun v o' F1 h₁=>A3 (PV h₁ v F1) (LO o' (vs.push v)) (F'=F1.put a o')):=fun A fr hb hm s Q E ok S B h=>by
 rw[hev]
 refine wBi (ho A fr hb hm s _ E ok S B fun v F1 h₁ hm1 hb1 tk1 st1 B1 p1=>?_)
 obtain⟨rfl,rfl⟩:=p1
 have S1:=S.step st1
 obtain⟨l1,l2,k,l3⟩:=hl
 have L:∀{h hm F2},F2 a=some ob->ae F2 h hm->PL h a vs:=fun{h hm F2} hob B=>⟨ob,B.at_ _ _ hob,l1,l2,k,l3⟩
 refine wBi (wpAny_standAt (wBi (wpAny_holding (getMethod_builtin (s:=(aA s h₁ tk1)) (L hob B1).isList.typeIs PySem.F.plainAttrs_list slot_list_append type_list_append (fun b eb=>by injection eb with eb;subst eb;exact⟨ob,B1.at_ _ _ hob,l2⟩) ?_))))
 have key:=wpAny_items_cons (he:=hn) (pos:=pc) (env:=env) (Q:=fun us s₁=>hg.StaysIn s₁.heap/\wA MD A (call (.builtin "list.append") ([.ref a] ++us)) Q E s₁) (he A fr hb1 hm1 (aA s h₁ tk1) _ E ok S1 B1 fun v F2 h2 hm2 hb2 tk2 st2 B2 p2=>by
  have S2:=S1.step st2
  have hob2:=hk _ _ _ p2
  refine wpAny_items_nil ⟨fun b o e=>B2.sub b o (S2.b b o (S2.g b o e)),?_⟩
  refine iq (s:=(aA s h2 tk2)) (L hob2 B2) (by exact Nat.le_trans ‹_› (by decide)) fun h3 pl3 k3=>?_
  obtain⟨o',ho',q1,q2,q3⟩:=pl3
  exact h .none _ h3 hm2 hb2 tk2 (st1.trans st2) (B2.changeX hob2 k3 ho') ⟨rfl,v,o',F2,hb2,p2,⟨q1,q2,q3⟩,rfl⟩)
 rw[hn]at key
 rw[hn]
 exact bh (hg:=hg) (.builtin "list.append") rfl key
end
section
variable{o i l r:Ep}{F F':Fg}{P:PX}{name:Str}{PV:Hp->Vl->Fg->Prop}
theorem qi{test:Ep}{body orelse:List Stmt}(J:Nat->LS->Fg->Prop){k₀:Nat}(j0:J k₀ ρ F)
  (hturn:∀k ρ1 F1,J k ρ1 F1->∃PB:Bool->Fg->Prop,A3 (s7 hg n env F1 ρ1 test PB) (∀F',PB true F'->ly hg n env F' ρ1 body {P with next:=fun ρ' F'=>∃m,m<k/\J m ρ' F',cont:=fun ρ' F'=>∃m,m<k/\J m ρ' F',brk:=P.next}) (∀F',PB false F'->ly hg n env F' ρ1 orelse P)):
  XX hg n env F ρ (.While test body orelse pos) P:=fun A fr h₀ hb₀ hb hm s Q E ok Rl B h=>by
 have hA:A.mark none=A:=by
  obtain⟨_⟩:=A
  rfl
 refine wpAny_While ?_
 refine codeAny_whileLoop (fun k s'=>X6 fun ρ1 F1 hb2 hm2 h2 tk2=>A5 (s'=(aA s h2 tk2)) (J k ρ1 F1) (co hg h₀ hb₀ hb2 hm2 env fr ρ1) (ae F1 h2 hm2) (hb.StaysIn hb2)) ?_ k₀ ⟨ρ,F,hb,hm,s.heap,s.toks,rfl,j0,Rl,B,fun O O e=>e⟩
 rintro k s' ⟨ρ1,F1,hb2,hm2,h2,tk2,rfl,j,R2,B2,kb⟩
 obtain⟨PB,tv,ht,hf⟩:=hturn k ρ1 F1 j
 refine tv A fr hb2 hm2 (aA s h2 tk2) _ _ ok R2.s B2 fun b F3 h3 hm3 hb3 tk3 st3 B3 p=>?_
 have R3:=R2.step st3
 cases b with
 |true=>
  refine ht F3 p A fr h₀ hb₀ hb3 hm3 (aA s h3 tk3) _ _ ok R3 B3 fun f F4 h4 hm4 hb4 tk4 B4 out k4=>?_
  have all:hb.StaysIn hb4:=fun b o e=>k4 b o (st3.sub b o (kb b o e))
  rcases out with⟨rfl,ρ',⟨m,hm',q⟩,R'⟩|⟨rfl,ρ',q,R'⟩|⟨rfl,ρ',⟨m,hm',q⟩,R'⟩|⟨u,rfl,q,st'⟩
  ·exact⟨m,hm',ρ',F4,hb4,hm4,h4,tk4,rfl,q,R',B4,all⟩
  ·exact h .next F4 h4 hm4 hb4 tk4 B4 (.inl ⟨rfl,ρ',q,R'⟩) all
  ·exact⟨m,hm',ρ',F4,hb4,hm4,h4,tk4,rfl,q,R',B4,all⟩
  ·exact h _ F4 h4 hm4 hb4 tk4 B4 (.inr (.inr (.inr ⟨u,rfl,q,st'⟩))) all
 |false=>
  exact hf F3 p A fr h₀ hb₀ hb3 hm3 (aA s h3 tk3) _ _ ok R3 B3 fun f F4 h4 hm4 hb4 tk4 B4 out k4=>h f F4 h4 hm4 hb4 tk4 B4 out fun b o e=>k4 b o (st3.sub b o (kb b o e))
theorem xl(hp:P.brk ρ F):XX hg n env F ρ (.Break pos) P:=fun A fr h₀ hb₀ hb hm s Q E ok Rl B h=>by
 refine wpAny_Break ?_
 exact h _ F s.heap hm hb s.toks B (.inr (.inl ⟨rfl,ρ,hp,Rl⟩)) fun O O e=>e
theorem qr(hp:P.cont ρ F):XX hg n env F ρ (.Continue pos) P:=fun A fr h₀ hb₀ hb hm s Q E ok Rl B h=>by
 refine wpAny_Continue ?_
 exact h _ F s.heap hm hb s.toks B (.inr (.inr (.inl ⟨rfl,ρ,hp,Rl⟩))) fun O O e=>e
theorem uV{a:Ad}{ob:Obj}{vs:Array Vl}(he:Ev hg n env ρ e (RF (RV (.ref a))))(hob:hg.get? a=some ob)(hl:LO ob vs)(hz:vs.size<=1000000)(hq:autoParam (∀whole,isTrue e env whole=(do let v <-whole;standAt e.pos;holding [v] (truthy v))) If):Tv hg n env ρ e (!vs.isEmpty):=fun A fr hb s Q E ok S h=>by
 rw[hq]
 refine wBi (he A fr hb s _ E ok S fun v h₁ hb1 tk1 st1 r1=>?_)
 obtain rfl:v= .ref a:=r1
 have S1:=S.step st1
 obtain⟨l1,l2,k,l3⟩:=hl
 refine wBi (wpAny_standAt (wpAny_holding (wpAny_truthy_list (s:=(aA s h₁ tk1)) ⟨ob,S1.b _ _ (S1.g _ _ hob),l1,k,l3⟩ (Int.lt_of_le_of_lt (b:=1000000) (by exact BT ‹_›) (by decide)) (h h₁ hb1 _ st1))))
theorem zZ{a:Ad}{ob:Obj}{us:List Vl}{y:Vl}{c:Nat}{p1 p2:Pos}(he:Ev hg n env ρ e (RF (RV (.ref a))))(hob:hg.get? a=some ob)(hl:LO ob (us ++[y]).toArray):Ev hg n env ρ (.Subscript e (.UnaryOp .USub (.Constant (.int 1) c p1) p2) pos) (RF (RV y)):=by
 have hi:Ev hg n env ρ (.UnaryOp .USub (.Constant (.int 1) c p1) p2) (RF (DV (.int (-1)))):=fun A fr hb s Q E ok S h=>by
  refine wpAny_UnaryOp (aJ (i:=1) A fr hb s _ E ok S fun v h₁ hb1 tk1 st1 r1=>?_)
  obtain⟨t,rfl⟩:=aj r1
  exact P.neg_int (h _ h₁ hb1 _ st1 cQ)
 refine bq he hi fun A fr h₀ h₁ hb s a' b Q E ok sg st O ra rb h=>?_
 obtain rfl:a'= .ref a:=ra
 obtain⟨t,rfl⟩:=aj rb
 obtain⟨l1,l2,k,l3⟩:=hl
 have L:s.heap.IsList a (us ++[y]).toArray:=⟨ob,st _ _ (sg _ _ hob),l1,k,l3⟩
 refine⟨"list",_,L.typeIs,slot_list_getitem.lookup,wpAny_getItem_list_neg L (by decide) ?_ (by decide) (x:=y) ?_ (h y s.heap hb _ (.refl st) rfl)⟩
 ·simp
  exact Fu
 ·have:((-1:Int) +((us ++[y]).toArray.size:Nat)).toNat=us.length:=by simp;exact FH
  rw[this];simp
end
section
variable{o i l r:Ep}{F F':Fg}{P:PX}{name:Str}{PV:Hp->Vl->Fg->Prop}
theorem r8{m it:Ad}{A:Ar}{s:SD}{Q:VS}{E:VS}(hm:s.heap.get? m=some (dS it))(h:wA MD A (call (.ref m) []) Q E s):wA MD A (callWith pos (.ref m) [] [] []) Q E s:=by
 unfold callWith
 refine wBi (wpAny_holding (evalArgs_nil3 (wBi (wpAny_standAt ?_))))
 simp only[List.any_nil,Bool.or_false]
 refine wBi (m:=keeperOf (.ref m)) ?_
 unfold keeperOf
 refine wBi (wpAny_load hm ?_)
 simp only[dS,show(Vl.type "method-wrapper" !=Vl.type "method")=true by decide,show(Vl.type "method-wrapper"==Vl.type "builtin_function_or_method"||Vl.type "method-wrapper"==Vl.type "method-wrapper")=true by decide,if_true]
 refine wP ?_
 exact wBi (wpAny_mono h (fun r s₂ hr=>wBi (wpAny_holding (wpAny_point (wP hr)))) fun O O x=>x)
theorem wa{A:Ar}{s:SD}{Q:VS}{E:VS}{p:Pos}(h:wA MD A (eval (.Subscript o i p) env) (fun f s₁=>wA MD A (callWith pos f [] [] []) Q E s₁) E s):
  wA MD A (eval (.Call (.Subscript o i p) [] [] pos) env) Q E s:=wBi h
noncomputable def Eg(hg:Hp)(env:Env)(F:Fg)(ρ:LS)(ss:List Stmt)(N:Fg->Prop):Prop:=
 ∀(A:Ar)(fr:List Env)(h₀ hb₀ hb hm:Hp)(s:SD)(Q:Flow->SD->Prop)(E:VS),co hg h₀ hb₀ hb hm env fr ρ->ae F s.heap hm->
  (∀F' h' hm' hb' tk,ae F' h' hm'->N F'->co hg h₀ hb₀ hb' hm' env fr ρ->hb.StaysIn hb'->Q .next (aA s h' tk))->wA MD A (execs ss env) Q E s
theorem yW{x:Str}{px:Pos}{a:Ad}{ob:Obj}{us:List Vl}{y:Vl}{A:Ar}{fr:List Env}{hb hm:Hp}{s:SD}{Q:VS}{E:VS}(S:dc hg hb hm env fr ρ)(B:ae F s.heap hm)
  (hx:ρ.lookup x=some (.fz (RV (.ref a))))(hob:F a=some ob)(hl:LO ob (us ++[y]).toArray)(hz:us.length<=1000)(hd:(x==("__debug__":Str))=false)(pl:Sem Bool)
  (h:∀h' o',LO o' us.toArray->ae (F.put a o') h' hm->Q y {s with heap:=h'})
  (hev:autoParam (eval (.Call (.Attribute (.Name x px) ("pop":Str) pa) [] [] pc) env=(do
   let ov <-eval (.Name x px) env
   standAt pa.atName
   let(f,first) <-holding [ov] (getMethod ov ("pop":Str) pl)
   callWith pc f first (backTo pc (sE [] env)) [])) Rf):wA MD A (eval (.Call (.Attribute (.Name x px) ("pop":Str) pa) [] [] pc) env) Q E s:=by
 have e1:((us ++[y]).toArray.size - 1)=us.length:=by simp
 have e2:((us ++[y]).toArray).eraseIdxIfInBounds us.length=us.toArray:=by
  have:=kl_erase us [] y
  rw[List.append_nil]at this;exact this
 rw[hev]
 obtain⟨v,r,lo⟩:=S.v x _ hx
 obtain rfl:v= .ref a:=lo
 refine wBi (cP S.k (r.up (be B.sub)) ?_ hd)
 obtain⟨l1,l2,k,l3⟩:=hl
 have L:PL s.heap a (us ++[y]).toArray:=⟨ob,B.at_ _ _ hob,l1,l2,k,l3⟩
 refine wBi (wpAny_standAt (wBi (wpAny_holding (getMethod_builtin L.isList.typeIs PySem.F.plainAttrs_list PySem.F.slot_list_pop PySem.F.type_list_pop (fun b eb=>by injection eb with eb;subst eb;exact⟨ob,B.at_ _ _ hob,l2⟩) ?_))))
 obtain⟨o',ho',q1,q2,q3⟩:=gf L fun xs=>xs.eraseIdxIfInBounds ((us ++[y]).toArray.size - 1)
 have hob':s.heap.get? a=some {cls:=.type "list",dict:=ob.dict,data:=.seq (us ++[y]).toArray k,slots:=ob.slots}:=by
  rw[B.at_ _ _ hob,<-l1,<-l3]
 show wA _ _ (callWith pc (.builtin "list.pop") [.ref a] [] []) Q E _
 rw[e1,e2]at q3
 exact seqMethod0_meets PySem.F.slot_list_pop PySem.F.entry_list_pop L.isList.typeIs (PySem.F.args_list_pop_1 _) (o0 a _ k ob.dict ob.slots y (by rw[e1];simp) (by rw[sizeLine_eq];simp;exact Nat.le_trans ‹_› (by decide))) ⟨hob',h _ o' ⟨q1,q2,q3⟩ (B.changeX hob (fun b x q e=>(Hp.get?_update_ne _ _ _ _ q).trans e) ho')⟩
theorem yU{xd xs xt:Str}{pd ps pt pa' pc' psub p1 p2:Pos}{d a b:Ad}{od oa ob:Obj}{kvs:List (Int×Vl)}{us ut:List Vl}{k:Int}{t:Tok}{y:Vl}{N:Fg->Prop}
  (hd:ρ.lookup xd=some (.fz (RV (.ref d))))(hs:ρ.lookup xs=some (.fz (RV (.ref a))))(ht:ρ.lookup xt=some (.fz (RV (.ref b))))
  (fa:F a=some oa)(la:LO oa (us ++[Vl.int k t]).toArray)(fb:F b=some ob)(lb:LO ob (ut ++[y]).toArray)(fd:F d=some od)(dd:od.IsDictOf (intKind PG W0) kvs)(n1:d≠a)(n2:b≠a)(n3:b≠d)
  (z1:us.length<=1000)(z2:ut.length<=1000)(z3:kvs.length<=1000)(hk:(valueAt kvs k).isSome=true)(x1:(xd==("__debug__":Str))=false)(x2:(xs==("__debug__":Str))=false)(x3:(xt==("__debug__":Str))=false)
  (hN:∀oa' ob' od',LO oa' us.toArray->LO ob' ut.toArray->od'.IsDictOf (intKind PG W0) (without kvs k)->N (((F.put a oa').put d od').put b ob'))
  (pl pl':Sem Bool)
  (hev:autoParam (eval (.Call (.Attribute (.Name xs ps) ("pop":Str) pa) [] [] pc) env=(do
   let ov <-eval (.Name xs ps) env
   standAt pa.atName
   let(f,first) <-holding [ov] (getMethod ov ("pop":Str) pl)
   callWith pc f first (backTo pc (sE [] env)) [])) Rf)
  (hev':autoParam (eval (.Call (.Attribute (.Name xt pt) ("pop":Str) pa') [] [] pc') env=(do
   let ov <-eval (.Name xt pt) env
   standAt pa'.atName
   let(f,first) <-holding [ov] (getMethod ov ("pop":Str) pl')
   callWith pc' f first (backTo pc' (sE [] env)) [])) Rf)
  (hi:autoParam (interactive env=false) Rf)(hsw:autoParam (swapsWith (.Call (.Attribute (.Name xt pt) ("pop":Str) pa') [] [] pc') none p2.line env=pure false) Rf):
  Eg hg env F ρ [.Delete [.Subscript (.Name xd pd) (.Call (.Attribute (.Name xs ps) ("pop":Str) pa) [] [] pc) psub] p1,.Expr (.Call (.Attribute (.Name xt pt) ("pop":Str) pa') [] [] pc') p2] N:=fun A fr h₀ hb₀ hb hm s Q E Rl B h=>by
 obtain⟨v,r,lo⟩:=Rl.s.v xd _ hd
 obtain rfl:v= .ref d:=lo
 refine wpAny_execs_cons (wpAny_Delete (wpAny_deleteEach_cons (PySem.wpAny_delete_Subscript (cP Rl.s.k (r.up (be B.sub)) ?_ x1))))
 refine yW Rl.s B hs fa la z1 x2 pl (fun h₁ oa' la' B1=>?_) hev
 refine wK (s:={s with heap:=h₁}) (by rw[Fg.put_ne _ _ n1];exact fd) dd z3 hk B1 fun h2 od' tk2 dd' B2=>wpAny_deleteEach_nil ?_
 refine wpAny_execs_cons (wpAny_Expr_any (hi:=hi) (hs:=hsw) (yW (s:=(aA s h2 tk2)) Rl.s B2 ht (by rw[Fg.put_ne _ _ n3,Fg.put_ne _ _ n2];exact fb) lb z2 x3 pl' (fun h3 ob' lb' B3=>?_) hev'))
 exact wpAny_execs_nil (h _ h3 hm hb tk2 B3 (hN oa' ob' od' la' lb' dd') Rl fun O O e=>e)
theorem qt{K:Frag}(G:Gr K hg){x y:Str}{px np p1 pb ph psub:Pos}{m it l:Ad}{i:Nat}{ol:Obj}{vs:Array Vl}{o ix:Ep}{b0:Stmt}{suite:List Stmt}{hs:List ExceptHandler}
  (hc:∀hp,hg.StaysIn hp->lz F hp->Ev hp n env ρ (.Subscript o ix psub) (RF (RV (.ref m))))(hm:F m=some (dS it))(hit:F it=some (cI l i))(hl:F l=some ol)(lo:LO ol vs)(kx:cM env x)(no:ar ρ)
  (h1:∀v,vs[i]?=some v->P.brk ((x,.fz (RV v))::ρ) (F.put it (cI l ((i +1:Nat):Int))))
  (h2:vs[i]?=none->Eg hg env (F.put it (sD i)) ρ (b0::suite) (P.next ρ))
  (e1:nsIn K mainGlobals y=some none)(e2:bootBuiltins y=some (.type "StopIteration"))(e3:env.kindOf y=some .globalImplicit)(e4:y≠"__name__")(e5:(y==("__debug__":Str))=false)
  (hs1:autoParam (swapsWith (.Call (.Subscript o ix psub) [] [] pc) (some (.Name x px)) p1.line env=pure false) Rf):
  XX hg n env F ρ (.Try [.Assign [.Name x px] (.Call (.Subscript o ix psub) [] [] pc) p1,.Break pb] (.ExceptHandler (some (.Name y np)) none (b0::suite) ph::hs) [] [] pos) P:=fun A fr h₀ hb₀ hb hmm s Q E ok Rl B h=>by
 obtain⟨fr',L,rfl,hf⟩:=Rl.hd
 refine wpAny_Try_except (wpAny_execs_cons (wpAny_Assign_Name (hs:=hs1) (wa (aV hc fA A (env::fr') hb hmm s _ _ ok Rl.s B fun v F1 h₁ hm1 hb1 tk1 st1 B1 p₁=>?_))))
 obtain⟨rfl,rfl⟩:=p₁
 have R1:=Rl.step st1
 obtain⟨l1,l2,k,l3⟩:=lo
 have LI:h₁.IsList l vs:=⟨ol,B1.at_ _ _ hl,l1,k,l3⟩
 refine r8 (s:=(aA s h₁ tk1)) (B1.at_ _ _ hm) (zv (s:=(aA s h₁ tk1)) (B1.at_ _ _ hm) fun{A' P' E'} hh hQ hE=>?_)
 cases hv:vs[i]? with
 |some v=>
  refine zq (s:=(aA s h₁ tk1)) (B1.at_ _ _ hit) LI hv fun h₂ e₂ sb2=>hQ _ _ ?_
  have B2:=B1.change hit sb2.2 e₂
  refine bH (s:=(aA s h₂ tk1)) R1 B2 kx (v:=v) (G:=RV v) rfl (fun y ds O=>no y ds) fun h' hm' tk B' R'=>?_
  refine wpAny_execs_cons (wpAny_Break ?_)
  exact h .brk _ h' hm' hb1 tk B' (.inr (.inl ⟨rfl,_,h1 v hv,R'⟩)) st1.sub
 |none=>
  refine Bn (s:=(aA s h₁ tk1)) (hh.trans ok.h) (B1.at_ _ _ hit) LI hv fun h₂ h3 e e₂ sb2 hx=>hE _ _ ?_
  have B2:ae (F1.put it (sD i)) h₂ hm1:=B1.change hit sb2.2 e₂
  obtain⟨hp,p0,p2,p3,S',p4⟩:=B2.sees R1.s
  have up3:h₂.UpToSlots h3:=Hp.UpToSlots.of_keeps hx.keeps
  refine rt (base:=hp) (h:=h₂) ok.f (bJ up3 (fun O O O O q=>q) S'.f) hf (fun b o q=>hx.keeps b o (S'.b b o q)) S'.b hx fun h4 t held up4=>?_
  refine wpAny_landsW held fun h5 fl5 up5=>?_
  obtain⟨ob,hob,hobc⟩:=fl5.there
  refine wpAny_handleBy_builtin (X:="StopIteration") (T:="StopIteration") (b:=true) (by rw[isSubtype_type];kernel_rfl) (by first|kernel_rfl|rfl) (by rw[isSubtype_type];kernel_rfl) ?_
  refine uT G e1 e2 e3 e4 (fun b o q=>fl5.1 b o (p0 b o q)) Rl.s.k Rl.s.gl Rl.s.bl ⟨rfl,⟨ob,hob,hobc⟩,?_⟩ e5
  simp only[if_true]
  refine lands_againW fl5 fun h6 fl6 up6=>?_
  have st6:ay h₂ hp h6 hp:=⟨up3.trans (up4.trans (up5.trans up6)),fun O O e=>e,fl6.1,fun O O O O e=>e⟩
  obtain⟨hm7,hb7,B7,st7,k1,k2⟩:=B2.after R1.s.b p3 p2 p4 st6
  exact h2 hv _ (env::fr') h₀ hb₀ hb7 hm7 (aA s h6 tk1) _ _ (R1.step st7) B7 fun F' h' hm' hb' tk B' pn R' kb=>h .next F' h' hm' hb' tk B' (.inl ⟨rfl,ρ,pn,R'⟩) fun b o e=>kb b o (st7.sub b o (st1.sub b o e))
end
section
variable{F:Fg}
theorem wz{a:Ad}{ob:Obj}{fd:FuncData}{body:List Stmt}{xs:List Str}{Fs Gs:List FP}(ho:hg.get? a=some ob)(hd:ob.data= .func fd)(hlim:hg.NoLimit)(hcd:hg.CodeRec fd.code fd.qualname)
  (hbody:fd.body= .stmts body)(hbind:jJ hg F fd Gs xs Fs)
  (nd:xs.Nodup)(hclo:fd.closure=[])(hgl:fd.globals=mainGlobals)(hbl:fd.builtins=builtinsNs)
  (hx:∀L:Nat,∀x∈xs,fd.scope.names.lookup x=some .local\/(fd.scope.names.lookup x=some .cell/\((cellsFrom (L +1) fd.scope.names []).lookup x).isSome=true))
  (hco:autoParam (fd.scope.isCoroutine=false) Rf)(hgen:autoParam (fd.scope.isGenerator=false) Rf)(hk:autoParam (fd.scope.kind= .function) Rf)
  {A:Ar}{fr:List Env}{hb₀ hm0:Hp}{s0:SD}{vs0:List Vl}{Q:Result->SD->Prop}(ok:br A fr (n +1))(sg0:hg.StaysIn hb₀)(sb0:hb₀.StaysIn hm0)(ff0:hm0.FunFrames hb₀ fr)(B0:ae F s0.heap hm0)(al0:bF hm0 hb₀ hm0 vs0 (Gs.map rF))
  (h:∀(L:Nat)(hb hm hm1 h₁:Hp)(tk1:Nat),ay hm0 hb₀ hm hb->br (A.deeper (callEnvC fd L a)) (callEnvC fd L a::fr) n->co hg hm hb hb hm1 (callEnvC fd L a) (callEnvC fd L a::fr) (bz xs Fs)->ae F h₁ hm1->ay hm hb hm1 hb->
   wA MD (A.deeper (callEnvC fd L a)) (execs body (callEnvC fd L a)) (fun f s'=>Q (.ok (.ret (match f with| .ret v=>v|_=>.none))) s')
    (fun e s'=>wA MD (A.deeper (callEnvC fd L a)) (leaving (callEnvC fd L a) e) (fun O s''=>Q (.error e) s'') (fun e' s''=>Q (.error e') s'') s') (aA s0 h₁ tk1)):
  codeAny MD A (.call (.ref a) ⟨vs0,[]⟩) Q s0:=by
 have st0:hg.StaysIn s0.heap:=fun b o e=>B0.sub b o (sb0 b o (sg0 b o e))
 refine(codeAny_call_function ok.room (st0 _ _ ho) hd hco hgen hbody (hcd.keeps st0) (hbind A.in1 hb₀ hm0 s0 vs0 _ _ sg0 sb0 B0 al0 fun vs hq hm hb tkq stq B hvl al=>?_))
 have sg:hg.StaysIn hb:=fun b o e=>stq.sub b o (sg0 b o e)
 have sb:hb.StaysIn hm:=stq.stay
 have ff:hm.FunFrames hb fr:=stq.frames ff0
 clear al0
 generalize hs:(aA s0 hq tkq)=s
 have es:s.heap=hq:=by rw[<-hs]
 have hQ:∀h' tk,(aA s0 h' tk)=(aA s h' tk):=fun h' tk=>by rw[<-hs]
 subst es
 have st:hg.StaysIn s.heap:=fun b o e=>B.sub b o (sb b o (sg b o e))
 have hzip:(xs.zip vs).map (·.1)=xs:=by
  rw[List.map_fst_zip];exact Nat.le_of_eq (Eq.symm ‹_›)
 rw[hclo]
 refine wpAny_newFunctionEnv_cells hk (fun x hm=>hx _ x.1 ?_) fun env he s₁ X=>⟨(hlim.keeps st).keeps X.toInCall.keep,codeAny_func ?_⟩
 ·rw[<-hzip];exact List.mem_map_of_mem hm
 have henv:callEnvC fd s.heap.objs.size a=env:=by rw[he];rfl
 clear he
 obtain⟨h₁,tk1,hs1,keep⟩:=X.done
 subst hs1
 have eL:env.locals=s.heap.objs.size:=by rw[<-henv];rfl
 have ek:∀x,env.kindOf x=fd.scope.names.lookup x:=fun x=>by rw[<-henv];rfl
 have esc:env.scope=fd.scope:=by rw[<-henv];rfl
 have ec:env.cells=cellsFrom (s.heap.objs.size +1) fd.scope.names []:=by rw[<-henv];rfl
 have hmn:=X.toInCall.ns
 obtain⟨oL,hoL,hdL⟩:=cv hmn
 obtain⟨hm1,m1,m2⟩:=cx F h₁
 have fresh:∀b,s.heap.objs.size<=b->A3 (F b=none) (hm.get? b=none) (hb.get? b=none):=fun b hbz=>by
  have hn:s.heap.get? b=none:=by
   cases q:s.heap.get? b with
   |none=>rfl
   |some o=>exact absurd (Hp.lt_size q) (Nat.not_lt_of_le hbz)
  have hmnone:=am B.sub hn
  refine⟨?_,hmnone,am sb hmnone⟩
  cases q:F b with
  |none=>rfl
  |some o=>rw[B.at_ b o q]at hn;cases hn
 have B1:ae F h₁ hm1:=by
  refine⟨fun b o e=>?_,fun b o e=>keep b o (B.at_ b o e),fun b o e=>m2 b (by rw[e];exact fun q=>(nomatch q))⟩
  by_cases q:F b=none
  ·rw[<-m1 b q];exact e
  ·rw[m2 b q]at e;cases e
 have kmm:hm.StaysIn hm1:=fun b o e=>(m1 b (B.off e)).trans (keep b o (B.sub b o e))
 have sb1:hb.StaysIn hm1:=fun b o e=>kmm b o (sb b o e)
 have st1:ay hm hb hm1 hb:=⟨Hp.UpToSlots.of_keeps kmm,fun O O e=>e,sb1,fun O O O O e=>e⟩
 have hL1:=fresh env.locals (by rw[eL];exact Nat.le_refl _)
 have ns1:=(show∀{m},h₁.Ns env.locals m->hm1.Ns env.locals m from fun{m} x=>by
  obtain⟨o,es,ep,h1,r⟩:=x
  exact⟨o,es,ep,(m1 _ hL1.1).trans h1,r⟩) hmn
 have ff1:hm1.FunFrames hb (env::fr):=by
  refine⟨by rw[esc,hk];decide,⟨env.locals,oL,by rw[<-henv];rfl,hL1.3,(m1 _ hL1.1).trans hoL,hdL⟩,bJ st1.up (fun O O O O e=>e) ff⟩
 have ce:∀y c,env.cells.lookup y=some c->s.heap.objs.size<=c:=fun y c e=>by
  have hlt:=X.above y c (PySem.mem_of_lookup e)
  rw[eL]at hlt;exact Nat.le_of_lt hlt
 have Rl:co hg hm hb hb hm1 env (env::fr) (bz xs Fs):=by
  refine⟨⟨sg,sb1,ff1,by rw[esc];exact hk,by rw[<-henv];exact hgl,by rw[<-henv];exact hbl,fun y lv e=>?_⟩,st1,⟨⟨_,ns1⟩,hL1.3,.of_none hL1.2⟩,
   fun y c e=>?_,fun x y c ex ey=>name_of_addr X.apart (PySem.mem_of_lookup ex) (PySem.mem_of_lookup ey),⟨_,env.locals,rfl,by rw[<-henv];rfl⟩,fun y ds e=>?_,fun y O dy O O e O O O=>?_⟩
  ·obtain⟨G,v,rfl,hm',hF,hy⟩:=cq al e
   have hnd:((xs.zip vs).map (·.1)).Nodup:=by rw[hzip];exact nd
   refine⟨v,?_,hF⟩
   rcases hx s.heap.objs.size y hy with q|⟨q,q'⟩
   ·exact .inl ⟨(ek y).trans q,_,ns1,jq ((ek y).trans q) hnd hm'⟩
   ·obtain⟨c,hc⟩:=Option.isSome_iff_exists.mp q'
    have hnl:env.kindOf y≠some .local:=by rw[ek,q];decide
    refine .inr ⟨.inl ((ek y).trans q),c,by rw[ec];exact hc,?_⟩
    have:=X.cell y c (by rw[ec];exact hc)
    rw[jx hnl hnd hm']at this
    obtain⟨oc,hoc,hdc⟩:=this
    exact⟨oc,(m1 _ (fresh c (ce y c (by rw[ec];exact hc))).1).trans hoc,hdc⟩
  ·obtain⟨q1,q2,q3⟩:=fresh c (ce y c e)
   obtain⟨oc,hoc,hdc⟩:=X.cell y c e
   exact⟨⟨_,oc,(m1 _ q1).trans hoc,hdc⟩,q3,.of_none q2⟩
  ·obtain⟨G,v,q,_⟩:=cq al e
   cases q
  ·obtain⟨G,v,q,_⟩:=cq al e
   cases q
 have ok':br (A.deeper env) (env::fr) n:=⟨ok.h,by show A.depth +1 +n<_;have:=ok.d;exact o4 ‹_›,by show A.units +3 +100*n<_;have:=ok.u;exact o6 3 (by decide) ‹_›,by show A.frames.map (env::·)=_;rw[ok.f];rfl⟩
 have key:=h s.heap.objs.size hb hm hm1 h₁ tk1 stq
 rw[henv]at key
 have:=key ok' Rl B1 st1
 rw[hQ]at this
 exact this
end
section
variable(hg:Hp)(n:Nat)
noncomputable def sH(env:Env)(C:Ad)(F:Fg)(ρ:LS)(ss:List Stmt)(P:Fg->Prop):Prop:=
 ∀(A:Ar)(fr:List Env)(h₀ hb₀ hb hm:Hp)(s:SD)(Q:Flow->SD->Prop)(E:VS),br A fr n->co hg h₀ hb₀ hb hm env fr ρ->ae F s.heap hm->
  (∀F' h' hm' hb' tk e vs h'' ρ',ae F' h' hm'->P F'->co hg h₀ hb₀ hb' hm' env fr ρ'->Hp.MadeExcOf h' h'' e (.ref C) vs->E (.ref e) (aA s h'' tk))->wA MD A (execs ss env) Q E s
noncomputable def zV(F:Fg)(f:Vl)(Gs:List FP)(C:Ad)(P:Fg->Prop):Prop:=
 ∀(A:Ar)(fr:List Env)(hb hm:Hp)(s:SD)(vs:List Vl)(R:Result->SD->Prop),br A fr n->hg.StaysIn hb->hb.StaysIn hm->hm.FunFrames hb fr->ae F s.heap hm->bF hm hb hm vs (Gs.map rF)->
  (∀F' h₁ hm' hb' hp h' tk e a0,ay hm hb hm' hb'->ae F' h₁ hm'->P F'->hg.StaysIn hp->hb'.StaysIn hp->lz F' hp->(∀b,hb'.get? b=none->F' b=none->hp.get? b=none)->Hp.FlyingW hp fr e (.ref C) a0 h'->h₁.UpToSlots h'->R (.error (.ref e)) (aA s h' tk))->
  codeAny MD A (.call f ⟨vs,[]⟩) R s
end
section
variable{C:Ad}{F:Fg}{ss:List Stmt}{st:Stmt}{P:Fg->Prop}
theorem mV{N:LS->Fg->Prop}(x:XX hg n env F ρ st {next:=N})(y:∀ρ1 F1,N ρ1 F1->sH hg n env C F1 ρ1 ss P):sH hg n env C F ρ (st::ss) P:=fun A fr h₀ hb₀ hb hm s Q E ok Rl B h=>
 wpAny_execs_cons (x A fr h₀ hb₀ hb hm s _ E ok Rl B fun f F1 h₁ hm1 hb1 tk1 B1 o k1=>by
  rcases o with⟨rfl,ρ1,a,b⟩|⟨rfl,ρ1,a,b⟩|⟨rfl,ρ1,a,b⟩|⟨v,rfl,a,b⟩
  ·exact y ρ1 F1 a A fr h₀ hb₀ hb1 hm1 _ Q E ok b B1 h
  ·exact a.elim
  ·exact a.elim
  ·exact a.elim)
theorem zj{test:Ep}{body orelse:List Stmt}{PB:Bool->Fg->Prop}(ht:s7 hg n env F ρ test PB)(hT:∀b F',PB b F'->b=true/\sH hg n env C F' ρ body P):sH hg n env C F ρ (.If test body orelse pos::ss) P:=fun A fr h₀ hb₀ hb hm s Q E ok Rl B h=>
 wpAny_execs_cons (wpAny_If (ht A fr hb hm s _ E ok Rl.s B fun b F1 h₁ hm1 hb1 tk1 st1 B1 p=>by
  obtain⟨rfl,ex⟩:=hT b F1 p
  exact ex A fr h₀ hb₀ hb1 hm1 (aA s h₁ tk1) _ E ok (Rl.step st1) B1 h))
theorem vZ{K:Frag}{x:Str}{np pc:Pos}{e:Ep}{es:List Ep}{Fs:List FP}{nm q:Str}{N:Ad}{B' newId initId:String}{bs bm:List Vl}{hdct:Bool}{sn:List Str}{sub:List Vl}{ab:Bool}{col:Option Bool}{dd:Option Ad}{k0 k1 k2 k3 k5:Option Vl}
  (X:K.In hg)(EF:ExcBaseFacts B' newId initId bm)(hC:K.lookup C=some (excClassObj nm q C N bs bm hdct sn sub ab col dd k0 k1 k2 k3 k5 newId))(hN:nsOkIn K N=true)(hi:nsIn K N "__init__"=some none)
  (hc:cB hg n env F ρ (.Name x np) fun O v F'=>F'=F/\v= .ref C)(ha:gG hg n env F ρ (e::es) Fs)(hz:Fs.length<=100)(hP:P F)
  (hn:autoParam (sE (e::es) env=(false,eval e env)::sE es env) Rf)(hplain:autoParam ((backTo pc (sE (e::es) env)).any (·.1)=false) Rf):
  sH hg n env C F ρ (.Raise (some (.Call (.Name x np) (e::es) [] pc)) none pos::ss) P:=fun A fr h₀ hb₀ hb hm s Q E ok Rl B h=>by
 have key:∀h':Hp,hg.StaysIn h'->h'.Ns N (h'.nsMap N)/\h'.nsMap N "__init__"=none:=fun h' k=>⟨.of_isNs (isNs_of_in (X.keeps k) hN),nsMap_none_of_in (X.keeps k) hN hi⟩
 have hni:=(key hg fun O O e=>e).2
 refine wpAny_execs_cons (wpAny_Raise_call_sub (C:=C) (nm:=nm) (q:=q) (N:=N) (bs:=bs) (hdct:=hdct) (sn:=sn) (sub:=sub) (ab:=ab) (col:=col) (dd:=dd) (k0:=k0) (k1:=k1) (k2:=k2) (k3:=k3) (k5:=k5) EF (mN:=hg.nsMap N) ok.h hplain hni (hc A fr hb hm s _ E ok Rl.s B fun v F1 h₁ hm1 hb1 tk1 st1 B1 p1=>?_))
 obtain⟨rfl,rfl⟩:=p1
 have R1:=Rl.step st1
 refine⟨rfl,?_⟩
 have hargs:=ha pc A fr hb1 hm1 (aA s h₁ tk1) (fun vs s₂=>vs.length<=sizeLine/\s₂.heap.get? C=some (excClassObj nm q C N bs bm hdct sn sub ab col dd k0 k1 k2 k3 k5 newId)/\s₂.heap.Ns N (hg.nsMap N)/\
    ∀h' e,Hp.MadeExcOf s₂.heap h' e (.ref C) vs->E (.ref e) {s₂ with heap:=h'}) E ok R1.s B1 fun vs h2 hm2 hb2 tk2 st2 B2 r2=>by
  have R2:=R1.step st2
  have k₂:hg.StaysIn h2:=fun b o q=>B2.sub b o (R2.s.b b o (R2.s.g b o q))
  refine⟨?_,k₂ _ _ (X _ _ hC),?_,fun h' e hx=>h F1 h2 hm2 hb2 tk2 e vs h' ρ B2 hP R2 hx⟩
  ·have:vs.length=Fs.length:=by rw[r2.length,List.length_map]
   rw[sizeLine_eq,this];exact Nat.le_trans ‹_› (by decide)
  ·obtain⟨o,es',ep,ho,r⟩:=(key hg fun O O e=>e).1
   exact⟨o,es',ep,k₂ _ _ ho,r⟩
 rw[hn]at hargs⊢
 exact Calls.evalArgs_plain (wpAny_mono hargs (fun vs s₂ q=>⟨rfl,q⟩) fun O O q=>q)
theorem yg{a:Ad}{ob:Obj}{fd:FuncData}{body:List Stmt}{xs:List Str}{Fs Gs:List FP}(ho:hg.get? a=some ob)(hd:ob.data= .func fd)(hlim:hg.NoLimit)(hcd:hg.CodeRec fd.code fd.qualname)
  (hbody:fd.body= .stmts body)(hbind:jJ hg F fd Gs xs Fs)
  (nd:xs.Nodup)(hclo:fd.closure=[])(hgl:fd.globals=mainGlobals)(hbl:fd.builtins=builtinsNs)
  (hx:∀L:Nat,∀x∈xs,fd.scope.names.lookup x=some .local\/(fd.scope.names.lookup x=some .cell/\((cellsFrom (L +1) fd.scope.names []).lookup x).isSome=true))
  (hex:∀L,sH hg n (callEnvC fd L a) C F (bz xs Fs) body P)
  (hco:autoParam (fd.scope.isCoroutine=false) Rf)(hgen:autoParam (fd.scope.isGenerator=false) Rf)(hk:autoParam (fd.scope.kind= .function) Rf):zV hg (n +1) F (.ref a) Gs C P:=fun A fr hb₀ hm0 s0 vs0 R ok sg0 sb0 ff0 B0 al0 h=>by
 refine wz ho hd hlim hcd hbody hbind nd hclo hgl hbl hx hco hgen hk ok sg0 sb0 ff0 B0 al0 fun L hb hm hm1 h₁ tk1 stq ok' Rl B1 st1=>?_
 refine hex L _ _ hm hb hb hm1 (aA s0 h₁ tk1) _ _ ok' Rl B1 fun F' h' hm' hb' tk e vs h'' ρ' B' p R' hx=>?_
 obtain⟨hp,p0,p2,p1,S',p4⟩:=B'.sees R'.s
 refine wpAny_leaves_madeW (base:=hp) (h:=h') (outer:=fr) (L:=(callEnvC fd L a).locals) ok'.f rfl S'.b S'.f hx fun h3 t fl tup bn up=>?_
 exact h F' h' hm' hb' hp h3 tk e _ (stq.trans R'.st) B' p p0 p1 p2 p4 fl ((Hp.UpToSlots.of_keeps hx.keeps).trans up)
end
section
variable(hg:Hp)(n:Nat)
noncomputable def Et(env:Env)(F:Fg)(ρ:LS)(e:Ep)(C:Ad)(P:Fg->Prop):Prop:=
 ∀(A:Ar)(fr:List Env)(hb hm:Hp)(s:SD)(Q:VS)(E:VS),br A fr n->dc hg hb hm env fr ρ->ae F s.heap hm->
  (∀F' h₁ hm' hb' hp h' tk e a0,ay hm hb hm' hb'->ae F' h₁ hm'->P F'->hg.StaysIn hp->hb'.StaysIn hp->lz F' hp->(∀b,hb'.get? b=none->F' b=none->hp.get? b=none)->Hp.FlyingW hp fr e (.ref C) a0 h'->h₁.UpToSlots h'->E (.ref e) (aA s h' tk))->
  wA MD A (eval e env) Q E s
noncomputable def B0(env:Env)(F:Fg)(ρ:LS)(ss:List Stmt)(N:LS->Fg->Prop):Prop:=
 ∀(A:Ar)(fr:List Env)(h₀ hb₀ hb hm:Hp)(s:SD)(Q:Flow->SD->Prop)(E:VS),co hg h₀ hb₀ hb hm env fr ρ->ae F s.heap hm->
  (∀ρ' F' h' hm' hb' tk,ae F' h' hm'->N ρ' F'->co hg h₀ hb₀ hb' hm' env fr ρ'->hb.StaysIn hb'->Q .next (aA s h' tk))->wA MD A (execs ss env) Q E s
end
section
variable{C:Ad}{F:Fg}{ss:List Stmt}{st:Stmt}{PE:Fg->Prop}{name:Str}{K:Frag}{P:PX}
theorem vY{x D f:Ad}{ox od of:Obj}{fd:FuncData}{dx:Ad}{o:Ep}{pa pc:Pos}(X:K.In hg)(ho:cB hg n env F ρ o fun O v F'=>F'=F/\v= .ref x)
  (hx:F x=some ox)(hcl:ox.cls= .ref D)(hno:notCls ox=true)(hd:ox.dict=some dx)(hdx:F dx=some od)(hga:findIn K (.ref D) "__getattribute__"=some (some (.builtin "object.__getattribute__")))(hk:findIn K (.ref D) "__getattr__"=some none)
  (hf:findIn K (.ref D) name=some (some (.ref f)))(ht:typeIn K (.ref f)=some (.type "function"))(hsh:shadowIn (some od) name=some false)(hof:hg.get? f=some of)(hfd:of.data= .func fd)(hc:zV hg n F (.ref f) [RV (.ref x)] C PE)(pl:Sem Bool)
  (hev:autoParam (cF o name pl pa pc [] env) Rf):
  Et hg n env F ρ (.Call (.Attribute o name pa) [] [] pc) C PE:=fun A fr hb hm s Q E ok S B h=>by
 refine ki X ho hx hcl hno hd hdx hga hk hf ht hsh pl hev ok S B fun h₁ hm1 hb1 tk1 st1 B1 S1=>?_
 have k1:hg.StaysIn h₁:=fun b o q=>B1.sub b o (S1.b b o (S1.g b o q))
 exact callWith_function_kw (evalArgs_nil3 ⟨⟨k1 _ _ hof,hfd⟩,wpAny_call (hc A fr hb1 hm1 (aA s h₁ tk1) [.ref x] _ ok S1.g S1.b S1.f B1 (.cons (R:=rF (RV (.ref x))) rfl .nil) fun F' h2 hm' hb' hp h' tk e a0 st B' p p0 p1 p2 p4 fl up=>h F' h2 hm' hb' hp h' tk e a0 (st1.trans st) B' p p0 p1 p2 p4 fl up)⟩)
theorem Ag(G:Gr K hg){A:Ar}{s:SD}{Q:VS}{E:VS}{x:Str}{v:Vl}(e:nsIn K mainGlobals x=some (some v))(hx:env.kindOf x=some .globalImplicit)
  (st:hg.StaysIn s.heap)(hk:env.scope.kind= .function)(gl:env.globals=mainGlobals)(h:Q v s)(hd:autoParam ((x==("__debug__":Str))=false) Dc):wA MD A (eval (.Name x pos) env) Q E s:=by
 obtain⟨X,p,loose,mean,mg,mb,T⟩:=G
 exact Name_function_global hk hx (loadGlobal_global (by rw[gl];exact T.g.keeps st) (mg_of X T.g e) h) hd
theorem yY{x:Str}{px p1 p2:Pos}{b:Bool}{c:Nat}{N:LS->Fg->Prop}(kx:cM env x)(no:ar ρ)(hN:N ((x,.fz (DV (.bool b)))::ρ) F)
  (hs:autoParam (swapsWith (.Constant (.bool b) c p1) (some (.Name x px)) p2.line env=pure false) Rf):B0 hg env F ρ [.Assign [.Name x px] (.Constant (.bool b) c p1) p2] N:=fun A fr h₀ hb₀ hb hm s Q E Rl B h=>
 wpAny_execs_cons (wpAny_Assign_Name (hs:=hs) (wpAny_Constant_bool (bH (v:=.bool b) (G:=DV (.bool b)) Rl B kx bp (fun y ds O=>no y ds) fun h' hm' tk B' R'=>wpAny_execs_nil (h _ F h' hm' hb tk B' hN R' fun O O e=>e))))
theorem tX{y:Str}{np p1 ph:Pos}{e:Ep}{b0:Stmt}{suite:List Stmt}{hs:List ExceptHandler}{nm q:Str}{N:Ad}{newId:String}{bs bm:List Vl}{hdct:Bool}{sn:List Str}{sub:List Vl}{ab:Bool}{col:Option Bool}{dd:Option Ad}{k0 k1 k2 k3 k5:Option Vl}
  (G:Gr K hg)(hC:K.lookup C=some (excClassObj nm q C N bs bm hdct sn sub ab col dd k0 k1 k2 k3 k5 newId))(hbase:bm.contains (.type "BaseException")=true)
  (hE:Et hg n env F ρ e C PE)(hh:∀F',PE F'->B0 hg env F' ρ (b0::suite) P.next)
  (e1:nsIn K mainGlobals y=some (some (.ref C)))(e3:env.kindOf y=some .globalImplicit)(e5:(y==("__debug__":Str))=false)
  (hi:autoParam (interactive env=false) Rf)(hsw:autoParam (swapsWith e none p1.line env=pure false) Rf):
  XX hg n env F ρ (.Try [.Expr e p1] (.ExceptHandler (some (.Name y np)) none (b0::suite) ph::hs) [] [] pos) P:=fun A fr h₀ hb₀ hb hmm s Q E ok Rl B h=>by
 obtain⟨fr',L,rfl,hf⟩:=Rl.hd
 refine wpAny_Try_except (wpAny_execs_cons (wpAny_Expr_any (hi:=hi) (hs:=hsw) (hE A (env::fr') hb hmm s _ _ ok Rl.s B fun F' h₁ hm1 hb1 hp h' tk e a0 st1 B1 p p0 p1 p2 p4 fl up=>?_)))
 have R1:=Rl.step st1
 refine wpAny_looks_onW ok.f hf fl fun h4 held up4=>?_
 refine wpAny_landsW held fun h5 fl5 up5=>?_
 obtain⟨ob,hob,hobc⟩:=fl5.there
 have k₅:hg.StaysIn h5:=fun b o q=>fl5.1 b o (p0 b o q)
 refine wpAny_handleBy_cons (codeAny_handlers_test (Ag G e1 e3 k₅ Rl.s.k Rl.s.gl ?_ e5)) (by intro q;cases q)
 refine wpAny_excMatches_sub_self (k₅ _ _ (G.1 _ _ hC)) hob hobc hbase (codeAny_handlers_suite ?_)
 refine lands_againW fl5 fun h6 fl6 up6=>?_
 have st6:ay h₁ hp h6 hp:=⟨up.trans (up4.trans (up5.trans up6)),fun O O e=>e,fl6.1,fun O O O O e=>e⟩
 obtain⟨hm7,hb7,B7,st7,k1,k2⟩:=B1.after R1.s.b p1 p2 p4 st6
 exact hh F' p _ (env::fr') h₀ hb₀ hb7 hm7 (aA s h6 tk) _ _ (R1.step st7) B7 fun ρ' F' h' hm' hb' tk B' pn R' kb=>h .next F' h' hm' hb' tk B' (.inl ⟨rfl,ρ',pn,R'⟩) fun b o e=>kb b o (st7.sub b o (st1.sub b o e))
theorem vK{body:List Stmt}{h0:ExceptHandler}{hs:List ExceptHandler}(hx:ly hg n env F ρ body P):XX hg n env F ρ (.Try body (h0::hs) [] [] pos) P:=fun A fr h₀ hb₀ hb hmm s Q E ok Rl B h=>
 wpAny_Try_except (hx A fr h₀ hb₀ hb hmm s _ _ ok Rl B fun f F' h' hm' hb' tk B' o kb=>by
  rcases o with⟨rfl,ρ',a,b⟩|⟨rfl,ρ',a,b⟩|⟨rfl,ρ',a,b⟩|⟨v,rfl,a,b⟩
  ·exact wpAny_execs_nil (h _ F' h' hm' hb' tk B' (.inl ⟨rfl,ρ',a,b⟩) kb)
  ·exact h _ F' h' hm' hb' tk B' (.inr (.inl ⟨rfl,ρ',a,b⟩)) kb
  ·exact h _ F' h' hm' hb' tk B' (.inr (.inr (.inl ⟨rfl,ρ',a,b⟩))) kb
  ·exact h _ F' h' hm' hb' tk B' (.inr (.inr (.inr ⟨v,rfl,a,b⟩))) kb)
end
section
variable{F:Fg}{P:PX}{PE:Hp->Vl->Fg->Prop}
theorem ae.more{h h' hm:Hp}{D:Ad}{o:Obj}(B:ae F h hm)(hk:∀b o,h.get? b=some o->h'.get? b=some o)(hD:h'.get? D=some o)(hn:h.get? D=none):ae (F.put D o) h' hm/\F D=none:=by
 have fD:F D=none:=by
  cases q:F D with
  |none=>rfl
  |some o=>have:=B.at_ _ _ q;rw[hn]at this;cases this
 refine⟨⟨fun b u e=>hk b u (B.sub b u e),fun b u e=>?_,fun b u e=>?_⟩,fD⟩
 ·by_cases q:b=D
  ·subst q;rw[Fg.put_same]at e;injection e with e;subst e;exact hD
  ·rw[Fg.put_ne _ _ q]at e;exact hk b u (B.at_ b u e)
 ·by_cases q:b=D
  ·subst q;exact am B.sub hn
  ·rw[Fg.put_ne _ _ q]at e;exact B.dis b u e
theorem lM{h:Hp}:h.get? h.objs.size=none:=by
 cases q:h.get? h.objs.size with
 |none=>rfl
 |some o=>exact absurd (Hp.lt_size q) (Nat.lt_irrefl _)
theorem mH{x:Str}{px:Pos}{ds:Hp->Vl->Fg->List PyD}(hf:cB hg n env F ρ (.Name x px) fun O v F'=>F'=F/\v= .type "list")(he:cB hg n env F ρ e PE)(hz:∀h v F',(ds h v F').length<=1000)(hP:∀h v F',PE h v F'->(DV (.tuple (ds h v F'))).P h v)
  (hn:autoParam (sE [e] env=(false,eval e env)::sE [] env) Rf):
  cB hg n env F ρ (.Call (.Name x px) [e] [] pc) fun O v F'=>X6 fun a o vs F1 h₁ u=>A6 (PE h₁ u F1) (v= .ref a) (F1 a=none) (LO o vs) (∃g,RA g vs.toList (ds h₁ u F1)) (F'=F1.put a o):=fun A fr hb hm s Q E ok S B h=>by
 refine wpAny_Call_NameR (hf A fr hb hm s _ E ok S B fun v F1 h₁ hm1 hb1 tk1 st1 B1 p1=>?_)
 obtain⟨rfl,rfl⟩:=p1
 have S1:=S.step st1
 have key:=wpAny_items_cons (he:=hn) (pos:=pc) (env:=env) (Q:=fun us s₁=>hg.StaysIn s₁.heap/\wA MD A (call (.type "list") ([] ++us)) Q E s₁) (he A fr hb1 hm1 (aA s h₁ tk1) _ E ok S1 B1 fun v F2 h2 hm2 hb2 tk2 st2 B2 p2=>by
  have S2:=S1.step st2
  refine wpAny_items_nil ⟨fun b o e=>B2.sub b o (S2.b b o (S2.g b o e)),?_⟩
  obtain⟨as,r⟩:=hP _ _ _ p2
  obtain⟨a,o,vs,m,rfl,ho,hc,hd,hr⟩:=reads_tuple_inv r
  have len:vs.size=(ds hb2 (.ref a) F2).length:=by simpa using RA.length ⟨_,hr⟩
  refine call_list_seq (s:=(aA s h2 tk2)) a (.inr rfl) (B2.sub _ _ (S2.b _ _ ho)) hc hd (fun h3 c' hk hD=>?_) (by rw[sizeLine_eq,len];have:=hz hb2 (.ref a) F2;exact Nat.le_trans ‹_› (by decide))
  obtain⟨B3,f3⟩:=B2.more hk hD lM
  exact h _ _ h3 hm2 hb2 tk2 (st1.trans st2) B3 ⟨_,_,vs,F2,hb2,_,p2,rfl,f3,⟨rfl,rfl,c',rfl⟩,⟨hb2,_,hr⟩,rfl⟩)
 rw[hn]at key
 rw[hn]
 exact bh (hg:=hg) (.type "list") rfl key
theorem wq{x:Str}{px:Pos}{a:Ad}(hx:ρ.lookup x=some (.fz (RV (.ref a))))(kx:cM env x)(no:ar ρ)(he:cB hg n env F ρ e PE)
  (hP:∀h v F1,PE h v F1->X5 fun b oa ob vs us=>A7 (v= .ref b) (F1 a=some oa) (LO oa vs) (F1 b=some ob) (LO ob us) (vs.size +us.size<=1000000) (∀o',LO o' (vs ++us)->P.next ((x,.fz (RV (.ref a)))::ρ) (F1.put a o'))):
  XX hg n env F ρ (.AugAssign (.Name x px) .Add e pos) P:=fun A fr h₀ hb₀ hb hm s Q E ok Rl B h=>by
 obtain⟨v,rd,lo⟩:=Rl.s.v x _ hx
 obtain rfl:v= .ref a:=lo
 have rd:=rd.up (be B.sub)
 have load:∀{Q:VS},Q (.ref a) s->wA MD A (loadName env x) Q E s:=fun q=>by
  rcases rd with⟨k,m,b,c⟩|⟨k,c,b,d⟩
  ·exact wpAny_loadName_local Rl.s.k k b c q
  ·rcases k with k|⟨k,nc⟩
   ·exact wpAny_loadName_cell Rl.s.k k b d q
   ·exact wpAny_loadName_free Rl.s.k k b d q nc
 refine wpAny_AugAssign_Name (load (he A fr hb hm s _ E ok Rl.s B fun v F1 h₁ hm1 hb1 tk1 st1 B1 p1=>?_))
 obtain⟨b,oa,ob,vs,us,rfl,ha,⟨l1,l2,k1,l3⟩,hb',⟨m1,m2,k2,m3⟩,hz,hN⟩:=hP _ _ _ p1
 have R1:=Rl.step st1
 refine oM (s:=(aA s h₁ tk1)) (vs:=vs) (us:=us) ⟨oa,B1.at_ _ _ ha,l1,l2,k1,l3⟩ ⟨ob,B1.at_ _ _ hb',m1,k2,m3⟩ hz fun h2 p2 k₂=>?_
 obtain⟨o',ho',q1,q2,q3⟩:=p2
 have B2:=B1.changeX ha k₂ ho'
 exact bH (s:=(aA s h2 tk1)) (v:=.ref a) (G:=RV (.ref a)) R1 B2 kx rfl (fun y ds O=>no y ds) fun h' hm' tk B' R'=>h .next _ h' hm' hb1 tk B' (.inl ⟨rfl,_,hN o' ⟨q1,q2,q3⟩,R'⟩) st1.sub
end
section
variable{z:Bool}{F:Fg}{o i:Ep}{P:PX}{PE:Hp->Vl->Fg->Prop}{ss:List Stmt}
theorem qS{f:Vl}{Gs:List FP}{PV:Hp->Vl->Fg->Prop}{R:RK}(x:fK hg n (fun O=>none) f Gs PV)(hR:∀h hb v F' h',PV hb v F'->R h hb h' v):gO hg n f (Gs.map rF) R:=fun A fr h₀ hb s vs Q E ok sg sb ff al h=>
 wpAny_call (x A fr hb s.heap s vs _ ok sg sb ff gn (fj al) fun v F' h' hm' hb' tk st B' p=>h v h' hb' tk ⟨st.up.trans (Hp.UpToSlots.of_keeps B'.sub),st.sub,fun b o e=>B'.sub b o (st.stay b o e),st.fresh⟩ (hR _ _ _ _ _ p))
theorem co.freeze{h₀ hb₀ hb hm h:Hp}{fr:List Env}(R:co hg h₀ hb₀ hb hm env fr ρ)(B:ae F h hm)(no:ar ρ):∃hp,A3 (co hg h₀ hb₀ hp h env fr ρ) (hb.StaysIn hp) (lz F hp):=by
 obtain⟨hp,p0,p2,p1,S',p4⟩:=B.sees R.s
 obtain⟨⟨m,hm0⟩,l2,l3⟩:=R.l
 obtain⟨o,es,ep,ho,r⟩:=hm0
 refine⟨hp,⟨⟨p0,S'.b,S'.f,S'.k,S'.gl,S'.bl,S'.v⟩,⟨R.st.up.trans (Hp.UpToSlots.of_keeps B.sub),fun b o e=>p1 b o (R.st.sub b o e),S'.b,fun b o e hd hn=>?_⟩,⟨⟨m,o,es,ep,B.sub _ _ ho,r⟩,p4 _ l2 (B.off ho),l3⟩,fun x c e=>?_,R.ci,R.hd,fun x ds e=>absurd e (no x ds),fun x y dx dy a e=>absurd e (no x dx)⟩,p1,p2⟩
 ·obtain⟨sl,e'⟩:=R.st.up b o e hd
  exact p4 b (R.st.fresh b o e hd hn) (B.off e')
 ·obtain⟨⟨v,oc,hoc,hdc⟩,c2,c3⟩:=R.c x c e
  exact⟨⟨v,oc,B.sub _ _ hoc,hdc⟩,p4 _ c2 (B.off hoc),c3⟩
theorem co.relabel{h₀ hb₀ hb h:Hp}{fr:List Env}{x:Str}{G G':FP}(R:co hg h₀ hb₀ hb h env fr ρ)(hx:ρ.lookup x=some (.fz G))(hG:∀u,G.P hb u->G'.P hb u):co hg h₀ hb₀ hb h env fr ((x,.fz G')::ρ):=by
 have own:∀{y:Str}{ds:List PyD},List.lookup y ((x,LV.fz G')::ρ)=some (.own ds)->ρ.lookup y=some (.own ds):=fun{y ds} e=>by
  rw[aw]at e
  by_cases q:y=x
  ·rw[if_pos q]at e;injection e with e;cases e
  ·rw[if_neg q]at e;exact e
 refine⟨⟨R.s.g,R.s.b,R.s.f,R.s.k,R.s.gl,R.s.bl,fun y lv e=>?_⟩,R.st,R.l,R.c,R.ci,R.hd,fun y ds e=>R.o y ds (own e),fun y y' dx dy a e1 e2 r1 r2=>R.oi y y' dx dy a (own e1) (own e2) r1 r2⟩
 rw[aw]at e
 by_cases q:y=x
 ·rw[if_pos q]at e;injection e with e;subst e;subst q
  obtain⟨v,r,lo⟩:=R.s.v y _ hx
  exact⟨v,r,hG v lo⟩
 ·rw[if_neg q]at e;exact R.s.v y lv e
theorem tg{x:Str}{G G':FP}{R:RK}(no:ar ρ)(hx:ρ.lookup x=some (.fz G))(hG:∀hb hp u,hb.StaysIn hp->lz F hp->G.P hb u->G'.P hp u)(ex:Ex hg z n env ((x,.fz G')::ρ) ss (.ret R))(hR:∀h hb h' v,R h hb h' v->P.ret hb v fun O=>none)(hz:z=false):ly hg n env F ρ ss P:=fun A fr h₀ hb₀ hb hm s Q E ok Rl B h=>by
 obtain⟨hp,Rp,k1,k2⟩:=Rl.freeze B no
 have R':co hg h₀ hb₀ hp s.heap env fr ((x,.fz G')::ρ):=by
  refine⟨⟨Rp.s.g,Rp.s.b,Rp.s.f,Rp.s.k,Rp.s.gl,Rp.s.bl,fun y lv e=>?_⟩,Rp.st,Rp.l,Rp.c,Rp.ci,Rp.hd,fun y ds e=>?_,fun y y' dx dy a e=>?_⟩
  ·rw[aw]at e
   by_cases q:y=x
   ·rw[if_pos q]at e;injection e with e;subst e;subst q
    obtain⟨v,r,lo⟩:=Rl.s.v y _ hx
    exact⟨v,r.up (be B.sub),hG hb hp v k1 k2 lo⟩
   ·rw[if_neg q]at e;exact Rp.s.v y lv e
  ·rw[aw]at e
   by_cases q:y=x
   ·rw[if_pos q]at e;injection e with e;cases e
   ·rw[if_neg q]at e;exact absurd e (no y ds)
  ·rw[aw]at e
   by_cases q:y=x
   ·rw[if_pos q]at e;injection e with e;cases e
   ·rw[if_neg q]at e;exact absurd e (no y dx)
 refine ex A fr h₀ hb₀ hp s Q E ok R' fun f h' hb' tk out rst=>?_
 obtain⟨v,rfl,st,r⟩:=out
 subst hz
 exact h _ _ h' h' hb' tk gn (.inr (.inr (.inr ⟨v,rfl,hR _ _ _ _ r,st⟩))) fun b o e=>rst.all b o (k1 b o e)
theorem ae.drop{h hm hb:Hp}{a:Ad}{oa:Obj}(B:ae (F.put a oa) h hm)(fa:F a=none)(kb:hb.StaysIn hm):X2 fun hm' hb'=>A3 (ae F h hm') (ay hm hb hm' hb') (hb'.get? a=some oa):=by
 obtain⟨hm',m1,m2⟩:=cx F h
 have ha:h.get? a=some oa:=B.at_ _ _ (Fg.put_same _ _ _)
 have hma:hm.get? a=none:=B.dis _ _ (Fg.put_same _ _ _)
 have keep:hm.StaysIn hm':=fun b u e=>by
  have fb:=B.off e
  have hba:b≠a:=fun q=>by rw[q,hma]at e;cases e
  rw[Fg.put_ne _ _ hba]at fb
  exact(m1 b fb).trans (B.sub b u e)
 obtain⟨hb',st,w,_⟩:=iV (h:=hm) (hb:=hb) (h':=hm') (Hp.UpToSlots.of_keeps keep) (fun b u e=>keep b u (kb b u e)) (fun b=>b=a) fun b q=>q▸eO.of_none hma
 refine⟨hm',hb',⟨fun b u e=>?_,fun b u e=>?_,fun b u e=>m2 b (by rw[e];exact fun q=>(nomatch q))⟩,st,(w _ rfl).trans ((m1 a fa).trans ha)⟩
 ·by_cases q:F b=none
  ·rw[<-m1 b q];exact e
  ·rw[m2 b q]at e;cases e
 ·exact B.at_ b u (by
   rw[Fg.put_ne _ _ fun q=>by rw[q,fa]at e;cases e];exact e)
theorem xQ{PQ:Hp->Vl->Prop}(he:cB hg n env F ρ e PE)(k:∀hb v F',PE hb v F'->X2 fun a oa=>A3 (F'=F.put a oa) (F a=none) (∀hb',hb.StaysIn hb'->hb'.get? a=some oa->PQ hb' v)):cB hg n env F ρ e fun hb v F'=>F'=F/\PQ hb v:=fun A fr hb hm s Q E ok S B h=>
 he A fr hb hm s Q E ok S B fun v F1 h₁ hm1 hb1 tk1 st1 B1 p1=>by
  obtain⟨a,oa,rfl,fa,hq⟩:=k _ _ _ p1
  obtain⟨hm',hb',B',st',e'⟩:=B1.drop fa st1.stay
  exact h v F h₁ hm' hb' tk1 (st1.trans st') B' ⟨rfl,hq hb' st'.sub e'⟩
theorem qV{ns:List Int}(he:∀hp,hg.StaysIn hp->lz F hp->Ev hp n env ρ e (RN (ns.map .int)))(ia:∀{g:Hp}{vs:List Vl},RA g vs (ns.map .int)->∀g':Hp,∃as,ReadsAll g' vs (ns.map .int) as):cB hg n env F ρ e fun hb v F'=>F'=F/\(DV (.list (ns.map .int))).P hb v:=
 xQ (eP he) fun hb v F' ⟨a,o,vs,hv,fa,⟨l1,l2,k,l3⟩,⟨g,ra⟩,hF⟩=>⟨a,o,hF,fa,fun hb' O e=>by
  obtain⟨as,hr⟩:=ia ra hb'
  rw[hv];exact⟨_,.list e l1 l3 hr⟩⟩
end
section
variable{z:Bool}{F:Fg}{o i:Ep}{P:PX}{PE:Hp->Vl->Fg->Prop}{ss:List Stmt}
theorem vE{x:Str}{px:Pos}{rg N:Nat}{t u v:Tok}(hN:N<1000000):yK (.Name x px) (.ref rg) N (fun h=>IsRange h rg 0 (N:Int) 1 t u v)
  (fun i o=>o={cls:=.type "range_iterator",data:=.fields #[rawInt (i:Int),rawInt ((N:Int) - (i:Nat)),rawInt 1]}) fun i O v=>∃t,v=Vl.int (i:Int) t:=
 ⟨fun{A s Q E} hS h=>wpAny_pyIter_range hS (small_one (by decide) (by decide) (by exact Int.le_trans (by decide) (Int.natCast_nonneg _)) (Int.lt_trans (b:=1000000) (by exact zb ‹_›) (by decide))) (by
   rw[rangeSize_one]
   have e1:(if(0:Int)<N then(N:Int) - 0 else 0)=(N:Int) - (0:Nat):=by split<;>omega
   rw[e1]
   exact h _ rfl rfl),
  fun r=>by subst r;exact⟨_,rfl⟩,fun{A s Q E I i} hS r hi h=>by
  obtain⟨o,ho,rfl⟩:=r
  refine wpAny_pyNext_range_item (x:=(i:Int)) (left:=(N:Int) - (i:Nat)) (step:=1) ho (by exact Ei ‹_›) fun h' hit hs=>?_
  refine⟨_,rfl,wP (h _ h' (s.toks +1) ⟨_,hit,?_⟩ hs.extBut ⟨s.toks,rfl⟩)⟩
  have e1:((i +1:Nat):Int)=(i:Int) +1:=by exact Ee
  have e2:(N:Int) - ((i +1:Nat):Int)=(N:Int) - (i:Nat) - 1:=by exact FK
  rw[e1]at e2⊢
  rw[e2],fun hh hS r h=>by
  obtain⟨o,ho,rfl⟩:=r
  exact wpAny_pyNext_range_end (x:=(N:Int)) (left:=(N:Int) - (N:Nat)) (step:=1) hh ho (by omega) h⟩
theorem vG{x:Str}{px p1:Pos}{c N:Nat}(hf:cB hg n env F ρ (.Name x px) fun O v F'=>F'=F/\v= .type "range")
  (hn:autoParam (sE [.Constant (.int N) c p1] env=(false,eval (.Constant (.int N) c p1) env)::sE [] env) Rf):
  cB hg n env F ρ (.Call (.Name x px) [.Constant (.int N) c p1] [] pc) fun hb v F'=>F'=F/\X4 fun rg t u w'=>v= .ref rg/\IsRange hb rg 0 (N:Int) 1 t u w':=fun A fr hb hm s Q E ok S B h=>by
 refine wpAny_Call_NameR (hf A fr hb hm s _ E ok S B fun v F1 h₁ hm1 hb1 tk1 st1 B1 p₁=>?_)
 obtain⟨rfl,rfl⟩:=p₁
 have S1:=S.step st1
 have he:cB hg n env F1 ρ (.Constant (.int N) c p1) fun hb v F'=>F'=F1/\(DV (.int (N:Int))).P hb v:=j4 (aV (fun hp a b=>aJ) e7) fun h v F' ⟨a,t,b⟩=>⟨a,by rw[b];exact cQ⟩
 have key:=aW he bE hn pc A fr hb1 hm1 (aA s h₁ tk1) (fun us s₁=>hg.StaysIn s₁.heap/\wA MD A (call (.type "range") ([] ++us)) Q E s₁) E ok S1 B1 fun us h2 hm2 hb2 tk2 st2 B2 r2=>by
  obtain⟨v,rfl,rv⟩:=r2.one
  obtain⟨t,rfl⟩:=aj rv
  have S2:=S1.step st2
  refine⟨fun b o e=>B2.sub b o (S2.b b o (S2.g b o e)),call_range_1 ?_⟩
  obtain⟨hm',hb',B',st',e'⟩:=B2.put0 (h':=h2.push {cls:=.type "range",data:=.fields #[.int 0 tk2,.int N t,.int 1 (tk2 +1)]}) S2.b (fun b o e=>Hp.get?_push_of_some _ e) (Hp.get?_push_size _ rfl) lM
  exact h _ F1 _ hm' hb' _ (st1.trans (st2.trans st')) B' ⟨rfl,_,_,_,_,rfl,e'⟩
 rw[hn]at key
 rw[hn]
 exact bh (hg:=hg) (.type "range") rfl key
theorem tS{ps:Pos}{x:Str}{G:FP}(hx:ρ.lookup x=some (.fz G))(he:cB hg n env F ρ e PE)
  (hp:∀h v F1,PE h v F1->X4 fun d od kvs k=>A6 (∀hp,hg.StaysIn hp->lz F1 hp->Ev hp n env ρ o (RF (RV (.ref d)))) (∀hp,hg.StaysIn hp->lz F1 hp->Ev hp n env ρ i (RF (DV (.int k)))) (F1 d=some od) (od.IsDictOf (intKind PG W0) kvs) (kvs.length<=1000) (∃G':FP,(∀u,G.P h u->G'.P h u)/\∀o',o'.IsDictOf (intKind PG W0) (stored kvs k v)->P.next ((x,.fz G')::ρ) (F1.put d o')))
  (hs:autoParam (swapsWith e (some (.Subscript o i ps)) pos.line env=pure false) Rf):
  XX hg n env F ρ (.Assign [.Subscript o i ps] e pos) P:=fun A fr h₀ hb₀ hb hm s Q E ok Rl B h=>by
 refine wpAny_Assign_Subscript (hs:=hs) (he A fr hb hm s _ E ok Rl.s B fun v F1 h₁ hm1 hb1 tk1 st1 B1 p1=>?_)
 obtain⟨d,od,kvs,k,ho,hi,e1,e2,e3,G',eG,e4⟩:=hp _ _ _ p1
 have R1:=Rl.step st1
 refine aV ho fA A fr hb1 hm1 (aA s h₁ tk1) _ E ok R1.s B1 fun ov F2 h2 hm2 hb2 tk2 st2 B2 p2=>?_
 obtain⟨rfl,rfl⟩:=p2
 have R2:=R1.relabel hx eG|>.step st2
 refine aV hi e7 A fr hb2 hm2 (aA s h2 tk2) _ E ok (R1.step st2).s B2 fun iv F3 h3 hm3 hb3 tk3 st3 B3 p3=>?_
 obtain⟨rfl,t,rfl⟩:=p3
 have R3:=R2.step st3
 refine kw (s:=(aA s h3 tk3)) e1 e2 e3 B3 fun h4 o' tk4 hd B4=>?_
 exact h .next _ h4 hm3 hb3 tk4 B4 (.inl ⟨rfl,_,e4 o' hd,R3⟩) fun b o e=>st3.sub b o (st2.sub b o (st1.sub b o e))
end
section
variable{A:Ar}{E:VS}{s:SD}
theorem rJ(a n:Nat)(ha:a<=n):Builtin.Slice.sliceAdjust none (some (a:Int)) 1 (n:Int)=(0,(a:Int)):=by
 unfold Builtin.Slice.sliceAdjust
 have h1:¬((1:Int)<0):=by decide
 have h2:¬((a:Int)<0):=by omega
 simp only[h1,h2,if_false]
 congr 1
 exact Int.min_eq_left (Int.ofNat_le.mpr ‹_›)
theorem r7(a:Nat):Builtin.Slice.slicePlaces 0 (a:Int) 1=a:=by
 unfold Builtin.Slice.slicePlaces
 have h1:(1:Int)>0:=by decide
 simp only[h1,if_true,Int.ediv_one]
 split<;>(first|exact Fx|omega)
theorem jO{sl:Ad}{a n:Nat}{u:Tok}{Q:Int×Int×Nat->SD->Prop}(hs:s.heap.IsSliceOf sl .none (.int a u) .none)(ha:a<=n)(h:Q (0,1,a) s):
  wA MD A (Builtin.Slice.sliceApplied (.ref sl) (pure (n:Int))) Q E s:=by
 obtain⟨os,hos,hcs,hds⟩:=id hs
 unfold Builtin.Slice.sliceApplied Builtin.Slice.sliceFields
 refine wBi (wBi (wpAny_field hos hds (x:=.none) rfl (wBi (wpAny_field hos hds (x:=.int a u) rfl (wBi (wpAny_field hos hds (x:=.none) rfl (wP ?_)))))))
 refine wBi (slicePart_none ?_)
 show wA _ _ (if((1:Int)==0)=true then _ else _) _ _ s
 rw[if_neg (by decide)]
 refine wBi (slicePart_none (wBi (slicePart_int (wBi (wP ?_)))))
 show wA _ _ (match Builtin.Slice.sliceAdjust none (some (a:Int)) 1 (n:Int)with|(lo,hi)=>pure (lo,(1:Int),Builtin.Slice.slicePlaces lo hi 1)) _ _ s
 rw[rJ a n ha]
 show wA _ _ (pure ((0:Int),(1:Int),Builtin.Slice.slicePlaces (0:Int) (a:Int) 1)) _ _ s
 rw[r7 a]
 exact wP h
theorem v5(xs:Array Vl)(a:Nat):((List.range a).filterMap fun(k:Nat)=>xs[((0:Int) +(k:Int)*1).toNat]?).toArray=(xs.toList.take a).toArray:=by
 have e:(fun(k:Nat)=>xs[((0:Int) +(k:Int)*1).toNat]?)=fun k=>xs[0 +k]?:=by
  funext k
  have:((0:Int) +(k:Int)*1).toNat=0 +k:=by exact Fb
  rw[this]
 rw[e]
 have:=pick_run xs 0 a
 rw[List.filterMap_map]at this
 have e2:((fun x=>xs[x]?)∘fun x=>0 +x)=fun k=>xs[0 +k]?:=rfl
 rw[e2]at this
 rw[this,List.drop_zero]
theorem i6{t sl:Ad}{items:Array Vl}{a:Nat}{u:Tok}{Q:VS}(ht:IsTup s.heap t items)(hs:s.heap.IsSliceOf sl .none (.int a u) .none)(ha:a<items.size)
  (h:Q (.ref s.heap.objs.size) {s with heap:=s.heap.push {cls:=.type "tuple",data:=.seq (items.toList.take a).toArray}})
  (hsz:items.size<=sizeLine:=by size_fits):wA MD A (getItem (.ref t) (.ref sl)) Q E s:=by
 have hdrop:sizeOk (.seq (items.toList.take a).toArray):=by
  show(items.toList.take a).toArray.size<=sizeLine
  rw[List.size_toArray,List.length_take,Array.length_toList]
  exact EZ ‹_› ‹_›
 obtain⟨os,hos,hcs,hds⟩:=id hs
 have hTs:s.TypeIs (.ref sl) "slice":=⟨os,hos,hcs⟩
 unfold getItem
 try with_reducible refine wpAny_holding ?_
 first|refine wBi (wP ?_)|skip
 refine wBi (wpAny_sequenceKey ht.typeIs (by decide) ?_)
 refine wBi (wpAny_callSpecial?_slot (name:=Str.ofString "__getitem__") ht.typeIs slot_tuple_getitem
  (wpAny_call_entry slot_tuple_getitem ht.typeIs entry_tuple_getitem ?_ (args_tuple_getitem _ _)))
 show wA _ _ (Builtin.Tuple.tupleItemsOf (.ref t)>>=_) _ _ s
 refine wBi (tupleItemsOf_ ht ?_)
 refine wBi (wpAny_typeOf hTs ?_)
 rw[if_pos (by decide)]
 refine wBi (jO hs (Nat.le_of_lt ha) ?_)
 have hno:¬(((0:Int)==0&&(1:Int)==1&&a==items.size)=true):=by
  have:(a==items.size)=false:=by rw[beq_eq_false_iff_ne];omega
  rw[this];simp
 show wA _ _ (if((0:Int)==0&&(1:Int)==1&&a==items.size)=true then _ else _) _ _ s
 rw[if_neg hno,v5 items a]
 first
  |exact wBi (m:=Builtin.Tuple.tupleExact _) (wpAny_newObj_type (wP ⟨_,rfl,wP h⟩) hdrop)
  |exact wBi (m:=Builtin.Tuple.tupleExact _) (wpAny_newObj_type (wBi (wP (wP ⟨_,rfl,wP h⟩))) hdrop)
  |exact wBi (wBi (m:=Builtin.Tuple.tupleExact _) (wpAny_newObj_type (wP (wP ⟨_,rfl,wP h⟩)) hdrop))
  |exact wBi (wBi (m:=Builtin.Tuple.tupleExact _) (wpAny_newObj_type (wP ⟨_,rfl,wP h⟩) hdrop))
end
section
variable{l r:Ep}{R R1 R2:RK}
theorem rA{ds:List PyD}{a:Nat}(ha:a<ds.length)(hz:ds.length<=1000000):m5 hg n (RF (DV (.tuple ds))) (RS none (some (a:Int)) none) (RF (DV (.tuple (ds.take a)))):=fun A fr h₀ h₁ hb s u v Q E ok O st O ra rb h=>by
 obtain⟨_,ra⟩:=ra
 obtain⟨t,o,vs,k,rfl,ho,hc,hd,hr⟩:=reads_tuple_inv ra
 obtain⟨b,vl,vu,vt,rfl,hs,pl,pu,pt⟩:=rb
 have ho':=st _ _ ho
 have hT:IsTup s.heap t vs:=⟨o,ho',hc,k,hd⟩
 have hlen:vs.size=ds.length:=by simpa using RA.length ⟨_,hr⟩
 cases pl
 cases pt
 cases pu
 obtain⟨hb',st',e'⟩:=dq (h:=s.heap) (hb:=hb) {cls:=.type "tuple",data:=.seq (vs.toList.take a).toArray} st
 obtain⟨bs,hr'⟩:=RA.take a (⟨_,hr⟩:RA hb vs.toList ds)
 exact⟨"tuple",_,hT.typeIs,slot_tuple_getitem.lookup,i6 hT hs (by exact Nat.lt_of_lt_of_eq ‹_› (Eq.symm ‹_›)) (h _ _ hb' s.toks st' ⟨_,.tuple e' rfl rfl (ReadsAll.keeps st'.sub hr')⟩) (by rw[sizeLine_eq];exact Nat.le_trans (Nat.le_of_eq ‹_›) (Nat.le_trans ‹_› (by decide)))⟩
theorem tu{elt tgt iter:Ep}{ifs:List Ep}{g0:Comprehension}{rest:List Comprehension}{inner:Env->Vl->Sem Unit}{scope:Scope}{ds:List PyD}{item:PyD->List PyD}{ρ':LS}
  (tree:db (.ListComp elt (g0::⟨tgt,iter,ifs,0⟩::rest) scope pos) 1 tgt ifs inner)
  (he:Ev hg n env ρ iter (RF (DV (.tuple ds))))(ht:cz tgt)(hρ:∀y lv,ρ'.lookup y=some lv->ρ.lookup y=some lv)(hs:∀x,foldedSetIterable iter env x=pure x)
  (turn:∀d∈ds,X2 fun σ b=>cn hg n env ρ tgt ifs (inner env) d (item d) σ b):
  qO hg n env ρ ρ' (n7 (.ListComp elt (g0::⟨tgt,iter,ifs,0⟩::rest) scope pos) 1 iter env) (ds.flatMap item):=fun A fr h₀ hb₀ hb s D out Q E ok x hz h=>by
 unfold n7
 obtain⟨pi1,pi2⟩:=gu (ds:=ds) (item:=item)
 refine wBi (he A fr hb s _ E ok x.s fun v h₁ hb1 tk1 st1 r1=>wBi (wpAny_standAt (wBi (wpAny_of_eq (hs v) (wBi (wpAny_holding ?_))))))
 obtain⟨_,r1⟩:=r1
 obtain⟨a,o,vs,k,rfl,ho,hc,hd,hr⟩:=reads_tuple_inv r1
 have x1:=x.step st1 (.inl rfl)
 have ho1:=st1.stay _ _ ho
 have hl:h₁.IsTuple a vs:=⟨o,ho1,hc,k,hd⟩
 have hne:a≠h₁.objs.size:=Nat.ne_of_lt (Hp.lt_size ho1)
 refine wpAny_pyIter_tuple hl ?_
 have st2:ay h₁ hb1 (h₁.push {cls:=.type "tuple_iterator",data:=.fields #[.ref a,rawInt 0]}) hb1:=aL _ st1.stay
 have x2:=x1.step st2 (.inl rfl)
 have IT:=mt ok.h ht hne ⟨_,hr⟩
 have hit:((h₁.push {cls:=.type "tuple_iterator",data:=.fields #[.ref a,rawInt 0]}).IsTupleIter h₁.objs.size a 0/\(h₁.push {cls:=.type "tuple_iterator",data:=.fields #[.ref a,rawInt 0]}).IsTuple a vs):=⟨⟨_,Hp.get?_push_size _ rfl,rfl,rfl⟩,hl.push _⟩
 have aC:env.locals∉[a]:=fun q=>by
  have:=x1.c.2
  rw[List.mem_singleton.mp q,ho]at this;cases this
 have aD:D∉[a]:=fun q=>by
  have:=x1.d.2
  rw[List.mem_singleton.mp q,ho]at this;cases this
 have loop:∀tk,codeAny MD A (.compLoop (.ListComp elt (g0::⟨tgt,iter,ifs,0⟩::rest) scope pos) 1 (.ref h₁.objs.size) (.ref D) env)
   (fun r s'=>match r with| .ok f=>Q () s'| .error e=>cameBackBy MD A env E e s') {s with heap:=h₁.push {cls:=.type "tuple_iterator",data:=.fields #[.ref a,rawInt 0]},toks:=tk}:=fun tk=>by
  refine jU (s:={s with heap:=h₁.push {cls:=.type "tuple_iterator",data:=.fields #[.ref a,rawInt 0]},toks:=tk}) (ds:=ds.map fun d=>(DV d,item d)) (inner:=inner env) ok (by rw[pi1];exact IT.f) aC aD (.inl rfl) (fun d hd=>by obtain⟨d',hd',rfl⟩:=List.mem_map.mp hd;exact turn d' hd')
   (fun s Next Fin h h1 h2=>tree s Next Fin h h1 h2) x2 (fun O O e=>e) (fun b hb=>by rw[List.mem_singleton.mp hb];exact Hp.StaysIn.fresh st1.stay) hit (by rw[pi2];exact hz) fun h' hb' tk' x' sub K'=>?_
  rw[pi2]at x'
  exact h h' hb' tk' (x'.less hρ) (fun b o e=>sub b o (st1.sub b o e)) (((Kb.of_up st1.up).trans (Kb.of_up st2.up)).trans K')
 have start:∀tk,codeAny MD A (.compStart (.ListComp elt (g0::⟨tgt,iter,ifs,0⟩::rest) scope pos) 1 (.ref h₁.objs.size) (.ref D) env)
   (fun r s'=>match r with| .ok f=>Q () s'| .error e=>cameBackBy MD A env E e s') {s with heap:=h₁.push {cls:=.type "tuple_iterator",data:=.fields #[.ref a,rawInt 0]},toks:=tk}:=fun tk=>by
  refine codeAny_of_tree ?_
  show wA _ _ ((compStart (.ListComp elt (g0::⟨tgt,iter,ifs,0⟩::rest) scope pos) 1 (.ref h₁.objs.size) (.ref D) env).onRaise (fun x=>do noteFrame x env;standAt theWindowsPlace)) _ _ _
  refine wpAny_notedAt ?_
  unfold compStart
  show wA _ _ (ask>>=_) _ _ _
  refine wBi (wpAny_askSetting (wpAny_ite ?_))
  split
  ·exact wP (And.intro rfl (loop _))
  ·refine wBi (wpAny_rule ?_)
   show wA _ _ (standAt iter.pos>>=_) _ _ _
   exact wBi (wpAny_standAt (wBi (IT.self 0 _ _ _ hit (wP (And.intro rfl (loop _))))))
 have hA:A.mark none=A:=by
  obtain⟨_⟩:=A
  rfl
 refine wBi (wpAny_runOwn ?_)
 rw[hA]
 exact codeAny_mono (start _) fun r s' hr=>by cases r<;>first|exact wP hr|exact hr
end
section
variable{F F':Fg}
theorem fG{K:Frag}(G:Gr K hg){a:Ad}(f:Fn K a)(xs:List Str)(Fs Gs:List FP)(P:Hp->Vl->Fg->Prop)
  (hbind:jJ hg F f.fd Gs xs Fs)(hx:∀L:Nat,∀x∈xs,f.fd.scope.names.lookup x=some .local\/(f.fd.scope.names.lookup x=some .cell/\((cellsFrom (L +1) f.fd.scope.names []).lookup x).isSome=true))
  (hex:∀L,ly hg n (callEnvC f.fd L a) F (bz xs Fs) f.body {ret:=P,next:=fun O F'=>∀hb',P hb' .none F'})
  (nd:autoParam (xs.Nodup) Dc)(h5:autoParam (f.fd.closure=[]) Rf)(h6:autoParam (f.fd.globals=mainGlobals) Rf)(h7:autoParam (f.fd.builtins=builtinsNs) Rf)
  (hco:autoParam (f.fd.scope.isCoroutine=false) Rf)(hgen:autoParam (f.fd.scope.isGenerator=false) Rf)(hk:autoParam (f.fd.scope.kind= .function) Rf):
  fK hg (n +1) F (.ref a) Gs P:=by
 obtain⟨X,pp,loose,mean,mg,mb,T⟩:=id G
 exact xA (X a _ f.h1) f.h2 T.nolimit (codeRec_of X f.h3) f.h4 hbind nd h5 h6 h7 hx hex hco hgen hk
theorem jb.le{x:Ad}{name:Str}{v:Vl}{P P':Fg->Prop}(h:jb hg F x name v P)(k:∀F',P F'->P' F'):jb hg F x name v P':=fun A hm s Q E g B q=>h A hm s Q E g B fun h' F1 tk p B'=>q h' F1 tk (k _ p) B'
theorem hJ(G:Gr KZ hg){x dx i q:Nat}{name:Str}{ox od:Obj}{v:Vl}(hx:F x=some ox)(hcl:ox.cls= .ref 40)(hno:notCls ox=true)(hd:ox.dict=some dx)(hdx:F dx=some od)(hf:ox.isFreed=false)
  (ht:takerIn KZ 40 name=some (some (.ref q)))(hT:typeIn KZ (.ref q)=some (.type "member_descriptor"))(hi:slotIn KZ q 40=some i)(hz:i<1000):jb hg F x name v fun F1=>F1=F.put x (cm i v ox):=
 wE G.1 hx hcl hno hd hdx rfl rfl ht hT hi hz hf
noncomputable def oO(o:Obj)(dx:Ad)(k:Int)(m:Int)(l:Ad):Prop:=A4 (o.cls= .ref 40) (o.dict=some dx) (o.data= .plain) (X2 fun t u=>o.slots=#[some (.int k t),some (.int m u),some (.ref l)])
theorem yZ(G:Gr KZ hg){ob dx:Ad}{k:Int}(h1:F dx=some emptyDict)(h2:F ob=some (instObj 40 dx))(ne:ob≠dx):
  fK hg (n +1) F (.ref 36) [RV (.ref ob),DV (.int k)] fun O v F'=>v= .none/\X3 fun o l ol=>A4 (F l=none) (oO o dx k 0 l) (LO ol #[]) (F'=(F.put ob o).put l ol):=by
 refine fG G Eo ["self","node"] [RV (.ref ob),DV (.int k)] _ _ (ct rfl fun vs h=>by obtain⟨_,_,rfl⟩:=wD h;rfl) (fun L=>fL (.inl rfl) (.inl rfl)) fun L=>?_
 have self:∀{F1:Fg}{pp:Pos},cB hg n (callEnvC Eo.fd L 36) F1 (bz ["self","node"] [RV (.ref ob),DV (.int k)]) (.Name "self" pp) fun O u F2=>F2=F1/\u= .ref ob:=fun{F1 pp}=>bX (x:="self") (G:=RV (.ref ob)) rfl
 refine ad (N:=fun ρ1 F1=>ρ1=bz ["self","node"] [RV (.ref ob),DV (.int k)]/\∃t,F1=F.put ob (cm 0 (.int k t) (instObj 40 dx))) (cg (x:=ob) (bX (x:="node") (G:=DV (.int k)) rfl) (fun v h F1 q=>self) fun v h F1 q=>by
  obtain⟨rfl,q⟩:=q
  obtain⟨t,rfl⟩:=aj q
  exact(hJ G h2 rfl rfl rfl h1 rfl (q:=41) rfl rfl rfl (by decide)).le fun F' e=>⟨rfl,t,e⟩) ?_
 rintro ρ1 F1 ⟨rfl,t,rfl⟩
 refine ad (N:=fun ρ1 F1=>ρ1=bz ["self","node"] [RV (.ref ob),DV (.int k)]/\∃u,F1=(F.put ob (cm 0 (.int k t) (instObj 40 dx))).put ob (cm 1 (.int 0 u) (cm 0 (.int k t) (instObj 40 dx)))) (cg (x:=ob) (aV (R:=RF (DV (.int 0))) (fun hp O O=>aJ) e7) (fun v h F1 q=>self) fun v h F1 q=>by
  obtain⟨rfl,u,rfl⟩:=q
  exact(hJ G (Fg.put_same _ _ _) rfl rfl rfl (by rw[Fg.put_ne _ _ ne.symm];exact h1) rfl (q:=42) rfl rfl rfl (by decide)).le fun F' e=>⟨rfl,u,e⟩) ?_
 rintro ρ1 F1 ⟨rfl,u,rfl⟩
 refine ad (N:=fun ρ1 F1=>X3 fun o l ol=>A4 (F l=none) (oO o dx k 0 l) (LO ol #[]) (F1=(F.put ob o).put l ol)) (cg (x:=ob) (eP (ds:=[]) fun hp O O=>aO au) (fun v h F1 q=>self) fun v h F1 q=>by
  obtain⟨l,ol,vs,rfl,fl,lo,⟨g,ra⟩,rfl⟩:=q
  have hl:l≠ob:=fun z=>by rw[z,Fg.put_same]at fl;cases fl
  have hld:l≠dx:=fun z=>by rw[z,Fg.put_ne _ _ ne.symm,Fg.put_ne _ _ ne.symm,h1]at fl;cases fl
  have vs0:vs=#[]:=by
   have:=ra.length
   simpa using this
  subst vs0
  refine(hJ G (x:=ob) (ox:=cm 1 (.int 0 u) (cm 0 (.int k t) (instObj 40 dx))) (by rw[Fg.put_ne _ _ hl.symm];exact Fg.put_same _ _ _) rfl rfl rfl (by rw[Fg.put_ne _ _ hld.symm,Fg.put_ne _ _ ne.symm,Fg.put_ne _ _ ne.symm];exact h1) rfl (q:=43) rfl rfl rfl (by decide)).le fun F' e=>?_
  rw[Fg.put_ne _ _ hl,Fg.put_ne _ _ hl]at fl
  refine⟨cm 2 (.ref l) (cm 1 (.int 0 u) (cm 0 (.int k t) (instObj 40 dx))),l,ol,fl,⟨rfl,rfl,rfl,t,u,by simp[cm,instObj]⟩,lo,?_⟩
  rw[e]
  funext b
  unfold Fg.put
  by_cases q1:b=ob
  ·subst q1;simp[hl.symm]
  ·simp[q1]) ?_
 rintro ρ1 F1 ⟨o,l,ol,q⟩
 exact aP fun hb'=>⟨rfl,o,l,ol,q⟩
end
structure Mo where
 ks:List Int
 np:Int->Int
 su:Int->List Int
 rd:Option (List Int)
 po:Int
 nf:Int
inductive eX where
 |S|dx|D|I (k:Int)|ix (k:Int)|l (k:Int)|R
 deriving DecidableEq
noncomputable def Mo.used(M:Mo):eX->Prop
 | .S| .dx| .D=>True
 | .I k| .ix k| .l k=>k∈M.ks
 | .R=>M.rd.isSome=true
noncomputable def IL(o:Obj)(ns:List Int):Prop:=∃vs:Array Vl,LO o vs/\IntsAre vs.toList ns
noncomputable def AD(t1 t2 t3 t4:Tok)(n:Nat)(v1 v2 v3 v4:Vl):Obj:=
 {cls:=.type "dict",data:=.dict #[⟨PyD.keyHash W0.params "_node2info",.str "_node2info" t1,v1⟩,⟨PyD.keyHash W0.params "_ready_nodes",.str "_ready_nodes" t2,v2⟩,⟨PyD.keyHash W0.params "_npassedout",.str "_npassedout" t3,v3⟩,⟨PyD.keyHash W0.params "_nfinished",.str "_nfinished" t4,v4⟩] n}
noncomputable def Mo.rdV(M:Mo)(loc:eX->Ad):Vl:=if M.rd.isSome=true then .ref (loc .R)else .none
noncomputable def Mo.spec(M:Mo)(loc:eX->Ad):eX->Obj->Prop
 | .S,o=>o=instObj 137 (loc .dx)
 | .dx,o=>X7 fun t1 t2 t3 t4 n x y=>o=AD t1 t2 t3 t4 n (.ref (loc .D)) (M.rdV loc) (.int M.po x) (.int M.nf y)
 | .D,o=>o.IsDictOf (intKind PG W0) (M.ks.map fun k=>(k,.ref (loc (.I k))))/\(loc .D==sysModules)=false
 | .I k,o=>oO o (loc (.ix k)) k (M.np k) (loc (.l k))
 | .ix _,o=>o=emptyDict
 | .l k,o=>IL o (M.su k)
 | .R,o=>IL o (M.rd.getD [])
structure cr(F:Fg)(loc:eX->Ad)(M:Mo):Prop where
 inj:∀t t',M.used t->M.used t'->loc t=loc t'->t=t'
 at_:∀t,M.used t->∃o,F (loc t)=some o/\M.spec loc t o
 nd:M.ks.Nodup
 few:M.ks.length<=100
structure Go(F:Fg)(loc:eX->Ad)(M:Mo)(F':Fg)(loc':eX->Ad)(M':Mo):Prop where
 srt:cr F' loc' M'
 old:∀t,M.used t->M'.used t/\loc' t=loc t
 new:∀t,M'.used t->¬M.used t->F (loc' t)=none
 keep:∀a o,F a=some o->(∀t,M.used t->loc t≠a)->F' a=some o
section
variable{F F' F₁:Fg}{loc loc' loc1:eX->Ad}{M M' M1:Mo}
theorem Go.refl(h:cr F loc M):Go F loc M F loc M:=⟨h,fun t u=>⟨u,rfl⟩,fun t u n=>absurd u n,fun O O e O=>e⟩
theorem Go.trans(a:Go F loc M F₁ loc1 M1)(b:Go F₁ loc1 M1 F' loc' M'):Go F loc M F' loc' M':=by
 refine⟨b.srt,fun t u=>?_,fun t u n=>?_,fun x o e h=>?_⟩
 ·obtain⟨u1,e1⟩:=a.old t u
  obtain⟨u₂,e₂⟩:=b.old t u1
  exact⟨u₂,e₂.trans e1⟩
 ·by_cases u1:M1.used t
  ·rw[(b.old t u1).2];exact a.new t u1 n
  ·have h1:=b.new t u u1
   cases q:F (loc' t)with
   |none=>rfl
   |some o=>
    have:=a.keep _ o q fun t' u' e=>?_
    ·rw[h1]at this;cases this
    ·obtain⟨u2,e2⟩:=a.old t' u'
     obtain⟨u3,e3⟩:=b.old t' u2
     have:=b.srt.inj t' t u3 u (by rw[e3,e2,e])
     subst this
     exact n u'
 ·refine b.keep x o (a.keep x o e h) fun t u q=>?_
  by_cases u':M.used t
  ·exact h t u' (by rw[<-(a.old t u').2];exact q)
  ·have:=a.new t u u'
   rw[q,e]at this;cases this
theorem Mo.rdV_eq(h:M'.rd.isSome=M.rd.isSome)(e:M.rd.isSome=true->loc' .R=loc .R):M'.rdV loc'=M.rdV loc:=by
 unfold Mo.rdV
 by_cases q:M.rd.isSome=true
 ·rw[if_pos q,if_pos (h.trans q),e q]
 ·rw[if_neg q,if_neg (by rw[h];exact q)]
theorem cr.put(h:cr F loc M){t:eX}(u:M.used t){o:Obj}(hu:∀t,M'.used t↔M.used t)(hk:M'.ks=M.ks)(ho:M'.spec loc t o)(hs:∀t' o',t'≠t->M.used t'->M.spec loc t' o'->M'.spec loc t' o'):
  Go F loc M (F.put (loc t) o) loc M':=by
 refine⟨⟨fun a b ua ub=>h.inj a b ((hu a).mp ua) ((hu b).mp ub),fun t' u'=>?_,hk▸h.nd,hk▸h.few⟩,fun t' u'=>⟨(hu t').mpr u',rfl⟩,fun t' u' n=>absurd ((hu t').mp u') n,fun a o' e n=>?_⟩
 ·by_cases q:t'=t
  ·subst q;exact⟨o,Fg.put_same _ _ _,ho⟩
  ·obtain⟨o',e',s'⟩:=h.at_ t' ((hu t').mp u')
   exact⟨o',by rw[Fg.put_ne _ _ fun z=>q (h.inj _ _ ((hu t').mp u') u z)];exact e',hs t' o' q ((hu t').mp u') s'⟩
 ·rw[Fg.put_ne _ _ fun z=>n t u z.symm];exact e
theorem cr.S(h:cr F loc M):F (loc .S)=some (instObj 137 (loc .dx)):=by
 obtain⟨o,e,s⟩:=h.at_ .S trivial
 rw[e];exact congrArg some s
theorem cr.dx(h:cr F loc M):X7 fun t1 t2 t3 t4 n x y=>F (loc .dx)=some (AD t1 t2 t3 t4 n (.ref (loc .D)) (M.rdV loc) (.int M.po x) (.int M.nf y)):=by
 obtain⟨o,e,t1,t2,t3,t4,n,x,y,rfl⟩:=h.at_ .dx trivial
 exact⟨t1,t2,t3,t4,n,x,y,e⟩
theorem cr.D(h:cr F loc M):∃o,(F (loc .D)=some o/\o.IsDictOf (intKind PG W0) (M.ks.map fun k=>(k,.ref (loc (.I k))))/\(loc .D==sysModules)=false):=h.at_ .D trivial
theorem cr.R(h:cr F loc M){ns:List Int}(e:M.rd=some ns):∃o,F (loc .R)=some o/\IL o ns:=by
 obtain⟨o,e1,s⟩:=h.at_ .R (by show M.rd.isSome=true;rw[e];rfl)
 exact⟨o,e1,by have:IL o (M.rd.getD []):=s;rw[e]at this;exact this⟩
theorem mM{ks:List Int}{f:Int->Ad}{k:Int}:valueAt (ks.map fun k=>(k,Vl.ref (f k))) k=if k∈ks then some (.ref (f k))else none:=by
 induction ks with
 |nil=>rfl
 |cons a ks ih=>
  simp only[List.map_cons,valueAt,List.find?_cons,List.mem_cons]
  unfold valueAt at ih
  by_cases q:a=k
  ·subst q;simp
  ·have q':¬k=a:=fun e=>q e.symm
   simp only[q,decide_false,q',false_or]
   exact ih
end
section
variable{o r:Ep}{F F':Fg}{name:Str}{loc:eX->Ad}{M:Mo}
noncomputable def Rd(hg:Hp)(n:Nat)(env:Env)(F:Fg)(ρ:LS)(e:Ep)(v:Vl):Prop:=∀hp,hg.StaysIn hp->lz F hp->Ev hp n env ρ e (RF (RV v))
noncomputable def Ri(hg:Hp)(n:Nat)(env:Env)(F:Fg)(ρ:LS)(e:Ep)(k:Int):Prop:=∀hp,hg.StaysIn hp->lz F hp->Ev hp n env ρ e (RF (DV (.int k)))
theorem Rd.x{v:Vl}(h:Rd hg n env F ρ e v):cB hg n env F ρ e fun O u F'=>F'=F/\u=v:=aV h fA
theorem Ri.x{k:Int}(h:Ri hg n env F ρ e k):cB hg n env F ρ e fun hb u F'=>F'=F/\(DV (.int k)).P hb u:=j4 (aV h e7) fun h v F' ⟨a,t,b⟩=>⟨a,by rw[b];exact cQ⟩
theorem ag{x:Str}{v:Vl}(hx:ρ.lookup x=some (.fz (RV v)))(hd:autoParam ((x==("__debug__":Str))=false) Dc):Rd hg n env F ρ (.Name x pos) v:=fun hp O O=>aa hx hd
theorem gq{x:Str}{k:Int}(hx:ρ.lookup x=some (.fz (DV (.int k))))(hd:autoParam ((x==("__debug__":Str))=false) Dc):Ri hg n env F ρ (.Name x pos) k:=fun hp O O=>aa hx hd
theorem Rd.i{k:Int}{t:Tok}(h:Rd hg n env F ρ e (.int k t)):Ri hg n env F ρ e k:=fun hp a b=>(h hp a b).weak fun st r=>⟨_,st,by obtain rfl:_=Vl.int k t:=r;exact cQ⟩
theorem hO{K:Frag}{hp:Hp}(G:Gr K hg)(k:hg.StaysIn hp):Gr K hp:=by
 obtain⟨X,pp,loose,mean,mg,mb,T⟩:=G
 exact⟨X.keeps k,pp,loose,mean,mg,mb,T.keeps k⟩
theorem vh{x dx:Ad}{od:Obj}{v:Vl}(G:Gr KZ hg)(ho:Rd hg n env F ρ o (.ref x))(hx:F x=some (instObj 137 dx))(hd:F dx=some od)(hf:findObj KZ 137 (some od) name=some (.value v))(hh:handedIn v=true)
  (hbase:autoParam (attributeBase o name env (eval o env)=eval o env) Rf):Rd hg n env F ρ (.Attribute o name pos) v:=fun hp k kF=>
 zW (K:=KZ) (C:=137) (G.1.keeps k) ⟨kF _ _ hx,rfl,rfl,kF _ _ hd⟩ (ho hp k kF) rfl hf hh hbase
theorem jS(G:Gr KZ hg)(Sr:cr F loc M)(ho:Rd hg n env F ρ o (.ref (loc .S)))(hbase:autoParam (attributeBase o ("_node2info":Str) env (eval o env)=eval o env) Rf):
  Rd hg n env F ρ (.Attribute o "_node2info" pos) (.ref (loc .D)):=by
 obtain⟨t1,t2,t3,t4,m,x,y,e⟩:=Sr.dx
 exact vh G ho Sr.S e rfl rfl hbase
theorem sX:handedIn (M.rdV loc)=true:=by unfold Mo.rdV;split<;>rfl
theorem eN(G:Gr KZ hg)(Sr:cr F loc M)(ho:Rd hg n env F ρ o (.ref (loc .S)))(hbase:autoParam (attributeBase o ("_ready_nodes":Str) env (eval o env)=eval o env) Rf):
  Rd hg n env F ρ (.Attribute o "_ready_nodes" pos) (M.rdV loc):=by
 obtain⟨t1,t2,t3,t4,m,x,y,e⟩:=Sr.dx
 exact vh G ho Sr.S e rfl sX hbase
end
section
variable{o r:Ep}{F F':Fg}{name:Str}{loc:eX->Ad}{M:Mo}{k:Int}
theorem cr.I(h:cr F loc M)(hk:k∈M.ks):X2 fun t u=>F (loc (.I k))=some ⟨.ref 40,some (loc (.ix k)),.plain,#[some (.int k t),some (.int (M.np k) u),some (.ref (loc (.l k)))]⟩:=by
 obtain⟨ob,e,q1,q2,q3,t,u,q4⟩:=h.at_ (.I k) hk
 obtain⟨a,b,c,d⟩:=ob
 exact⟨t,u,by rw[e];dsimp only at q1 q2 q3 q4;rw[q1,q2,q3,q4]⟩
theorem cr.ix(h:cr F loc M)(hk:k∈M.ks):F (loc (.ix k))=some emptyDict:=by
 obtain⟨ob,e,q⟩:=h.at_ (.ix k) hk
 rw[e];exact congrArg some q
theorem cr.l(h:cr F loc M)(hk:k∈M.ks):∃ob,F (loc (.l k))=some ob/\IL ob (M.su k):=h.at_ (.l k) hk
theorem pD{x dx:Ad}{ox:Obj}{q i:Nat}{v:Vl}(G:Gr KZ hg)(ho:Rd hg n env F ρ o (.ref x))(hx:F x=some ox)(hc:ox.cls= .ref 40)(hno:notCls ox=true)(hdx:ox.dict=some dx)(hd:F dx=some emptyDict)
  (hpl:plainGet KZ 40 name=true)(ha:findIn KZ (.ref 40) name=some (some (.ref q)))(hn:specialIn KZ (.ref q) "__get__"=some (some (.builtin "member_descriptor.__get__")))(ht:takesIn KZ (.ref q)=some true)(hp:slotIn KZ q 40=some i)
  (hv:(ox.slots[i]?).join=some v)(hh:handedIn v=true)(hbase:autoParam (attributeBase o name env (eval o env)=eval o env) Rf):Rd hg n env F ρ (.Attribute o name pos) v:=fun hp' kp kF=>
 zR (K:=KZ) (C:=40) (p:=q) (i:=i) (G.1.keeps kp) ⟨kF _ _ hx,hc,hno,by rw[hdx];exact kF _ _ hd⟩ (ho hp' kp kF) hpl rfl ha hn ht hp hv hh hbase
theorem zm(G:Gr KZ hg)(Sr:cr F loc M)(hk:k∈M.ks)(ho:Rd hg n env F ρ o (.ref (loc (.I k))))(hbase:autoParam (attributeBase o ("node":Str) env (eval o env)=eval o env) Rf):
  Ri hg n env F ρ (.Attribute o "node" pos) k:=by
 obtain⟨t,u,e⟩:=Sr.I hk
 exact(pD (q:=41) (i:=0) (v:=.int k t) G ho e rfl rfl rfl (Sr.ix hk) rfl rfl rfl rfl rfl rfl rfl hbase).i
theorem yp(G:Gr KZ hg)(Sr:cr F loc M)(hk:k∈M.ks)(ho:Rd hg n env F ρ o (.ref (loc (.I k))))(hbase:autoParam (attributeBase o ("npredecessors":Str) env (eval o env)=eval o env) Rf):
  Ri hg n env F ρ (.Attribute o "npredecessors" pos) (M.np k):=by
 obtain⟨t,u,e⟩:=Sr.I hk
 exact(pD (q:=42) (i:=1) (v:=.int (M.np k) u) G ho e rfl rfl rfl (Sr.ix hk) rfl rfl rfl rfl rfl rfl rfl hbase).i
theorem xP(G:Gr KZ hg)(Sr:cr F loc M)(hk:k∈M.ks)(ho:Rd hg n env F ρ o (.ref (loc (.I k))))(hbase:autoParam (attributeBase o ("successors":Str) env (eval o env)=eval o env) Rf):
  Rd hg n env F ρ (.Attribute o "successors" pos) (.ref (loc (.l k))):=by
 obtain⟨t,u,e⟩:=Sr.I hk
 exact pD (q:=43) (i:=2) (v:=.ref (loc (.l k))) G ho e rfl rfl rfl (Sr.ix hk) rfl rfl rfl rfl rfl rfl rfl hbase
theorem pA(Sr:cr F loc M)(hk:k∈M.ks)(ho:Rd hg n env F ρ o (.ref (loc .D)))(hi:Ri hg n env F ρ e k):Rd hg n env F ρ (.Subscript o e pos) (.ref (loc (.I k))):=fun hp kp kF=>by
 obtain⟨od,e1,e2,e3⟩:=Sr.D
 exact bq (ho hp kp kF) (hi hp kp kF) (qR (kF _ _ e1) e2 (by rw[mM,if_pos hk]))
theorem yE(Sr:cr F loc M)(ho:Rd hg n env F ρ o (.ref (loc .D)))(hi:Ri hg n env F ρ e k)(pl:Sem Bool)
  (hev:autoParam (cF o ("get":Str) pl pa pc [e] env) Rf)
  (hn:autoParam (sE [e] env=(false,eval e env)::sE [] env) Rf):Rd hg n env F ρ (.Call (.Attribute o ("get":Str) pa) [e] [] pc) (if k∈M.ks then .ref (loc (.I k))else .none):=fun hp kp kF=>by
 obtain⟨od,e1,e2,e3⟩:=Sr.D
 have:=uv (pa:=pa) (pc:=pc) (k:=k) e3 (kF _ _ e1) e2 (ho hp kp kF) (hi hp kp kF) pl hev hn
 rw[mM]at this
 by_cases q:k∈M.ks
 ·rw[if_pos q]at this⊢;exact this
 ·rw[if_neg q]at this⊢;exact this
noncomputable def Mo.setNp(M:Mo)(k v:Int):Mo:={M with np:=fun x=>if x=k then v else M.np x}
noncomputable def Mo.setSu(M:Mo)(k:Int)(v:List Int):Mo:={M with su:=fun x=>if x=k then v else M.su x}
theorem tV{v:Int}{t:Tok}(G:Gr KZ hg)(Sr:cr F loc M)(hk:k∈M.ks):jb hg F (loc (.I k)) "npredecessors" (.int v t) fun F'=>Go F loc M F' loc (M.setNp k v):=by
 obtain⟨t1,u1,e⟩:=Sr.I hk
 refine(hJ G e rfl rfl rfl (Sr.ix hk) rfl (q:=42) (i:=1) rfl rfl rfl (by decide)).le fun F' h=>?_
 rw[h]
 refine Sr.put (t:=.I k) hk (M':=M.setNp k v) (fun t'=>by cases t'<;>rfl) rfl ⟨rfl,rfl,rfl,t1,t,?_⟩ fun t' o' ne u s=>?_
 ·simp[cm,Mo.setNp]
 ·cases t' with
  |I k'=>
   have hne:k'≠k:=fun z=>ne (by rw[z])
   obtain⟨q1,q2,q3,t2,u2,q4⟩:=s
   refine⟨q1,q2,q3,t2,u2,?_⟩
   rw[q4];simp[Mo.setNp,hne]
  |_=>exact s
theorem i4{od:Obj}{v:Vl}{dx x:Ad}(G:Gr KZ hg)(hx:F x=some (instObj 137 dx))(hd:F dx=some od)(ht:takerIn KZ 137 name=some none)(hl:(lookIn name od).isSome=true)
  (e':∀t,X2 fun es m=>(Obj.putName name (PyD.keyHash W0.params name) (.str name t) v od).data= .dict es m/\es.size<=1000):
  jb hg F x name v fun F₁=>∃t,F₁=F.put dx (Obj.putName name (PyD.keyHash W0.params name) (.str name t) v od):=
 nV (K:=KZ) (C:=137) G.1 hx rfl rfl rfl hd rfl rfl ht rfl hl e'
theorem Bt{v:Int}{t:Tok}(G:Gr KZ hg)(Sr:cr F loc M):jb hg F (loc .S) "_npassedout" (.int v t) fun F'=>Go F loc M F' loc {M with po:=v}:=by
 obtain⟨t1,t2,t3,t4,m,x,y,e⟩:=Sr.dx
 refine(i4 G Sr.S e rfl rfl fun t'=>⟨_,_,rfl,Nat.le_of_ble_eq_true rfl⟩).le fun F' h=>?_
 obtain⟨t',rfl⟩:=h
 refine Sr.put (t:=.dx) trivial (M':={M with po:=v}) (fun t'=>by cases t'<;>rfl) rfl ⟨t1,t2,t3,t4,m,t,y,rfl⟩ fun t' o' ne u s=>?_
 cases t' with
 |dx=>exact absurd rfl ne
 |_=>exact s
theorem AU{v:Int}{t:Tok}(G:Gr KZ hg)(Sr:cr F loc M):jb hg F (loc .S) "_nfinished" (.int v t) fun F'=>Go F loc M F' loc {M with nf:=v}:=by
 obtain⟨t1,t2,t3,t4,m,x,y,e⟩:=Sr.dx
 refine(i4 G Sr.S e rfl rfl fun t'=>⟨_,_,rfl,Nat.le_of_ble_eq_true rfl⟩).le fun F' h=>?_
 obtain⟨t',rfl⟩:=h
 refine Sr.put (t:=.dx) trivial (M':={M with nf:=v}) (fun t'=>by cases t'<;>rfl) rfl ⟨t1,t2,t3,t4,m,x,t,rfl⟩ fun t' o' ne u s=>?_
 cases t' with
 |dx=>exact absurd rfl ne
 |_=>exact s
end
noncomputable def Mo.getI(M:Mo)(k:Int):Mo:=if k∈M.ks then M else{M with ks:=M.ks ++[k],np:=fun x=>if x=k then 0 else M.np x,su:=fun x=>if x=k then[]else M.su x}
theorem qq(M:Mo)(k:Int):k∈(M.getI k).ks:=by
 unfold Mo.getI
 split
 ·assumption
 ·exact List.mem_append_right _ (.head _)
theorem pZ(M:Mo)(k:Int):(M.getI k).ks.length<=M.ks.length +1:=by
 unfold Mo.getI
 split
 ·exact Nat.le_add_right _ _
 ·simp
theorem mP{v:Vl}{k:Int}{f:Int->Vl}:∀{ks:List Int},k∉ks->stored (ks.map fun k=>(k,f k)) k v=(ks.map fun k=>(k,f k)) ++[(k,v)]
 |[],_=>rfl
 |a::ks,h=>by
  have h1:a≠k:=fun e=>h (e▸List.mem_cons_self)
  have h2:k∉ks:=fun e=>h (List.mem_cons_of_mem _ e)
  have ih:=mP (v:=v) (f:=f) h2
  simp only[List.map_cons,List.cons_append]
  rw[<-ih]
  simp[stored,h1,h2]
section
variable{F F':Fg}{loc:eX->Ad}{M:Mo}{k:Int}
noncomputable def cR(loc:eX->Ad)(k:Int)(ob dx l:Ad):eX->Ad
 | .I k'=>if k'=k then ob else loc (.I k')
 | .ix k'=>if k'=k then dx else loc (.ix k')
 | .l k'=>if k'=k then l else loc (.l k')
 |t=>loc t
noncomputable def sm(k:Int):eX->Bool
 | .I k'=>decide (k'=k)
 | .ix k'=>decide (k'=k)
 | .l k'=>decide (k'=k)
 |_=>false
theorem dJ{ob dx l:Ad}{t:eX}(h:sm k t=false):cR loc k ob dx l t=loc t:=by
 cases t<;>simp_all [cR,sm]
theorem dG{ob dx l:Ad}{t:eX}(h:sm k t=true):cR loc k ob dx l t=ob/\t= .I k\/cR loc k ob dx l t=dx/\t= .ix k\/cR loc k ob dx l t=l/\t= .l k:=by
 cases t<;>simp_all [cR,sm]
theorem cr.grow(h:cr F loc M)(hk:k∉M.ks)(hz:M.ks.length<100){ob dx l:Ad}{o ol oD:Obj}(f1:F dx=none)(f2:F ob=none)(f3:F l=none)(n1:ob≠dx)(n2:l≠ob)(n3:l≠dx)(ho:oO o dx k 0 l)(hl:LO ol #[])
  (hD:oD.IsDictOf (intKind PG W0) (stored (M.ks.map fun k=>(k,.ref (loc (.I k)))) k (.ref ob))):
  Go F loc M ((((F.put dx emptyDict).put ob o).put l ol).put (loc .D) oD) (cR loc k ob dx l) (M.getI k):=by
 have hM:M.getI k={M with ks:=M.ks ++[k],np:=fun x=>if x=k then 0 else M.np x,su:=fun x=>if x=k then[]else M.su x}:=if_neg hk
 rw[hM]
 have used:∀t,Mo.used {M with ks:=M.ks ++[k],np:=fun x=>if x=k then 0 else M.np x,su:=fun x=>if x=k then[]else M.su x} t↔M.used t\/sm k t=true:=fun t=>by
  cases t<;>simp[Mo.used,sm]
 have sep:∀t,M.used t->sm k t=false:=fun t u=>by
  cases t<;>simp[sm]<;>(rintro rfl;exact hk u)
 have at_:∀t,M.used t->∃o,F (loc t)=some o:=fun t u=>let⟨o,e,_⟩:=h.at_ t u;⟨o,e⟩
 have off:∀t,M.used t->A3 (loc t≠ob) (loc t≠dx) (loc t≠l):=fun t u=>by
  obtain⟨o,e⟩:=at_ t u
  exact⟨fun q=>(by rw[q,f2]at e;cases e),fun q=>(by rw[q,f1]at e;cases e),fun q=>(by rw[q,f3]at e;cases e)⟩
 have oD':=off .D trivial
 have look:∀a,a≠ob->a≠dx->a≠l->a≠loc .D->((((F.put dx emptyDict).put ob o).put l ol).put (loc .D) oD) a=F a:=fun a a1 a2 a3 a4=>by
  rw[Fg.put_ne _ _ a4,Fg.put_ne _ _ a3,Fg.put_ne _ _ a1,Fg.put_ne _ _ a2]
 refine⟨⟨fun t t' u u' e=>?_,fun t u=>?_,?_,?_⟩,fun t u=>⟨(used t).mpr (.inl u),dJ (sep t u)⟩,fun t u n=>?_,fun a oa e n=>?_⟩
 ·rcases(used t).mp u with v|v<;>rcases(used t').mp u' with v'|v'
  ·rw[dJ (sep _ v),dJ (sep _ v')]at e;exact h.inj _ _ v v' e
  ·rw[dJ (sep _ v)]at e
   obtain⟨x1,x2,x3⟩:=off t v
   rcases dG (loc:=loc) (ob:=ob) (dx:=dx) (l:=l) v' with⟨q,_⟩|⟨q,_⟩|⟨q,_⟩<;>rw[q]at e
   ·exact absurd e x1
   ·exact absurd e x2
   ·exact absurd e x3
  ·rw[dJ (sep _ v')]at e
   obtain⟨x1,x2,x3⟩:=off t' v'
   rcases dG (loc:=loc) (ob:=ob) (dx:=dx) (l:=l) v with⟨q,_⟩|⟨q,_⟩|⟨q,_⟩<;>rw[q]at e
   ·exact absurd e.symm x1
   ·exact absurd e.symm x2
   ·exact absurd e.symm x3
  ·rcases dG (loc:=loc) (ob:=ob) (dx:=dx) (l:=l) v with⟨q,r⟩|⟨q,r⟩|⟨q,r⟩<;>rcases dG (loc:=loc) (ob:=ob) (dx:=dx) (l:=l) v' with⟨q',r'⟩|⟨q',r'⟩|⟨q',r'⟩<;>rw[q,q']at e<;>first
    |exact r.trans r'.symm
    |exact absurd e n1
    |exact absurd e.symm n1
    |exact absurd e n2
    |exact absurd e.symm n2
    |exact absurd e n3
    |exact absurd e.symm n3
 ·rcases(used t).mp u with v|v
  ·obtain⟨x1,x2,x3⟩:=off t v
   rw[dJ (sep t v)]
   by_cases q:t= .D
   ·subst q
    refine⟨oD,Fg.put_same _ _ _,?_⟩
    obtain⟨_,_,_,lo⟩:=h.D
    refine⟨?_,lo⟩
    rw[mP hk]at hD
    have:((M.ks ++[k]).map fun k'=>(k',Vl.ref (cR loc k ob dx l (.I k'))))=(M.ks.map fun k=>(k,.ref (loc (.I k)))) ++[(k,.ref ob)]:=by
     rw[List.map_append]
     congr 1
     ·refine List.map_congr_left fun x hx=>?_
      have:x≠k:=fun e=>hk (e▸hx)
      simp[cR,this]
     ·simp[cR]
    show oD.IsDictOf _ _
    rw[this];exact hD
   ·obtain⟨ot,e,s⟩:=h.at_ t v
    refine⟨ot,by rw[look _ x1 x2 x3 fun z=>q (h.inj t .D v trivial z)];exact e,?_⟩
    cases t with
    |S=>exact s
    |D=>exact absurd rfl q
    |R=>exact s
    |dx=>
     obtain⟨t1,t2,t3,t4,m,x,y,r⟩:=s
     exact⟨t1,t2,t3,t4,m,x,y,r⟩
    |ix k'=>exact s
    |I k'=>
     have hne:k'≠k:=fun e=>hk (e▸v)
     obtain⟨q1,q2,q3,t2,u2,q4⟩:=s
     refine⟨q1,by simp only[cR,hne,if_false];exact q2,q3,t2,u2,?_⟩
     simp only[cR,hne,if_false];exact q4
    |l k'=>
     have hne:k'≠k:=fun e=>hk (e▸v)
     show IL ot (if k'=k then[]else M.su k')
     rw[if_neg hne];exact s
  ·rcases dG (loc:=loc) (ob:=ob) (dx:=dx) (l:=l) v with⟨q,rfl⟩|⟨q,rfl⟩|⟨q,rfl⟩<;>rw[q]
   ·refine⟨o,by rw[Fg.put_ne _ _ oD'.1.symm,Fg.put_ne _ _ n2.symm,Fg.put_same],?_⟩
    show oO o (cR loc k ob dx l (.ix k)) k (if k=k then 0 else _) (cR loc k ob dx l (.l k))
    simp only[cR,if_true];exact ho
   ·exact⟨emptyDict,by rw[Fg.put_ne _ _ oD'.2.symm,Fg.put_ne _ _ n3.symm,Fg.put_ne _ _ n1.symm,Fg.put_same],rfl⟩
   ·refine⟨ol,by rw[Fg.put_ne _ _ oD'.3.symm,Fg.put_same],?_⟩
    show IL ol (if k=k then[]else _)
    rw[if_pos rfl]
    exact⟨#[],hl,.nil⟩
 ·show(M.ks ++[k]).Nodup
  rw[List.nodup_append]
  exact⟨h.nd,by simp,fun a ha b hb=>by rw[List.mem_singleton.mp hb];exact fun q=>hk (q▸ha)⟩
 ·show(M.ks ++[k]).length<=100
  simp;exact Eb ‹_›
 ·rcases(used t).mp u with v|v
  ·exact absurd v n
  ·rcases dG (loc:=loc) (ob:=ob) (dx:=dx) (l:=l) v with⟨q,_⟩|⟨q,_⟩|⟨q,_⟩<;>rw[q]
   ·exact f2
   ·exact f1
   ·exact f3
 ·have:A3 (a≠ob) (a≠dx) (a≠l):=⟨fun q=>(by rw[q,f2]at e;cases e),fun q=>(by rw[q,f1]at e;cases e),fun q=>(by rw[q,f3]at e;cases e)⟩
  rw[look a this.1 this.2 this.3 fun z=>n .D trivial z.symm];exact e
end
noncomputable abbrev aU(ρ:LS)(x:Str)(G:FP):Prop:=ρ.lookup x=some (.fz G)
theorem Fg.put_put(F:Fg)(a:Ad)(o o':Obj):(F.put a o).put a o'=F.put a o':=by
 funext b
 unfold Fg.put
 by_cases q:b=a<;>simp[q]
theorem fK.le{hg:Hp}{n:Nat}{F:Fg}{f:Vl}{Gs:List FP}{P P':Hp->Vl->Fg->Prop}(x:fK hg n F f Gs P)(k:∀h v F',P h v F'->P' h v F'):fK hg n F f Gs P':=fun A fr hb hm s vs R ok sg sb ff B al h=>
 x A fr hb hm s vs R ok sg sb ff B al fun v F' h' hm' hb' tk st B' p=>h v F' h' hm' hb' tk st B' (k _ _ _ p)
section
variable{o i:Ep}{F F':Fg}{name:Str}{loc:eX->Ad}{M:Mo}{k:Int}{P:PX}{PV:Hp->Vl->Fg->Prop}
theorem mB{x:Str}{px ps:Pos}(he:cB hg n env F ρ e PV)(kx:cM env x)(no:ar ρ)
  (hp:∀h v F₁,PV h v F₁->X4 fun d od kvs k=>A6 (Rd hg n env F₁ ρ o (.ref d)) (Ri hg n env F₁ ρ i k) (F₁ d=some od) (od.IsDictOf (intKind PG W0) kvs) (kvs.length<=1000) (∀o',o'.IsDictOf (intKind PG W0) (stored kvs k v)->P.next ((x,.fz (RV v))::ρ) (F₁.put d o')))
  (he':autoParam ((assignEach [.Subscript o i ps,.Name x px] env).map (·.2)=[assign (.Subscript o i ps) env,assign (.Name x px) env]) Rf)(hw:autoParam (swappedStores [.Subscript o i ps,.Name x px] e env=pure none) Rf):
  XX hg n env F ρ (.Assign [.Subscript o i ps,.Name x px] e pos) P:=fun A fr h₀ hb₀ hb hm s Q E ok Rl B h=>by
 refine wpAny_Assign_two (he A fr hb hm s _ E ok Rl.s B fun v F₁ h₁ hm1 hb1 tk1 st1 B1 p1=>?_) he' hw
 obtain⟨d,od,kvs,k,ho,hi,e1,e2,e3,e4⟩:=hp _ _ _ p1
 have R1:=Rl.step st1
 rw[assign_Subscript]
 refine wBi (wpAny_holding (ho.x A fr hb1 hm1 (aA s h₁ tk1) _ E ok R1.s B1 fun ov F2 h2 hm2 hb2 tk2 st2 B2 p2=>?_))
 obtain⟨rfl,rfl⟩:=p2
 have R2:=R1.step st2
 refine wBi (wpAny_holding (hi.x A fr hb2 hm2 (aA s h2 tk2) _ E ok R2.s B2 fun iv F3 h3 hm3 hb3 tk3 st3 B3 p3=>?_))
 obtain⟨rfl,q3⟩:=p3
 obtain⟨t,rfl⟩:=aj q3
 have R3:=R2.step st3
 refine wBi (wpAny_standAt (wBi (wpAny_holding (kw (s:=(aA s h3 tk3)) e1 e2 e3 B3 fun h4 o' tk4 hd B4=>wpAny_release ?_))))
 refine wpAny_assign_Name (bH (s:=(aA s h4 tk4)) (v:=v) (G:=RV v) R3 B4 kx rfl (fun y ds O=>no y ds) fun h' hm' tk B' R'=>h .next _ h' hm' hb3 tk B' (.inl ⟨rfl,_,e4 o' hd,R'⟩) fun b o e=>st3.sub b o (st2.sub b o (st1.sub b o e)))
theorem gS{K:Frag}(G:Gr K hg){x:Str}{v:Vl}{px:Pos}(e:nsIn K mainGlobals x=some (some v))(hx:env.kindOf x=some .globalImplicit)(hd:autoParam ((x==("__debug__":Str))=false) Dc):cB hg n env F ρ (.Name x px) fun O u F'=>F'=F/\u=v:=aV (fun hp k O=>ck (hO G k) e hx hd) fA
theorem ze{K:Frag}(G:Gr K hg){x:Str}{v:Vl}{px:Pos}(e:nsIn K mainGlobals x=some (some v))(hx:env.kindOf x=some .globalImplicit)(hd:autoParam ((x==("__debug__":Str))=false) Dc):Rd hg n env F ρ (.Name x px) v:=fun hp k O=>ck (hO G k) e hx hd
theorem kG(G:Gr KZ hg)(Sr:cr F loc M)(hz:M.ks.length<100):fK hg (n +3) F (.ref 80) [RV (.ref (loc .S)),DV (.int k)] fun O v F'=>∃loc',Go F loc M F' loc' (M.getI k)/\v= .ref (loc' (.I k)):=by
 refine fG G CV ["self","node"] [RV (.ref (loc .S)),DV (.int k)] _ _ (ct rfl fun vs h=>by obtain⟨_,_,rfl⟩:=wD h;rfl) (fun L=>fL (.inl rfl) (.inl rfl)) fun L=>?_
 have noG:ar (bz ["self","node"] [RV (.ref (loc .S)),DV (.int k)]):=bK _ _
 refine ad (N:=fun ρ1 F₁=>∃v:Vl,aU ρ1 "result" (RV v)/\∃loc',Go F loc M F₁ loc' (M.getI k)/\v= .ref (loc' (.I k))) ?_ fun ρ1 F₁ ⟨v,h1,h2⟩=>ad (N:=fun O O=>False) (jV (bX h1) fun h u F' q=>?_) fun O O q=>q.elim
 ·refine lK (u:=if k∈M.ks then .ref (loc (.I k))else .none) ?_ (.inl rfl) noG ?_ ?_ ?_
  ·exact(yE Sr (jS G Sr (ag rfl)) (gq rfl) _).x
  ·by_cases q:k∈M.ks
   ·rw[if_pos q];exact .inr ⟨_,rfl⟩
   ·rw[if_neg q];exact .inl rfl
  ·intro hu
   have hk:k∉M.ks:=fun q=>by rw[if_pos q]at hu;cases hu
   refine ad (N:=fun ρ1 F₁=>∃v:Vl,aU ρ1 "result" (RV v)/\∃loc',Go F loc M F₁ loc' (M.getI k)/\v= .ref (loc' (.I k))) ?_ fun ρ1 F₁ q=>aP q
   refine mB (PV:=fun hb v F'=>X5 fun ob dx l o ol=>CM (v=Vl.ref ob) (F dx=none) (F ob=none) (F l=none) (ob≠dx) (l≠ob) (l≠dx) (oO o dx k 0 l) (LO ol #[]) (F'=((F.put dx emptyDict).put ob o).put l ol)) ?_ (.inl rfl) (an noG) ?_
   ·refine vc (K:=KZ) (C:=40) (fI:=36) (n:=n +1) (Fs:=[DV (.int k)]) G.1 (gS G rfl rfl) rfl (aW (Ri.x (gq rfl)) bE) rfl rfl rfl fun ob dx f1 f2 ne=>?_
    have key:=yZ (n:=n) (F:=(F.put dx emptyDict).put ob (instObj 40 dx)) (k:=k) (ob:=ob) (dx:=dx) G (by rw[Fg.put_ne _ _ ne.symm];exact Fg.put_same _ _ _) (Fg.put_same _ _ _) ne
    refine key.le fun hb v F' ⟨hv,o,l,ol,fl,ho,hl,e⟩=>⟨hv,ob,dx,l,o,ol,rfl,f1,f2,?_,ne,?_,?_,ho,hl,by rw[e,Fg.put_put]⟩
    ·have h1:l≠ob:=fun z=>by rw[z,Fg.put_same]at fl;cases fl
     have h2:l≠dx:=fun z=>by rw[z,Fg.put_ne _ _ ne.symm,Fg.put_same]at fl;cases fl
     rw[Fg.put_ne _ _ h1,Fg.put_ne _ _ h2]at fl;exact fl
    ·exact fun z=>by rw[z,Fg.put_same]at fl;cases fl
    ·exact fun z=>by rw[z,Fg.put_ne _ _ ne.symm,Fg.put_same]at fl;cases fl
   ·rintro h v F₁ ⟨ob,dx,l,o,ol,rfl,f1,f2,f3,n1,n2,n3,ho,hl,rfl⟩
    obtain⟨oD,d1,d2,d3⟩:=Sr.D
    have off:∀t,M.used t->A3 (loc t≠ob) (loc t≠dx) (loc t≠l):=fun t u=>by
     obtain⟨o,e,_⟩:=Sr.at_ t u
     exact⟨fun q=>(by rw[q,f2]at e;cases e),fun q=>(by rw[q,f1]at e;cases e),fun q=>(by rw[q,f3]at e;cases e)⟩
    have look:∀t,M.used t->(((F.put dx emptyDict).put ob o).put l ol) (loc t)=F (loc t):=fun t u=>by
     obtain⟨x1,x2,x3⟩:=off t u
     rw[Fg.put_ne _ _ x3,Fg.put_ne _ _ x1,Fg.put_ne _ _ x2]
    have Sr':cr (((F.put dx emptyDict).put ob o).put l ol) loc M:=⟨Sr.inj,fun t u=>by obtain⟨o,e,s⟩:=Sr.at_ t u;exact⟨o,(look t u).trans e,s⟩,Sr.nd,Sr.few⟩
    refine⟨loc .D,oD,_,k,jS G Sr' (ag rfl),gq rfl,(look .D trivial).trans d1,d2,by rw[List.length_map];omega,fun o' hd=>⟨_,rfl,_,Sr.grow hk hz f1 f2 f3 n1 n2 n3 ho hl hd,?_⟩⟩
    simp[cR]
  ·intro hu
   have hk:k∈M.ks:=Classical.byContradiction fun q=>hu (if_neg q)
   refine aP ⟨_,rfl,loc,?_,if_pos hk⟩
   have:M.getI k=M:=if_pos hk
   rw[this];exact .refl Sr
 ·obtain⟨rfl,q⟩:=q
  obtain rfl:u=v:=q
  exact h2
end
theorem i8(h:Hp):h.get? h.objs.size=none:=by
 cases q:h.get? h.objs.size with
 |none=>rfl
 |some o=>exact absurd (Hp.lt_size q) (Nat.lt_irrefl _)
theorem ae.grown{F:Fg}{h hm hb h':Hp}(B:ae F h hm)(k:hb.StaysIn hm)(ke:∀b o,h.get? b=some o->h'.get? b=some o):∃hm',A3 (ae F h' hm') (ay hm hb hm' hb) (∀b,F b=none->hm'.get? b=h'.get? b):=by
 obtain⟨hm',b,st,m1⟩:=B.worked (I:=h.objs.size) k (fun o e=>by rw[i8]at e;cases e) (by
  cases q:F h.objs.size with
  |none=>rfl
  |some o=>have:=B.at_ _ _ q;rw[i8]at this;cases this) (am k (am B.sub (i8 h))) fun b o O e=>ke b o e
 exact⟨hm',b,st,m1⟩
theorem ae.off_new{F:Fg}{h hm:Hp}(B:ae F h hm):F h.objs.size=none:=by
 cases q:F h.objs.size with
 |none=>rfl
 |some o=>have:=B.at_ _ _ q;rw[i8]at this;cases this
theorem bF.append{h₀ hb h:Hp}{us:List Vl}{Ss:List lr}(y:bF h₀ hb h us Ss):∀{vs:List Vl}{Rs:List lr},bF h₀ hb h vs Rs->bF h₀ hb h (vs ++us) (Rs ++Ss)
 :=fun x=>by
  induction x with
  |nil=>exact y
  |cons a _ ih=>exact .cons a ih
noncomputable abbrev aG(ps:List Int):List PyD:=ps.map .int
noncomputable abbrev DI(k:Int):FP:=DV (.int k)
theorem z4{g:Hp}{ps:List Int}:∀{vs:List Vl},RA g vs (aG ps)->IntsAre vs ps:=by
 induction ps with
 |nil=>exact fun x=>x.inv0▸.nil
 |cons k ps ih=>
  intro vs x
  obtain⟨_,_,rfl,a,b⟩:=RA.inv x
  obtain⟨t,rfl⟩:=aj (i:=k) a
  exact .cons k t (ih b)
theorem fY{g:Hp}{ps:List Int}{vs:List Vl}{as:List Ad}(x:ReadsAll g vs (aG ps) as):IntsAre vs ps:=z4 ⟨as,x⟩
theorem iL{g:Hp}{ps:List Int}{vs:List Vl}(x:IntsAre vs ps):RA g vs (aG ps):=by
 induction x with
 |nil=>exact .nil
 |cons k t _ ih=>exact .cons ⟨_,.int k t⟩ ih
theorem zy{h₀ hb h:Hp}{ps:List Int}{vs:List Vl}(x:IntsAre vs ps):bF h₀ hb h vs ((ps.map DI).map rF):=by
 induction x with
 |nil=>exact .nil
 |cons k t _ ih=>exact .cons (R:=rF (DI k)) cQ ih
theorem wy{h₀ g hb h:Hp}{ps:List Int}{vs:List Vl}{as:List Ad}(x:ReadsAll g vs (aG ps) as):bF h₀ hb h vs ((ps.map DI).map rF):=zy (fY x)
theorem qI{h₀ hb h:Hp}{ps:List Int}:∀{vs:List Vl},bF h₀ hb h vs ((ps.map DI).map rF)->IntsAre vs ps:=by
 induction ps with
 |nil=>exact fun x=>x.inv0▸.nil
 |cons k ps ih=>
  intro vs x
  obtain⟨_,_,rfl,a,b⟩:=bF.inv x
  obtain⟨t,rfl⟩:=aj (i:=k) a
  exact .cons k t (ih b)
section
variable{A:Ar}{E:VS}{s:SD}
theorem wV{fd:FuncData}{x x' y:Arg}{v v':Vl}{us:List Vl}{Q:List (Str×Vl)->SD->Prop}(hp:fd.params={posonlyargs:=[],args:=[x,x'],vararg:=some y,kwonlyargs:=[],kw_defaults:=[],kwarg:=none,defaults:=[]})(hd:fd.defaults= .none)(hx:(x'.arg==x.arg)=false)
  (hz:us.length<=sizeLine)(h:Q [(x.arg,v),(x'.arg,v'),(y.arg,.ref s.heap.objs.size)] {s with heap:=s.heap.push {cls:=.type "tuple",data:=.seq us.toArray}}):wA MD A (bindArgs fd ⟨v::v'::us,[]⟩) Q E s:=by
 obtain⟨hp',g,d,tk,os⟩:=s
 unfold bindArgs
 rw[hp,hd]
 wp_walk
 have hz':¬sizeLine<us.length:=Nat.not_lt.mpr hz
 dsimp only[List.map_cons,List.map_nil,List.nil_append,List.append_nil,List.length_cons,List.length_nil,List.drop_succ_cons,List.drop_zero]
 wp_walk
 simpa [hx,List.lookup,List.filterMap]using h
end
section
variable{o i:Ep}{F F':Fg}{name:Str}{loc:eX->Ad}{M:Mo}{k:Int}{P:PX}{PV:Hp->Vl->Fg->Prop}
theorem vp{A:Ar}{E:VS}{s:SD}{a:Ad}{o:Obj}{its:Array Vl}{m:Nat}{Q:List Vl->SD->Prop}(ho:s.heap.get? a=some o)(hc:o.cls= .type "list")(hd:o.data= .seq its m)(hz:its.size<=sizeLine)
  (h:∀h',(∀b o,s.heap.get? b=some o->h'.get? b=some o)->Q its.toList {s with heap:=h'}):StarOf MD A E (.ref a) Q s:=by
 have hT':s.TypeIs (.ref a) "list":=⟨o,ho,hc⟩
 unfold StarOf notIterableAtAll
 exact wBi (wpAny_specialOf hT' PySem.F.slot_list_iter.lookup (wP ⟨rfl,wpAny_collect_seq a (.inl rfl) ho hc hd h hz⟩))
theorem uq{ps:List Int}{es:List Ep}{Fs:List FP}{p':Pos}(hz:ps.length<=1000)(he:cB hg n env F ρ e fun hb v F'=>F'=F/\(DV (.list (aG ps))).P hb v)(hs:gG hg n env F ρ es Fs)
  (hn:autoParam (sE (.Starred e p'::es) env=(true,eval e env)::sE es env) Rf):gG hg n env F ρ (.Starred e p'::es) (ps.map DI ++Fs):=fun pos A fr hb hm s Q E ok S B h=>by
 refine items_star (he A fr hb hm s _ E ok S B fun v F₁ h₁ hm1 hb1 tk1 st1 B1 p1=>?_) hn
 obtain⟨rfl,as,r⟩:=p1
 obtain⟨a,oa,vs,m,bs,rfl,ho,hc,hd,hr,_⟩:=reads_list_inv r
 have S1:=S.step st1
 have hl:vs.size=ps.length:=by
  have:=RA.length ⟨_,hr⟩
  simpa using this
 refine vp (s:=(aA s h₁ tk1)) (B1.sub _ _ (S1.b _ _ ho)) hc hd (by rw[sizeLine_eq];exact Nat.le_trans (Nat.le_of_eq ‹_›) (Nat.le_trans ‹_› (by decide))) fun h2 k2=>?_
 obtain⟨hm2,B2,st2,_⟩:=B1.grown S1.b k2
 refine hs pos A fr hb1 hm2 (aA s h2 tk1) _ E ok (S1.step st2) B2 fun us h3 hm3 hb3 tk3 st3 B3 r3=>?_
 refine h _ h3 hm3 hb3 tk3 (st1.trans (st2.trans st3)) B3 ?_
 rw[List.map_append]
 exact bF.append (fj r3) (wy hr)
theorem vB{x C f:Ad}{ox od:Obj}{dx:Ad}{o e:Ep}{pa pc:Pos}{es:List Ep}{Fs:List FP}{P:Hp->Vl->Fg->Prop}{K:Frag}(X:K.In hg)(hkf:fnIn K f=true)(ho:cB hg n env F ρ o fun O v F'=>F'=F/\v= .ref x)
  (hx:F x=some ox)(hcl:ox.cls= .ref C)(hno:notCls ox=true)(hd:ox.dict=some dx)(hdx:F dx=some od)(hg':plainGet K C name=true)(hh:hasDictIn K C=true)(hf:findIn K (.ref C) name=some (some (.ref f)))(ht:typeIn K (.ref f)=some (.type "function"))
  (hgf:specialIn K (.ref f) "__get__"=some (some (.builtin "function.__get__")))(htk:takesIn K (.ref f)=some false)(hcp:copiedNames.contains name=false)(hl:lookIn name od=some none)(ha:gG hg n env F ρ (e::es) Fs)(hc:fK hg n F (.ref f) (RV (.ref x)::Fs) P)
  (hev:autoParam (eval (.Call (.Attribute o name pa) (e::es) [] pc) env=(do
   let ov <-eval o env
   standAt pa.atName
   let(f,first) <-holding [ov] (do pure (<-getAttr ov name true,[]))
   callWith pc f first (backTo pc (sE (e::es) env)) [])) Rf)
  (hn:autoParam (sE (e::es) env=(false,eval e env)::sE es env) Rf)(hst:autoParam ((backTo pc (sE es env)).any (·.1)=true) Rf):
  cB hg n env F ρ (.Call (.Attribute o name pa) (e::es) [] pc) P:=fun A fr hb hm s Q E ok S B h=>by
 rw[hev]
 refine wBi (ho A fr hb hm s _ E ok S B fun v F₁ h₁ hm1 hb1 tk1 st1 B1 p1=>?_)
 obtain⟨rfl,rfl⟩:=p1
 have S1:=S.step st1
 have k1:hg.StaysIn h₁:=fun b o q=>B1.sub b o (S1.b b o (S1.g b o q))
 have I1:=fk B1 hx hcl hno hd hdx
 refine wBi (wpAny_standAt (wBi (wpAny_holding (wBi (get_bind (s:=(aA s h₁ tk1)) (X.keeps k1) I1 (plainGet_of hg').1 (findObj_fn hh hf hgf htk hcp hl) (plainGet_of hg').2
  (wpAny_call (fn_get (s:=(aA s h₁ (tk1 +1))) (X.keeps k1) ht (handed_on rfl (wP ?_)))))))))
 obtain⟨hm2,B2,st2,w2⟩:=B1.grown (h':=h₁.push (methodObj (.ref f) (.ref x))) S1.b fun b o e=>Hp.get?_push_of_some _ e
 obtain⟨hb2,st3,w3,_⟩:=iV st2.up st2.stay (fun a=>a=h₁.objs.size) fun a ha=>ha▸eO.of_none (am B1.sub (i8 _))
 have eq:hb2.get? h₁.objs.size=some (methodObj (.ref f) (.ref x)):=(w3 _ rfl).trans ((w2 _ B1.off_new).trans (Hp.get?_push_size _ rfl))
 have S2:=S1.step st3
 have hargs:=ha pc A fr hb2 hm2 (aA s (h₁.push (methodObj (.ref f) (.ref x))) (tk1 +1)) (fun vs s₁=>MethP K h₁.objs.size f (.ref x) s₁.heap/\wA MD A (call (.ref h₁.objs.size) ([] ++vs)) Q E s₁) E ok S2 B2 fun vs h3 hm3 hb3 tk3 st4 B3 r3=>by
  have S3:=S2.step st4
  have e3:=B3.sub _ _ (S3.b _ _ (st4.sub _ _ eq))
  refine⟨⟨e3,X.keeps fun b o q=>B3.sub b o (S3.b b o (S3.g b o q))⟩,wpAny_call (method_call e3 ?_)⟩
  exact hc A fr hb3 hm3 (aA s h3 tk3) (.ref x::vs) _ ok S3.g S3.b S3.f B3 (.cons (R:=rF (RV (.ref x))) rfl (fj r3)) fun v F' h' hm' hb' tk st5 B5 p5=>h v F' h' hm' hb' tk (st1.trans (st3.trans (st4.trans st5))) B5 p5
 rw[hn]at hargs⊢
 exact ks_call (by show(false||(backTo pc (sE es env)).any (·.1))=true;rw[hst];rfl) (keeps_M hkf) (evalArgs_plain hargs)
theorem qj{fd:FuncData}{x x' y:Arg}{G₁ G₂:FP}{ps:List Int}(hp:fd.params={posonlyargs:=[],args:=[x,x'],vararg:=some y,kwonlyargs:=[],kw_defaults:=[],kwarg:=none,defaults:=[]})(hd:fd.defaults= .none)(hx:(x'.arg==x.arg)=false)(hz:ps.length<=1000):
  jJ hg F fd (G₁::G₂::ps.map DI) [x.arg,x'.arg,y.arg] [G₁,G₂,DV (.tuple (aG ps))]:=fun A hb hm s vs Q E O sb B al h=>by
  obtain⟨_,_,rfl,r1,al'⟩:=al.inv
  obtain⟨_,us,rfl,r2,r3⟩:=al'.inv
  have ia:=qI r3
  have hl:us.length=ps.length:=ia.length
  refine wV hp hd hx (by rw[sizeLine_eq];exact Nat.le_trans (Nat.le_of_eq ‹_›) (Nat.le_trans ‹_› (by decide))) ?_
  obtain⟨hm',B',st',m1⟩:=B.grown (h':=s.heap.push {cls:=.type "tuple",data:=.seq us.toArray}) sb fun b o e=>Hp.get?_push_of_some _ e
  have e0:=(m1 _ B.off_new).trans (Hp.get?_push_size s.heap (o:={cls:=.type "tuple",data:=.seq us.toArray}) rfl)
  obtain⟨hb2,st2,e2,_⟩:=iV st'.up st'.stay (fun a=>a=s.heap.objs.size) fun a ha=>ha▸eO.of_none (am B.sub (i8 _))
  obtain⟨as,hr⟩:=iL (g:=hb2) ia
  exact h [_,_,.ref s.heap.objs.size] _ hm' hb2 s.toks st2 B' rfl (.cons (R:=rF G₁) (G₁.stays st2.sub r1) (.cons (R:=rF G₂) (G₂.stays st2.sub r2) (.cons (R:=rF (DV (.tuple (aG ps)))) ⟨_,.tuple ((e2 _ rfl).trans e0) rfl rfl hr⟩ .nil)))
theorem qT{fd:FuncData}{x y:Arg}{G₁:FP}{ps:List Int}(hp:fd.params={posonlyargs:=[],args:=[x],vararg:=some y,kwonlyargs:=[],kw_defaults:=[],kwarg:=none,defaults:=[]})(hd:fd.defaults= .none)(hz:ps.length<=1000):
  jJ hg F fd (G₁::ps.map DI) [x.arg,y.arg] [G₁,DV (.tuple (aG ps))]:=fun A hb hm s vs Q E O sb B al h=>by
  obtain⟨_,us,rfl,r1,r3⟩:=al.inv
  have ia:=qI r3
  have hl:us.length=ps.length:=ia.length
  refine nU hp hd (by rw[sizeLine_eq];exact Nat.le_trans (Nat.le_of_eq ‹_›) (Nat.le_trans ‹_› (by decide))) ?_
  obtain⟨hm',B',st',m1⟩:=B.grown (h':=s.heap.push {cls:=.type "tuple",data:=.seq us.toArray}) sb fun b o e=>Hp.get?_push_of_some _ e
  have e0:=(m1 _ B.off_new).trans (Hp.get?_push_size s.heap (o:={cls:=.type "tuple",data:=.seq us.toArray}) rfl)
  obtain⟨hb2,st2,e2,_⟩:=iV st'.up st'.stay (fun a=>a=s.heap.objs.size) fun a ha=>ha▸eO.of_none (am B.sub (i8 _))
  obtain⟨as,hr⟩:=iL (g:=hb2) ia
  exact h [_,.ref s.heap.objs.size] _ hm' hb2 s.toks st2 B' rfl (.cons (R:=rF G₁) (G₁.stays st2.sub r1) (.cons (R:=rF (DV (.tuple (aG ps)))) ⟨_,.tuple ((e2 _ rfl).trans e0) rfl rfl hr⟩ .nil))
end
noncomputable def Mo.addP(k:Int)(M:Mo)(q:Int):Mo:=(M.getI q).setSu q ((M.getI q).su q ++[k])
noncomputable def Mo.addM(M:Mo)(k:Int)(ps:List Int):Mo:=ps.foldl (Mo.addP k) ((M.getI k).setNp k ((M.getI k).np k +ps.length))
theorem oZ(k:Int):∀(ps:List Int)(M:Mo),(ps.foldl (Mo.addP k) M).ks.length<=M.ks.length +ps.length
 |[],M=>Nat.le_refl _
 |q::ps,M=>by
  have h1:=oZ k ps (M.addP k q)
  have h2:(M.addP k q).ks.length<=M.ks.length +1:=pZ M q
  simp only[List.foldl_cons,List.length_cons];exact Dk ‹_› ‹_›
theorem zK(M:Mo)(k:Int)(ps:List Int):(M.addM k ps).ks.length<=M.ks.length +1 +ps.length:=by
 have h1:=oZ k ps ((M.getI k).setNp k ((M.getI k).np k +ps.length))
 have h2:((M.getI k).setNp k ((M.getI k).np k +ps.length)).ks.length<=M.ks.length +1:=pZ M k
 unfold Mo.addM;exact D1 ‹_› ‹_›
section
variable{o i:Ep}{F F':Fg}{name:Str}{loc loc':eX->Ad}{M M':Mo}{k:Int}{P:PX}{PV:Hp->Vl->Fg->Prop}
theorem ko{f:Ad}{es:List Ep}{Fs:List FP}{P:Hp->Vl->Fg->Prop}(G:Gr KZ hg)(Sr:cr F loc M)(ho:Rd hg n env F ρ o (.ref (loc .S)))
  (hf:findIn KZ (.ref 137) name=some (some (.ref f)))(ht:typeIn KZ (.ref f)=some (.type "function"))(hsh:∀t1 t2 t3 t4 m v1 v2 v3 v4,shadowIn (some (AD t1 t2 t3 t4 m v1 v2 v3 v4)) name=some false)(hce:ft hg (.ref f))(ha:gG hg n env F ρ (e::es) Fs)(hc:rm hg n F (.ref f) (RV (.ref (loc .S))::Fs) P)(pl:Sem Bool)
  (hev:autoParam (cF o name pl pa pc (e::es) env) Rf)
  (hn:autoParam (sE (e::es) env=(false,eval e env)::sE es env) Rf)(hplain:autoParam ((backTo pc (sE es env)).any (·.1)=false) Rf):
  cB hg n env F ρ (.Call (.Attribute o name pa) (e::es) [] pc) P:=by
 obtain⟨t1,t2,t3,t4,m,x,y,e1⟩:=Sr.dx
 exact w8 (K:=KZ) (C:=137) G.1 ho.x Sr.S rfl rfl rfl e1 rfl rfl hf ht (hsh _ _ _ _ _ _ _ _ _) hce ha hc pl hev hn hplain
theorem iM{f:Ad}{P:Hp->Vl->Fg->Prop}{of:Obj}{fd:FuncData}(G:Gr KZ hg)(Sr:cr F loc M)(ho:Rd hg n env F ρ o (.ref (loc .S)))
  (hf:findIn KZ (.ref 137) name=some (some (.ref f)))(ht:typeIn KZ (.ref f)=some (.type "function"))(hsh:∀t1 t2 t3 t4 m v1 v2 v3 v4,shadowIn (some (AD t1 t2 t3 t4 m v1 v2 v3 v4)) name=some false)(hof:KZ.lookup f=some of)(hfd:of.data= .func fd)(hc:rm hg n F (.ref f) [RV (.ref (loc .S))] P)(pl:Sem Bool)
  (hev:autoParam (cF o name pl pa pc [] env) Rf):
  cB hg n env F ρ (.Call (.Attribute o name pa) [] [] pc) P:=by
 obtain⟨t1,t2,t3,t4,m,x,y,e1⟩:=Sr.dx
 exact wM (K:=KZ) (C:=137) G.1 ho.x Sr.S rfl rfl rfl e1 rfl rfl hf ht (hsh _ _ _ _ _ _ _ _ _) (G.1 _ _ hof) hfd hc pl hev
theorem y7{x dx:Ad}{np:Int}{t1 t2:Tok}{l:Ad}(G:Gr KZ hg)(hx:F x=some ⟨.ref 40,some dx,.plain,#[some (.int k t1),some (.int np t2),some (.ref l)]⟩)(hd:F dx=some emptyDict)
  {A:Ar}{hm:Hp}{s:SD}{Q:VS}{E:VS}(kh:hg.StaysIn hm)(B:ae F s.heap hm)(h:∀tk,Q (.int np t2) {s with toks:=tk}):wA MD A (getAttr (.ref x) "npredecessors" true) Q E s:=
 kT (K:=KZ) (C:=40) (p:=42) (i:=1) (G.1.keeps fun b o e=>B.sub b o (kh b o e)) ⟨B.at_ _ _ hx,rfl,rfl,B.at_ _ _ hd⟩ rfl rfl rfl rfl rfl rfl rfl rfl (h _)
theorem wi{px:Pos}{d v:Int}{op:Operator}(G:Gr KZ hg)(Sr:cr F loc M)(hk:k∈M.ks)(ho:Rd hg n env F ρ o (.ref (loc (.I k))))(hd:Ri hg n env F ρ e d)
  (hop:∀(A:Ar)(s:SD)(t u:Tok)(Q:VS)(E:VS),Q (.int v s.toks) {s with toks:=s.toks +1}->wA MD A (inplaceOp op (.int (M.np k) t) (.int d u)) Q E s)
  (hp:∀F',Go F loc M F' loc (M.setNp k v)->P.next ρ F'):XX hg n env F ρ (.AugAssign (.Attribute o "npredecessors" px) op e pos) P:=by
 obtain⟨t1,t2,e1⟩:=Sr.I hk
 refine gy (PV:=fun hb u F'=>F'=F/\(DI d).P hb u) (PN:=fun u F'=>F'=F/\∃t,u= .int v t) ho.x (fun A hm s Q E kh B h=>y7 G e1 (Sr.ix hk) kh B h) hd.x ?_ ?_
 ·rintro h u F₁ ⟨rfl,q⟩ A s Q E hQ
  obtain⟨t,rfl⟩:=aj q
  exact hop A s _ _ Q E (hQ _ _ ⟨rfl,_,rfl⟩)
 ·rintro u F₁ ⟨rfl,t,rfl⟩
  exact(tV G Sr hk).le hp
theorem iC{ds:List PyD}(hz:ds.length<=1000000):gO hg n (.builtin "len") [rF (DV (.tuple ds))] (RF (DV (.int ds.length))):=fun A fr h₀ hb s vs Q E ok sg sb ff al h=>by
 obtain⟨v,rfl,r1⟩:=al.one
 obtain⟨_,r1⟩:=r1
 obtain⟨a,o,us,k,rfl,ho,hc,hd,hr⟩:=reads_tuple_inv r1
 have hlen:us.size=ds.length:=by simpa using RA.length ⟨_,hr⟩
 refine len_tuple ⟨o,sb _ _ ho,hc,k,hd⟩ (by rw[hlen];exact Int.lt_of_le_of_lt (b:=1000000) (by exact BT ‹_›) (by decide)) ?_
 rw[hlen]
 exact h _ s.heap hb _ (.refl sb) cQ
theorem gE{vs:List Vl}{ns:List Int}{k:Int}{t:Tok}(h:IntsAre vs ns):IntsAre (vs ++[.int k t]) (ns ++[k]):=by
 induction h with
 |nil=>exact .cons k t .nil
 |cons i u r ih=>exact .cons i u ih
theorem zt{q:Int}{pe:Pos}(G:Gr KZ hg)(Sr:cr F loc M)(hk:q∈M.ks)(hz:(M.su q).length<=1000)(ho:Rd hg n env F ρ o (.ref (loc (.l q))))(he:Ri hg n env F ρ e k)(hp:∀F',Go F loc M F' loc (M.setSu q (M.su q ++[k]))->P.next ρ F')(pl:Sem Bool)
  (hev:autoParam (cF o ("append":Str) pl pa pc [e] env) Rf)
  (hn:autoParam (sE [e] env=(false,eval e env)::sE [] env) Rf)(hi:autoParam (interactive env=false) Rf)(hs:autoParam (swapsWith (.Call (.Attribute o ("append":Str) pa) [e] [] pc) none pe.line env=pure false) Rf):
  XX hg n env F ρ (.Expr (.Call (.Attribute o ("append":Str) pa) [e] [] pc) pe) P:=by
 obtain⟨ob,e1,vs,lo,ia⟩:=Sr.l hk
 have hl:vs.size=(M.su q).length:=ia.length
 refine ei (iU (G:=DI k) ho.x e1 lo (by exact Nat.le_trans (Nat.le_of_eq ‹_›) (Nat.le_trans ‹_› (by decide))) he.x pl hev hn) ?_ hi hs
 rintro h u F' ⟨rfl,v,o',hv,lo',rfl⟩
 obtain⟨t,rfl⟩:=aj hv
 refine hp _ (Sr.put (t:=.l q) hk (M':=M.setSu q (M.su q ++[k])) (fun t'=>by cases t'<;>rfl) rfl ⟨_,lo',?_⟩ fun t' o' ne u s=>?_)
 ·show IntsAre _ (if q=q then _ else _)
  rw[if_pos rfl,Array.toList_push];exact gE ia
 ·cases t' with
  |l k'=>
   have hne:k'≠q:=fun z=>ne (by rw[z])
   show IL o' (if k'=q then _ else _)
   rw[if_neg hne];exact s
  |_=>exact s
end
section
variable{o i:Ep}{F F':Fg}{name:Str}{loc loc':eX->Ad}{M M':Mo}{k:Int}{P:PX}{PV:Hp->Vl->Fg->Prop}
noncomputable def Mo.short(M:Mo)(z:Nat):Prop:=∀q,(M.su q).length<=z
theorem eM{z:Nat}(h:M.short z):(M.getI k).short z:=fun q=>by
 unfold Mo.getI
 split
 ·exact h q
 ·show(if q=k then[]else M.su q).length<=z
  split
  ·exact Nat.zero_le _
  ·exact h q
theorem sY{z:Nat}(h:M.short z){q:Int}:(M.addP k q).short (z +1):=fun x=>by
 show(if x=q then(M.getI q).su q ++[k]else(M.getI q).su x).length<=z +1
 split
 ·rw[List.length_append];exact Nat.succ_le_succ (eM h q)
 ·exact Nat.le_succ_of_le (eM h x)
theorem gX(k:Int):∀(ps:List Int){M:Mo}{z:Nat},M.short z->(ps.foldl (Mo.addP k) M).short (z +ps.length)
 |[],_,_,h=>h
 |q::ps,M,z,h=>by
  have:=gX k ps (sY (k:=k) (q:=q) h)
  simp only[List.foldl_cons,List.length_cons]
  rw[show z +(ps.length +1)=z +1 +ps.length by exact Eq.symm (Nat.succ_add _ _)];exact this
theorem uz{z:Nat}(h:M.short z)(ps:List Int):(M.addM k ps).short (z +ps.length):=gX k ps (M:=(M.getI k).setNp k _) (eM h)
theorem yb(G:Gr KZ hg)(L:Nat)(Sr:cr F loc M)(ps:List Int)(hz:M.ks.length +ps.length<=90)(hs:M.short 800)(no:ar ρ)(h1:aU ρ "self" (RV (.ref (loc .S))))(h2:aU ρ "node" (DI k))(h3:aU ρ "predecessors" (DV (.tuple (aG ps))))(hP:∀ρ' F' loc',Go F loc M F' loc' (ps.foldl (Mo.addP k) M)->P.next ρ' F'):
  XX hg (n +3) (callEnvC Cn.fd L 87) F ρ (bw Cn.body 3) P:=by
 refine t8 (T:="tuple_iterator") (PI:=fun hb v F'=>F'=F/\(DV (.tuple (aG ps))).P hb v) (fun a vs i ρ1 F₁=>A6 (i<=ps.length) (IntsAre vs.toList ps) (ar ρ1) (aU ρ1 "self" (RV (.ref (loc .S)))) (aU ρ1 "node" (DI k)) (∃loc',Go F loc M F₁ loc' ((ps.take i).foldl (Mo.addP k) M))) (fun a vs h=>h.IsTuple a vs) (bX h3) (.inl rfl) ?_ ?_ ?_
 ·rintro hb v F' ⟨rfl,as,r⟩
  obtain⟨a,o,vs,m,rfl,ho,hc,hd,hr⟩:=reads_tuple_inv r
  exact⟨a,vs,rfl,⟨Nat.zero_le _,fY hr,no,h1,h2,loc,.refl Sr⟩,rY,fun hb1 F₁ hm h ρ1 i kb kb' B j=>⟨o,B.sub _ _ (kb' _ _ (kb _ _ ho)),hc,m,hd⟩⟩
 ·rintro a vs i v ρ1 F₁ ⟨hi,ia,no1,s1,s2,loc1,go⟩ hv
  have hlen:vs.size=ps.length:=ia.length
  have hlt:i<ps.length:=by have:=(Array.getElem?_eq_some_iff.mp hv).1;exact Nat.lt_of_lt_of_eq ‹_› ‹_›
  obtain⟨q,t,hq,rfl⟩:X2 fun q t=>ps[i]?=some q/\v=Vl.int q t:=by
   have:∀{vs:List Vl}{ns:List Int},IntsAre vs ns->∀(i:Nat)(v:Vl),vs[i]?=some v->X2 fun q t=>ns[i]?=some q/\v=Vl.int q t:=by
    intro vs ns h
    induction h with
    |nil=>intro i v e;simp at e
    |cons m u r ih=>
     intro i v e
     cases i with
     |zero=>simp at e;exact⟨m,u,rfl,e.symm⟩
     |succ i=>exact ih i v (by simpa using e)
   exact this ia i v (by simpa using hv)
  have htake:ps.take (i +1)=ps.take i ++[q]:=by rw[List.take_add_one,hq];rfl
  have hfold:(ps.take (i +1)).foldl (Mo.addP k) M=((ps.take i).foldl (Mo.addP k) M).addP k q:=by rw[htake,List.foldl_append];rfl
  generalize hM1:(ps.take i).foldl (Mo.addP k) M=M1 at go hfold
  have hks:M1.ks.length<=M.ks.length +i:=by
   have:=oZ k (ps.take i) M
   rw[hM1,List.length_take]at this;exact Ek ‹_› ‹_›
  have hsh:M1.short (800 +i):=by
   have:=gX k (ps.take i) hs
   rw[hM1,List.length_take]at this
   exact fun x=>Nat.le_trans (this x) (by exact Nat.add_le_add_left (Nat.min_le_left _ _) _)
  have eS:=(go.old .S trivial).2
  refine⟨no1,?_⟩
  have s1':aU (("pred",LV.fz (RV (Vl.int q t)))::ρ1) "self" (RV (.ref (loc1 .S))):=by rw[eS];exact s1
  refine ad (N:=fun ρ2 F2=>A4 (ar ρ2) (aU ρ2 "self" (RV (.ref (loc .S)))) (aU ρ2 "node" (DI k)) (∃loc2,aU ρ2 "pred_info" (RV (.ref (loc2 (.I q))))/\Go F loc M F2 loc2 (M1.getI q)))
   (cE (ko G go.srt (ag s1') (f:=80) rfl rfl (fun O O O O O O O O O=>rfl) (bc G CV) (aW (Rd.i (ag rfl)).x bE) (kG G go.srt (by exact C2 ‹_› ‹_› ‹_›)).x _) (.inl rfl) (an no1) ?_) ?_
  ·rintro h v F2 ⟨loc2,g2,rfl⟩
   exact⟨RV _,rfl,an (an no1),s1,s2,loc2,rfl,go.trans g2⟩
  ·rintro ρ2 F2 ⟨no2,r1,r2,loc2,r3,g2⟩
   have hmem:q∈(M1.getI q).ks:=qq M1 q
   refine ad (N:=fun ρ3 F3=>A6 (i +1<=ps.length) (IntsAre vs.toList ps) (ar ρ3) (aU ρ3 "self" (RV (.ref (loc .S)))) (aU ρ3 "node" (DI k)) (∃loc',Go F loc M F3 loc' ((ps.take (i +1)).foldl (Mo.addP k) M)))
    (zt (q:=q) (k:=k) G g2.srt hmem (Nat.le_trans (eM hsh q) (by exact CJ ‹_› ‹_›)) (xP G g2.srt hmem (ag r3)) (gq r2) (fun F' g3=>?_) _) fun ρ3 F3 j=>aP j
   refine⟨hlt,ia,no2,r1,r2,loc2,?_⟩
   rw[hfold]
   exact g2.trans g3
 ·rintro a vs ρ1 F₁ ⟨hi,ia,no1,s1,s2,loc1,go⟩
  have hlen:vs.size=ps.length:=ia.length
  rw[hlen,List.take_length]at go
  exact hP _ _ _ go
end
theorem hB{vs:List Vl}{ns:List Int}(h:IntsAre vs ns):∀(i:Nat)(v:Vl),vs[i]?=some v->X2 fun q t=>ns[i]?=some q/\v=Vl.int q t:=by
 induction h with
 |nil=>intro i v e;simp at e
 |cons m u r ih=>
  intro i v e
  cases i with
  |zero=>simp at e;exact⟨m,u,rfl,e.symm⟩
  |succ i=>exact ih i v (by simpa using e)
section
variable{o i:Ep}{F F':Fg}{name:Str}{loc loc':eX->Ad}{M M':Mo}{k:Int}{P:PX}{PV:Hp->Vl->Fg->Prop}{v:Vl}
theorem ny(hv:v= .none\/∃a,v= .ref a):ic hg n (compareOp .IsNot) (RF (RV v)) (RF (DV .none)) (RF (DV (.bool (v != .none)))):=fun A fr h₀ h₁ hb s a b Q E O O st O ra rb h=>by
 obtain rfl:a=v:=ra
 obtain rfl:=e8 rb
 have fin:=h (.bool (a != .none)) s.heap hb s.toks (.refl st) bp
 rcases hv with rfl|⟨x,rfl⟩<;>exact wpAny_isNot_plain rfl fin
theorem ux(hv:v= .none\/∃a,v= .ref a):ic hg n (compareOp .Is) (RF (RV v)) (RF (DV .none)) (RF (DV (.bool (v== .none)))):=fun A fr h₀ h₁ hb s a b Q E O O st O ra rb h=>by
 obtain rfl:a=v:=ra
 obtain rfl:=e8 rb
 have fin:=h (.bool (a== .none)) s.heap hb s.toks (.refl st) bp
 rcases hv with rfl|⟨x,rfl⟩<;>exact wpAny_is_plain rfl fin
theorem oh{c:Nat}{p2:Pos}(he:Rd hg n env F ρ e v)(hv:v= .none\/∃a,v= .ref a)(hm:autoParam (behindInMarks .IsNot (.Constant .none c p2)=false) Wf):s7 hg n env F ρ (.Compare e [.IsNot] [.Constant .none c p2] pos) fun b F'=>F'=F/\b=(v != .none):=
 cA fun hp a b=>aX (he hp a b) jj (ny hv) hm
theorem xM{c:Nat}{p2:Pos}(he:Rd hg n env F ρ e v)(hv:v= .none\/∃a,v= .ref a)(hm:autoParam (behindInMarks .Is (.Constant .none c p2)=false) Wf):s7 hg n env F ρ (.Compare e [.Is] [.Constant .none c p2] pos) fun b F'=>F'=F/\b=(v== .none):=
 cA fun hp a b=>aX (he hp a b) jj (ux hv) hm
theorem jM(M:Mo)(loc:eX->Ad):M.rdV loc= .none\/∃a,M.rdV loc= .ref a:=by
 unfold Mo.rdV
 split
 ·exact .inr ⟨_,rfl⟩
 ·exact .inl rfl
theorem ja{test:Ep}{body orelse:List Stmt}(ht:s7 hg n env F ρ test fun b F'=>F'=F/\b=false)(h2:ly hg n env F ρ orelse P):XX hg n env F ρ (.If test body orelse pos) P:=
 nS ht (fun F' q=>by obtain⟨_,q⟩:=q;cases q) fun F' q=>by obtain⟨rfl,_⟩:=q;exact h2
theorem xz{test:Ep}{body orelse:List Stmt}(ht:s7 hg n env F ρ test fun b F'=>F'=F/\b=true)(h2:ly hg n env F ρ body P):XX hg n env F ρ (.If test body orelse pos) P:=
 nS ht (fun F' q=>by obtain⟨rfl,_⟩:=q;exact h2) fun F' q=>by obtain⟨_,q⟩:=q;cases q
theorem fu{PB PB':Bool->Fg->Prop}(x:s7 hg n env F ρ e PB)(k:∀b F',PB b F'->PB' b F'):s7 hg n env F ρ e PB':=fun A fr hb hm s Q E ok S B h=>
 x A fr hb hm s Q E ok S B fun b F' h' hm' hb' tk st B' p=>h b F' h' hm' hb' tk st B' (k _ _ p)
theorem zi(G:Gr KZ hg)(Sr:cr F loc M)(ps:List Int)(hz:M.ks.length +ps.length<=80)(hs:M.short 800)(hr:M.rd=none):fK hg (n +4) F (.ref 87) (RV (.ref (loc .S))::DI k::ps.map DI) fun O v F'=>v= .none/\∃loc',Go F loc M F' loc' (M.addM k ps):=by
 have hb:=qj (hg:=hg) (F:=F) (fd:=Cn.fd) (G₁:=RV (.ref (loc .S))) (G₂:=DI k) (ps:=ps) rfl rfl rfl (by exact Nat.le_trans (AH ‹_›) (by decide))
 refine fG G Cn ["self","node","predecessors"] [RV (.ref (loc .S)),DI k,DV (.tuple (aG ps))] _ _ hb (fun L=>nB (.inl rfl) (.inl rfl) (.inl rfl)) fun L=>?_
 have no:ar (bz ["self","node","predecessors"] [RV (.ref (loc .S)),DI k,DV (.tuple (aG ps))]):=bK _ _
 refine ad (N:=fun ρ1 F₁=>F₁=F/\ρ1=bz ["self","node","predecessors"] [RV (.ref (loc .S)),DI k,DV (.tuple (aG ps))]) (ja (fu (oh (eN G Sr (ag rfl)) (jM M loc)) fun b F' ⟨a,c⟩=>⟨a,by rw[c];unfold Mo.rdV;rw[hr];rfl⟩) (aP ⟨rfl,rfl⟩)) ?_
 rintro ρ1 F₁ ⟨rfl,rfl⟩
 refine ad (N:=fun ρ2 F2=>A5 (ar ρ2) (aU ρ2 "self" (RV (.ref (loc .S)))) (aU ρ2 "node" (DI k)) (aU ρ2 "predecessors" (DV (.tuple (aG ps)))) (∃loc2,aU ρ2 "nodeinfo" (RV (.ref (loc2 (.I k))))/\Go F₁ loc M F2 loc2 (M.getI k)))
  (cE (ko G Sr (ag rfl) (f:=80) rfl rfl (fun O O O O O O O O O=>rfl) (bc G CV) (aW (gq rfl).x bE) (kG G Sr (by exact Nat.lt_of_le_of_lt (jy ‹_›) (by decide))).x _) (.inl rfl) no ?_) ?_
 ·rintro h v F2 ⟨loc2,g2,rfl⟩
  exact⟨RV _,rfl,an no,rfl,rfl,rfl,loc2,rfl,g2⟩
 rintro ρ2 F2 ⟨no2,r1,r2,r3,loc2,r4,g2⟩
 have hmem:k∈(M.getI k).ks:=qq M k
 refine ad (N:=fun ρ3 F3=>A5 (ar ρ3) (aU ρ3 "self" (RV (.ref (loc .S)))) (aU ρ3 "node" (DI k)) (aU ρ3 "predecessors" (DV (.tuple (aG ps)))) (Go F₁ loc M F3 loc2 ((M.getI k).setNp k ((M.getI k).np k +ps.length))))
  (wi (d:=(ps.length:Nat)) G g2.srt hmem (ag r4) (fun hp a b=>?_) (fun A s t u Q E q=>P.iadd_int q) fun F' g3=>⟨no2,r1,r2,r3,g2.trans g3⟩) ?_
 ·have hl:(aG ps).length=ps.length:=List.length_map ..
  rw[<-hl]
  exact aB (bg (hO G a) (x:="len") rfl rfl rfl (by decide)) (.builtin _) (bu (aa r3) ao) (iC (ds:=aG ps) (by rw[List.length_map];exact Nat.le_trans (AH ‹_›) (by decide)))
 rintro ρ3 F3 ⟨no3,s1,s2,s3,g3⟩
 have eS:loc2 .S=loc .S:=(g2.old .S trivial).2
 have hks:(M.getI k).ks.length<=M.ks.length +1:=pZ M k
 refine ad (N:=fun ρ4 F4=>∃loc',Go F₁ loc M F4 loc' (M.addM k ps)) (yb G L g3.srt ps (by show(M.getI k).ks.length +_<=_;exact CU ‹_› ‹_›) (eM hs) no3 (by rw[eS];exact s1) s2 s3 fun ρ' F' loc' g4=>⟨loc',g3.trans g4⟩) ?_
 rintro ρ4 F4 q
 exact aP fun hb'=>⟨rfl,q⟩
end
section
variable{A:Ar}{E:VS}{s:SD}
end
noncomputable def Mo.nil:Mo:=⟨[],fun O=>0,fun O=>[],none,0,0⟩
noncomputable def Mo.init(ws:List (Int×List Int)):Mo:=ws.foldl (fun M x=>M.addM x.1 x.2) .nil
noncomputable def WV(h:Hp):List (Int×Vl)->List (Int×List Int)->Prop
 |[],[]=>True
 |kv::kvs,x::ws=>(kv.1=x.1/\(DV (.list (aG x.2))).P h kv.2)/\WV h kvs ws
 |_,_=>False
theorem WV.len{h:Hp}:∀{kvs:List (Int×Vl)}{ws:List (Int×List Int)},WV h kvs ws->kvs.length=ws.length
 |[],[],_=>rfl
 |_::_,_::_,x=>congrArg (·+1) (WV.len x.2)
theorem WV.up{h h':Hp}(k:p9 h h'):∀{kvs:List (Int×Vl)}{ws:List (Int×List Int)},WV h kvs ws->WV h' kvs ws
 |[],[],_=>trivial
 |_::_,x::_,y=>⟨⟨y.1.1,(DV (.list (aG x.2))).up k y.1.2⟩,WV.up k y.2⟩
theorem WV.get{h:Hp}:∀{kvs:List (Int×Vl)}{ws:List (Int×List Int)}{i:Nat}{k:Int}{v:Vl},WV h kvs ws->kvs[i]?=some (k,v)->∃ps,ws[i]?=some (k,ps)/\(DV (.list (aG ps))).P h v
 |[],_,i,k,v,_,e=>by simp at e
 |kv::kvs,x::ws,0,k,v,y,e=>by
  simp at e;subst e
  obtain⟨⟨q1,q2⟩,_⟩:=y
  dsimp only at q1
  subst q1
  exact⟨x.2,rfl,q2⟩
 |kv::kvs,x::ws,i +1,k,v,y,e=>WV.get (i:=i) y.2 (by simpa using e)
noncomputable def CP(ws:List (Int×List Int))(h:Hp)(d:Ad):Prop:=(d==sysModules)=false/\X2 fun o kvs=>h.get? d=some o/\o.IsDictOf (intKind PG W0) kvs/\WV h kvs ws
noncomputable def WD(ws:List (Int×List Int)):FP:=⟨fun h v=>∃d,v= .ref d/\CP ws h d,fun k ⟨d,e,lo,o,kvs,ho,hd,hv⟩=>⟨d,e,lo,o,kvs,k d o ho (fun vs q=>by obtain⟨_,_,_,q',_⟩:=hd;rw[q']at q;cases q),hd,hv.up k⟩⟩
section
variable{o i:Ep}{F F':Fg}{name:Str}{loc loc':eX->Ad}{M M':Mo}{k:Int}{P:PX}{PV:Hp->Vl->Fg->Prop}{v:Vl}
theorem j8{K:Frag}(G:Gr K hg):cB hg n env F ρ (.Dict [] [] pos) fun hb v F'=>∃a,A4 (v= .ref a) (F a=none) ((a==sysModules)=false) (F'=F.put a emptyDict):=fun A fr hb hm s Q E ok S B h=>by
 obtain⟨X,pp,loose,mean,mg,mb,T⟩:=G
 obtain⟨B',f⟩:=B.fresh emptyDict rfl
 refine wpAny_Dict_empty (h _ _ _ hm hb s.toks (.refl S.b) B' ⟨_,rfl,f,?_,rfl⟩)
 obtain⟨o,es,ep,ho,_⟩:=T.g
 have h3:mainGlobals<s.heap.objs.size:=Hp.lt_size (B.sub _ _ (S.b _ _ (S.g _ _ ho)))
 have:s.heap.objs.size≠sysModules:=fun q=>by rw[q]at h3;exact absurd h3 (by decide)
 simpa using this
theorem Ae{ob dx D:Ad}{F₀:Fg}{t1 t2 t3 t4:Tok}{m:Nat}{x y:Tok}(h1:F₀ ob=some (instObj 137 dx))(h2:F₀ dx=some (AD t1 t2 t3 t4 m (.ref D) .none (.int 0 x) (.int 0 y)))(h3:F₀ D=some emptyDict)(n1:ob≠dx)(n2:D≠ob)(n3:D≠dx)(lo:(D==sysModules)=false):
  cr F₀ (fun t=>match t with| .S=>ob| .dx=>dx| .D=>D|_=>0) .nil:=by
 have nu:∀t,Mo.nil.used t->t= .S\/t= .dx\/t= .D:=fun t u=>by
  cases t with
  |S=>exact .inl rfl
  |dx=>exact .inr (.inl rfl)
  |D=>exact .inr (.inr rfl)
  |R=>cases u
  |I k=>cases u
  |ix k=>cases u
  |l k=>cases u
 refine⟨fun a b ua ub e=>?_,fun t u=>?_,List.nodup_nil,Nat.zero_le _⟩
 ·rcases nu a ua with rfl|rfl|rfl<;>rcases nu b ub with rfl|rfl|rfl<;>first
   |rfl
   |exact absurd e n1
   |exact absurd e.symm n1
   |exact absurd e n2
   |exact absurd e.symm n2
   |exact absurd e n3
   |exact absurd e.symm n3
 ·rcases nu t u with rfl|rfl|rfl
  ·exact⟨_,h1,rfl⟩
  ·exact⟨_,h2,t1,t2,t3,t4,m,x,y,rfl⟩
  ·exact⟨_,h3,⟨#[],0,⟨rfl,rfl,rfl⟩,rfl,fun e he=>(by simp at he),.nil,List.nodup_nil⟩,lo⟩
theorem ig{dx x:Ad}{od:Obj}{v:Vl}(G:Gr KZ hg)(hx:F x=some (instObj 137 dx))(hd:F dx=some od)(ht:takerIn KZ 137 name=some none)(hl:(lookIn name od).isSome=true)
  (e':∀t,X2 fun es m=>(Obj.putName name (PyD.keyHash W0.params name) (.str name t) v od).data= .dict es m/\es.size<=1000):jb hg F x name v fun F₁=>∃t,F₁=F.put dx (Obj.putName name (PyD.keyHash W0.params name) (.str name t) v od):=
 nV (K:=KZ) (C:=137) G.1 hx rfl rfl rfl hd rfl rfl ht rfl hl e'
theorem vw(G:Gr KZ hg)(L:Nat)(Sr:cr F loc .nil)(ws:List (Int×List Int))(hz:∀i,((Mo.init (ws.take i)).ks.length<=20/\(Mo.init (ws.take i)).short 700))(hl:∀x∈ws,x.2.length<=20)(hr:∀i,(Mo.init (ws.take i)).rd=none)(no:ar ρ)(h1:aU ρ "self" (RV (.ref (loc .S))))(h2:aU ρ "graph" (WD ws))
  (hP:∀ρ' F' loc',Go F loc .nil F' loc' (Mo.init ws)->P.next ρ' F'):XX hg (n +5) (callEnvC xk.fd L 73) F ρ (bw (bb (bw xk.body 4)) 0) P:=by
 refine lB (PI:=fun hb v F'=>F'=F/\X2 fun a d=>A3 (v= .ref a) (CP ws hb d) (hb.get? a=some {cls:=.type "dict_items",data:=.fields #[.ref d]}))
  (yF (T:="dict_items") (id:="dict.items") (PD:=CP ws) (j4 (bX h2) fun h v F' ⟨a,d,b,c⟩=>⟨a,d,b,c⟩) (fun hb hb' d k ⟨lo,o,kvs,ho,hd,hv⟩=>⟨lo,o,kvs,k _ _ ho,hd,hv.up (fB k)⟩)
   (fun hb hm h d _ k B ⟨lo,o,kvs,ho,hd,hv⟩=>⟨lo,kvs,Hp.dictOf_iff.mpr ⟨o,B.sub _ _ (k _ _ ho),hd⟩⟩) PySem.F.slot_dict_items PySem.F.type_dict_items
   (fun{A s Q E d kvs} lo D h=>method_meetsIn PySem.F.slot_dict_items PySem.F.entry_dict_items rfl (PySem.evalArgs_none ⟨rfl,D.typeIs,PySem.F.args_dict_items_1 _,_,meets_dict_items (intKind PG W0) d lo,⟨kvs,D⟩,h⟩)) _) ?_
 rintro hb v F' ⟨rfl,a,d,rfl,⟨lo,o,kvs,ho,hd,hv⟩,ha⟩
 obtain⟨es,ep,hd'⟩:=hd
 have hlen:=hv.len
 refine⟨kvs.length,fun i ρ1 F₁=>A3 (ar ρ1) (aU ρ1 "self" (RV (.ref (loc .S)))) (∃loc',Go F' loc .nil F₁ loc' (Mo.init (ws.take i))),_,_,_,⟨no,h1,loc,.refl Sr⟩,wJ (d:=d) (ep:=ep),?_,?_,?_⟩
 ·intro hb1 F₁ hm h ρ1 i kb kb' B _
  exact⟨⟨o,es,B.sub _ _ (kb' _ _ (kb _ _ ho)),hd'⟩,_,B.sub _ _ (kb' _ _ (kb _ _ ha)),rfl,rfl⟩
 ·rintro i ρ1 F₁ ⟨no1,s1,loc1,go⟩ hi
  obtain⟨k,val,hk⟩:=oU hi
  obtain⟨ps,hps,hl'⟩:=hv.get hk
  refine⟨_,fun hb1 kb=>vX (G₁:=DI k) (G₂:=DV (.list (aG ps))) (.inl rfl) (.inl rfl) no1 fun h v ⟨k',val',t,tp,e1,e2,e3⟩=>?_,?_⟩
  ·rw[hk]at e1;injection e1 with e1;injection e1 with e1 e4;subst e1;subst e4
   exact⟨tp,_,_,e2,e3,fun g kg=>⟨cQ,(DV (.list (aG ps))).stays (fun b o e=>kg b o (kb b o e)) hl'⟩⟩
  ·rintro ρ2 rfl
   have eS:=(go.old .S trivial).2
   obtain⟨z1,z2⟩:=hz i
   have htake:ws.take (i +1)=ws.take i ++[(k,ps)]:=by rw[List.take_add_one,hps];rfl
   have hinit:Mo.init (ws.take (i +1))=(Mo.init (ws.take i)).addM k ps:=by rw[htake];unfold Mo.init;rw[List.foldl_append];rfl
   have hps':ps.length<=20:=hl (k,ps) (List.mem_of_getElem? hps)
   have s1':aU ((("predecessors":Str),LV.fz (DV (.list (aG ps))))::(("node":Str),LV.fz (DI k))::ρ1) "self" (RV (.ref (loc1 .S))):=by rw[eS];exact s1
   obtain⟨t1,t2,t3,t4,m,x,y,ex⟩:=go.srt.dx
   refine ad (N:=fun ρ3 F3=>A3 (ar ρ3) (aU ρ3 "self" (RV (.ref (loc .S)))) (∃loc',Go F' loc .nil F3 loc' (Mo.init (ws.take (i +1))))) (ei (PV:=fun hb v F3=>v= .none/\∃loc',Go F₁ loc1 (Mo.init (ws.take i)) F3 loc' ((Mo.init (ws.take i)).addM k ps))
    (vB (K:=KZ) (C:=137) (f:=87) (Fs:=DI k::(ps.map DI ++[])) G.1 rfl (ag s1').x go.srt.S rfl rfl rfl ex rfl rfl rfl rfl rfl rfl rfl rfl (aW (gq rfl).x (uq (by exact Nat.le_trans ‹_› (by decide)) (bX rfl) bE)) ?_) ?_) fun ρ3 F3 j=>aP j
   ·rw[List.append_nil]
    exact zi G go.srt ps (by exact Nat.le_trans (Nat.add_le_add ‹_› ‹_›) (by decide)) (fun q=>Nat.le_trans (z2 q) (by decide)) (hr i)
   ·rintro h v F3 ⟨_,loc',g2⟩
    exact⟨an (an no1),s1,loc',by rw[hinit];exact go.trans g2⟩
 ·rintro ρ1 F₁ ⟨no1,s1,loc1,go⟩
  rw[hlen,List.take_length]at go
  exact hP _ _ _ go
end
section
variable{o i:Ep}{F F':Fg}{name:Str}{loc loc':eX->Ad}{M M':Mo}{k:Int}{P:PX}{PV:Hp->Vl->Fg->Prop}{v:Vl}
noncomputable def pn(name:Str)(t:Tok)(v:Vl)(o:Obj):Obj:=Obj.putName name (PyD.keyHash W0.params name) (.str name t) v o
noncomputable abbrev I1(t1:Tok)(D:Ad):Obj:=pn "_node2info" t1 (.ref D) emptyDict
noncomputable abbrev I2(t1 t2:Tok)(D:Ad):Obj:=pn "_ready_nodes" t2 .none (I1 t1 D)
noncomputable abbrev I3(t1 t2 t3 x:Tok)(D:Ad):Obj:=pn "_npassedout" t3 (.int 0 x) (I2 t1 t2 D)
theorem tc{fd:FuncData}{x x':Str}{u:Vl}{T:Ad}{oT:Obj}{m:Nat}{G₁ G₂:FP}{K:Frag}(X:K.In hg)(hT:K.lookup T=some oT)(hTd:oT.data= .seq #[u] m)(hd:fd.defaults= .ref T){k:Vl->Vl->Option (Array Vl)->Sem (List (Str×Vl))}
  (h₁:∀a b,bindArgs fd ⟨[a,b],[]⟩=seqItems? fd.defaults>>=k a b)(h2:∀a b,k a b (some #[u])=pure [(x,a),(x',b)])(F:Fg):jJ hg F fd [G₁,G₂] [x,x'] [G₁,G₂]:=fun A hb hm s vs Q E sg sb B al h=>by
 obtain⟨a,b,rfl,r1,r2⟩:=al.two
 exact BindsTo.of_defaults hd (B.sub _ _ (sb _ _ (sg _ _ (X _ _ hT)))) hTd (h₁ a b) (h2 a b) _ _ _ _ (h [a,b] s.heap hm hb s.toks (.refl sb) B rfl (.cons (R:=rF G₁) r1 (.cons (R:=rF G₂) r2 .nil)))
theorem uh(G:Gr KZ hg)(L:Nat){ob dx:Ad}(h1:F dx=some emptyDict)(h2:F ob=some (instObj 137 dx))(ne:ob≠dx)(hs:aU ρ "self" (RV (.ref ob))){ss:List Stmt}
  (hnext:∀D t1 t2 t3 t4 x y,F D=none->(D==sysModules)=false->ly hg n (callEnvC xk.fd L 73) ((F.put D emptyDict).put dx (AD t1 t2 t3 t4 4 (.ref D) .none (.int 0 x) (.int 0 y))) ρ ss P):
  ly hg n (callEnvC xk.fd L 73) F ρ (bw xk.body 0::bw xk.body 1::bw xk.body 2::bw xk.body 3::ss) P:=by
 have self:∀{F₁:Fg}{pp:Pos},cB hg n (callEnvC xk.fd L 73) F₁ ρ (.Name "self" pp) fun O u F2=>F2=F₁/\u= .ref ob:=fun{F₁ pp}=>bX hs
 have nD:∀{D:Ad},F D=none->D≠ob/\D≠dx:=fun{D} f=>⟨fun q=>(by rw[q,h2]at f;cases f),fun q=>(by rw[q,h1]at f;cases f)⟩
 have atob:∀{D:Ad}{o:Obj},F D=none->((F.put D emptyDict).put dx o) ob=some (instObj 137 dx):=fun{D o} f=>by rw[Fg.put_ne _ _ ne,Fg.put_ne _ _ (nD f).1.symm];exact h2
 refine ad (N:=fun ρ1 F₁=>ρ1=ρ/\X2 fun D t1=>A3 (F D=none) ((D==sysModules)=false) (F₁=(F.put D emptyDict).put dx (I1 t1 D))) (cg (x:=ob) (j8 G) (fun v h F₁ q=>self) fun v h F₁ q=>?_) ?_
 ·obtain⟨D,rfl,f,lo,rfl⟩:=q
  exact(ig G (by rw[Fg.put_ne _ _ (nD f).1.symm];exact h2) (by rw[Fg.put_ne _ _ (nD f).2.symm];exact h1) rfl rfl fun t=>⟨_,_,rfl,Nat.le_of_ble_eq_true rfl⟩).le fun F' ⟨t,e⟩=>⟨rfl,D,t,f,lo,e⟩
 rintro ρ1 F₁ ⟨rfl,D,t1,f,lo,rfl⟩
 refine ad (N:=fun ρ2 F₁=>ρ2=ρ1/\∃t2,F₁=(F.put D emptyDict).put dx (I2 t1 t2 D)) (cg (x:=ob) (aV (R:=RF (DV .none)) (P:=fun O v=>v= .none) (fun hp O O=>jj) fun r O O=>e8 r) (fun v h F₁ q=>self) fun v h F₁ q=>?_) ?_
 ·obtain⟨rfl,rfl⟩:=q
  exact(ig G (atob f) (Fg.put_same _ _ _) rfl rfl fun t=>⟨_,_,rfl,Nat.le_of_ble_eq_true rfl⟩).le fun F' ⟨t,e⟩=>⟨rfl,t,e.trans (Fg.put_put _ _ _ _)⟩
 rintro ρ2 F₁ ⟨rfl,t2,rfl⟩
 refine ad (N:=fun ρ3 F₁=>ρ3=ρ2/\X2 fun t3 x=>F₁=(F.put D emptyDict).put dx (I3 t1 t2 t3 x D)) (cg (x:=ob) (aV (R:=RF (DV (.int 0))) (fun hp O O=>aJ) e7) (fun v h F₁ q=>self) fun v h F₁ q=>?_) ?_
 ·obtain⟨rfl,x,rfl⟩:=q
  exact(ig G (atob f) (Fg.put_same _ _ _) rfl rfl fun t=>⟨_,_,rfl,Nat.le_of_ble_eq_true rfl⟩).le fun F' ⟨t,e⟩=>⟨rfl,t,x,e.trans (Fg.put_put _ _ _ _)⟩
 rintro ρ3 F₁ ⟨rfl,t3,x,rfl⟩
 refine ad (N:=fun ρ4 F₁=>ρ4=ρ3/\X2 fun t4 y=>F₁=(F.put D emptyDict).put dx (AD t1 t2 t3 t4 4 (.ref D) .none (.int 0 x) (.int 0 y))) (cg (x:=ob) (aV (R:=RF (DV (.int 0))) (fun hp O O=>aJ) e7) (fun v h F₁ q=>self) fun v h F₁ q=>?_) ?_
 ·obtain⟨rfl,y,rfl⟩:=q
  exact(ig G (atob f) (Fg.put_same _ _ _) rfl rfl fun t=>⟨_,_,rfl,Nat.le_of_ble_eq_true rfl⟩).le fun F' ⟨t,e⟩=>⟨rfl,t,y,e.trans (Fg.put_put _ _ _ _)⟩
 rintro ρ4 F₁ ⟨rfl,t4,y,rfl⟩
 exact hnext D t1 t2 t3 t4 x y f lo
theorem rN{ws:List (Int×List Int)}:ic hg n (compareOp .IsNot) (RF (WD ws)) (RF (DV .none)) (RF (DV (.bool true))):=fun A fr h₀ h₁ hb s a b Q E O O st O ra rb h=>by
 obtain⟨d,rfl,_⟩:=ra
 obtain rfl:=e8 rb
 exact wpAny_isNot_plain rfl (h (.bool true) s.heap hb s.toks (.refl st) bp)
theorem un{x y:Str}{px py:Pos}(G:Gr KZ hg){ws:List (Int×List Int)}(hz:∀i,((Mo.init (ws.take i)).ks.length<=20/\(Mo.init (ws.take i)).short 700))(hl:∀x∈ws,x.2.length<=20)(hr:∀i,(Mo.init (ws.take i)).rd=none)
  (hc:nsIn KZ mainGlobals x=some (some (.ref 137)))(hx:env.kindOf x=some .globalImplicit)(hd:(x==("__debug__":Str))=false)(hy:aU ρ y (WD ws))(hd':(y==("__debug__":Str))=false)
  (hn:autoParam (sE [.Name y py] env=(false,eval (.Name y py) env)::sE [] env) Rf)(hplain:autoParam (((backTo pc (sE [.Name y py] env)).any (·.1)||([]:List (Option Str×Sem Vl)).any (·.1.isNone))=false) Rf)
  (hf:∀(F:Fg)(ob dx:Ad),F dx=some emptyDict->F ob=some (instObj 137 dx)->ob≠dx->fK hg n F (.ref 73) [RV (.ref ob),WD ws] fun O v F'=>v= .none/\∃loc,loc .S=ob/\cr F' loc (Mo.init ws)):
  cB hg (n +1) env F ρ (.Call (.Name x px) [.Name y py] [] pc) fun O v F'=>∃loc,v= .ref (loc .S)/\cr F' loc (Mo.init ws):=
 vc (K:=KZ) (C:=137) (fI:=73) (Fs:=[WD ws]) G.1 (gS G hc hx hd) rfl (aW (bX hy hd') bE hn) rfl rfl rfl (fun ob dx f1 f2 ne=>(hf _ ob dx (by rw[Fg.put_ne _ _ ne.symm];exact Fg.put_same _ _ _) (Fg.put_same _ _ _) ne).le fun h v F' ⟨a,loc,b,c⟩=>⟨a,loc,by rw[b],c⟩) hn hplain
theorem y6(G:Gr KZ hg){ob dx:Ad}(h1:F dx=some emptyDict)(h2:F ob=some (instObj 137 dx))(ne:ob≠dx)(ws:List (Int×List Int))(hz:∀i,((Mo.init (ws.take i)).ks.length<=20/\(Mo.init (ws.take i)).short 700))(hl:∀x∈ws,x.2.length<=20)(hr:∀i,(Mo.init (ws.take i)).rd=none):
  fK hg (n +6) F (.ref 73) [RV (.ref ob),WD ws] fun O v F'=>v= .none/\∃loc,loc .S=ob/\cr F' loc (Mo.init ws):=by
 have hb:=tc (G₁:=RV (.ref ob)) (G₂:=WD ws) (fd:=xk.fd) (K:=KZ) (T:=66) (oT:=Ec W0.params) (u:=.none) (m:=0) (x:="self") (x':="graph") G.1 rfl rfl rfl (fun O O=>rfl) (fun O O=>rfl) F
 refine fG G xk ["self","graph"] [RV (.ref ob),WD ws] _ _ hb (fun L=>fL (.inl rfl) (.inl rfl)) fun L=>?_
 refine uh G L h1 h2 ne rfl fun D t1 t2 t3 t4 x y f lo=>?_
 have nD:D≠ob/\D≠dx:=⟨fun q=>(by rw[q,h2]at f;cases f),fun q=>(by rw[q,h1]at f;cases f)⟩
 have Sr:=Ae (F₀:=(F.put D emptyDict).put dx (AD t1 t2 t3 t4 4 (.ref D) .none (.int 0 x) (.int 0 y))) (ob:=ob) (dx:=dx) (D:=D) (by rw[Fg.put_ne _ _ ne,Fg.put_ne _ _ nD.1.symm];exact h2) (Fg.put_same _ _ _) (by rw[Fg.put_ne _ _ nD.2];exact Fg.put_same _ _ _) ne nD.1 nD.2 lo
 have no:ar (bz ["self","graph"] [RV (.ref ob),WD ws]):=bK _ _
 refine ad (N:=fun ρ1 F₁=>∃loc,loc .S=ob/\cr F₁ loc (Mo.init ws)) (xz (cA fun hp a b=>aX (aa rfl) jj rN) (ad (N:=fun ρ1 F₁=>∃loc,loc .S=ob/\cr F₁ loc (Mo.init ws)) (vw G L Sr ws hz hl hr no rfl rfl fun ρ' F' loc' go=>⟨loc',(go.old .S trivial).2,go.srt⟩) fun ρ1 F₁ q=>aP q)) fun ρ1 F₁ q=>aP fun hb'=>⟨rfl,q⟩
end
noncomputable def Mo.out(M:Mo)(k:Int):Mo:=M.setNp k (-1)
noncomputable def Mo.ready(M:Mo)(ns:List Int):Mo:={ns.foldl Mo.out M with rd:=some [],po:=M.po +ns.length}
theorem ku:∀(ns:List Int)(M:Mo),A3 ((ns.foldl Mo.out M).ks=M.ks) ((ns.foldl Mo.out M).rd=M.rd) ((ns.foldl Mo.out M).po=M.po)
 |[],M=>⟨rfl,rfl,rfl⟩
 |k::ns,M=>ku ns (M.out k)
section
variable{o i:Ep}{F F':Fg}{name:Str}{loc loc':eX->Ad}{M M':Mo}{k:Int}{P:PX}{PV:Hp->Vl->Fg->Prop}{v:Vl}
theorem g7{x:Str}{px:Pos}{iter:Ep}{body:List Stmt}{ns:List Int}(J:Nat->LS->Fg->Prop)(he:cB hg n env F ρ iter fun hb v F'=>F'=F/\(DV (.tuple (aG ns))).P hb v)(kx:cM env x)(j0:J 0 ρ F)
  (hbody:∀i k t ρ1 F₁,J i ρ1 F₁->ns[i]?=some k->ar ρ1/\ly hg n env F₁ ((x,.fz (RV (Vl.int k t)))::ρ1) body {P with next:=J (i +1),cont:=J (i +1),brk:=P.next})
  (hend:∀ρ1 F₁,J ns.length ρ1 F₁->P.next ρ1 F₁)(hs:autoParam (∀x,foldedSetIterable iter env x=pure x) If):XX hg n env F ρ (.For (.Name x px) iter body [] pos) P:=by
 refine t8 (T:="tuple_iterator") (fun a vs i ρ1 F₁=>IntsAre vs.toList ns/\J i ρ1 F₁) (fun a vs h=>h.IsTuple a vs) he kx ?_ ?_ ?_ hs
 ·rintro hb v F' ⟨rfl,as,r⟩
  obtain⟨a,o,vs,m,rfl,ho,hc,hd,hr⟩:=reads_tuple_inv r
  exact⟨a,vs,rfl,⟨fY hr,j0⟩,rY,fun hb1 F₁ hm h ρ1 i kb kb' B j=>⟨o,B.sub _ _ (kb' _ _ (kb _ _ ho)),hc,m,hd⟩⟩
 ·rintro a vs i v ρ1 F₁ ⟨ia,j⟩ hv
  obtain⟨q,t,hq,rfl⟩:=hB ia i v (by simpa using hv)
  obtain⟨no,ex⟩:=hbody i q t ρ1 F₁ j hq
  exact⟨no,yI ex ⟨fun O O h=>⟨ia,h⟩,fun O O h=>h,fun O O h=>⟨ia,h⟩,fun O O O h=>h⟩⟩
 ·rintro a vs ρ1 F₁ ⟨ia,j⟩
  have:vs.size=ns.length:=ia.length
  rw[this]at j
  exact hend _ _ j
theorem qf{od:Obj}{x dx:Ad}(G:Gr KZ hg)(hx:F x=some (instObj 137 dx))(hd:F dx=some od)(hf:findObj KZ 137 (some od) name=some (.value v))(hh:handedIn v=true)
  {A:Ar}{hm:Hp}{s:SD}{Q:VS}{E:VS}(kh:hg.StaysIn hm)(B:ae F s.heap hm)(h:∀tk,Q v {s with toks:=tk}):wA MD A (getAttr (.ref x) name true) Q E s:=
 get_value (K:=KZ) (C:=137) (G.1.keeps fun b o e=>B.sub b o (kh b o e)) ⟨B.at_ _ _ hx,rfl,rfl,B.at_ _ _ hd⟩ rfl hf hh (h _)
theorem wl{px:Pos}{d:Int}(G:Gr KZ hg)(Sr:cr F loc M)(ho:Rd hg n env F ρ o (.ref (loc .S)))(hd:Ri hg n env F ρ e d)
  (hp:∀F',Go F loc M F' loc {M with po:=M.po +d}->P.next ρ F'):XX hg n env F ρ (.AugAssign (.Attribute o "_npassedout" px) .Add e pos) P:=by
 obtain⟨t1,t2,t3,t4,m,x,y,e1⟩:=Sr.dx
 refine gy (PV:=fun hb u F'=>F'=F/\(DI d).P hb u) (PN:=fun u F'=>F'=F/\∃t,u= .int (M.po +d) t) ho.x (fun A hm s Q E kh B h=>qf G Sr.S e1 rfl rfl kh B h) hd.x ?_ ?_
 ·rintro h u F₁ ⟨rfl,q⟩ A s Q E hQ
  obtain⟨t,rfl⟩:=aj q
  exact PySem.P.iadd_int (hQ _ _ ⟨rfl,_,rfl⟩)
 ·rintro u F₁ ⟨rfl,t,rfl⟩
  exact(Bt G Sr).le hp
theorem we{px:Pos}{d:Int}(G:Gr KZ hg)(Sr:cr F loc M)(ho:Rd hg n env F ρ o (.ref (loc .S)))(hd:Ri hg n env F ρ e d)
  (hp:∀F',Go F loc M F' loc {M with nf:=M.nf +d}->P.next ρ F'):XX hg n env F ρ (.AugAssign (.Attribute o "_nfinished" px) .Add e pos) P:=by
 obtain⟨t1,t2,t3,t4,m,x,y,e1⟩:=Sr.dx
 refine gy (PV:=fun hb u F'=>F'=F/\(DI d).P hb u) (PN:=fun u F'=>F'=F/\∃t,u= .int (M.nf +d) t) ho.x (fun A hm s Q E kh B h=>qf G Sr.S e1 rfl rfl kh B h) hd.x ?_ ?_
 ·rintro h u F₁ ⟨rfl,q⟩ A s Q E hQ
  obtain⟨t,rfl⟩:=aj q
  exact PySem.P.iadd_int (hQ _ _ ⟨rfl,_,rfl⟩)
 ·rintro u F₁ ⟨rfl,t,rfl⟩
  exact(AU G Sr).le hp
theorem cr.putR(Sr:cr F loc M){ns ns':List Int}(hr:M.rd=some ns){o':Obj}(ho:IL o' ns'):Go F loc M (F.put (loc .R) o') loc {M with rd:=some ns'}:=by
 have hs:M.rd.isSome=true:=by rw[hr];rfl
 refine Sr.put (t:=.R) hs (M':={M with rd:=some ns'}) (fun t=>?_) rfl ho fun t' o ne u s=>?_
 ·cases t<;>first|rfl|(simp[Mo.used,hr])
 ·cases t' with
  |R=>exact absurd rfl ne
  |dx=>
   obtain⟨t1,t2,t3,t4,m,x,y,e⟩:=s
   refine⟨t1,t2,t3,t4,m,x,y,?_⟩
   rw[e]
   have:Mo.rdV {M with rd:=some ns'} loc=M.rdV loc:=Mo.rdV_eq (by rw[hr];rfl) fun O=>rfl
   rw[this]
  |_=>exact s
theorem Mo.rdV_some{ns:List Int}(hr:M.rd=some ns):M.rdV loc= .ref (loc .R):=by unfold Mo.rdV;rw[if_pos (by rw[hr];rfl)]
theorem eZ{vs:List Vl}{ns:List Int}(h:IntsAre vs ns)(g:Hp):∃as,ReadsAll g vs (aG ns) as:=iL h
theorem vV(G:Gr KZ hg)(Sr:cr F loc M){ns:List Int}(hr:M.rd=some ns)(hk:∀k∈ns,k∈M.ks)(hz:ns.length<=900):fK hg (n +1) F (.ref 99) [RV (.ref (loc .S))] fun hb v F'=>(DV (.tuple (aG ns))).P hb v/\Go F loc M F' loc (M.ready ns):=by
 refine fG G B1 ["self"] [RV (.ref (loc .S))] _ _ (ct rfl fun vs h=>by obtain⟨_,rfl⟩:=jG h;rfl) (fun L=>cG (.inl rfl)) fun L=>?_
 have no:ar (bz ["self"] [RV (.ref (loc .S))]):=bK _ _
 obtain⟨oR,eR,vsR,loR,iaR⟩:=Sr.R hr
 have hszR:vsR.size=ns.length:=iaR.length
 refine ad (N:=fun ρ1 F₁=>F₁=F/\ρ1=bz ["self"] [RV (.ref (loc .S))]) (ja (fu (xM (eN G Sr (ag rfl)) (jM M loc)) fun b F' ⟨a,c⟩=>⟨a,by rw[c,Mo.rdV_some hr];rfl⟩) (aP ⟨rfl,rfl⟩)) ?_
 rintro ρ1 F₁ ⟨rfl,rfl⟩
 refine ad (N:=fun ρ1 F2=>A4 (F2=F₁) (ar ρ1) (aU ρ1 "self" (RV (.ref (loc .S)))) (aU ρ1 "result" (DV (.tuple (aG ns))))) (cE (nZ (f:=.type "tuple") (aV (fun hp a b=>bg (hO G a) rfl rfl rfl (by decide)) fA) (.type _) (aW (by
  have:=(eN (n:=n) (env:=callEnvC B1.fd L 99) (ρ:=bz ["self"] [RV (.ref (loc .S))]) (o:=.Name "self" ⟨52,23,52,27⟩) (pos:=⟨52,23,52,40⟩) G Sr (ag rfl)).x
  rw[Mo.rdV_some hr]at this
  exact this) bE) (um eR loR (eZ iaR) (by exact Nat.le_trans (Nat.le_of_eq ‹_›) (Nat.le_trans ‹_› (by decide))))) (.inl rfl) no ?_) ?_
 ·rintro h v F2 ⟨rfl,q⟩
  exact⟨_,q,rfl,an no,rfl,rfl⟩
 rintro ρ1 F2 ⟨rfl,no1,s1,s2⟩
 refine ad (N:=fun ρ2 F3=>A5 (F3=F2) (ar ρ2) (aU ρ2 "self" (RV (.ref (loc .S)))) (aU ρ2 "result" (DV (.tuple (aG ns)))) (aU ρ2 "n2i" (RV (.ref (loc .D))))) (cE (jS G Sr (ag s1)).x (.inl rfl) no1 ?_) ?_
 ·rintro h v F3 ⟨rfl,rfl⟩
  exact⟨_,rfl,rfl,an no1,s1,s2,rfl⟩
 rintro ρ2 F3 ⟨rfl,no2,r1,r2,r3⟩
 refine ad (N:=fun ρ3 F4=>A4 (ar ρ3) (aU ρ3 "self" (RV (.ref (loc .S)))) (aU ρ3 "result" (DV (.tuple (aG ns)))) (Go F3 loc M F4 loc (ns.foldl Mo.out M)))
  (g7 (fun i ρ3 F4=>A5 (ar ρ3) (aU ρ3 "self" (RV (.ref (loc .S)))) (aU ρ3 "result" (DV (.tuple (aG ns)))) (aU ρ3 "n2i" (RV (.ref (loc .D)))) (Go F3 loc M F4 loc ((ns.take i).foldl Mo.out M))) (bX r2) (.inl rfl) ⟨no2,r1,r2,r3,.refl Sr⟩ ?_ ?_) ?_
 ·rintro i k t ρ3 F4 ⟨no3,q1,q2,q3,go⟩ hi
  have htake:ns.take (i +1)=ns.take i ++[k]:=by rw[List.take_add_one,hi];rfl
  have hmem:k∈((ns.take i).foldl Mo.out M).ks:=by rw[(ku _ _).1];exact hk k (List.mem_of_getElem? hi)
  refine⟨no3,ad (N:=fun ρ4 F5=>A5 (ar ρ4) (aU ρ4 "self" (RV (.ref (loc .S)))) (aU ρ4 "result" (DV (.tuple (aG ns)))) (aU ρ4 "n2i" (RV (.ref (loc .D)))) (Go F3 loc M F5 loc ((ns.take (i +1)).foldl Mo.out M)))
   (cg (x:=loc (.I k)) (PV:=fun O v F'=>F'=F4/\v= .int (-1) 197) (gS G rfl rfl) (fun v h F5 ⟨e1,e2⟩=>by rw[e1];exact(pA (ρ:=(("node":Str),LV.fz (RV (Vl.int k t)))::ρ3) go.srt hmem (ag q3) (ag (x:="node") rfl).i).x) fun v h F5 ⟨e1,e2⟩=>by
    rw[e1,e2]
    refine(tV G go.srt hmem).le fun F' g2=>⟨an no3,q1,q2,q3,?_⟩
    rw[htake,List.foldl_append]
    exact go.trans g2) fun ρ4 F5 j=>aP j⟩
 ·rintro ρ3 F4 ⟨no3,q1,q2,q3,go⟩
  rw[List.take_length]at go
  exact⟨no3,q1,q2,go⟩
 rintro ρ3 F4 ⟨no3,q1,q2,go⟩
 obtain⟨e1,e2,e3⟩:=ku ns M
 have hr':(ns.foldl Mo.out M).rd=some ns:=e2.trans hr
 obtain⟨oR',eR',vsR',loR',iaR'⟩:=go.srt.R hr'
 have hszR':vsR'.size=ns.length:=iaR'.length
 refine ad (N:=fun ρ4 F5=>A4 (ar ρ4) (aU ρ4 "self" (RV (.ref (loc .S)))) (aU ρ4 "result" (DV (.tuple (aG ns)))) (Go F3 loc M F5 loc {ns.foldl Mo.out M with rd:=some []})) (ei (wG (a:=loc .R) (by
  have:=(eN (n:=n) (env:=callEnvC B1.fd L 99) (ρ:=ρ3) (o:=.Name "self" ⟨56,8,56,12⟩) (pos:=⟨56,8,56,25⟩) G go.srt (ag q1)).x
  rw[Mo.rdV_some hr']at this
  exact this) eR' loR' (by exact Nat.le_trans (Nat.le_of_eq ‹_›) (Nat.le_trans ‹_› (by decide))) _) ?_) ?_
 ·rintro h v F5 ⟨_,o',lo',rfl⟩
  exact⟨no3,q1,q2,go.trans (go.srt.putR hr' ⟨#[],lo',.nil⟩)⟩
 rintro ρ4 F5 ⟨no4,t1,t2,g4⟩
 refine ad (N:=fun ρ5 F6=>aU ρ5 "result" (DV (.tuple (aG ns)))/\Go F3 loc M F6 loc (M.ready ns)) (wl (d:=(ns.length:Nat)) G g4.srt (ag t1) (fun hp a b=>?_) fun F' g5=>⟨t2,?_⟩) ?_
 ·have hl:(aG ns).length=ns.length:=List.length_map ..
  rw[<-hl]
  exact aB (bg (hO G a) (x:="len") rfl rfl rfl (by decide)) (.builtin _) (bu (aa t2) ao) (iC (ds:=aG ns) (by rw[List.length_map];exact Nat.le_trans ‹_› (by decide)))
 ·have:=g4.trans g5
  have e4:M.ready ns={ns.foldl Mo.out M with rd:=some [],po:=(ns.foldl Mo.out M).po +(ns.length:Nat)}:=by unfold Mo.ready;rw[e3]
  rw[e4];exact this
 rintro ρ5 F6 ⟨u1,g5⟩
 exact ad (N:=fun O O=>False) (jV (bX u1) fun h v F' ⟨a,b⟩=>⟨b,by rw[a];exact g5⟩) fun O O q=>q.elim
end
noncomputable def Mo.step1(M:Mo)(s:Int):Mo:=if M.np s - 1=0 then{M.setNp s (M.np s - 1)with rd:=some (M.rd.getD [] ++[s])}else M.setNp s (M.np s - 1)
noncomputable def Mo.doneM(M:Mo)(k:Int):Mo:={(M.su k).foldl Mo.step1 (M.setNp k (-2))with nf:=((M.su k).foldl Mo.step1 (M.setNp k (-2))).nf +1}
theorem sG(M:Mo)(s:Int):A4 ((M.step1 s).ks=M.ks) ((M.step1 s).su=M.su) (M.rd.isSome=true->(M.step1 s).rd.isSome=true) (((M.step1 s).rd.getD []).length<=(M.rd.getD []).length +1):=by
 unfold Mo.step1
 split
 ·exact⟨rfl,rfl,fun O=>rfl,by simp⟩
 ·exact⟨rfl,rfl,fun h=>h,Nat.le_succ _⟩
theorem l6:∀(ss:List Int)(M:Mo),A4 ((ss.foldl Mo.step1 M).ks=M.ks) ((ss.foldl Mo.step1 M).su=M.su) (M.rd.isSome=true->(ss.foldl Mo.step1 M).rd.isSome=true) (((ss.foldl Mo.step1 M).rd.getD []).length<=(M.rd.getD []).length +ss.length)
 |[],M=>⟨rfl,rfl,fun h=>h,Nat.le_refl _⟩
 |s::ss,M=>by
  obtain⟨a,b,c,d⟩:=sG M s
  obtain⟨a',b',c',d'⟩:=l6 ss (M.step1 s)
  exact⟨a'.trans a,b'.trans b,fun h=>c' (c h),by simp only[List.foldl_cons,List.length_cons];exact Dk ‹_› ‹_›⟩
section
variable{o i r:Ep}{F F':Fg}{name:Str}{loc loc':eX->Ad}{M M':Mo}{k:Int}{P:PX}{PV:Hp->Vl->Fg->Prop}{v:Vl}
theorem kn{a b:Int}:ic hg n (compareOp .Eq) (RF (DV (.int a))) (RF (DV (.int b))) (RF (DV (.bool (a==b)))):=fun A fr h₀ h₁ hb s x y Q E O O st O rx ry h=>by
 obtain⟨t,rfl⟩:=aj rx
 obtain⟨u,rfl⟩:=aj ry
 exact PySem.P.eq_int (h _ s.heap hb _ (.refl st) bp)
theorem n6{a b:Int}:ic hg n (compareOp .NotEq) (RF (DV (.int a))) (RF (DV (.int b))) (RF (DV (.bool (a !=b)))):=fun A fr h₀ h₁ hb s x y Q E O O st O rx ry h=>by
 obtain⟨t,rfl⟩:=aj rx
 obtain⟨u,rfl⟩:=aj ry
 exact PySem.P.ne_int (h _ s.heap hb _ (.refl st) bp)
theorem sT{a b:Int}(hl:Ri hg n env F ρ e a)(hr:Ri hg n env F ρ r b)(hm:autoParam (behindInMarks .Eq r=false) Wf):s7 hg n env F ρ (.Compare e [.Eq] [r] pos) fun c F'=>F'=F/\c=(a==b):=
 cA fun hp x y=>aX (hl hp x y) (hr hp x y) kn hm
theorem ui{a b:Int}(hl:Ri hg n env F ρ e a)(hr:Ri hg n env F ρ r b)(hm:autoParam (behindInMarks .NotEq r=false) Wf):s7 hg n env F ρ (.Compare e [.NotEq] [r] pos) fun c F'=>F'=F/\c=(a !=b):=
 cA fun hp x y=>aX (hl hp x y) (hr hp x y) n6 hm
theorem tt{j:Int}{c:Nat}:Ri hg n env F ρ (.Constant (.int j) c pos) j:=fun O O O=>aJ
theorem Ah{v:Int}{t:Tok}(G:Gr KZ hg)(Sr:cr F loc M)(hk:k∈M.ks):jb hg F (loc (.I k)) "npredecessors" (.int v t) fun F'=>Go F loc M F' loc (M.setNp k v)/\∀a,a≠loc (.I k)->F' a=F a:=by
 obtain⟨t1,u1,e⟩:=Sr.I hk
 refine(hJ G e rfl rfl rfl (Sr.ix hk) rfl (q:=42) (i:=1) rfl rfl rfl (by decide)).le fun F' h=>?_
 rw[h]
 refine⟨Sr.put (t:=.I k) hk (M':=M.setNp k v) (fun t'=>by cases t'<;>rfl) rfl ⟨rfl,rfl,rfl,t1,t,?_⟩ fun t' o' ne u s=>?_,fun a ne=>Fg.put_ne _ _ ne⟩
 ·simp[cm,Mo.setNp]
 ·cases t' with
  |I k'=>
   have hne:k'≠k:=fun z=>ne (by rw[z])
   obtain⟨q1,q2,q3,t2,u2,q4⟩:=s
   refine⟨q1,q2,q3,t2,u2,?_⟩
   rw[q4];simp[Mo.setNp,hne]
  |_=>exact s
theorem tP{px:Pos}{d v:Int}{op:Operator}(G:Gr KZ hg)(Sr:cr F loc M)(hk:k∈M.ks)(ho:Rd hg n env F ρ o (.ref (loc (.I k))))(hd:Ri hg n env F ρ e d)
  (hop:∀(A:Ar)(s:SD)(t u:Tok)(Q:VS)(E:VS),Q (.int v s.toks) {s with toks:=s.toks +1}->wA MD A (inplaceOp op (.int (M.np k) t) (.int d u)) Q E s)
  (hp:∀F',Go F loc M F' loc (M.setNp k v)->(∀a,a≠loc (.I k)->F' a=F a)->P.next ρ F'):XX hg n env F ρ (.AugAssign (.Attribute o "npredecessors" px) op e pos) P:=by
 obtain⟨t1,t2,e1⟩:=Sr.I hk
 refine gy (PV:=fun hb u F'=>F'=F/\(DI d).P hb u) (PN:=fun u F'=>F'=F/\∃t,u= .int v t) ho.x (fun A hm s Q E kh B h=>y7 G e1 (Sr.ix hk) kh B h) hd.x ?_ ?_
 ·rintro h u F₁ ⟨rfl,q⟩ A s Q E hQ
  obtain⟨t,rfl⟩:=aj q
  exact hop A s _ _ Q E (hQ _ _ ⟨rfl,_,rfl⟩)
 ·rintro u F₁ ⟨rfl,t,rfl⟩
  exact(Ah G Sr hk).le fun F' ⟨a,b⟩=>hp F' a b
theorem yR{pe:Pos}{ns:List Int}(G:Gr KZ hg)(Sr:cr F loc M)(hr:M.rd=some ns)(hz:ns.length<=1000)(ho:Rd hg n env F ρ o (.ref (loc .R)))(he:Ri hg n env F ρ e k)(hp:∀F',Go F loc M F' loc {M with rd:=some (ns ++[k])}->(∀a,a≠loc .R->F' a=F a)->P.next ρ F')(pl:Sem Bool)
  (hev:autoParam (cF o ("append":Str) pl pa pc [e] env) Rf)
  (hn:autoParam (sE [e] env=(false,eval e env)::sE [] env) Rf)(hi:autoParam (interactive env=false) Rf)(hs:autoParam (swapsWith (.Call (.Attribute o ("append":Str) pa) [e] [] pc) none pe.line env=pure false) Rf):
  XX hg n env F ρ (.Expr (.Call (.Attribute o ("append":Str) pa) [e] [] pc) pe) P:=by
 obtain⟨ob,e1,vs,lo,ia⟩:=Sr.R hr
 have hl:vs.size=ns.length:=ia.length
 refine ei (iU (G:=DI k) ho.x e1 lo (by exact Nat.le_trans (Nat.le_of_eq ‹_›) (Nat.le_trans ‹_› (by decide))) he.x pl hev hn) ?_ hi hs
 rintro h u F' ⟨rfl,v,o',hv,lo',rfl⟩
 obtain⟨t,rfl⟩:=aj hv
 exact hp _ (Sr.putR hr ⟨_,lo',by rw[Array.toList_push];exact gE ia⟩) fun a ne=>Fg.put_ne _ _ ne
end
section
variable{o i r:Ep}{F F':Fg}{name:Str}{loc loc':eX->Ad}{M M':Mo}{k:Int}{P:PX}{PV:Hp->Vl->Fg->Prop}{v:Vl}
theorem qm{x:Str}{px:Pos}{iter:Ep}{body:List Stmt}{ns:List Int}{a:Ad}{oa:Obj}(J:Nat->LS->Fg->Prop)(he:Rd hg n env F ρ iter (.ref a))(ha:F a=some oa)(il:IL oa ns)(kx:cM env x)(j0:J 0 ρ F)(jk:∀i ρ1 F₁,J i ρ1 F₁->F₁ a=some oa)
  (hbody:∀i k t ρ1 F₁,J i ρ1 F₁->ns[i]?=some k->ar ρ1/\ly hg n env F₁ ((x,.fz (RV (Vl.int k t)))::ρ1) body {P with next:=J (i +1),cont:=J (i +1),brk:=P.next})
  (hend:∀ρ1 F₁,J ns.length ρ1 F₁->P.next ρ1 F₁)(hs:autoParam (∀x,foldedSetIterable iter env x=pure x) If):XX hg n env F ρ (.For (.Name x px) iter body [] pos) P:=by
 obtain⟨vs,⟨l1,l2,m,l3⟩,ia⟩:=il
 refine t8 (T:="list_iterator") (fun b us i ρ1 F₁=>A3 (b=a) (us=vs) (J i ρ1 F₁)) (fun b us h=>h.IsList b us) he.x kx ?_ ?_ ?_ hs
 ·rintro hb v F' ⟨rfl,rfl⟩
  refine⟨a,vs,rfl,⟨rfl,rfl,j0⟩,zh,?_⟩
  rintro hb1 F₁ hm h ρ1 i kb kb' B ⟨_,_,j⟩
  exact⟨oa,B.at_ _ _ (jk _ _ _ j),l1,m,l3⟩
 ·rintro b us i v ρ1 F₁ ⟨rfl,rfl,j⟩ hv
  obtain⟨q,t,hq,rfl⟩:=hB ia i v (by simpa using hv)
  obtain⟨no,ex⟩:=hbody i q t ρ1 F₁ j hq
  exact⟨no,yI ex ⟨fun O O h=>⟨rfl,rfl,h⟩,fun O O h=>h,fun O O h=>⟨rfl,rfl,h⟩,fun O O O h=>h⟩⟩
 ·rintro b us ρ1 F₁ ⟨rfl,rfl,j⟩
  have:us.size=ns.length:=ia.length
  rw[this]at j
  exact hend _ _ j
theorem Rd.of_eq{u:Vl}(h:Rd hg n env F ρ e u)(q:u=v):Rd hg n env F ρ e v:=q▸h
theorem wU(G:Gr KZ hg)(L:Nat)(Sr:cr F loc M)(hk:k∈M.ks)(hs:∀s∈M.su k,s∈M.ks)(hr:M.rd.isSome=true)(hz:(M.rd.getD []).length +(M.su k).length<=900)(no:ar ρ)(h1:aU ρ "self" (RV (.ref (loc .S))))(h2:aU ρ "n2i" (RV (.ref (loc .D))))(h3:aU ρ "nodeinfo" (RV (.ref (loc (.I k)))))
  (hP:∀ρ' F',ar ρ'->aU ρ' "self" (RV (.ref (loc .S)))->aU ρ' "n2i" (RV (.ref (loc .D)))->Go F loc M F' loc ((M.su k).foldl Mo.step1 M)->P.next ρ' F'):
  XX hg n (callEnvC rH.fd L 120) F ρ (bw (bb (bw rH.body 2)) 4) P:=by
 obtain⟨ol,eol,il⟩:=Sr.l hk
 have ne:∀t,M.used t->t≠ .l k->loc (.l k)≠loc t:=fun t u h q=>h (Sr.inj (.l k) t hk u q).symm
 refine qm (oa:=ol) (fun i ρ1 F₁=>A5 (ar ρ1) (aU ρ1 "self" (RV (.ref (loc .S)))) (aU ρ1 "n2i" (RV (.ref (loc .D)))) (F₁ (loc (.l k))=some ol) (Go F loc M F₁ loc (((M.su k).take i).foldl Mo.step1 M))) (xP G Sr hk (ag h3)) eol il (.inl rfl) ⟨no,h1,h2,eol,.refl Sr⟩ (fun i ρ1 F₁ j=>j.4) ?_ ?_
 ·rintro i s t ρ1 F₁ ⟨no1,s1,s2,s3,go⟩ hi
  have htake:(M.su k).take (i +1)=(M.su k).take i ++[s]:=by rw[List.take_add_one,hi];rfl
  have hlt:i<(M.su k).length:=(List.getElem?_eq_some_iff.mp hi).1
  obtain⟨e1,e2,e3,e4⟩:=l6 ((M.su k).take i) M
  have hsM:=hs s (List.mem_of_getElem? hi)
  rw[List.length_take]at e4
  generalize hM1:((M.su k).take i).foldl Mo.step1 M=M1 at go e1 e2 e3 e4
  have hfold:((M.su k).take (i +1)).foldl Mo.step1 M=M1.step1 s:=by rw[htake,List.foldl_append,hM1];rfl
  have hmem:s∈M1.ks:=by rw[e1];exact hsM
  obtain⟨ns,hns⟩:=Option.isSome_iff_exists.mp (e3 hr)
  have hnz:ns.length<=(M.rd.getD []).length +i:=by rw[hns]at e4;simp only[Option.getD_some]at e4;exact Ek ‹_› ‹_›
  refine⟨no1,?_⟩
  refine ad (N:=fun ρ2 F2=>A6 (F2=F₁) (ar ρ2) (aU ρ2 "self" (RV (.ref (loc .S)))) (aU ρ2 "n2i" (RV (.ref (loc .D)))) (aU ρ2 "successor" (RV (Vl.int s t))) (aU ρ2 "successor_info" (RV (.ref (loc (.I s)))))) (cE (pA (ρ:=(("successor":Str),LV.fz (RV (Vl.int s t)))::ρ1) go.srt hmem (ag s2) (ag (x:="successor") rfl).i).x (.inl rfl) (an no1) ?_) ?_
  ·rintro h v F2 ⟨rfl,rfl⟩
   exact⟨_,rfl,rfl,an (an no1),s1,s2,rfl,rfl⟩
  rintro ρ2 F2 ⟨rfl,no2,r1,r2,r3,r4⟩
  refine ad (N:=fun ρ3 F3=>A3 (ρ3=ρ2) (F3 (loc (.l k))=some ol) (Go F loc M F3 loc (M1.setNp s (M1.np s - 1)))) (tP (d:=1) G go.srt hmem (ag r4) tt (fun A s t u Q E q=>PySem.P.isub_int q) fun F' g2 k2=>⟨rfl,(k2 _ (ne (.I s) hsM (by simp))).trans s3,go.trans g2⟩) ?_
  rintro ρ3 F3 ⟨rfl,q3,g2⟩
  have hfin:∀{F4:Fg}{ρ4:LS},ar ρ4->aU ρ4 "self" (RV (.ref (loc .S)))->aU ρ4 "n2i" (RV (.ref (loc .D)))->F4 (loc (.l k))=some ol->Go F loc M F4 loc (M1.step1 s)->A5 (ar ρ4) (aU ρ4 "self" (RV (.ref (loc .S)))) (aU ρ4 "n2i" (RV (.ref (loc .D)))) (F4 (loc (.l k))=some ol) (Go F loc M F4 loc (((M.su k).take (i +1)).foldl Mo.step1 M)):=fun{F4 ρ4} a b c d g=>⟨a,b,c,d,by rw[hfold];exact g⟩
  have hnp:(M1.setNp s (M1.np s - 1)).np s=M1.np s - 1:=if_pos rfl
  refine ad (N:=fun ρ4 F4=>A5 (ar ρ4) (aU ρ4 "self" (RV (.ref (loc .S)))) (aU ρ4 "n2i" (RV (.ref (loc .D)))) (F4 (loc (.l k))=some ol) (Go F loc M F4 loc (((M.su k).take (i +1)).foldl Mo.step1 M))) ?_ fun ρ4 F4 j=>aP j
  have hrd:Rd hg n (callEnvC rH.fd L 120) F3 ρ3 (.Attribute (.Name "self" ⟨88,20,88,24⟩) "_ready_nodes" ⟨88,20,88,37⟩) (.ref (loc .R)):=(eN G g2.srt (ag r1)).of_eq (Mo.rdV_some (M:=M1.setNp s (M1.np s - 1)) hns)
  refine nS (sT (yp G g2.srt (k:=s) hmem (ag r4)) (tt (j:=0))) (fun F' q=>?_) fun F' q=>?_
  ·obtain⟨rfl,q⟩:=q
   rw[hnp]at q
   have hz0:M1.np s - 1=0:=by simpa using q.symm
   have hst:M1.step1 s={M1.setNp s (M1.np s - 1)with rd:=some (ns ++[s])}:=by unfold Mo.step1;rw[if_pos hz0,hns];rfl
   refine ad (N:=fun ρ4 F4=>A5 (ar ρ4) (aU ρ4 "self" (RV (.ref (loc .S)))) (aU ρ4 "n2i" (RV (.ref (loc .D)))) (F4 (loc (.l k))=some ol) (Go F loc M F4 loc (((M.su k).take (i +1)).foldl Mo.step1 M))) (yR (ns:=ns) G g2.srt hns (by exact EI ‹_› ‹_› ‹_›) hrd (ag r3).i (fun F5 g3 k3=>hfin no2 r1 r2 ((k3 _ (ne .R hr (by simp))).trans q3) (by rw[hst];exact g2.trans g3)) _) fun ρ4 F4 j=>aP j
  ·obtain⟨rfl,q⟩:=q
   rw[hnp]at q
   have hz0:¬M1.np s - 1=0:=by simpa using q.symm
   have hst:M1.step1 s=M1.setNp s (M1.np s - 1):=by unfold Mo.step1;rw[if_neg hz0]
   exact aP (hfin no2 r1 r2 q3 (by rw[hst];exact g2))
 ·rintro ρ1 F₁ ⟨no1,s1,s2,s3,go⟩
  rw[List.take_length]at go
  exact hP _ _ no1 s1 s2 go
end
section
variable{o i r:Ep}{F F':Fg}{name:Str}{loc loc':eX->Ad}{M M':Mo}{k:Int}{P:PX}{PV:Hp->Vl->Fg->Prop}{v:Vl}
theorem xL(G:Gr KZ hg)(Sr:cr F loc M)(hk:k∈M.ks)(hs:∀s∈M.su k,s∈M.ks)(hr:M.rd.isSome=true)(hz:(M.rd.getD []).length +(M.su k).length<=900)(hnp:M.np k= -1):fK hg (n +1) F (.ref 120) [RV (.ref (loc .S)),DI k] fun O v F'=>v= .none/\Go F loc M F' loc (M.doneM k):=by
 have hb:=qT (hg:=hg) (F:=F) (fd:=rH.fd) (G₁:=RV (.ref (loc .S))) (ps:=[k]) rfl rfl (by simp)
 obtain⟨ns,hns⟩:=Option.isSome_iff_exists.mp hr
 refine fG G rH ["self","nodes"] [RV (.ref (loc .S)),DV (.tuple (aG [k]))] _ _ hb (fun L=>fL (.inl rfl) (.inl rfl)) fun L=>?_
 have no:ar (bz ["self","nodes"] [RV (.ref (loc .S)),DV (.tuple (aG [k]))]):=bK _ _
 refine ad (N:=fun ρ1 F₁=>F₁=F/\ρ1=bz ["self","nodes"] [RV (.ref (loc .S)),DV (.tuple (aG [k]))]) (ja (fu (xM (eN G Sr (ag rfl)) (jM M loc)) fun b F' ⟨a,c⟩=>⟨a,by rw[c,Mo.rdV_some hns];rfl⟩) (aP ⟨rfl,rfl⟩)) ?_
 rintro ρ1 F₁ ⟨rfl,rfl⟩
 refine ad (N:=fun ρ2 F2=>A5 (F2=F₁) (ar ρ2) (aU ρ2 "self" (RV (.ref (loc .S)))) (aU ρ2 "nodes" (DV (.tuple (aG [k])))) (aU ρ2 "n2i" (RV (.ref (loc .D))))) (cE (jS G Sr (ag rfl)).x (.inl rfl) no ?_) ?_
 ·rintro h v F3 ⟨rfl,rfl⟩
  exact⟨_,rfl,rfl,an no,rfl,rfl,rfl⟩
 rintro ρ2 F2 ⟨rfl,no2,r1,r2,r3⟩
 refine ad (N:=fun ρ3 F3=>Go F2 loc M F3 loc (M.doneM k)) (g7 (ns:=[k]) (fun i ρ3 F3=>(A5 (i=0) (F3=F2) (ar ρ3) (aU ρ3 "self" (RV (.ref (loc .S)))) (aU ρ3 "n2i" (RV (.ref (loc .D)))))\/(i=1/\Go F2 loc M F3 loc (M.doneM k))) (bX r2) (.inl rfl) ?_ ?_ fun ρ3 F3 j=>?_) fun ρ3 F3 j=>aP fun hb'=>⟨rfl,j⟩
 ·exact .inl ⟨rfl,rfl,no2,r1,r3⟩
 ·rintro i q t ρ3 F3 j hi
  have hi0:i=0:=by
   have:=(List.getElem?_eq_some_iff.mp hi).1
   simpa using this
  subst hi0
  obtain⟨_,rfl,no3,s1,s2⟩|⟨z,_⟩:=j
  rotate_left
  ·cases z
  obtain rfl:k=q:=by simpa using hi
  refine⟨no3,?_⟩
  have no4:ar ((("node":Str),LV.fz (RV (Vl.int k t)))::ρ3):=an no3
  refine ad (N:=fun ρ4 F4=>A5 (F4=F3) (ar ρ4) (aU ρ4 "self" (RV (.ref (loc .S)))) (aU ρ4 "n2i" (RV (.ref (loc .D)))) (aU ρ4 "nodeinfo" (RV (.ref (loc (.I k)))))) (lK (u:=.ref (loc (.I k))) ?_ (.inl rfl) no4 (.inr ⟨_,rfl⟩) (fun q=>by cases q) fun O=>aP ⟨rfl,an no4,s1,s2,rfl⟩) ?_
  ·have:=yE (hg:=hg) (n:=n) (env:=callEnvC rH.fd L 120) (ρ:=(("node":Str),LV.fz (RV (Vl.int k t)))::ρ3) (o:=.Name "n2i" ⟨73,28,73,31⟩) (e:=.Name "node" ⟨73,36,73,40⟩) (pa:=⟨73,28,73,35⟩) (pc:=⟨73,28,73,41⟩) (k:=k) Sr (ag s2) (ag rfl).i _
   rw[if_pos hk]at this
   exact this.x
  rintro ρ4 F4 ⟨rfl,no4,t1,t2,t3⟩
  refine ad (N:=fun ρ5 F5=>A6 (F5=F4) (ar ρ5) (aU ρ5 "self" (RV (.ref (loc .S)))) (aU ρ5 "n2i" (RV (.ref (loc .D)))) (aU ρ5 "nodeinfo" (RV (.ref (loc (.I k))))) (aU ρ5 "stat" (DI (-1)))) (cE (yp G Sr hk (ag t3)).x (.inl rfl) no4 ?_) ?_
  ·rintro h v F5 ⟨rfl,q⟩
   rw[hnp]at q
   exact⟨_,q,rfl,an no4,t1,t2,t3,rfl⟩
  rintro ρ5 F5 ⟨rfl,no5,u1,u2,u3,u4⟩
  refine ad (N:=fun ρ6 F6=>F6=F5/\ρ6=ρ5) (ja (fu (ui (gq u4) (ze (v:=.int (-1) 197) G rfl rfl).i) fun b F' ⟨a,c⟩=>⟨a,c.trans (by decide)⟩) (aP ⟨rfl,rfl⟩)) ?_
  rintro ρ6 F6 ⟨rfl,rfl⟩
  refine ad (N:=fun ρ7 F7=>ρ7=ρ6/\Go F6 loc M F7 loc (M.setNp k (-2))) (cg (x:=loc (.I k)) (PV:=fun O v F'=>F'=F6/\v= .int (-2) 200) (gS G rfl rfl) (fun v h F7 ⟨e1,e2⟩=>by rw[e1];exact(ag u3).x) fun v h F7 ⟨e1,e2⟩=>by
   rw[e1,e2]
   exact(tV G Sr hk).le fun F' g2=>⟨rfl,g2⟩) ?_
  rintro ρ7 F7 ⟨rfl,g1⟩
  refine ad (N:=fun ρ8 F8=>A3 (ar ρ8) (aU ρ8 "self" (RV (.ref (loc .S)))) (Go F6 loc M F8 loc ((M.su k).foldl Mo.step1 (M.setNp k (-2))))) (wU G L g1.srt (k:=k) hk hs hr hz no5 u1 u2 u3 fun ρ' F' a b O g2=>⟨a,b,g1.trans g2⟩) ?_
  rintro ρ8 F8 ⟨no8,v1,g2⟩
  refine ad (N:=fun ρ9 F9=>Go F6 loc M F9 loc (M.doneM k)) (we (d:=1) G g2.srt (ag v1) tt fun F' g3=>g2.trans g3) fun ρ9 F9 j=>aP (.inr ⟨rfl,j⟩)
 ·obtain⟨z,_⟩|⟨_,j⟩:=j
  ·cases z
  ·exact j
end
section
variable{o i r:Ep}{F F':Fg}{name:Str}{loc loc':eX->Ad}{M M':Mo}{k:Int}{P:PX}{PV:Hp->Vl->Fg->Prop}{v:Vl}
theorem Rd.at(h:Rd hg n env F ρ e v){hp:Hp}(k:hg.StaysIn hp)(kF:lz F hp):Ev hp n env ρ e (RF (RV v)):=h hp k kF
theorem Ri.at(h:Ri hg n env F ρ e k){hp:Hp}(kp:hg.StaysIn hp)(kF:lz F hp):Ev hp n env ρ e (RF (DV (.int k))):=h hp kp kF
noncomputable def Mo.rdy(M:Mo):List Int:=M.ks.filter fun k=>M.np k==0
noncomputable def BB(loc:eX->Ad)(a:Ad):eX->Ad
 | .R=>a
 |t=>loc t
theorem cr.setR(Sr:cr F loc M)(hr:M.rd=none){a:Ad}{oa od:Obj}{ns:List Int}{t1 t2 t3 t4:Tok}{m:Nat}{x y:Tok}(fa:F a=none)(il:IL oa ns)(hod:od=AD t1 t2 t3 t4 m (.ref (loc .D)) (.ref a) (.int M.po x) (.int M.nf y)):
  Go F loc M ((F.put a oa).put (loc .dx) od) (BB loc a) {M with rd:=some ns}:=by
 have used:∀t,Mo.used {M with rd:=some ns} t↔M.used t\/t= .R:=fun t=>by
  cases t<;>simp[Mo.used,hr]
 have nR:∀t,M.used t->t≠ .R:=fun t u q=>by subst q;simp[Mo.used,hr]at u
 have eq:∀t,t≠ .R->BB loc a t=loc t:=fun t h=>by cases t<;>first|rfl|exact absurd rfl h
 have off:∀t,M.used t->loc t≠a:=fun t u q=>by
  obtain⟨o,e,_⟩:=Sr.at_ t u
  rw[q,fa]at e;cases e
 refine⟨⟨fun t t' u u' e=>?_,fun t u=>?_,Sr.nd,Sr.few⟩,fun t u=>⟨(used t).mpr (.inl u),eq t (nR t u)⟩,fun t u n=>?_,fun b ob e n=>?_⟩
 ·rcases(used t).mp u with v|rfl<;>rcases(used t').mp u' with v'|rfl
  ·rw[eq t (nR t v),eq t' (nR t' v')]at e;exact Sr.inj _ _ v v' e
  ·rw[eq t (nR t v)]at e;exact absurd e (off t v)
  ·rw[eq t' (nR t' v')]at e;exact absurd e.symm (off t' v')
  ·rfl
 ·rcases(used t).mp u with v|rfl
  ·rw[eq t (nR t v)]
   by_cases q:t= .dx
   ·subst q
    exact⟨od,Fg.put_same _ _ _,t1,t2,t3,t4,m,x,y,hod⟩
   ·obtain⟨ot,e,s⟩:=Sr.at_ t v
    refine⟨ot,by rw[Fg.put_ne _ _ fun z=>q (Sr.inj t .dx v trivial z),Fg.put_ne _ _ (off t v)];exact e,?_⟩
    cases t with
    |dx=>exact absurd rfl q
    |R=>exact absurd rfl (nR _ v)
    |_=>exact s
  ·exact⟨oa,by show((F.put a oa).put (loc .dx) od) a=_;rw[Fg.put_ne _ _ (fun z=>off .dx trivial z.symm)];exact Fg.put_same _ _ _,il⟩
 ·rcases(used t).mp u with v|rfl
  ·exact absurd v n
  ·exact fa
 ·rw[Fg.put_ne _ _ fun z=>n .dx trivial z.symm,Fg.put_ne _ _ fun z=>by rw[z,fa]at e;cases e];exact e
theorem AX(G:Gr KZ hg)(L:Nat)(Sr:cr F loc M)(h1:aU ρ "self" (RV (.ref (loc .S)))){hp:Hp}(kp:hg.StaysIn hp)(kF:lz F hp){tgt elt:Ep}:
  Ev hp n (callEnvC vb.fd L 92) ρ (match bw vb.body 1 with| .Assign _ e _=>e|_=>elt) (RN (aG M.rdy)):=by
 obtain⟨od,e1,e2,e3⟩:=Sr.D
 have hds:(M.ks.map fun k=>((RV (.ref (loc (.I k))):FP),if(M.np k==0)=true then[PyD.int k]else[])).flatMap (·.2)=aG M.rdy:=by
  unfold Mo.rdy
  generalize M.ks=ks
  induction ks with
  |nil=>rfl
  |cons k ks ih=>
   rw[List.map_cons,List.flatMap_cons,ih,List.filter_cons]
   by_cases q:(M.np k==0)=true
   ·rw[if_pos q,if_pos q];rfl
   ·rw[if_neg q,if_neg q];rfl
 have hfs:(M.ks.map fun k=>((RV (.ref (loc (.I k))):FP),if(M.np k==0)=true then[PyD.int k]else[])).map (·.1)=(M.ks.map fun k=>(k,Vl.ref (loc (.I k)))).map fun kv=>RV kv.2:=by
  rw[List.map_map,List.map_map];rfl
 rw[<-hds]
 refine nT (ρc:=[]) bv (by rw[hfs];exact qC e3 (kF _ _ e1) e2 ((jS G Sr (ag h1)).at kp kF) _) rfl (fun O q=>by cases q) (fun C d hd=>?_) ?_
 ·obtain⟨k,hk,rfl⟩:=List.mem_map.mp hd
  refine⟨[("i",.fz (RV (.ref (loc (.I k)))))],M.np k==0,.name,cG rfl,fun O O e=>(by cases e),og (aX ((yp G Sr hk (ag (x:="i") rfl)).at kp kF) aJ kn),fun q=>?_,fun q=>?_⟩
  ·rw[if_pos q]
   exact gz ((zm G Sr hk (ag (x:="i") rfl)).at kp kF) fun O O e=>by cases e
  ·show(if(M.np k==0)=true then _ else _)=_
   rw[q];rfl
 ·rw[hds]
  have:=List.length_filter_le (fun k=>M.np k==0) M.ks
  have:=Sr.few
  show(List.map _ _).length<=_
  rw[List.length_map];unfold Mo.rdy;exact Nat.le_trans ‹_› (Nat.le_trans ‹_› (by decide))
end
noncomputable def iu(su:Int->List Int):List (Int×Nat)->Option (Int×List (Int×Nat))
 |[]=>none
 |(k,i)::r=>match(su k)[i]? with
  |some x=>some (x,(k,i +1)::r)
  |none=>iu su r
noncomputable def zF(su:Int->List Int):Nat->Int->List (Int×Nat)->List Int->Option (Option (List Int))
 |0,_,_,_=>none
 |f +1,x,st,seen=>
  if x∈seen then
   if x∈st.map (·.1)then some none
   else match iu su st with
    |none=>some (some seen)
    |some (y,st')=>zF su f y st' seen
  else match iu su ((x,0)::st)with
   |none=>some (some (x::seen))
   |some (y,st')=>zF su f y st' (x::seen)
noncomputable def wZ(su:Int->List Int)(f:Nat):List Int->List Int->Option Bool
 |[],_=>some false
 |k::ks,seen=>if k∈seen then wZ su f ks seen else match zF su f k [] seen with
  |none=>none
  |some none=>some true
  |some (some seen')=>wZ su f ks seen'
structure IR where
 m:Ad
 it:Ad
 k:Int
 i:Nat
noncomputable def qd(q:List IR):List (Int×Nat):=q.map fun e=>(e.k,e.i)
theorem xj(q:List IR):(qd q).map (·.1)=q.map (·.k):=by
 unfold qd;rw[List.map_map];rfl
structure Cl where
 S:Ad
 I:Ad
 N:Ad
 D:Ad
noncomputable def CS(F:Fg)(a:Ad)(ks:List Int):Prop:=∃o,F a=some o/\IL o ks.reverse
noncomputable def CI(F:Fg)(a:Ad)(q:List IR):Prop:=∃o,F a=some o/\LO o ((q.map fun e=>Vl.ref e.m).reverse).toArray
noncomputable def CN(F:Fg)(a:Ad)(seen:List Int):Prop:=X3 fun o S m=>F a=some o/\A3 (lW o S m) (∀k,S k=true↔k∈seen) (m<=seen.length)
noncomputable def CD(F:Fg)(a:Ad)(ks:List Int):Prop:=X2 fun o kvs=>F a=some o/\A4 (o.IsDictOf (intKind PG W0) kvs) (kvs.map (·.1)=ks.reverse) (∀kv∈kvs,X2 fun j t=>kv.2=Vl.int j t) ((a==sysModules)=false)
noncomputable def CT(F₀ F:Fg)(loc:eX->Ad)(M:Mo)(q:List IR):Prop:=(∀e∈q,A5 (F e.m=some (dS e.it)) (F e.it=some (cI (loc (.l e.k)) e.i)) (F₀ e.m=none) (F₀ e.it=none) (e.k∈M.ks))/\(q.map (·.it)).Nodup
structure mL(F₀ F:Fg)(loc:eX->Ad)(M:Mo)(c:Cl)(q:List IR)(seen:List Int):Prop where
 base:∀a o,F₀ a=some o->F a=some o
 n1:F₀ c.S=none
 n2:F₀ c.I=none
 n3:F₀ c.N=none
 n4:F₀ c.D=none
 ne:c.S≠c.I
 s:CS F c.S (q.map (·.k))
 i:CI F c.I q
 n:CN F c.N seen
 d:CD F c.D (q.map (·.k))
 t:CT F₀ F loc M q
 nd:(q.map (·.k)).Nodup
 sn:∀e∈q,e.k∈seen
section
variable{F F' F₀:Fg}{loc:eX->Ad}{M:Mo}{c:Cl}{q:List IR}{seen ks:List Int}{a b:Ad}{o o':Obj}
theorem CS.fr(h:CS F a ks)(e:F' a=F a):CS F' a ks:=by unfold CS;rw[e];exact h
theorem CI.fr(h:CI F a q)(e:F' a=F a):CI F' a q:=by unfold CI;rw[e];exact h
theorem CN.fr(h:CN F a seen)(e:F' a=F a):CN F' a seen:=by unfold CN;rw[e];exact h
theorem CD.fr(h:CD F a ks)(e:F' a=F a):CD F' a ks:=by unfold CD;rw[e];exact h
theorem CT.fr(h:CT F₀ F loc M q)(e:∀x∈q,F' x.m=F x.m/\F' x.it=F x.it):CT F₀ F' loc M q:=
 ⟨fun x hx=>by rw[(e x hx).1,(e x hx).2];exact h.1 x hx,h.2⟩
theorem bj{A B:String}(ha:F a=some o)(hb:F b=some o')(ca:o.cls= .type A)(cb:o'.cls= .type B)(h:A≠B):a≠b:=fun e=>by
 subst e
 rw[ha]at hb;injection hb with hb;subst hb
 rw[ca]at cb;injection cb with cb;exact h cb
theorem aM(ha:F a=some o)(hb:F b=none):a≠b:=fun e=>by subst e;rw[ha]at hb;cases hb
theorem IL.cls{ns:List Int}(h:IL o ns):o.cls= .type "list":=h.choose_spec.1.1
theorem lW.cls{S:Int->Bool}{m:Nat}(h:lW o S m):o.cls= .type "set":=by
 obtain⟨es,ep,t,x,_⟩:=h
 exact x.1
theorem bD{kvs:List (Int×Vl)}(h:o.IsDictOf (intKind PG W0) kvs):o.cls= .type "dict":=by
 obtain⟨es,ep,x,_⟩:=h
 exact x.1
theorem pQ:∀{vs:List Vl}{ns:List Int}{k:Int},IntsAre vs (ns ++[k])->X2 fun us t=>vs=us ++[Vl.int k t]/\IntsAre us ns
 :=fun{vs ns k}=>by
  induction ns generalizing vs with
  |nil=>intro x;cases x with|cons _ t r=>cases r;exact⟨[],t,rfl,.nil⟩
  |cons j ns ih=>
   intro x
   cases x with|cons _ t r=>
   obtain⟨us,u,e,h⟩:=ih r
   exact⟨_::us,u,by rw[e];rfl,.cons _ t h⟩
theorem pK{kvs:List (Int×Vl)}{r:List Int}{k:Int}(h:kvs.map (·.1)=r ++[k])(hk:k∉r):(without kvs k).map (·.1)=r:=by
 unfold without
 have:(kvs.filter fun kv=>decide (kv.1≠k)).map (·.1)=(kvs.map (·.1)).filter fun x=>decide (x≠k):=by
  rw[List.filter_map];rfl
 rw[this,h,List.filter_append]
 have e1:r.filter (fun x=>decide (x≠k))=r:=List.filter_eq_self.mpr fun x hx=>by
  simp only[decide_eq_true_eq];exact fun q=>hk (q▸hx)
 rw[e1]
 simp
theorem Bo{m it:Ad}{k:Int}{i:Nat}(C:mL F₀ F loc M c (⟨m,it,k,i⟩::q) seen):mL F₀ (F.put it (cI (loc (.l k)) ((i +1:Nat):Int))) loc M c (⟨m,it,k,i +1⟩::q) seen:=by
 obtain⟨e1,e2,e3,e4,e5⟩:=C.t.1 _ (.head _)
 dsimp only at e1 e2 e3 e4 e5
 obtain⟨oS,s1,s2⟩:=C.s
 obtain⟨oI,i1,i2⟩:=C.i
 obtain⟨oN,Sf,mm,n1,n2,n3⟩:=C.n
 obtain⟨oD,kvs,d1,d2,d3⟩:=C.d
 have xS:c.S≠it:=bj s1 e2 s2.cls rfl (by decide)
 have xI:c.I≠it:=bj i1 e2 i2.1 rfl (by decide)
 have xN:c.N≠it:=bj n1 e2 n2.cls rfl (by decide)
 have xD:c.D≠it:=bj d1 e2 (bD d2) rfl (by decide)
 have xm:m≠it:=bj e1 e2 rfl rfl (by decide)
 have nit:=C.t.2
 rw[List.map_cons,List.nodup_cons]at nit
 have T:CT F₀ (F.put it (cI (loc (.l k)) ((i +1:Nat):Int))) loc M (⟨m,it,k,i +1⟩::q):=by
  refine⟨fun x hx=>?_,C.t.2⟩
  rcases List.mem_cons.mp hx with rfl|hx
  ·exact⟨(Fg.put_ne _ _ xm).trans e1,Fg.put_same _ _ _,e3,e4,e5⟩
  ·obtain⟨f1,f2,f3,f4,f5⟩:=C.t.1 x (.tail _ hx)
   exact⟨(Fg.put_ne _ _ (bj f1 e2 rfl rfl (by decide))).trans f1,(Fg.put_ne _ _ fun z:x.it=it=>nit.1 (by have h:=List.mem_map_of_mem (f:=IR.it) hx;rw[z]at h;exact h)).trans f2,f3,f4,f5⟩
 exact⟨fun a o h=>(Fg.put_ne _ _ (aM h e4)).trans (C.base a o h),C.n1,C.n2,C.n3,C.n4,C.ne,C.s.fr (Fg.put_ne _ _ xS),C.i.fr (Fg.put_ne _ _ xI),C.n.fr (Fg.put_ne _ _ xN),C.d.fr (Fg.put_ne _ _ xD),T,C.nd,fun x hx=>by
  rcases List.mem_cons.mp hx with rfl|hx
  ·exact C.sn ⟨m,it,k,i⟩ (.head _)
  ·exact C.sn x (.tail _ hx)⟩
theorem zO{m it:Ad}{k:Int}{i:Nat}{oS oI oD:Obj}{ut:List Vl}(C:mL F₀ F loc M c (⟨m,it,k,i⟩::q) seen)(hS:LO oS ut.toArray)(iS:IntsAre ut (q.map (·.k)).reverse)(hI:LO oI ((q.map fun e=>Vl.ref e.m).reverse).toArray){kvs:List (Int×Vl)}(hD:oD.IsDictOf (intKind PG W0) kvs)(kD:kvs.map (·.1)=(q.map (·.k)).reverse)(vD:∀kv∈kvs,X2 fun j t=>kv.2=Vl.int j t):
  mL F₀ ((((F.put it (sD i)).put c.S oS).put c.D oD).put c.I oI) loc M c q seen:=by
 obtain⟨e1,e2,e3,e4,e5⟩:=C.t.1 _ (.head _)
 dsimp only at e1 e2 e3 e4 e5
 obtain⟨oS',s1,s2⟩:=C.s
 obtain⟨oI',i1,i2⟩:=C.i
 obtain⟨oN,Sf,mm,n1,n2,n3⟩:=C.n
 obtain⟨oD',kvs',d1,d2,_,_,d3⟩:=C.d
 have xN:c.N≠it:=bj n1 e2 n2.cls rfl (by decide)
 have ySD:c.S≠c.D:=bj s1 d1 s2.cls (bD d2) (by decide)
 have yID:c.I≠c.D:=bj i1 d1 i2.1 (bD d2) (by decide)
 have yNS:c.N≠c.S:=bj n1 s1 n2.cls s2.cls (by decide)
 have yNI:c.N≠c.I:=bj n1 i1 n2.cls i2.1 (by decide)
 have yND:c.N≠c.D:=bj n1 d1 n2.cls (bD d2) (by decide)
 have nit:=C.t.2
 rw[List.map_cons,List.nodup_cons]at nit
 have nk:=C.nd
 rw[List.map_cons,List.nodup_cons]at nk
 have off:∀{x:Ad},x≠it->x≠c.S->x≠c.D->x≠c.I->((((F.put it (sD i)).put c.S oS).put c.D oD).put c.I oI) x=F x:=fun h1 h2 h3 h4=>by
  rw[Fg.put_ne _ _ h4,Fg.put_ne _ _ h3,Fg.put_ne _ _ h2,Fg.put_ne _ _ h1]
 refine⟨fun a o h=>(off (aM h e4) (aM h C.n1) (aM h C.n4) (aM h C.n2)).trans (C.base a o h),C.n1,C.n2,C.n3,C.n4,C.ne,⟨oS,by rw[Fg.put_ne _ _ C.ne,Fg.put_ne _ _ ySD];exact Fg.put_same _ _ _,_,hS,iS⟩,⟨oI,Fg.put_same _ _ _,hI⟩,C.n.fr (off xN yNS yND yNI),
  ⟨oD,kvs,by rw[Fg.put_ne _ _ yID.symm];exact Fg.put_same _ _ _,hD,kD,vD,d3⟩,?_,nk.2,fun x hx=>C.sn x (.tail _ hx)⟩
 refine CT.fr (F:=F) ⟨fun x hx=>C.t.1 x (.tail _ hx),nit.2⟩ fun x hx=>?_
 obtain⟨f1,f2,f3,f4,f5⟩:=C.t.1 x (.tail _ hx)
 exact⟨off (bj f1 e2 rfl rfl (by decide)) (bj f1 s1 rfl s2.cls (by decide)) (bj f1 d1 rfl (bD d2) (by decide)) (bj f1 i1 rfl i2.1 (by decide)),
  off (fun z:x.it=it=>nit.1 (by have h:=List.mem_map_of_mem (f:=IR.it) hx;rw[z]at h;exact h)) (bj f2 s1 rfl s2.cls (by decide)) (bj f2 d1 rfl (bD d2) (by decide)) (bj f2 i1 rfl i2.1 (by decide))⟩
theorem yQ{x:Int}{it m:Ad}{oN oI oD oS:Obj}{S:Int->Bool}{mm:Nat}{kvs:List (Int×Vl)}(C:mL F₀ F loc M c q seen)(hx:x∈M.ks)(hs:x∉seen)
  (hN:lW oN S mm)(sN:∀k,S k=true↔k∈x::seen)(zN:mm<=(x::seen).length)
  (f1:(F.put c.N oN) it=none)(f2:((F.put c.N oN).put it (cI (loc (.l x)) 0)) m=none)(hI:LO oI (((⟨m,it,x,0⟩::q:List IR).map fun e=>Vl.ref e.m).reverse).toArray)
  (hD:oD.IsDictOf (intKind PG W0) kvs)(kD:kvs.map (·.1)=(x::q.map (·.k)).reverse)(vD:∀kv∈kvs,X2 fun j t=>kv.2=Vl.int j t)(hS:IL oS (x::q.map (·.k)).reverse):
  mL F₀ ((((((F.put c.N oN).put it (cI (loc (.l x)) 0)).put m (dS it)).put c.I oI).put c.D oD).put c.S oS) loc M c (⟨m,it,x,0⟩::q) (x::seen):=by
 obtain⟨oS',s1,s2⟩:=C.s
 obtain⟨oI',i1,i2⟩:=C.i
 obtain⟨oN',Sf,mm',n1,n2,n3⟩:=C.n
 obtain⟨oD',kvs',d1,d2,_,_,d3⟩:=C.d
 have ySD:c.S≠c.D:=bj s1 d1 s2.cls (bD d2) (by decide)
 have yID:c.I≠c.D:=bj i1 d1 i2.1 (bD d2) (by decide)
 have yNS:c.N≠c.S:=bj n1 s1 n2.cls s2.cls (by decide)
 have yNI:c.N≠c.I:=bj n1 i1 n2.cls i2.1 (by decide)
 have yND:c.N≠c.D:=bj n1 d1 n2.cls (bD d2) (by decide)
 have itN:it≠c.N:=fun z=>by rw[z,Fg.put_same]at f1;cases f1
 have Fit:F it=none:=by rw[Fg.put_ne _ _ itN]at f1;exact f1
 have mit:m≠it:=fun z=>by rw[z,Fg.put_same]at f2;cases f2
 have mN:m≠c.N:=fun z=>by rw[z,Fg.put_ne _ _ itN.symm,Fg.put_same]at f2;cases f2
 have Fm:F m=none:=by rw[Fg.put_ne _ _ mit,Fg.put_ne _ _ mN]at f2;exact f2
 have itI:it≠c.I:=(aM i1 Fit).symm
 have itD:it≠c.D:=(aM d1 Fit).symm
 have itS:it≠c.S:=(aM s1 Fit).symm
 have mI:m≠c.I:=(aM i1 Fm).symm
 have mD:m≠c.D:=(aM d1 Fm).symm
 have mS:m≠c.S:=(aM s1 Fm).symm
 have F0:∀{y:Ad},F y=none->F₀ y=none:=fun{y} h=>by
  cases z:F₀ y with
  |none=>rfl
  |some o=>rw[C.base _ _ z]at h;cases h
 have off:∀{y:Ad},y≠c.N->y≠it->y≠m->y≠c.I->y≠c.D->y≠c.S->((((((F.put c.N oN).put it (cI (loc (.l x)) 0)).put m (dS it)).put c.I oI).put c.D oD).put c.S oS) y=F y:=fun h1 h2 h3 h4 h5 h6=>by
  rw[Fg.put_ne _ _ h6,Fg.put_ne _ _ h5,Fg.put_ne _ _ h4,Fg.put_ne _ _ h3,Fg.put_ne _ _ h2,Fg.put_ne _ _ h1]
 have nq:x∉q.map (·.k):=fun h=>by
  obtain⟨e,he,rfl⟩:=List.mem_map.mp h
  exact hs (C.sn e he)
 have nit:it∉q.map (·.it):=fun h=>by
  obtain⟨e,he,rfl⟩:=List.mem_map.mp h
  rw[(C.t.1 e he).2]at Fit;cases Fit
 refine⟨fun a o h=>?_,C.n1,C.n2,C.n3,C.n4,C.ne,⟨oS,Fg.put_same _ _ _,hS⟩,⟨oI,by rw[Fg.put_ne _ _ C.ne.symm,Fg.put_ne _ _ yID];exact Fg.put_same _ _ _,hI⟩,
  ⟨oN,S,mm,by rw[Fg.put_ne _ _ yNS,Fg.put_ne _ _ yND,Fg.put_ne _ _ yNI,Fg.put_ne _ _ mN.symm,Fg.put_ne _ _ itN.symm];exact Fg.put_same _ _ _,hN,sN,zN⟩,
  ⟨oD,kvs,by rw[Fg.put_ne _ _ ySD.symm];exact Fg.put_same _ _ _,hD,kD,vD,d3⟩,⟨fun y hy=>?_,List.nodup_cons.mpr ⟨nit,C.t.2⟩⟩,List.nodup_cons.mpr ⟨nq,C.nd⟩,fun y hy=>?_⟩
 ·exact(off (aM h C.n3) (aM h (F0 Fit)) (aM h (F0 Fm)) (aM h C.n2) (aM h C.n4) (aM h C.n1)).trans (C.base a o h)
 ·rcases List.mem_cons.mp hy with rfl|hy
  ·refine⟨?_,?_,F0 Fm,F0 Fit,hx⟩
   ·show((((((F.put c.N oN).put it (cI (loc (.l x)) 0)).put m (dS it)).put c.I oI).put c.D oD).put c.S oS) m=_
    rw[Fg.put_ne _ _ mS,Fg.put_ne _ _ mD,Fg.put_ne _ _ mI];exact Fg.put_same _ _ _
   ·show((((((F.put c.N oN).put it (cI (loc (.l x)) 0)).put m (dS it)).put c.I oI).put c.D oD).put c.S oS) it=_
    rw[Fg.put_ne _ _ itS,Fg.put_ne _ _ itD,Fg.put_ne _ _ itI,Fg.put_ne _ _ mit.symm];exact Fg.put_same _ _ _
  ·obtain⟨g1,g2,g3,g4,g5⟩:=C.t.1 y hy
   refine⟨(off (bj g1 n1 rfl n2.cls (by decide)) (aM g1 Fit) (aM g1 Fm) (bj g1 i1 rfl i2.1 (by decide)) (bj g1 d1 rfl (bD d2) (by decide)) (bj g1 s1 rfl s2.cls (by decide))).trans g1,
    (off (bj g2 n1 rfl n2.cls (by decide)) (aM g2 Fit) (aM g2 Fm) (bj g2 i1 rfl i2.1 (by decide)) (bj g2 d1 rfl (bD d2) (by decide)) (bj g2 s1 rfl s2.cls (by decide))).trans g2,g3,g4,g5⟩
 ·rcases List.mem_cons.mp hy with rfl|hy
  ·exact .head _
  ·exact .tail _ (C.sn y hy)
end
noncomputable def AO:Stmt->List Stmt
 | .While _ b _ _=>b
 |_=>[]
structure xO(ρ:LS)(c:Cl)(loc:eX->Ad):Prop where
 no:ar ρ
 g:aU ρ "n2i" (RV (.ref (loc .D)))
 s:aU ρ "stack" (RV (.ref c.S))
 i:aU ρ "itstack" (RV (.ref c.I))
 n:aU ρ "seen" (RV (.ref c.N))
 d:aU ρ "node2stacki" (RV (.ref c.D))
theorem xO.node{ρ:LS}{c:Cl}{loc:eX->Ad}(h:xO ρ c loc)(G:FP):xO ((("node":Str),LV.fz G)::ρ) c loc:=
 ⟨an h.no,h.g,h.s,h.i,h.n,h.d⟩
section
variable{o i r:Ep}{F F' F₀:Fg}{name:Str}{loc loc':eX->Ad}{M M':Mo}{k:Int}{P:PX}{PV:Hp->Vl->Fg->Prop}{v:Vl}{c:Cl}{q:List IR}{seen:List Int}
theorem tF(G:Gr KZ hg)(L:Nat)(Sr:cr F₀ loc M)(C:mL F₀ F loc M c q seen)(nm:xO ρ c loc)(hq:q.length<=900)
  (h1:∀y t q' F',iu M.su (qd q)=some (y,qd q')->mL F₀ F' loc M c q' seen->P.next ((("node":Str),LV.fz (RV (Vl.int y t)))::ρ) F')
  (h2:∀F',iu M.su (qd q)=none->mL F₀ F' loc M c [] seen->P.brk ρ F'):
  XX hg n (callEnvC lP.fd L 127) F ρ (bw (AO (bw (bb (bw lP.body 5)) 1)) 1) P:=by
 refine qi (k₀:=q.length) (fun k ρ1 F₁=>ρ1=ρ/\∃q1,A4 (k=q1.length) (mL F₀ F₁ loc M c q1 seen) (iu M.su (qd q1)=iu M.su (qd q)) (q1.length<=900)) ⟨rfl,q,rfl,C,rfl,hq⟩ ?_
 rintro k ρ1 F₁ ⟨rfl,q1,rfl,C1,ea,hz⟩
 obtain⟨oS,s1,vs,s2,s3⟩:=C1.s
 have len:vs.size=q1.length:=by
  have:=s3.length
  simpa using this
 refine⟨fun b F'=>F'=F₁/\b=!vs.isEmpty,cA fun hp a b=>uV ((ag nm.s).at a b) (b _ _ s1) s2 (by exact Nat.le_trans (Nat.le_of_eq ‹_›) (Nat.le_trans ‹_› (by decide))),?_,?_⟩
 ·rintro F' ⟨rfl,hb⟩
  cases q1 with
  |nil=>
   have:vs.isEmpty=true:=by simpa [Array.isEmpty_iff_size_eq_zero]using len
   rw[this]at hb;cases hb
  |cons e r=>
   obtain⟨m,it,k,j⟩:=e
   obtain⟨oI,i1,i2⟩:=id C1.i
   obtain⟨oD,kvs,d1,d2,d3,d4,d5⟩:=id C1.d
   obtain⟨t1,t2,t3,t4,t5⟩:=C1.t.1 _ (.head _)
   dsimp only at t1 t2 t3 t4 t5
   obtain⟨ol,l1,lv,l2,l3⟩:=Sr.l t5
   have nk:=C1.nd
   rw[List.map_cons,List.nodup_cons]at nk
   rw[List.map_cons,List.reverse_cons]at s3 d3 i2
   refine ad (N:=fun ρ' F''=>∃m',(m'<(⟨m,it,k,j⟩::r:List IR).length/\ρ'=ρ1/\∃q1,A4 (m'=q1.length) (mL F₀ F'' loc M c q1 seen) (iu M.su (qd q1)=iu M.su (qd q)) (q1.length<=900)))
    (qt (m:=m) (it:=it) (l:=loc (.l k)) (i:=j) (ol:=ol) (vs:=lv) G (fun hp a b=>zZ ((ag nm.i).at a b) (b _ _ i1) i2) t1 t2 (C1.base _ _ l1) l2 (.inl rfl) nm.no ?_ ?_ rfl rfl rfl (by decide) (by decide)) fun O O h=>aP h
   ·intro v hv
    obtain⟨y,t,hy,rfl⟩:=hB l3 j v (by simpa using hv)
    refine h1 y t (⟨m,it,k,j +1⟩::r) _ ?_ (Bo C1)
    rw[<-ea]
    show(match(M.su k)[j]? with|some x=>some (x,(k,j +1)::qd r)|none=>iu M.su (qd r))=_
    rw[hy];rfl
   ·intro hv
    have hv':(M.su k)[j]?=none:=by
     have:lv.size=(M.su k).length:=by simpa using l3.length
     rw[List.getElem?_eq_none_iff,<-this]
     exact Array.getElem?_eq_none_iff.mp hv
    have eadv:iu M.su (qd (⟨m,it,k,j⟩::r))=iu M.su (qd r):=by
     show(match(M.su k)[j]? with|some x=>some (x,(k,j +1)::qd r)|none=>iu M.su (qd r))=_
     rw[hv']
    obtain⟨us,t,e1,e2⟩:=pQ s3
    have hvs:vs=(us ++[Vl.int k t]).toArray:=by
     rw[<-e1]
    have zus:us.length=r.length:=by
     have:=e2.length
     simpa using this
    have zr:r.length<=900:=by have:(r.length +1)<=900:=hz;exact Nat.le_of_succ_le ‹_›
    have hk:(valueAt kvs k).isSome=true:=by
     rw[valueAt_isSome_eq_any,List.any_eq_true]
     have:k∈kvs.map (·.1):=by rw[d3];simp
     obtain⟨kv,hkv,e⟩:=List.mem_map.mp this
     exact⟨kv,hkv,by simpa using e⟩
    have xSI:c.I≠c.S:=C1.ne.symm
    have xDS:c.D≠c.S:=bj d1 s1 (bD d2) s2.1 (by decide)
    have xID:c.I≠c.D:=bj i1 d1 i2.1 (bD d2) (by decide)
    have xS:c.S≠it:=bj s1 t2 s2.1 rfl (by decide)
    have xI:c.I≠it:=bj i1 t2 i2.1 rfl (by decide)
    have xD:c.D≠it:=bj d1 t2 (bD d2) rfl (by decide)
    refine yU (d:=c.D) (a:=c.S) (b:=c.I) (us:=us) (ut:=(r.map fun e=>Vl.ref e.m).reverse) (y:=Vl.ref m) (k:=k) (t:=t) nm.d nm.s nm.i ((Fg.put_ne _ _ xS).trans s1) (hvs▸s2) ((Fg.put_ne _ _ xI).trans i1) i2 ((Fg.put_ne _ _ xD).trans d1) d2 xDS xSI xID
     (by exact Nat.le_trans (Nat.le_of_eq ‹_›) (Nat.le_trans ‹_› (by decide))) (by simp;exact Nat.le_trans ‹_› (by decide)) ?_ hk (by decide) (by decide) (by decide) (fun oa' ob' od' la lb ld=>?_) _ _
    ·have:kvs.length=(kvs.map (·.1)).length:=by rw[List.length_map]
     rw[this,d3];simp;exact Nat.le_trans ‹_› (by decide)
    ·refine⟨r.length,Nat.lt_succ_self _,rfl,r,rfl,?_,eadv.symm.trans ea,zr⟩
     exact zO C1 la e2 lb ld (pK d3 (by simpa using nk.1)) fun kv hkv=>d4 kv (by unfold without at hkv;exact(List.mem_filter.mp hkv).1)
 ·rintro F' ⟨rfl,hb⟩
  cases q1 with
  |cons e r=>
   have:vs.isEmpty=false:=by
    rw[Bool.eq_false_iff];intro h
    have:=Array.isEmpty_iff_size_eq_zero.mp h
    rw[len]at this;cases this
   rw[this]at hb;cases hb
  |nil=>exact ad (N:=fun O O=>False) (xl (h2 _ ea.symm C1)) fun O O h=>h.elim
end
theorem qE{su:Int->List Int}{ks:List Int}(hs:∀k∈ks,∀s∈su k,s∈ks):∀{st st':List (Int×Nat)}{y:Int},(∀e∈st,e.1∈ks)->iu su st=some (y,st')->y∈ks/\st'.length<=st.length
 |[],_,_,_,h=>by cases h
 |(k,i)::r,st',y,hk,h=>by
  unfold iu at h
  cases q:(su k)[i]? with
  |none=>
   rw[q]at h
   obtain⟨a,b⟩:=qE hs (fun e he=>hk e (.tail _ he)) h
   exact⟨a,Nat.le_succ_of_le b⟩
  |some x=>
   rw[q]at h
   simp only[Option.some.injEq,Prod.mk.injEq]at h
   obtain⟨rfl,rfl⟩:=h
   exact⟨hs k (hk (k,i) (.head _)) _ (List.mem_of_getElem? q),Nat.le_refl _⟩
theorem jo{kvs:List (Int×Vl)}{k:Int}{v:Vl}(h:k∉kvs.map (·.1)):stored kvs k v=kvs ++[(k,v)]:=by
 unfold stored
 rw[if_neg]
 simp only[List.any_eq_true,decide_eq_true_eq,not_exists,not_and]
 exact fun kv hkv e=>h (e▸List.mem_map_of_mem (f:=Prod.fst) hkv)
section
variable{o i r:Ep}{F F' F₀:Fg}{name:Str}{loc loc':eX->Ad}{M M':Mo}{k:Int}{P:PX}{PV:Hp->Vl->Fg->Prop}{v:Vl}{c:Cl}{q:List IR}{seen:List Int}
theorem cr.up(Sr:cr F loc M)(h:∀a o,F a=some o->F' a=some o):cr F' loc M:=
 ⟨Sr.inj,fun t u=>by obtain⟨o,e,s⟩:=Sr.at_ t u;exact⟨o,h _ _ e,s⟩,Sr.nd,Sr.few⟩
theorem AE{a:Ad}{ob:Obj}{ns:List Int}(h:Rd hg n env F ρ e (.ref a))(ha:F a=some ob)(il:IL ob ns):∀hp,hg.StaysIn hp->lz F hp->Ev hp n env ρ e (RL (aG ns)):=fun hp kp kF A fr hb s Q E ok S k=>
 h hp kp kF A fr hb s Q E ok S fun v h' hb' tk st r=>by
  obtain rfl:v= .ref a:=r
  obtain⟨vs,⟨l1,l2,m,l3⟩,ia⟩:=il
  obtain⟨as,hr⟩:=eZ ia hb'
  exact k _ h' hb' tk st ⟨a,vs,as,rfl,⟨ob,st.stay _ _ (st.sub _ _ (S.g _ _ (kF _ _ ha))),l1,m,l3⟩,hr⟩
noncomputable def wO(F₀:Fg)(v:Vl)(F:Fg):Prop:=(∀a o,F₀ a=some o->F a=some o)/\X3 fun a o vs=>A5 (v= .ref a) (F a=some o) (LO o vs) (vs.size≠0) (vs.size<=2000)
theorem vo(G:Gr KZ hg)(L:Nat)(Sr:cr F₀ loc M)(C:mL F₀ F loc M c q seen)(nm:xO ρ c loc){x:Int}{t:Tok}(hn:aU ρ "node" (RV (Vl.int x t)))(hx:x∈M.ks)(hs:x∉seen)(hz:seen.length<=850)(hq:q.length<=850)
  (hP:∀F' m it,mL F₀ F' loc M c (⟨m,it,x,0⟩::q) (x::seen)->P.next ρ F'):
  ly hg (n +1) (callEnvC lP.fd L 127) F ρ (match bw (bb (bw (bb (bw lP.body 5)) 1)) 0 with| .If _ _ o _=>o|_=>[]) P:=by
 obtain⟨oS,s1,vs,s2,s3⟩:=id C.s
 obtain⟨oI,i1,i2⟩:=id C.i
 obtain⟨oN,Sf,mm,n1,n2,n3,n4⟩:=id C.n
 obtain⟨oD,kvs,d1,d2,d3,d4,d5⟩:=id C.d
 have yNS:c.N≠c.S:=bj n1 s1 n2.cls s2.1 (by decide)
 have yNI:c.N≠c.I:=bj n1 i1 n2.cls i2.1 (by decide)
 have yND:c.N≠c.D:=bj n1 d1 n2.cls (bD d2) (by decide)
 have ySD:c.S≠c.D:=bj s1 d1 s2.1 (bD d2) (by decide)
 have yID:c.I≠c.D:=bj i1 d1 i2.1 (bD d2) (by decide)
 have lS:vs.size=q.length:=by have:=s3.length;simpa using this
 have nSx:Sf x=false:=by
  rw[Bool.eq_false_iff];exact fun h=>hs ((n3 x).mp h)
 have nk:x∉kvs.map (·.1):=by
  rw[d3,List.mem_reverse]
  intro h
  obtain⟨e,he,rfl⟩:=List.mem_map.mp h
  exact hs (C.sn e he)
 have lk:kvs.length=q.length:=by
  have:kvs.length=(kvs.map (·.1)).length:=by rw[List.length_map]
  rw[this,d3];simp
 refine ad (N:=fun ρ1 F₁=>ρ1=ρ/\∃o',lW o' (fun k'=>Sf k'||decide (k'=x)) (mm +1)/\F₁=F.put c.N o') (ei (sV (ag nm.n).x n1 n2 (by exact Nat.le_trans ‹_› (Nat.le_trans ‹_› (by decide))) (ag hn).i.x _) ?_) ?_
 ·rintro h u F' ⟨rfl,o',so,rfl⟩
  rw[nSx]at so
  exact⟨rfl,o',so,rfl⟩
 rintro ρ1 F₁ ⟨rfl,oN',so,rfl⟩
 have base1:∀a o,F₀ a=some o->(F.put c.N oN') a=some o:=fun a o h=>(Fg.put_ne _ _ (aM h C.n3)).trans (C.base a o h)
 have Sr1:=Sr.up base1
 obtain⟨ol,l1,il⟩:=Sr1.l hx
 obtain⟨lv,l2,l3⟩:=id il
 refine ad (N:=fun ρ2 F2=>ρ2=ρ1/\X3 fun m it o'=>A4 ((F.put c.N oN') it=none) (((F.put c.N oN').put it (cI (loc (.l x)) 0)) m=none) (LO o' ((⟨m,it,x,0⟩::q:List IR).map fun e=>Vl.ref e.m).reverse.toArray) (F2=(((F.put c.N oN').put it (cI (loc (.l x)) 0)).put m (dS it)).put c.I o'))
  (ei (qD (ag nm.i).x ((Fg.put_ne _ _ yNI.symm).trans i1) i2 (by simp;exact Nat.le_trans ‹_› (by decide)) (yc (nZ (f:=.builtin "iter") (aV (fun hp a b=>bg (hO G a) (x:="iter") rfl rfl rfl (by decide)) fA) (.builtin _)
   (aW (G:=RV (.ref (loc (.l x)))) (xP G Sr1 hx (pA Sr1 hx (ag nm.g) (ag hn).i)).x bE) (vH l1 l2)) ?_) ?_ _) ?_) ?_
 ·rintro h v F' ⟨it,rfl,f1,rfl⟩
  exact⟨it,_,_,rfl,Fg.put_same _ _ _⟩
 ·rintro h v F' ⟨m,it,F2,h₁,⟨it',e,f1,rfl⟩,rfl,f2,rfl⟩
  have:(F.put c.N oN') c.I=some oI:=(Fg.put_ne _ _ yNI.symm).trans i1
  have x1:=aM this f1
  have:((F.put c.N oN').put it' (cI (loc (.l x)) 0)) c.I=some oI:=(Fg.put_ne _ _ x1).trans this
  exact(Fg.put_ne _ _ (aM this f2)).trans this
 ·rintro h u F' ⟨rfl,v,o',F2,h₁,⟨m,it,F3,h₂,⟨it',e,f1,rfl⟩,rfl,f2,rfl⟩,lo,rfl⟩
  injection e with e;subst e
  refine⟨rfl,m,it,o',f1,f2,?_,rfl⟩
  rw[List.map_cons,List.reverse_cons]
  have:(List.map (fun e=>Vl.ref e.m) q).reverse.toArray.push (Vl.ref m)=((List.map (fun e=>Vl.ref e.m) q).reverse ++[Vl.ref m]).toArray:=by simp
  rw[<-this];exact lo
 rintro ρ2 F2 ⟨rfl,m,it,oI',f1,f2,lI,rfl⟩
 generalize hF2:(((F.put c.N oN').put it (cI (loc (.l x)) 0)).put m (dS it)).put c.I oI'=F2
 have Fit:F it=none:=by
  have:it≠c.N:=fun z=>by rw[z,Fg.put_same]at f1;cases f1
  rw[Fg.put_ne _ _ this]at f1;exact f1
 have Fm:F m=none:=by
  have h1:m≠it:=fun z=>by rw[z,Fg.put_same]at f2;cases f2
  rw[Fg.put_ne _ _ h1]at f2
  have h2:m≠c.N:=fun z=>by rw[z,Fg.put_same]at f2;cases f2
  rw[Fg.put_ne _ _ h2]at f2;exact f2
 have look:∀{a:Ad}{o:Obj},F a=some o->a≠c.N->a≠c.I->F2 a=some o:=fun{a o} h h1 h2=>by
  rw[<-hF2,Fg.put_ne _ _ h2,Fg.put_ne _ _ (aM h Fm),Fg.put_ne _ _ (aM h Fit),Fg.put_ne _ _ h1];exact h
 refine ad (N:=fun ρ3 F3=>ρ3=ρ2/\X2 fun o' v=>A3 (o'.IsDictOf (intKind PG W0) (stored kvs x v)) (X2 fun j t=>v=Vl.int j t) (F3=F2.put c.D o')) (vr (PV:=fun O v F'=>F'=F2/\∃t,v=Vl.int ((aG (q.map (·.k)).reverse).length:Nat) t)
  (aV (fun hp a b=>aB (bg (hO G a) (x:="len") rfl rfl rfl (by decide)) (.builtin _) (gH (AE (ag nm.s) (look s1 yNS.symm C.ne) ⟨vs,s2,s3⟩ hp a b) ao) (eo (by simp;exact Nat.le_trans ‹_› (by decide)))) e7) ?_) ?_
 ·rintro h v F' ⟨rfl,j,rfl⟩
  exact⟨c.D,oD,kvs,x,fun hp a b=>(ag nm.d).at a b,fun hp a b=>(ag hn).i.at a b,look d1 yND.symm yID.symm,d2,by exact Nat.le_trans (Nat.le_of_eq ‹_›) (Nat.le_trans ‹_› (by decide)),fun o' hd=>⟨rfl,o',_,hd,⟨_,j,rfl⟩,rfl⟩⟩
 rintro ρ3 F3 ⟨rfl,oD',v,hd,hv,rfl⟩
 rw[jo nk]at hd
 refine ad (N:=P.next) (ei (iU (G:=DI x) (ag nm.s).x ((Fg.put_ne _ _ ySD).trans (look s1 yNS.symm C.ne)) s2 (by exact Nat.le_trans (Nat.le_of_eq ‹_›) (Nat.le_trans ‹_› (by decide))) (ag hn).i.x _) ?_) fun O O h=>aP h
 rintro h u F' ⟨rfl,y,o',hy,lo,rfl⟩
 obtain⟨t',rfl⟩:=aj (i:=x) hy
 subst hF2
 refine hP _ m it (yQ C hx hs so (fun k=>?_) (Nat.succ_le_succ n4) f1 f2 lI hd ?_ ?_ ⟨_,lo,?_⟩)
 ·rw[Bool.or_eq_true,n3 k,decide_eq_true_eq,List.mem_cons];exact⟨fun h=>h.symm,fun h=>h.symm⟩
 ·rw[List.map_append,d3,List.reverse_cons];rfl
 ·intro kv hkv
  rcases List.mem_append.mp hkv with h|h
  ·exact d4 kv h
  ·rw[List.mem_singleton.mp h];exact hv
 ·rw[List.reverse_cons,Array.toList_push];exact gE s3
end
section
variable{o i r:Ep}{F F' F₀:Fg}{name:Str}{loc loc':eX->Ad}{M M':Mo}{k:Int}{P:PX}{PV:Hp->Vl->Fg->Prop}{v:Vl}{c:Cl}{q:List IR}{seen:List Int}
theorem rV{x:Int}{e r:Ep}(C:mL F₀ F loc M c q seen)(he:Ri hg n env F ρ e x)(hr:Rd hg n env F ρ r (.ref c.N))(hm:autoParam (behindInMarks .In r=false) Wf):s7 hg n env F ρ (.Compare e [.In] [r] pos) fun b F'=>F'=F/\(b=true↔x∈seen):=by
 obtain⟨oN,Sf,mm,n1,n2,n3,n4⟩:=id C.n
 refine fu (cA fun hp a b=>aX (he hp a b) (hr.at a b) (vJ (b _ _ n1) n2) hm) fun b F' ⟨h1,h2⟩=>⟨h1,by rw[h2];exact n3 x⟩
theorem s9{x:Int}{e r:Ep}(C:mL F₀ F loc M c q seen)(he:Ri hg n env F ρ e x)(hr:Rd hg n env F ρ r (.ref c.D))(hm:autoParam (behindInMarks .In r=false) Wf):s7 hg n env F ρ (.Compare e [.In] [r] pos) fun b F'=>F'=F/\(b=true↔x∈q.map (·.k)):=by
 obtain⟨oD,kvs,d1,d2,d3,d4,d5⟩:=id C.d
 refine fu (cA fun hp a b=>aX (he hp a b) (hr.at a b) (t7 d5 (b _ _ d1) d2) hm) fun b F' ⟨h1,h2⟩=>⟨h1,?_⟩
 rw[h2,valueAt_isSome_eq_any,List.any_eq_true]
 have e:x∈q.map (·.k)↔x∈kvs.map (·.1):=by rw[d3,List.mem_reverse]
 rw[e,List.mem_map]
 exact⟨fun⟨kv,h,q⟩=>⟨kv,h,by simpa using q⟩,fun⟨kv,h,q⟩=>⟨kv,h,by simpa using q⟩⟩
theorem yS{x:Int}{oE iE nE mE:Ep}{p1 p2 p3 p4:Pos}(C:mL F₀ F loc M c q seen)(hz:q.length<=900)(hx:x∈q.map (·.k))(hS:Rd hg n env F ρ oE (.ref c.S))(hD:Rd hg n env F ρ iE (.ref c.D))(hn:Ri hg n env F ρ nE x)(hm:Ri hg n env F ρ mE x)(hq:autoParam (sE [mE] env=(false,eval mE env)::sE [] env) Rf):
  cB hg n env F ρ (.BinOp (.Subscript oE (.Slice (some (.Subscript iE nE p1)) none none p2) p3) .Add (.List [mE] p4) pos) fun O v F'=>wO F₀ v F':=by
 obtain⟨oS,s1,il⟩:=id C.s
 obtain⟨oD,kvs,d1,d2,d3,d4,d5⟩:=id C.d
 have hk:x∈kvs.map (·.1):=by rw[d3,List.mem_reverse];exact hx
 obtain⟨v,hv⟩:∃v,valueAt kvs x=some v:=by
  have:(valueAt kvs x).isSome=true:=by
   rw[valueAt_isSome_eq_any,List.any_eq_true]
   obtain⟨kv,h,e⟩:=List.mem_map.mp hk
   exact⟨kv,h,by simpa using e⟩
  exact Option.isSome_iff_exists.mp this
 obtain⟨j,t,rfl⟩:X2 fun j t=>v=Vl.int j t:=by
  unfold valueAt at hv
  cases z:kvs.find? fun kv=>decide (kv.1=x)with
  |none=>rw[z]at hv;cases hv
  |some kv=>
   rw[z]at hv
   injection hv with hv
   obtain⟨j,t,e⟩:=d4 kv (List.mem_of_find?_eq_some z)
   exact⟨j,t,by rw[<-hv];exact e⟩
 have hj:Ri hg n env F ρ (.Subscript iE nE p1) j:=(show Rd hg n env F ρ (.Subscript iE nE p1) (.int j t) from fun hp a b=>bq (hD.at a b) (hn.at a b) (qR (b _ _ d1) d2 hv)).i
 have len:(aG (q.map (·.k)).reverse).length=q.length:=by simp
 have lsp:(fV (aG (q.map (·.k)).reverse) (some j) none).length<=q.length:=by
  unfold fV
  rw[List.length_take,List.length_drop,len];exact Nat.le_trans (Nat.min_le_right _ _) (Nat.sub_le _ _)
 refine j4 (eP (ds:=fV (aG (q.map (·.k)).reverse) (some j) none ++[PyD.int x]) fun hp a b=>bO (gh (bq (AE hS s1 il hp a b) (cY (c9 (hj.at a b)) bU bU) (eH (by rw[len];exact Nat.le_trans ‹_› (by decide))))) (gh (aO (ak (hm.at a b) au hq))) (kW (by rw[List.length_singleton];exact DZ ‹_› ‹_›))) ?_
 rintro h v F' ⟨a,o,vs,rfl,fa,lo,⟨g,ra⟩,rfl⟩
 have lv:vs.size=(fV (aG (q.map (·.k)).reverse) (some j) none).length +1:=by
  have:=ra.length
  simpa using this
 exact⟨fun b ob hb=>(Fg.put_ne _ _ (aM (C.base b ob hb) fa)).trans (C.base b ob hb),a,o,vs,rfl,Fg.put_same _ _ _,lo,by omega,by exact CW ‹_› ‹_› ‹_›⟩
theorem vL(G:Gr KZ hg)(L:Nat)(Sr:cr F₀ loc M)(hs:∀k∈M.ks,∀s∈M.su k,s∈M.ks){f:Nat}{x:Int}{t:Tok}{res:Option (List Int)}(C:mL F₀ F loc M c [] seen)(nm:xO ρ c loc)(hn:aU ρ "node" (RV (Vl.int x t)))(hx:x∈M.ks)
  (hd:zF M.su f x [] seen=some res)(hz:seen.length +f<=850)
  (h1:∀ρ' F' seen',res=some seen'->xO ρ' c loc->mL F₀ F' loc M c [] seen'->seen'.length<=seen.length +f->P.next ρ' F')
  (h2:∀h v F',res=none->wO F₀ v F'->P.ret h v F'):
  XX hg (n +1) (callEnvC lP.fd L 127) F ρ (bw (bb (bw lP.body 5)) 1) P:=by
 refine qi (k₀:=f) (fun f' ρ1 F₁=>X4 fun x t q1 seen1=>A7 (xO ρ1 c loc) (aU ρ1 "node" (RV (Vl.int x t))) (mL F₀ F₁ loc M c q1 seen1) (x∈M.ks) (zF M.su f' x (qd q1) seen1=some res) (seen1.length +f'<=seen.length +f) (q1.length<=seen1.length))
  ⟨x,t,[],seen,nm,hn,C,hx,hd,Nat.le_refl _,Nat.zero_le _⟩ ?_
 rintro f' ρ1 F₁ ⟨x,t,q1,seen1,nm1,hn1,C1,hx1,hd1,hz1,hq1⟩
 refine⟨fun b F'=>F'=F₁/\b=true,cA fun hp a b=>cw dP,?_,fun F' h=>(by cases h.2)⟩
 rintro F' ⟨rfl,_⟩
 cases f' with
 |zero=>cases hd1
 |succ f'=>
  refine ad (N:=fun ρ2 F2=>ρ2=ρ1/\X2 fun q2 seen2=>A4 (mL F₀ F2 loc M c q2 seen2) ((match iu M.su (qd q2)with|none=>some (some seen2)|some (y,st')=>zF M.su f' y st' seen2)=some res) (seen2.length +f'<=seen.length +f) (q2.length<=seen2.length))
   (nS (rV C1 (ag hn1).i (ag nm1.n)) ?_ ?_) ?_
  ·rintro F2 ⟨rfl,hb⟩
   have hb:=hb.mp rfl
   unfold zF at hd1
   rw[if_pos hb,xj]at hd1
   refine ad (nS (s9 C1 (ag hn1).i (ag nm1.d)) ?_ ?_) fun O O h=>aP h
   ·rintro F3 ⟨rfl,hc⟩
    have hc:=hc.mp rfl
    rw[if_pos hc]at hd1
    injection hd1 with hd1
    exact ad (N:=fun O O=>False) (jV (yS C1 (by exact Nat.le_trans ‹_› (Nat.le_trans (jy ‹_›) (Nat.le_trans ‹_› (by decide)))) hc (ag nm1.s) (ag nm1.d) (ag hn1).i (ag hn1).i) fun h v F' hr=>h2 h v F' hd1.symm hr) fun O O h=>h.elim
   ·rintro F3 ⟨rfl,hc⟩
    have hc:x∉q1.map (·.k):=fun z=>by have:=hc.mpr z;cases this
    rw[if_neg hc]at hd1
    exact aP ⟨rfl,q1,seen1,C1,hd1,by exact C8 ‹_›,hq1⟩
  ·rintro F2 ⟨rfl,hb⟩
   have hb:x∉seen1:=fun z=>by have:=hb.mpr z;cases this
   unfold zF at hd1
   rw[if_neg hb]at hd1
   refine vo G L Sr C1 nm1 hn1 hx1 hb (by exact Nat.le_trans (jy ‹_›) ‹_›) (by exact Nat.le_trans ‹_› (Nat.le_trans (jy ‹_›) ‹_›)) fun F' m it C2=>⟨rfl,_,_,C2,hd1,?_,Nat.succ_le_succ hq1⟩
   show seen1.length +1 +f'<=_
   exact Co ‹_›
  rintro ρ2 F2 ⟨rfl,q2,seen2,C2,hd2,hz2,hq2⟩
  refine ad (tF G L Sr C2 nm1 (by exact Nat.le_trans ‹_› (Nat.le_trans (jy ‹_›) (Nat.le_trans ‹_› (by decide)))) ?_ ?_) fun O O h=>aP h
  ·intro y t' q' F' ha C'
   rw[ha]at hd2
   obtain⟨m1,m2⟩:=qE hs (fun e he=>by
    obtain⟨z,hz,rfl⟩:=List.mem_map.mp he
    exact(C2.t.1 z hz).5) ha
   refine⟨f',Nat.lt_succ_self _,y,t',q',seen2,nm1.node _,rfl,C',m1,hd2,hz2,?_⟩
   unfold qd at m2
   rw[List.length_map,List.length_map]at m2
   exact Nat.le_trans ‹_› ‹_›
  ·intro F' ha C'
   rw[ha]at hd2
   injection hd2 with hd2
   exact h1 _ F' seen2 hd2.symm nm1 C' (by exact jy ‹_›)
end
section
variable{o i r:Ep}{F F' F₀:Fg}{name:Str}{loc loc':eX->Ad}{M M':Mo}{k:Int}{P:PX}{PV:Hp->Vl->Fg->Prop}{v:Vl}{c:Cl}{q:List IR}{seen:List Int}
theorem sJ{vs:Array Vl}{g:Hp}(h:RA g vs.toList []):vs=#[]:=by
 have:=h.length
 simpa using this
theorem v6(G:Gr KZ hg)(L:Nat)(Sr:cr F₀ loc M)(hs:∀k∈M.ks,∀s∈M.su k,s∈M.ks){f:Nat}{b:Bool}(hc:wZ M.su f M.ks []=some b)(hz:f*(M.ks.length +1)<=800)(C:mL F₀ F loc M c [] [])(nm:xO ρ c loc)
  (h1:∀ρ' F',b=false->(∀a o,F₀ a=some o->F' a=some o)->P.next ρ' F')(h2:∀h v F',b=true->wO F₀ v F'->P.ret h v F'):
  XX hg (n +1) (callEnvC lP.fd L 127) F ρ (bw lP.body 5) P:=by
 obtain⟨oD,g1,g2,g3⟩:=Sr.D
 obtain⟨es,ep,d1,d2,d3,d4,d5⟩:=id g2
 have len:(M.ks.map fun k=>(k,Vl.ref (loc (.I k)))).length=M.ks.length:=List.length_map _
 refine lB (PI:=fun hb v F'=>F'=F/\v= .ref (loc .D)) (ag nm.g).x ?_
 rintro hb v F' ⟨rfl,rfl⟩
 refine⟨(M.ks.map fun k=>(k,Vl.ref (loc (.I k)))).length,fun i ρ1 F₁=>xO ρ1 c loc/\∃seen,A3 (mL F₀ F₁ loc M c [] seen) (wZ M.su f (M.ks.drop i) seen=some b) (seen.length<=f*i),_,_,_,⟨nm,[],C,hc,Nat.zero_le _⟩,xe (d:=loc .D) (ep:=ep) g3,?_,?_,?_⟩
 ·rintro hb1 F₁ hm h ρ1 i kb kb' B ⟨_,seen,C1,_⟩
  exact⟨oD,es,B.at_ _ _ (C1.base _ _ g1),d1,d2,d3,d4,d5⟩
 ·rintro i ρ1 F₁ ⟨nm1,seen,C1,hc1,hz1⟩ hi
  refine⟨_,fun hb1 k=>jW (.inl rfl) nm1.no,?_⟩
  rintro ρ2 ⟨_,v,⟨k,val,t,hk,rfl⟩,rfl⟩
  rw[len]at hi
  have hk':M.ks[i]?=some k:=by
   rw[List.getElem?_map]at hk
   cases z:M.ks[i]? with
   |none=>rw[z]at hk;cases hk
   |some k'=>rw[z]at hk;simp only[Option.map_some,Option.some.injEq,Prod.mk.injEq]at hk;rw[hk.1]
  have hdrop:M.ks.drop i=k::M.ks.drop (i +1):=by
   rw[List.drop_eq_getElem_cons hi]
   rw[List.getElem?_eq_getElem hi]at hk'
   injection hk' with hk';rw[hk']
  rw[hdrop]at hc1
  unfold wZ at hc1
  have nm2:=nm1.node (RV (Vl.int k t))
  have hf:f*(i +1)=f*i +f:=Nat.mul_succ f i
  have hf2:f*(i +1)<=f*(M.ks.length +1):=Nat.mul_le_mul_left _ (by exact Nat.succ_le_succ (Nat.le_of_lt ‹_›))
  refine ad (N:=fun ρ3 F3=>A3 (ρ3=(("node":Str),LV.fz (RV (Vl.int k t)))::ρ1) (F3=F₁) (k∉seen)) (nS (rV C1 (ag (x:="node") (v:=.int k t) rfl).i (ag nm2.n)) ?_ ?_) ?_
  ·rintro F2 ⟨rfl,hb⟩
   have hb:=hb.mp rfl
   rw[if_pos hb]at hc1
   exact ad (N:=fun O O=>False) (qr ⟨nm2,seen,C1,hc1,by exact EA ‹_› ‹_›⟩) fun O O h=>h.elim
  ·rintro F2 ⟨rfl,hb⟩
   exact aP ⟨rfl,rfl,fun z=>by have:=hb.mpr z;cases this⟩
  rintro ρ3 F3 ⟨rfl,rfl,hb⟩
  rw[if_neg hb]at hc1
  have hkm:k∈M.ks:=List.mem_of_getElem? hk'
  cases hd:zF M.su f k [] seen with
  |none=>rw[hd]at hc1;cases hc1
  |some res=>
   refine ad (vL G L Sr hs C1 nm2 rfl hkm hd (by exact EW ‹_› ‹_› ‹_› ‹_›) ?_ ?_) fun O O h=>aP h
   ·rintro ρ' F' seen' rfl nm' C' hz'
    rw[hd]at hc1
    exact⟨nm',seen',C',hc1,by exact EN ‹_› ‹_› ‹_›⟩
   ·rintro h v F' rfl hr
    rw[hd]at hc1
    injection hc1 with hc1
    exact h2 h v F' hc1.symm hr
 ·rintro ρ1 F₁ ⟨_,seen,C1,hc1,_⟩
  rw[len,List.drop_length]at hc1
  injection hc1 with hc1
  exact h1 ρ1 F₁ hc1.symm C1.base
theorem yf(G:Gr KZ hg)(Sr:cr F loc M)(hs:∀k∈M.ks,∀s∈M.su k,s∈M.ks){f:Nat}{b:Bool}(hc:wZ M.su f M.ks []=some b)(hz:f*(M.ks.length +1)<=800):
  fK hg (n +2) F (.ref 127) [RV (.ref (loc .S))] fun O v F'=>Go F loc M F' loc M/\((b=false/\v= .none)\/(b=true/\wO F v F')):=by
 refine fG G lP ["self"] [RV (.ref (loc .S))] _ _ (ct rfl fun vs h=>by obtain⟨_,rfl⟩:=jG h;rfl) (fun L=>cG (.inl rfl)) fun L=>?_
 have go:∀{F'},(∀a o,F a=some o->F' a=some o)->Go F loc M F' loc M:=fun k=>⟨Sr.up k,fun t u=>⟨u,rfl⟩,fun t u n=>absurd u n,fun a o e O=>k a o e⟩
 have no:ar (bz ["self"] [RV (.ref (loc .S))]):=bK _ _
 refine ad (N:=fun ρ1 F₁=>A3 (F₁=F) (ar ρ1) (aU ρ1 "n2i" (RV (.ref (loc .D))))) (cE (jS G Sr (ag rfl)).x (.inl rfl) no ?_) ?_
 ·rintro h v F' ⟨rfl,rfl⟩
  exact⟨_,rfl,rfl,an no,rfl⟩
 rintro ρ1 F₁ ⟨rfl,no1,g1⟩
 refine ad (N:=fun ρ2 F2=>X2 fun aS oS=>A6 (F₁ aS=none) (LO oS #[]) (F2=F₁.put aS oS) (ar ρ2) (aU ρ2 "n2i" (RV (.ref (loc .D)))) (aU ρ2 "stack" (RV (.ref aS)))) (cE (eP (ds:=[]) fun hp a b=>aO au) (.inl rfl) no1 ?_) ?_
 ·rintro h v F' ⟨a,o,vs,rfl,fa,lo,⟨g,ra⟩,rfl⟩
  rw[sJ ra]at lo
  exact⟨RV (.ref a),rfl,a,o,fa,lo,rfl,an no1,g1,rfl⟩
 rintro ρ2 F2 ⟨aS,oS,fS,lS,rfl,no2,g2,r1⟩
 refine ad (N:=fun ρ3 F3=>X2 fun aI oI=>A7 ((F₁.put aS oS) aI=none) (LO oI #[]) (F3=(F₁.put aS oS).put aI oI) (ar ρ3) (aU ρ3 "n2i" (RV (.ref (loc .D)))) (aU ρ3 "stack" (RV (.ref aS))) (aU ρ3 "itstack" (RV (.ref aI)))) (cE (eP (ds:=[]) fun hp a b=>aO au) (.inl rfl) no2 ?_) ?_
 ·rintro h v F' ⟨a,o,vs,rfl,fa,lo,⟨g,ra⟩,rfl⟩
  rw[sJ ra]at lo
  exact⟨RV (.ref a),rfl,a,o,fa,lo,rfl,an no2,g2,r1,rfl⟩
 rintro ρ3 F3 ⟨aI,oI,fI,lI,rfl,no3,g3,r2,r3⟩
 refine ad (N:=fun ρ4 F4=>X2 fun aN oN=>A8 (((F₁.put aS oS).put aI oI) aN=none) (lW oN (fun O=>false) 0) (F4=((F₁.put aS oS).put aI oI).put aN oN) (ar ρ4) (aU ρ4 "n2i" (RV (.ref (loc .D)))) (aU ρ4 "stack" (RV (.ref aS))) (aU ρ4 "itstack" (RV (.ref aI))) (aU ρ4 "seen" (RV (.ref aN))))
  (cE (yx (aV (fun hp a b=>bg (hO G a) rfl rfl rfl (by decide)) fA)) (.inl rfl) no3 ?_) ?_
 ·rintro h v F' ⟨a,o,rfl,fa,so,rfl⟩
  exact⟨RV (.ref a),rfl,a,o,fa,so,rfl,an no3,g3,r2,r3,rfl⟩
 rintro ρ4 F4 ⟨aN,oN,fN,sN,rfl,no4,g4,r4,r5,r6⟩
 refine ad (N:=fun ρ5 F5=>∃aD,A4 ((((F₁.put aS oS).put aI oI).put aN oN) aD=none) ((aD==sysModules)=false) (F5=(((F₁.put aS oS).put aI oI).put aN oN).put aD emptyDict) (xO ρ5 ⟨aS,aI,aN,aD⟩ loc))
  (cE (j8 G) (.inl rfl) no4 ?_) ?_
 ·rintro h v F' ⟨a,rfl,fa,lo,rfl⟩
  exact⟨RV (.ref a),rfl,a,fa,lo,rfl,⟨an no4,g4,r4,r5,r6,rfl⟩⟩
 rintro ρ5 F5 ⟨aD,fD,loD,rfl,nm⟩
 have xIS:aI≠aS:=fun z=>by rw[z,Fg.put_same]at fI;cases fI
 have FI:F₁ aI=none:=by rw[Fg.put_ne _ _ xIS]at fI;exact fI
 have xNI:aN≠aI:=fun z=>by rw[z,Fg.put_same]at fN;cases fN
 have xNS:aN≠aS:=fun z=>by rw[z,Fg.put_ne _ _ xIS.symm,Fg.put_same]at fN;cases fN
 have FN:F₁ aN=none:=by rw[Fg.put_ne _ _ xNI,Fg.put_ne _ _ xNS]at fN;exact fN
 have xDN:aD≠aN:=fun z=>by rw[z,Fg.put_same]at fD;cases fD
 have xDI:aD≠aI:=fun z=>by rw[z,Fg.put_ne _ _ xNI.symm,Fg.put_same]at fD;cases fD
 have xDS:aD≠aS:=fun z=>by rw[z,Fg.put_ne _ _ xNS.symm,Fg.put_ne _ _ xIS.symm,Fg.put_same]at fD;cases fD
 have FD:F₁ aD=none:=by rw[Fg.put_ne _ _ xDN,Fg.put_ne _ _ xDI,Fg.put_ne _ _ xDS]at fD;exact fD
 have C:mL F₁ ((((F₁.put aS oS).put aI oI).put aN oN).put aD emptyDict) loc M ⟨aS,aI,aN,aD⟩ [] []:=by
  refine⟨fun a o h=>?_,fS,FI,FN,FD,xIS.symm,⟨oS,?_,#[],lS,.nil⟩,⟨oI,?_,lI⟩,⟨oN,_,0,?_,sN,fun k=>by simp,Nat.le_refl _⟩,⟨emptyDict,[],Fg.put_same _ _ _,⟨#[],0,⟨rfl,rfl,rfl⟩,rfl,fun e he=>(by simp at he),.nil,List.nodup_nil⟩,rfl,fun kv h=>(by cases h),loD⟩,⟨fun e h=>(by cases h),List.nodup_nil⟩,List.nodup_nil,fun e h=>(by cases h)⟩
  ·rw[Fg.put_ne _ _ (aM h FD),Fg.put_ne _ _ (aM h FN),Fg.put_ne _ _ (aM h FI),Fg.put_ne _ _ (aM h fS)];exact h
  ·show((((F₁.put aS oS).put aI oI).put aN oN).put aD emptyDict) aS=_
   rw[Fg.put_ne _ _ xDS.symm,Fg.put_ne _ _ xNS.symm,Fg.put_ne _ _ xIS.symm];exact Fg.put_same _ _ _
  ·show((((F₁.put aS oS).put aI oI).put aN oN).put aD emptyDict) aI=_
   rw[Fg.put_ne _ _ xDI.symm,Fg.put_ne _ _ xNI.symm];exact Fg.put_same _ _ _
  ·show((((F₁.put aS oS).put aI oI).put aN oN).put aD emptyDict) aN=_
   rw[Fg.put_ne _ _ xDN.symm];exact Fg.put_same _ _ _
 refine ad (N:=fun ρ6 F6=>b=false/\∀a o,F₁ a=some o->F6 a=some o) (v6 G L Sr hs hc hz C nm ?_ ?_) ?_
 ·exact fun ρ' F' hb k=>⟨hb,k⟩
 ·exact fun h v F' hb hr=>⟨go hr.1,.inr ⟨hb,hr⟩⟩
 rintro ρ6 F6 ⟨hb,k⟩
 refine ad (N:=fun O O=>False) (jV (aV (P:=fun O v=>v= .none) (fun hp a b=>jj) fun r O O=>?_) fun h v F' ⟨h1,h2⟩=>⟨h1▸go k,.inl ⟨hb,h2⟩⟩) fun O O h=>h.elim
 obtain⟨as,r⟩:=r
 cases r
 rfl
end
section
variable{o i r:Ep}{F F' F₀:Fg}{name:Str}{loc loc':eX->Ad}{M M':Mo}{k:Int}{P:PX}{PV:Hp->Vl->Fg->Prop}{v:Vl}{c:Cl}{q:List IR}{seen:List Int}{N:LS->Fg->Prop}
theorem Bb{K:Frag}(G:Gr K hg){a C:Ad}(f:Fn K a)(xs:List Str)(Fs Gs:List FP)(P:Fg->Prop)
  (hbind:jJ hg F f.fd Gs xs Fs)(hx:∀L:Nat,∀x∈xs,f.fd.scope.names.lookup x=some .local\/(f.fd.scope.names.lookup x=some .cell/\((cellsFrom (L +1) f.fd.scope.names []).lookup x).isSome=true))
  (hex:∀L,sH hg n (callEnvC f.fd L a) C F (bz xs Fs) f.body P)
  (nd:autoParam (xs.Nodup) Dc)(h5:autoParam (f.fd.closure=[]) Rf)(h6:autoParam (f.fd.globals=mainGlobals) Rf)(h7:autoParam (f.fd.builtins=builtinsNs) Rf)
  (hco:autoParam (f.fd.scope.isCoroutine=false) Rf)(hgen:autoParam (f.fd.scope.isGenerator=false) Rf)(hk:autoParam (f.fd.scope.kind= .function) Rf):
  zV hg (n +1) F (.ref a) Gs C P:=by
 obtain⟨X,pp,loose,mean,mg,mb,T⟩:=id G
 exact yg (X a _ f.h1) f.h2 T.nolimit (codeRec_of X f.h3) f.h4 hbind nd h5 h6 h7 hx hex hco hgen hk
theorem XX.up{st:Stmt}(x:XX hg n env F ρ st {next:=N}):XX hg n env F ρ st {P with next:=N}:=
 B7 x ⟨fun O O h=>h,fun O O h=>h.elim,fun O O h=>h.elim,fun O O O h=>h.elim⟩
noncomputable def Mo.prep(M:Mo):Mo:={M with rd:=some M.rdy}
theorem xC(G:Gr KZ hg)(L:Nat)(Sr:cr F loc M)(hr:M.rd=none)(h1:aU ρ "self" (RV (.ref (loc .S))))(hN:N ρ F):XX hg n (callEnvC vb.fd L 92) F ρ (bw vb.body 0) {next:=N}:=
 ja (fu (oh (eN G Sr (ag h1)) (jM M loc)) fun b F' ⟨a,c⟩=>⟨a,by rw[c];unfold Mo.rdV;rw[hr];rfl⟩) (aP hN)
theorem yl(G:Gr KZ hg)(L:Nat)(Sr:cr F loc M)(hr:M.rd=none)(h1:aU ρ "self" (RV (.ref (loc .S))))(hN:∀F' loc',loc' .S=loc .S->Go F loc M F' loc' M.prep->N ρ F'):XX hg n (callEnvC vb.fd L 92) F ρ (bw vb.body 1) {next:=N}:=by
 refine cg (x:=loc .S) (eP fun hp a b=>AX (tgt:=.Name "x" ⟨0,0,0,0⟩) (elt:=.Name "x" ⟨0,0,0,0⟩) G L Sr h1 a b) (fun v h F₁ O=>(ag h1).x) fun v h F₁ hv=>?_
 obtain⟨a,oa,vs,rfl,fa,lo,⟨g,ra⟩,rfl⟩:=hv
 have off:∀t,M.used t->loc t≠a:=fun t u q=>by
  obtain⟨o,e,_⟩:=Sr.at_ t u
  rw[q,fa]at e;cases e
 obtain⟨t1,t2,t3,t4,m,x,y,e⟩:=Sr.dx
 refine(i4 G ((Fg.put_ne _ _ (off .S trivial)).trans Sr.S) ((Fg.put_ne _ _ (off .dx trivial)).trans e) rfl rfl fun t'=>⟨_,_,rfl,Nat.le_of_ble_eq_true rfl⟩).le fun F' h=>?_
 obtain⟨t',rfl⟩:=h
 obtain⟨as,hra⟩:=ra
 exact hN _ (BB loc a) rfl (Sr.setR hr fa ⟨vs,lo,fY hra⟩ rfl)
theorem xg(G:Gr KZ hg)(L:Nat)(Sr:cr F loc M)(hs:∀k∈M.ks,∀s∈M.su k,s∈M.ks){f:Nat}{b:Bool}(hc:wZ M.su f M.ks []=some b)(hz:f*(M.ks.length +1)<=800)(no:ar ρ)(h1:aU ρ "self" (RV (.ref (loc .S))))
  (hN:∀v F',Go F loc M F' loc M->(b=false/\v= .none)\/(b=true/\wO F v F')->N ((("cycle":Str),LV.fz (RV v))::ρ) F'):XX hg (n +2) (callEnvC vb.fd L 92) F ρ (bw vb.body 2) {next:=N}:=by
 refine cE (iM (f:=127) G Sr (ag h1) rfl rfl (fun O O O O O O O O O=>rfl) lP.h1 lP.h2 (yf G Sr hs hc hz).x _) (.inl rfl) no ?_
 rintro h v F' ⟨go,hv⟩
 exact⟨RV v,rfl,hN v F' go hv⟩
theorem zQ(he:Ev hg n env ρ e (RF (RV .none)))(hq:autoParam (∀whole,isTrue e env whole=(do let v <-whole;standAt e.pos;holding [v] (truthy v))) If):Tv hg n env ρ e false:=fun A fr hb s Q E ok S h=>
 wpAny_isTrue_value (he:=hq _) (he A fr hb s _ E ok S fun v h' hb' tk st r=>by
  obtain rfl:v= .none:=r
  exact wP (h h' hb' tk st))
theorem yV(G:Gr KZ hg)(Sr:cr F loc M)(hr:M.rd=none)(hs:∀k∈M.ks,∀s∈M.su k,s∈M.ks){f:Nat}(hc:wZ M.su f M.ks []=some false)(hz:f*(M.ks.length +1)<=800):
  fK hg (n +3) F (.ref 92) [RV (.ref (loc .S))] fun O v F'=>v= .none/\∃loc',loc' .S=loc .S/\Go F loc M F' loc' M.prep:=by
 refine fG G vb ["self"] [RV (.ref (loc .S))] _ _ (ct rfl fun vs h=>by obtain⟨_,rfl⟩:=jG h;rfl) (fun L=>cG (.inl rfl)) fun L=>?_
 have no:ar (bz ["self"] [RV (.ref (loc .S))]):=bK _ _
 refine ad (N:=fun ρ1 F₁=>ρ1=bz ["self"] [RV (.ref (loc .S))]/\F₁=F) (xC G L Sr hr rfl ⟨rfl,rfl⟩).up ?_
 rintro ρ1 F₁ ⟨rfl,rfl⟩
 refine ad (N:=fun ρ2 F2=>ρ2=bz ["self"] [RV (.ref (loc .S))]/\∃loc',loc' .S=loc .S/\Go F₁ loc M F2 loc' M.prep) (yl G L Sr hr rfl fun F' loc' a b=>⟨rfl,loc',a,b⟩).up ?_
 rintro ρ2 F2 ⟨rfl,loc',e,go⟩
 refine ad (N:=fun ρ3 F3=>aU ρ3 "cycle" (RV .none)/\Go F₁ loc M F3 loc' M.prep) (xg (M:=M.prep) G L go.srt hs hc hz no (e▸rfl) fun v F' go' hv=>?_).up ?_
 ·rcases hv with⟨_,rfl⟩|⟨h,_⟩
  ·exact⟨rfl,go.trans go'⟩
  ·cases h
 rintro ρ3 F3 ⟨h1,go'⟩
 exact ad (N:=fun O F4=>F4=F3) (ja (cA fun hp a b=>zQ ((ag h1).at a b)) (aP rfl)) fun ρ4 F4 h=>aP fun hb'=>⟨rfl,loc',e,by rw[h];exact go'⟩
end
section
variable{o i r:Ep}{F F' F₀:Fg}{name:Str}{loc loc':eX->Ad}{M M':Mo}{k:Int}{P:PX}{PV:Hp->Vl->Fg->Prop}{v:Vl}{N:LS->Fg->Prop}
theorem wb{x:Str}{c:Nat}{p1:Pos}:cB hg n env F ρ (.JoinedStr [.Constant (.str x) c p1] pos) fun hb v F'=>F'=F/\(⟨fun O O=>True,fun O h=>h⟩:FP).P hb v:=
 aV (P:=fun O O=>True) (fun hp a b=>(show Ev hp n env ρ (.JoinedStr [.Constant (.str x) c p1] pos) (RF (DV (.str x))) from fun A fr hb s Q E ok S h=>JoinedStr_one (du A fr hb s Q E ok S h))) fun O O O=>trivial
theorem wm(G:Gr KZ hg)(Sr:cr F loc M)(hr:M.rd=none)(hs:∀k∈M.ks,∀s∈M.su k,s∈M.ks){f:Nat}(hc:wZ M.su f M.ks []=some true)(hz:f*(M.ks.length +1)<=800):
  zV hg (n +3) F (.ref 92) [RV (.ref (loc .S))] 55 fun F'=>∃loc',loc' .S=loc .S/\Go F loc M F' loc' M.prep:=by
 refine Bb G vb ["self"] [RV (.ref (loc .S))] _ _ (ct rfl fun vs h=>by obtain⟨_,rfl⟩:=jG h;rfl) (fun L=>cG (.inl rfl)) fun L=>?_
 have no:ar (bz ["self"] [RV (.ref (loc .S))]):=bK _ _
 refine mV (N:=fun ρ1 F₁=>ρ1=bz ["self"] [RV (.ref (loc .S))]/\F₁=F) (xC G L Sr hr rfl ⟨rfl,rfl⟩) ?_
 rintro ρ1 F₁ ⟨rfl,rfl⟩
 refine mV (N:=fun ρ2 F2=>ρ2=bz ["self"] [RV (.ref (loc .S))]/\∃loc',loc' .S=loc .S/\Go F₁ loc M F2 loc' M.prep) (yl G L Sr hr rfl fun F' loc' a b=>⟨rfl,loc',a,b⟩) ?_
 rintro ρ2 F2 ⟨rfl,loc',e,go⟩
 refine mV (N:=fun ρ3 F3=>∃v,A3 (aU ρ3 "cycle" (RV v)) (wO F2 v F3) (Go F₁ loc M F3 loc' M.prep)) (xg (M:=M.prep) G L go.srt hs hc hz no (e▸rfl) fun v F' go' hv=>?_) ?_
 ·rcases hv with⟨h,_⟩|⟨_,hv⟩
  ·cases h
  ·exact⟨v,rfl,hv,go.trans go'⟩
 rintro ρ3 F3 ⟨v,h1,⟨kF,a,oa,vs,rfl,fa,lo,z1,z2⟩,go'⟩
 refine zj (PB:=fun b F'=>F'=F3/\b=!vs.isEmpty) (cA fun hp a' b'=>uV ((ag h1).at a' b') (b' _ _ fa) lo (by exact Nat.le_trans ‹_› (by decide))) ?_
 rintro b F' ⟨rfl,hb⟩
 refine⟨?_,vZ (K:=KZ) (N:=54) G.1 PySem.F.excBase_ValueError (show KZ.lookup 55=some (excClassObj _ _ _ _ _ _ _ _ _ _ _ _ _ _ _ _ _ _) from rfl) (by kernel_rfl) (by kernel_rfl) (gS G rfl rfl) (aW wb (aW (G:=RV (.ref a)) (ag h1).x bE)) (Nat.le_of_ble_eq_true rfl) ⟨loc',e,go'⟩⟩
 rw[hb,Bool.not_eq_true']
 rw[Bool.eq_false_iff]
 intro h
 exact z1 (Array.isEmpty_iff_size_eq_zero.mp h)
end
noncomputable def gw:Mo->List Int->List Int->Option Bool
 |_,_,[]=>some true
 |M,H,k::os=>match M.rd with
  |none=>none
  |some ns=>
   if(ns.all (M.ks.contains ·)&&decide (ns.length<=20)&&decide (H.length<=100))=true then
    if(H ++ns).contains k=true then
     if((M.ready ns).ks.contains k&&((M.ready ns).su k).all ((M.ready ns).ks.contains ·)&&decide ((M.ready ns).np k= -1)&&decide (((M.ready ns).su k).length<=50))=true then gw ((M.ready ns).doneM k) (H ++ns) os
     else none
    else some false
   else none
section
variable{o i r:Ep}{F F' F₀:Fg}{name:Str}{loc loc':eX->Ad}{M M':Mo}{k:Int}{P:PX}{PV:Hp->Vl->Fg->Prop}{v:Vl}{N:LS->Fg->Prop}{a:Ad}{ob:Obj}
theorem z9{h₀ hb h:Hp}{ds:List PyD}:∀{vs:List Vl},bF h₀ hb h vs ((ds.map DV).map rF)->RA hb vs ds:=by
 induction ds with
 |nil=>exact fun x=>x.inv0▸.nil
 |cons d ds ih=>
  intro vs x
  obtain⟨_,_,rfl,a,b⟩:=bF.inv x
  exact .cons a (ih b)
theorem nH{es:List Ep}{ds:List PyD}{c:Nat}(ha:gG hg n env F ρ es (ds.map DV))(hz:ds.length<=1000):cB hg n env F ρ (.Tuple es c pos) fun hb v F'=>F'=F/\(DV (.tuple ds)).P hb v:=fun A fr hb hm s Q E ok S B h=>
 wpAny_Tuple (ha pos A fr hb hm s _ E ok S B fun vs h₁ hm1 hb1 tk1 st1 B1 r1=>by
  have ra:=z9 r1
  refine⟨by rw[ra.length];exact aE (by exact Nat.le_trans ‹_› (by decide)),?_⟩
  obtain⟨hm',hb',B',st',e'⟩:=B1.put0 (h':=h₁.push {cls:=.type "tuple",data:=.seq vs.toArray}) st1.stay (fun b o e=>Hp.get?_push_of_some _ e) (Hp.get?_push_size _ rfl) lM
  obtain⟨bs,ra⟩:=ra
  exact h _ F _ hm' hb' _ (st1.trans st') B' ⟨rfl,_,.tuple e' rfl rfl (ReadsAll.keeps st'.sub ra)⟩)
theorem Go.off(go:Go F loc M F' loc' M')(h:∀t,M.used t->loc t≠a)(ha:F a=some ob):∀t,M'.used t->loc' t≠a:=fun t u q=>by
 by_cases u':M.used t
 ·exact h t u' ((go.old t u').2▸q)
 ·have:=go.new t u u'
  rw[q,ha]at this;cases this
theorem cr.putOff(Sr:cr F loc M)(h:∀t,M.used t->loc t≠a):cr (F.put a ob) loc M:=
 ⟨Sr.inj,fun t u=>by obtain⟨o,e,s⟩:=Sr.at_ t u;exact⟨o,(Fg.put_ne _ _ (h t u)).trans e,s⟩,Sr.nd,Sr.few⟩
theorem uL{H:List Int}:(aG H).any (fun y=>PyD.eqv y (.int k))=H.contains k:=by
 induction H with
 |nil=>rfl
 |cons x H ih=>
  show(PyD.eqv (.int x) (.int k)||_)=_
  rw[ih,List.contains_cons]
  congr 1
  show(x==k)=(k==x)
  exact Bool.beq_comm
theorem qu:∀{H:List Int},PyD.canLayAll0 (aG H)=true
 |[]=>rfl
 |x::H=>by
  show(PyD.canLay0 (.int x)&&PyD.canLayAll0 (aG H))=true
  rw[qu,Bool.and_true];rfl
theorem Au{H:List Int}(h:Rd hg n env F ρ e (.ref a))(ha:F a=some ob)(il:IL ob H):∀hp,hg.StaysIn hp->lz F hp->Ev hp n env ρ e (RB (.list (aG H))):=fun hp kp kF A fr hb s Q E ok S k=>
 h hp kp kF A fr hb s Q E ok S fun v h' hb' tk st r=>by
  obtain rfl:v= .ref a:=r
  obtain⟨vs,⟨l1,l2,m,l3⟩,ia⟩:=il
  obtain⟨as,hr⟩:=eZ ia h'
  exact k _ h' hb' tk st ⟨_,.list (st.stay _ _ (st.sub _ _ (S.g _ _ (kF _ _ ha)))) l1 l3 hr⟩
theorem nP{H:List Int}(he:Ri hg (n +1) env F ρ e k)(hr:Rd hg (n +1) env F ρ r (.ref a))(ha:F a=some ob)(il:IL ob H)(hm:autoParam (behindInMarks .NotIn r=false) Wf):s7 hg (n +1) env F ρ (.Compare e [.NotIn] [r] pos) fun c F'=>F'=F/\c=!H.contains k:=
 fu (cA (b:=!(aG H).any fun y=>PyD.eqv y (.int k)) fun hp x y=>aX (R1:=RF (DV (.int k))) (he hp x y) (Au hr ha il hp x y) (fun A fr h₀ h₁ hb s u v Q E ok sg st ff ru rv h=>by
  have:=mv (hg:=hp) (n:=n) (d:=.int k) (xs:=aG H) rfl qu (by simp[PyD.depth]) A fr h₀ h₁ hb s u v Q E ok sg st ff (by obtain⟨t,rfl⟩:=aj ru;exact⟨_,.int k t⟩) rv h
  exact this) hm) fun c F' ⟨h1,h2⟩=>⟨h1,by rw[h2,uL]⟩
end
section
variable{o i r:Ep}{F F' F₀:Fg}{name:Str}{loc loc':eX->Ad}{M M':Mo}{k:Int}{P:PX}{PV:Hp->Vl->Fg->Prop}{v:Vl}{N:LS->Fg->Prop}{aH:Ad}{oH:Obj}
theorem gQ:∀{vs us:List Vl}{ns ms:List Int},IntsAre vs ns->IntsAre us ms->IntsAre (vs ++us) (ns ++ms)
 |_,_,_,_,.nil,h=>h
 |_,_,_,_,.cons i t r,h=>.cons i t (gQ r h)
theorem xY(G:Gr KZ hg)(L:Nat){ring ok:Bool}{os H:List Int}(Sr:cr F loc M)(off:∀t,M.used t->loc t≠aH)(ha:F aH=some oH)(il:IL oH H)(hl:gw M H os=some ok)
  (no:ar ρ)(h1:aU ρ "sorter" (RV (.ref (loc .S))))(h2:aU ρ "ring" (DV (.bool ring)))(h3:aU ρ "handed" (RV (.ref aH)))(h4:aU ρ "order" (DV (.tuple (aG os))))
  (hN:∀ρ' F',ar ρ'->aU ρ' "ring" (DV (.bool ring))->ok=true->P.next ρ' F')(hR:∀hb v F',(DV (.tuple [.bool ring,.bool false])).P hb v->ok=false->P.ret hb v F'):
  XX hg (n +2) (callEnvC wv.fd L 290) F ρ (bw wv.body 4) P:=by
 refine g7 (ns:=os) (fun i ρ1 F₁=>X3 fun M1 H1 o1=>A9 (ar ρ1) (aU ρ1 "sorter" (RV (.ref (loc .S)))) (aU ρ1 "ring" (DV (.bool ring))) (aU ρ1 "handed" (RV (.ref aH))) (cr F₁ loc M1) (∀t,M1.used t->loc t≠aH) (F₁ aH=some o1) (IL o1 H1) (gw M1 H1 (os.drop i)=some ok))
  (bX h4) (.inl rfl) ⟨M,H,oH,no,h1,h2,h3,Sr,off,ha,il,hl⟩ ?_ ?_
 ·rintro i k t ρ1 F₁ ⟨M1,H1,o1,no1,g1,g2,g3,Sr1,off1,ha1,il1,hl1⟩ hk
  refine⟨no1,?_⟩
  have hi:i<os.length:=(List.getElem?_eq_some_iff.mp hk).1
  have hdrop:os.drop i=k::os.drop (i +1):=by
   rw[List.drop_eq_getElem_cons hi]
   rw[List.getElem?_eq_getElem hi]at hk
   injection hk with hk;rw[hk]
  rw[hdrop]at hl1
  unfold gw at hl1
  cases hrd:M1.rd with
  |none=>rw[hrd]at hl1;cases hl1
  |some ns=>
   rw[hrd]at hl1
   dsimp only at hl1
   by_cases c1:(ns.all (M1.ks.contains ·)&&decide (ns.length<=20)&&decide (H1.length<=100))=true
   rotate_left
   ·rw[if_neg c1]at hl1;cases hl1
   rw[if_pos c1]at hl1
   simp only[Bool.and_eq_true,decide_eq_true_eq,List.all_eq_true,List.contains_iff_mem]at c1
   obtain⟨⟨c1,c2⟩,c3⟩:=c1
   have no2:ar ((("hand":Str),LV.fz (RV (Vl.int k t)))::ρ1):=an no1
   obtain⟨vs1,l1,l2⟩:=id il1
   have len1:vs1.size=H1.length:=l2.length
   refine ad (N:=fun ρ3 F3=>∃o3,A9 (ar ρ3) (aU ρ3 "hand" (RV (Vl.int k t))) (aU ρ3 "sorter" (RV (.ref (loc .S)))) (aU ρ3 "ring" (DV (.bool ring))) (aU ρ3 "handed" (RV (.ref aH))) (cr F3 loc (M1.ready ns)) (∀t,(M1.ready ns).used t->loc t≠aH) (F3 aH=some o3) (IL o3 (H1 ++ns)))
    (wq (a:=aH) (x:="handed") g3 (.inl rfl) no2 (mH (ds:=fun O O O=>aG ns) (aV (fun hp a b=>bg (hO G a) rfl rfl rfl (by decide)) fA)
     (iM (f:=99) G Sr1 (ag (ρ:=(("hand":Str),LV.fz (RV (Vl.int k t)))::ρ1) g1) rfl rfl (fun O O O O O O O O O=>rfl) B1.h1 B1.h2 (vV G Sr1 hrd c1 (by exact Nat.le_trans ‹_› (by decide))).x _) (fun O O O=>by rw[List.length_map];exact Nat.le_trans ‹_› (by decide)) fun h v F' q=>q.1) ?_) ?_
   ·rintro h v F2 ⟨b,ob,us,F3,h₁,u,⟨q1,go⟩,rfl,fb,lb,⟨g,as,ra⟩,rfl⟩
    have ha3:F3 aH=some o1:=go.keep _ _ ha1 off1
    have xb:aH≠b:=aM ha3 fb
    have ia:=fY ra
    have len2:us.size=ns.length:=ia.length
    have off3:=go.off off1 ha1
    refine⟨b,o1,ob,vs1,us,rfl,(Fg.put_ne _ _ xb).trans ha3,l1,Fg.put_same _ _ _,lb,by exact CC ‹_› ‹_› ‹_› ‹_›,fun o' lo=>⟨o',an no2,rfl,g1,g2,rfl,?_,off3,Fg.put_same _ _ _,_,lo,?_⟩⟩
    ·exact(go.srt.up fun a o h=>(Fg.put_ne _ _ (aM h fb)).trans h).putOff off3
    ·rw[Array.toList_append];exact gQ l2 ia
   rintro ρ3 F3 ⟨o3,no3,r0,r1,r2,r3,Sr3,off3,ha3,il3⟩
   by_cases c4:(H1 ++ns).contains k=true
   rotate_left
   ·rw[if_neg c4]at hl1
    injection hl1 with hl1
    refine ad (N:=fun O O=>False) (xz (fu (nP (ag r0).i (ag r3) ha3 il3) fun c F' ⟨a,b⟩=>⟨a,by rw[b,Bool.eq_false_iff.mpr c4];rfl⟩)
     (ad (N:=fun O O=>False) (jV (nH (ds:=[.bool ring,.bool false]) (aW (G:=DV (.bool ring)) (bX r2) (aW (G:=DV (.bool false)) (j4 (aV (P:=fun hb v=>v= .bool false) (fun hp a b=>dP (b:=false)) fun r O O=>de r) fun h v F' ⟨a,b⟩=>⟨a,by rw[b];exact bp⟩) bE)) (Nat.le_of_ble_eq_true rfl)) fun h v F' ⟨_,q⟩=>hR h v F' q hl1.symm) fun O O h=>h.elim)) fun O O h=>h.elim
   rw[if_pos c4]at hl1
   refine ad (N:=fun ρ4 F4=>ρ4=ρ3/\F4=F3) (ja (fu (nP (ag r0).i (ag r3) ha3 il3) fun c F' ⟨a,b⟩=>⟨a,by rw[b,c4];rfl⟩) (aP ⟨rfl,rfl⟩)) ?_
   rintro ρ4 F4 ⟨rfl,rfl⟩
   by_cases c5:((M1.ready ns).ks.contains k&&((M1.ready ns).su k).all ((M1.ready ns).ks.contains ·)&&decide ((M1.ready ns).np k= -1)&&decide (((M1.ready ns).su k).length<=50))=true
   rotate_left
   ·rw[if_neg c5]at hl1;cases hl1
   rw[if_pos c5]at hl1
   simp only[Bool.and_eq_true,decide_eq_true_eq,List.all_eq_true,List.contains_iff_mem]at c5
   obtain⟨⟨⟨d1,d2⟩,d3⟩,d4⟩:=c5
   refine ad (N:=fun ρ5 F5=>ρ5=ρ4/\Go F4 loc (M1.ready ns) F5 loc ((M1.ready ns).doneM k)) (ei (ko (f:=120) G Sr3 (ag r1) rfl rfl (fun O O O O O O O O O=>rfl) (.fn (G.1 _ _ rH.h1) rH.h2) (aW (ag r0).i.x bE) (xL G Sr3 d1 d2 rfl (by show([]:List Int).length +_<=_;simp;exact Nat.le_trans ‹_› (by decide)) d3).x _) fun h v F' q=>⟨rfl,q.2⟩) ?_
   rintro ρ5 F5 ⟨rfl,go⟩
   exact aP ⟨_,_,o3,no3,r1,r2,r3,go.srt,go.off off3 ha3,go.keep _ _ ha3 off3,il3,hl1⟩
 ·rintro ρ1 F₁ ⟨M1,H1,o1,no1,g1,g2,g3,Sr1,off1,ha1,il1,hl1⟩
  rw[List.drop_length]at hl1
  unfold gw at hl1
  injection hl1 with hl1
  exact hN ρ1 F₁ no1 g2 hl1.symm
end
noncomputable def uw(ws:List (Int×List Int)):Nat:=(ws.map fun x=>1 +x.2.length).sum
theorem qH(k:Int):∀(ps:List Int)(M:Mo),(ps.foldl (Mo.addP k) M).rd=M.rd
 |[],_=>rfl
 |q::ps,M=>by
  rw[List.foldl_cons,qH k ps]
  show(M.getI q).rd=M.rd
  unfold Mo.getI;split<;>rfl
theorem zE(M:Mo)(k:Int)(ps:List Int):(M.addM k ps).rd=M.rd:=by
 unfold Mo.addM
 rw[qH]
 show(M.getI k).rd=M.rd
 unfold Mo.getI;split<;>rfl
theorem mo:∀(ws:List (Int×List Int))(M:Mo)(z:Nat),M.short z->A3 ((ws.foldl (fun M x=>M.addM x.1 x.2) M).ks.length<=M.ks.length +uw ws) ((ws.foldl (fun M x=>M.addM x.1 x.2) M).short (z +uw ws)) ((ws.foldl (fun M x=>M.addM x.1 x.2) M).rd=M.rd)
 |[],M,z,h=>⟨Nat.le_refl _,h,rfl⟩
 |x::ws,M,z,h=>by
  obtain⟨a,b,c⟩:=mo ws (M.addM x.1 x.2) _ (uz (k:=x.1) h x.2)
  have e:uw (x::ws)=1 +x.2.length +uw ws:=by unfold uw;rw[List.map_cons,List.sum_cons]
  have l:=zK M x.1 x.2
  rw[List.foldl_cons]
  exact⟨by exact FS ‹_› ‹_› ‹_›,fun q=>Nat.le_trans (b q) (by exact Fi ‹_›),c.trans (zE _ _ _)⟩
theorem yz(ws:List (Int×List Int))(i:Nat):uw (ws.take i)<=uw ws:=by
 induction ws generalizing i with
 |nil=>simp[uw]
 |cons x ws ih=>
  cases i with
  |zero=>exact Nat.zero_le _
  |succ i=>
   have:=ih i
   unfold uw at this⊢
   rw[List.take_succ_cons,List.map_cons,List.sum_cons,List.map_cons,List.sum_cons];exact EE ‹_›
theorem zJ{ws:List (Int×List Int)}(hz:uw ws<=20)(i:Nat):((Mo.init (ws.take i)).ks.length<=20/\(Mo.init (ws.take i)).short 700)/\(Mo.init (ws.take i)).rd=none:=by
 obtain⟨a,b,c⟩:=mo (ws.take i) .nil 0 fun q=>Nat.le_refl _
 have:=yz ws i
 exact⟨⟨Nat.le_trans a (by show([]:List Int).length +_<=_;simp;exact Nat.le_trans ‹_› (Nat.le_trans ‹_› (by decide))),fun q=>Nat.le_trans (b q) (by exact D2 ‹_› ‹_›)⟩,c⟩
noncomputable def oY(ws:List (Int×List Int))(os:List Int):Option (Bool×Bool):=
 if((Mo.init ws).ks.all fun k=>((Mo.init ws).su k).all ((Mo.init ws).ks.contains ·))=true then
  match wZ (Mo.init ws).su 30 (Mo.init ws).ks []with
  |none=>none
  |some ring=>match gw (Mo.init ws).prep [] os with
   |none=>none
   |some ok=>some (ring,ok)
 else none
section
variable{o i r:Ep}{F F' F₀:Fg}{name:Str}{loc loc':eX->Ad}{M M':Mo}{k:Int}{P:PX}{PV:Hp->Vl->Fg->Prop}{v:Vl}{N:LS->Fg->Prop}{aH:Ad}{oH:Obj}
theorem q8{b:Bool}{c:Nat}:cB hg n env F ρ (.Constant (.bool b) c pos) fun hb v F'=>F'=F/\(DV (.bool b)).P hb v:=
 j4 (aV (P:=fun hb v=>v= .bool b) (fun hp a b=>dP) fun r O O=>de r) fun h v F' ⟨a,b⟩=>⟨a,by rw[b];exact bp⟩
theorem zn(G:Gr KZ hg)(L:Nat){ring:Bool}(Sr:cr F loc M)(hr:M.rd=none)(hs:∀k∈M.ks,∀s∈M.su k,s∈M.ks)(hz:M.ks.length<=20)(hc:wZ M.su 30 M.ks []=some ring)(no:ar ρ)(h1:aU ρ "sorter" (RV (.ref (loc .S))))(h2:aU ρ "ring" (DV (.bool false)))
  (hN:∀ρ' F' loc',(ρ'=ρ\/ρ'=(("ring":Str),LV.fz (DV (.bool ring)))::ρ)->aU ρ' "ring" (DV (.bool ring))->loc' .S=loc .S->cr F' loc' M.prep->N ρ' F'):
  XX hg (n +3) (callEnvC wv.fd L 290) F ρ (bw wv.body 2) {next:=N}:=by
 have hz':30*(M.ks.length +1)<=800:=by exact E4 ‹_›
 cases ring with
 |false=>
  refine vK (ad (N:=N) (ei (iM (f:=92) G Sr (ag h1) rfl rfl (fun O O O O O O O O O=>rfl) vb.h1 vb.h2 (yV G Sr hr hs hc hz').x _) ?_) fun O O h=>aP h)
  rintro h v F' ⟨_,loc',e,go⟩
  exact hN ρ F' loc' (.inl rfl) h2 e go.srt
 |true=>
  obtain⟨t1,t2,t3,t4,m,x,y,e1⟩:=Sr.dx
  refine tX (K:=KZ) (C:=55) (PE:=fun F'=>∃loc',loc' .S=loc .S/\Go F loc M F' loc' M.prep) G (show KZ.lookup 55=some (excClassObj _ _ _ _ _ _ _ _ _ _ _ _ _ _ _ _ _ _) from rfl) PySem.F.excBase_ValueError.hasBase
   (vY (K:=KZ) (D:=137) (f:=92) G.1 (ag h1).x Sr.S rfl rfl rfl e1 rfl rfl rfl rfl rfl (G.1 _ _ vb.h1) vb.h2 (wm G Sr hr hs hc hz') _) ?_ rfl rfl (by decide)
  rintro F' ⟨loc',e,go⟩
  exact yY (.inl rfl) no (hN _ F' loc' (.inr rfl) rfl e go.srt)
theorem Aj(G:Gr KZ hg){ws:List (Int×List Int)}{os:List Int}{ring ok:Bool}(hz:uw ws<=20)(hrun:oY ws os=some (ring,ok)):
  fK hg (n +8) F (.ref 290) [WD ws,DV (.tuple (aG os))] fun hb v O=>(DV (.tuple [.bool ring,.bool ok])).P hb v:=by
 unfold oY at hrun
 by_cases c0:((Mo.init ws).ks.all fun k=>((Mo.init ws).su k).all ((Mo.init ws).ks.contains ·))=true
 rotate_left
 ·rw[if_neg c0]at hrun;cases hrun
 rw[if_pos c0]at hrun
 simp only[List.all_eq_true,List.contains_iff_mem]at c0
 cases hcyc:wZ (Mo.init ws).su 30 (Mo.init ws).ks []with
 |none=>rw[hcyc]at hrun;cases hrun
 |some ring'=>
 cases hlet:gw (Mo.init ws).prep [] os with
 |none=>rw[hcyc,hlet]at hrun;cases hrun
 |some ok'=>
 rw[hcyc,hlet]at hrun
 simp only[Option.some.injEq,Prod.mk.injEq]at hrun
 obtain⟨rfl,rfl⟩:=hrun
 have hi:=zJ hz
 have hall:=hi ws.length
 rw[List.take_length]at hall
 have hlen:∀x∈ws,x.2.length<=20:=fun x hx=>by
  have:∀(l:List (Int×List Int)),x∈l->1 +x.2.length<=uw l:=fun l=>by
   induction l with
   |nil=>exact fun h=>by cases h
   |cons y l ih=>
    intro h
    unfold uw at ih⊢
    rw[List.map_cons,List.sum_cons]
    rcases List.mem_cons.mp h with rfl|h
    ·exact Nat.le_add_right _ _
    ·have:=ih h;exact Nat.le_trans ‹_› (Nat.le_add_left _ _)
  have:=this ws hx;omega
 refine fG G wv ["waits","order"] [WD ws,DV (.tuple (aG os))] _ _ (ct rfl fun vs h=>by obtain⟨_,_,rfl⟩:=wD h;rfl) (fun L=>fL (.inl rfl) (.inl rfl)) fun L=>?_
 have no:ar (bz ["waits","order"] [WD ws,DV (.tuple (aG os))]):=bK _ _
 refine ad (N:=fun ρ1 F₁=>∃loc,A4 (ar ρ1) (aU ρ1 "order" (DV (.tuple (aG os)))) (aU ρ1 "sorter" (RV (.ref (loc .S)))) (cr F₁ loc (Mo.init ws)))
  (cE (un (n:=n +6) G (fun i=>(hi i).1) hlen (fun i=>(hi i).2) rfl rfl (by decide) rfl (by decide) rfl rfl fun F ob dx a b c=>y6 G a b c ws (fun i=>(hi i).1) hlen fun i=>(hi i).2) (.inl rfl) no ?_) ?_
 ·rintro h v F' ⟨loc,rfl,Sr⟩
  exact⟨_,rfl,loc,an no,rfl,rfl,Sr⟩
 rintro ρ1 F₁ ⟨loc,no1,g1,g2,Sr⟩
 refine ad (N:=fun ρ2 F2=>A5 (F2=F₁) (ar ρ2) (aU ρ2 "order" (DV (.tuple (aG os)))) (aU ρ2 "sorter" (RV (.ref (loc .S)))) (aU ρ2 "ring" (DV (.bool false)))) (cE (q8 (b:=false)) (.inl rfl) no1 ?_) ?_
 ·rintro h v F' ⟨rfl,q⟩
  exact⟨_,q,rfl,an no1,g1,g2,rfl⟩
 rintro ρ2 F2 ⟨rfl,no2,r1,r2,r3⟩
 refine ad (N:=fun ρ3 F3=>∃loc',A5 (ar ρ3) (aU ρ3 "order" (DV (.tuple (aG os)))) (aU ρ3 "sorter" (RV (.ref (loc' .S)))) (aU ρ3 "ring" (DV (.bool ring'))) (cr F3 loc' (Mo.init ws).prep))
  (zn (n:=n +4) G L Sr hall.2 c0 hall.1.1 hcyc no2 r2 r3 fun ρ' F' loc' hρ hr e Sr'=>?_).up ?_
 ·rcases hρ with rfl|rfl
  ·exact⟨loc',no2,r1,e▸r2,hr,Sr'⟩
  ·exact⟨loc',an no2,r1,e▸r2,hr,Sr'⟩
 rintro ρ3 F3 ⟨loc',no3,s1,s2,s3,Sr'⟩
 refine ad (N:=fun ρ4 F4=>X2 fun aH oH=>A9 (ar ρ4) (aU ρ4 "order" (DV (.tuple (aG os)))) (aU ρ4 "sorter" (RV (.ref (loc' .S)))) (aU ρ4 "ring" (DV (.bool ring'))) (aU ρ4 "handed" (RV (.ref aH))) (cr F4 loc' (Mo.init ws).prep) (∀t,(Mo.init ws).prep.used t->loc' t≠aH) (F4 aH=some oH) (IL oH []))
  (cE (eP (ds:=[]) fun hp a b=>aO au) (.inl rfl) no3 ?_) ?_
 ·rintro h v F' ⟨a,o,vs,rfl,fa,lo,⟨g,ra⟩,rfl⟩
  rw[sJ ra]at lo
  exact⟨RV (.ref a),rfl,a,o,an no3,s1,s2,s3,rfl,Sr'.up fun b ob h=>(Fg.put_ne _ _ (aM h fa)).trans h,(fun t u q=>by
   obtain⟨ot,e,_⟩:=Sr'.at_ t u
   rw[q,fa]at e;cases e),Fg.put_same _ _ _,#[],lo,.nil⟩
 rintro ρ4 F4 ⟨aH,oH,no4,u1,u2,u3,u4,Sr4,off,ha,il⟩
 refine ad (N:=fun ρ5 F5=>A3 (ar ρ5) (aU ρ5 "ring" (DV (.bool ring'))) (ok'=true)) (xY (n:=n +5) G L Sr4 off ha il hlet no4 u2 u3 u4 u1 ?_ ?_) ?_
 ·exact fun ρ' F' a b c=>⟨a,b,c⟩
 ·intro hb v F' q e
  rw[e];exact q
 rintro ρ5 F5 ⟨no5,v1,rfl⟩
 exact ad (N:=fun O O=>False) (jV (nH (ds:=[.bool ring',.bool true]) (aW (G:=DV (.bool ring')) (bX v1) (aW (G:=DV (.bool true)) q8 bE)) (Nat.le_of_ble_eq_true rfl)) fun h v F' q=>q.2) fun O O h=>h.elim
end
noncomputable def rO(a b:Int):List (List Int):=[[],[a],[b],[a,b],[b,a]]
noncomputable def dI:List (List (Int×List Int)):=(rO 1 2).flatMap fun l0=>(rO 0 2).flatMap fun l1=>(rO 0 1).map fun l2=>[(0,l0),(1,l1),(2,l2)]
noncomputable def av:List (List Int):=[[0,1,2],[0,2,1],[1,0,2],[1,2,0],[2,0,1],[2,1,0]]
noncomputable def dT(ws:List (Int×List Int))(os:List Int):Bool:=ws.all fun x=>x.2.all fun p=>(os.takeWhile (·!=x.1)).contains p
theorem z7:(dI.all fun ws=>av.all fun os=>oY ws os==some (!(av.any (dT ws)),dT ws os))=true:=by decide +kernel
theorem zu:(dI.all fun ws=>decide (uw ws<=20))=true:=by decide +kernel
theorem BA{ws:List (Int×List Int)}(hw:ws∈dI){os:List Int}(ho:os∈av):oY ws os=some (!(av.any (dT ws)),dT ws os):=by
 have:=List.all_eq_true.mp (List.all_eq_true.mp z7 ws hw) os ho
 exact beq_iff_eq.mp this
theorem BC{ws:List (Int×List Int)}(hw:ws∈dI):uw ws<=20:=by
 have:=List.all_eq_true.mp zu ws hw
 exact of_decide_eq_true this
noncomputable def Av(l:List Int):List Int:=l.foldl (fun acc x=>if acc.contains x=true then acc else acc ++[x]) []
theorem uZ(l:List Int):dd (aG l)=aG (Av l):=by
 have:∀(l acc:List Int),(aG l).foldl lj (aG acc)=aG (l.foldl (fun acc x=>if acc.contains x=true then acc else acc ++[x]) acc):=by
  intro l
  induction l with
  |nil=>intro acc;rfl
  |cons x l ih=>
   intro acc
   show List.foldl lj (aG acc) (PyD.int x::aG l)=_
   rw[List.foldl_cons,List.foldl_cons]
   have e:lj (aG acc) (.int x)=aG (if acc.contains x=true then acc else acc ++[x]):=by
    unfold lj
    rw[uL]
    cases acc.contains x<;>simp
   rw[e,ih]
 exact this l []
noncomputable def Bz(ms:List bf)(h:Nat):List Int:=(ms.filter fun m=>m.2.2==h).map fun m=>((m.2.1:Nat):Int)
noncomputable def w0(ms:List bf)(h:Nat):List Int:=Av (Bz ms h)
noncomputable def cD(ms:List bf):List (Int×List Int):=(List.range 3).map fun h=>(((h:Nat):Int),w0 ms h)
noncomputable def uY(h:Nat):PyD->List PyD
 | .tuple [_,.int e,.int l]=>if(l==((h:Nat):Int))=true then[.int e]else[]
 |_=>[]
theorem w3(h:Nat)(ms:List bf):(MM ms).flatMap (uY h)=aG (Bz ms h):=by
 induction ms with
 |nil=>rfl
 |cons m ms ih=>
  show uY h (eh m) ++(MM ms).flatMap (uY h)=_
  rw[ih]
  unfold Bz
  rw[List.filter_cons]
  have e:uY h (eh m)=if(((m.2.2:Nat):Int)==((h:Nat):Int))=true then[.int ((m.2.1:Nat):Int)]else[]:=rfl
  rw[e]
  by_cases q:m.2.2=h
  ·subst q;simp
  ·have q':¬((m.2.2:Nat):Int)=((h:Nat):Int):=fun z=>q (by exact C5 ‹_›)
   simp[q,q']
noncomputable def WK(d:Ad)(kvs:List (Int×Vl))(ws:List (Int×List Int)):FP:=⟨fun h v=>v= .ref d/\WV h kvs ws,fun k ⟨a,b⟩=>⟨a,b.up k⟩⟩
theorem WV.snoc{h:Hp}{k:Int}{v:Vl}{ps:List Int}:∀{kvs:List (Int×Vl)}{ws:List (Int×List Int)},WV h kvs ws->(DV (.list (aG ps))).P h v->WV h (kvs ++[(k,v)]) (ws ++[(k,ps)])
 |[],[],_,b=>⟨⟨rfl,b⟩,trivial⟩
 |_::_,_::_,a,b=>⟨a.1,WV.snoc a.2 b⟩
theorem WV.keys{h:Hp}:∀{kvs:List (Int×Vl)}{ws:List (Int×List Int)},WV h kvs ws->kvs.map (·.1)=ws.map (·.1)
 |[],[],_=>rfl
 |_::_,_::_,a=>by rw[List.map_cons,List.map_cons,a.1.1,WV.keys a.2]
theorem mA{l:List Int}:ch (aG l):=fun d hd=>by
 obtain⟨i,_,rfl⟩:=List.mem_map.mp hd
 exact⟨rfl,by simp[PyD.depth]⟩
section
variable{z:Bool}{o i r:Ep}{F F' F₀:Fg}{name:Str}{P:PX}{PV:Hp->Vl->Fg->Prop}{v:Vl}{N:LS->Fg->Prop}
theorem zU{st:Stmt}(x:X hg false n env ρ st (.next ρ'))(hN:N ρ' fun O=>none):XX hg n env (fun O=>none) ρ st {P with next:=N}:=fun A fr h₀ hb₀ hb hm s Q E ok Rl B h=>
 x A fr h₀ hb₀ hb s Q E ok (Rl.lift B) fun f h' hb' tk out rst=>by
  obtain⟨rfl,R'⟩:=out
  exact h _ _ h' h' hb' tk gn (.inl ⟨rfl,ρ',hN,R'⟩) rst.all
theorem De{L:Nat}(G:Gr KZ hg){ms:List bf}(hz:ms.length<=100000){i:Nat}{t:Tok}(h1:aU ρ "hand" (RV (Vl.int (i:Nat) t)))(h2:aU ρ "marks" (DV (.list (MM ms)))):
  Ev hg (n +4) (callEnvC bG.fd L 295) ρ (match bw (bb (bw bG.body 2)) 0 with| .Assign _ e _=>e|_=>.Tuple [] 0 ⟨0,0,0,0⟩) (RN (aG (w0 ms i))):=by
 have hl:(Bz ms i).length<=ms.length:=by unfold Bz;rw[List.length_map];exact List.length_filter_le _ _
 unfold w0
 rw[<-uZ]
 refine aB (ck G rfl rfl) (bc G nv) (bu (d8 ?_) ao) (io G (aG (Bz ms i)) mA (by rw[List.length_map];exact Nat.le_trans ‹_› (Nat.le_trans ‹_› (by decide))))
 rw[<-w3]
 refine dw (ρc:=[("hand",.fz (RV (Vl.int (i:Nat) t)))]) bv (bo (ds:=MM ms) (bL (aa h2))) rfl ?_ ?_ ?_
 ·intro q hq
  simp only[List.mem_cons,List.not_mem_nil,or_false]at hq
  subst hq
  exact⟨h1,.inl rfl,⟨.inl rfl,rfl⟩,rfl⟩
 ·intro C d hd
  obtain⟨m,hm,rfl⟩:=List.mem_map.mp hd
  show X2 fun σ b=>cn _ _ _ _ _ _ _ (eh m) (if(((m.2.2:Nat):Int)==((i:Nat):Int))=true then[.int ((m.2.1:Nat):Int)]else[]) σ b
  refine eg (.tuple (.cons .name (.cons .name (.cons .name .nil)))) ?_ (cT.at ⟨rfl,trivial⟩) (aX (aa rfl) ((aa (F:=RV (Vl.int (i:Nat) t)) rfl).weak fun st r=>⟨_,st,by obtain rfl:_=Vl.int (i:Nat) t:=r;exact cQ⟩) kn) fun O=>aa rfl
  exact nB (rfl) (rfl) (rfl)
 ·rw[w3,List.length_map];exact Nat.le_trans ‹_› (Nat.le_trans ‹_› (by decide))
end
noncomputable def TT(rows:List (List ah)):List PyD:=rows.map fun r=>.list ((aK r).map .str)
noncomputable abbrev g8(os:List Int):PyD:=.tuple (aG os)
noncomputable def c8(os:List Int):List (Int×Int):=(List.range os.length).flatMap fun i=>(os.take i).map fun e=>(e,os.getD i 0)
noncomputable def my(x:Int×Int):PyD:=.tuple [.int x.1,.int x.2]
noncomputable def i5(rows:List (List ah))(x:Int×Int):List Str:=(aK (rows.getD x.2.toNat [])).filter fun y=>(aK (rows.getD x.1.toNat [])).any (·==y)
noncomputable def c6(rows:List (List ah))(os:List Int):List bf:=(c8 os).flatMap fun x=>(i5 rows x).map fun y=>(y,x.1.toNat,x.2.toNat)
noncomputable def xu(os:List Int):PyD->List PyD
 | .tuple [.int k,h]=>(aG (os.take k.toNat)).flatMap fun e=>[.tuple [e,h]]
 |_=>[]
theorem uf{a b c:Int}:(bN (aG [a,b,c])).flatMap (xu [a,b,c])=(c8 [a,b,c]).map my:=rfl
noncomputable def ur(rows:List (List ah)):PyD->List PyD
 | .tuple [.int e,.int h]=>((aK (rows.getD h.toNat [])).map PyD.str).flatMap fun y=>match y with
  | .str y=>if(aK (rows.getD e.toNat [])).any (·==y)=true then[.tuple [.str y,.int e,.int h]]else[]
  |_=>[]
 |_=>[]
theorem kL{α β:Type}(l:List α)(t:α->Bool)(f:α->β):(l.flatMap fun x=>if t x=true then[f x]else[])=(l.filter t).map f:=by
 induction l with
 |nil=>rfl
 |cons x l ih=>
  rw[List.flatMap_cons,ih,List.filter_cons]
  by_cases q:t x=true
  ·rw[if_pos q,if_pos q];rfl
  ·rw[if_neg q,if_neg q];rfl
theorem Af(rows:List (List ah)){x:Int×Int}(h1:0<=x.1)(h2:0<=x.2):ur rows (my x)=MM ((i5 rows x).map fun y=>(y,x.1.toNat,x.2.toNat)):=by
 obtain⟨e,h⟩:=x
 dsimp only at h1 h2
 show((aK (rows.getD h.toNat [])).map PyD.str).flatMap _=_
 rw[List.flatMap_map]
 rw[kL (aK (rows.getD h.toNat [])) (fun y=>(aK (rows.getD e.toNat [])).any (·==y)) fun y=>PyD.tuple [.str y,.int e,.int h]]
 unfold MM i5
 rw[List.map_map]
 refine List.map_congr_left fun y O=>?_
 show _=PyD.tuple [.str y,.int ((e.toNat:Nat):Int),.int ((h.toNat:Nat):Int)]
 rw[Int.toNat_of_nonneg h1,Int.toNat_of_nonneg h2]
theorem mw(rows:List (List ah)):∀(xs:List (Int×Int)),(∀x∈xs,0<=x.1/\0<=x.2)->(xs.map my).flatMap (ur rows)=MM (xs.flatMap fun x=>(i5 rows x).map fun y=>(y,x.1.toNat,x.2.toNat))
 |[],_=>rfl
 |x::xs,h=>by
  rw[List.map_cons,List.flatMap_cons,List.flatMap_cons,Af rows (h x (.head _)).1 (h x (.head _)).2,mw rows xs fun y hy=>h y (.tail _ hy),oB]
structure gJ(rows:List (List ah)):Prop where
 n:rows.length=3
 len:∀r∈rows,(aK r).length<=100
 ok:∀r∈rows,∀x∈aK r,dZ x
theorem gJ.get{rows:List (List ah)}(R:gJ rows){k:Nat}(h:k<3):A3 ((TT rows)[k]?=some (.list ((aK (rows.getD k [])).map .str))) ((aK (rows.getD k [])).length<=100) (∀x∈aK (rows.getD k []),dZ x):=by
 have hk:k<rows.length:=by rw[R.n];exact h
 have e:rows.getD k []=rows[k]:=by rw[List.getD_eq_getElem?_getD,List.getElem?_eq_getElem hk];rfl
 rw[e]
 refine⟨?_,R.len _ (List.getElem_mem hk),R.ok _ (List.getElem_mem hk)⟩
 unfold TT
 rw[List.getElem?_map,List.getElem?_eq_getElem hk];rfl
section
variable{z:Bool}{o i r:Ep}{F F' F₀:Fg}{name:Str}{P:PX}{PV:Hp->Vl->Fg->Prop}{v:Vl}{N:LS->Fg->Prop}
theorem vF(G:Gr KZ hg){ws:List (Int×List Int)}{os:List Int}(hw:ws∈dI)(ho:os∈av):gO hg (n +8) (.ref 290) [rF (WD ws),rF (DV (g8 os))] (RF (DV (.tuple [.bool (!(av.any (dT ws))),.bool (dT ws os)]))):=
 qS (Aj G (BC hw) (BA hw ho)) fun h hb v F' h' p=>p
theorem rf(G:Gr KZ hg)(L:Nat){a b c:Int}(h1:ρ.lookup ("order":Str)=some (.fz (DV (g8 [a,b,c])))):
  X hg false (n +8) (callEnvC bG.fd L 295) ρ (bw (bb (bw bG.body 4)) 3) (.next (("ahead",.fz (DV (.list ((c8 [a,b,c]).map my))))::ρ)):=by
 refine fq (item:=xu [a,b,c]) (ρc:=[("order",.fz (DV (g8 [a,b,c])))]) qN rfl (tZ (ds:=aG [a,b,c]) (bg G rfl rfl rfl (by decide)) (aa h1)) rfl ?_ ?_ uf ?_ (.inl rfl)
 ·intro q hq
  rw[List.mem_singleton.mp hq]
  exact⟨h1,.inl rfl,⟨.inl rfl,rfl⟩,rfl⟩
 ·intro C d hd
  obtain⟨k,hk⟩:=List.mem_iff_getElem?.mp hd
  obtain⟨d',hd',rfl⟩:=em hk
  have hk3:k<3:=by
   have:=(List.getElem?_eq_some_iff.mp hd').1
   simpa using this
  refine⟨[("hand",.fz (DV d')),("place",.fz (DV (.int ((k:Nat):Int))))],true,.of (.tuple (.cons .name (.cons .name .nil))),?_,cT.at ⟨rfl,trivial⟩,ew,fun O=>?_,fun q=>by cases q⟩
  ·exact fL (rfl) (rfl)
  ·show qO hg _ _ _ _ _ ((aG ([a,b,c].take ((k:Nat):Int).toNat)).flatMap fun e=>[PyD.tuple [e,d']])
   rw[Int.toNat_natCast]
   have e1:aG ([a,b,c].take k)=(aG [a,b,c]).take k:=List.map_take ..
   rw[e1]
   refine tu qn (bq (aa rfl) (cY bU (c9 (aa rfl)) bU) (rA (ds:=aG [a,b,c]) (a:=k) (by simpa using hk3) (by simp))) trivial (cT.at ⟨rfl,trivial⟩) (fun O=>rfl) ?_
   intro d hd
   refine⟨[("earlier",.fz (DV d))],true,.of .name,?_,cT.at ⟨rfl,rfl,rfl,trivial⟩,ew,fun O=>gz (cW (ak (aa rfl) (ak (aa rfl) au))) (cT.at ⟨rfl,rfl,rfl,trivial⟩),fun q=>by cases q⟩
   exact cG rfl
 ·show(List.map my (c8 [a,b,c])).length<=_
  exact Nat.le_of_ble_eq_true rfl
end
theorem rh{ms:List bf}(h:∀m∈ms,dZ m.1):ch (MM ms):=fun d hd=>by
 obtain⟨m,hm,rfl⟩:=List.mem_map.mp hd
 refine⟨?_,?_⟩
 ·show(PyD.canLay0 (.str m.1)&&(PyD.canLay0 (.int _)&&(PyD.canLay0 (.int _)&&true)))=true
  rw[(h m hm).s.lay];rfl
 ·unfold eh
  simp[PyD.depth,PyD.depthAll]
theorem pX{a b c:Int}:c8 [a,b,c]=[(a,b),(a,c),(b,c)]:=rfl
theorem zD(rows:List (List ah))(x:Int×Int):(i5 rows x).length<=(aK (rows.getD x.2.toNat [])).length:=List.length_filter_le _ _
theorem jd{os:List Int}(h:os∈av):X3 fun a b c=>A4 (os=[a,b,c]) (0<=a/\a<3) (0<=b/\b<3) (0<=c/\c<3):=by
 unfold av at h
 simp only[List.mem_cons,List.not_mem_nil,or_false]at h
 rcases h with rfl|rfl|rfl|rfl|rfl|rfl<;>exact⟨_,_,_,rfl,by decide,by decide,by decide⟩
theorem nJ{rows:List (List ah)}(R:gJ rows){os:List Int}(h:os∈av):(c6 rows os).length<=300:=by
 obtain⟨a,b,c,rfl,ha,hb,hc⟩:=jd h
 have l:∀x:Int×Int,0<=x.2/\x.2<3->(i5 rows x).length<=100:=fun x hx=>Nat.le_trans (zD rows x) (R.get (by exact Ef ‹_›)).2
 unfold c6
 rw[pX]
 simp only[List.flatMap_cons,List.flatMap_nil,List.length_append,List.length_map,List.length_nil]
 have:=l (a,b) hb
 have:=l (a,c) hc
 have:=l (b,c) hc
 exact C0 ‹_› ‹_› ‹_›
theorem xp{rows:List (List ah)}(R:gJ rows){os:List Int}(h:os∈av):∀m∈c6 rows os,dZ m.1:=fun m hm=>by
 obtain⟨a,b,c,rfl,ha,hb,hc⟩:=jd h
 unfold c6 at hm
 rw[pX]at hm
 obtain⟨x,hx,hm⟩:=List.mem_flatMap.mp hm
 obtain⟨y,hy,rfl⟩:=List.mem_map.mp hm
 have hx3:x.2.toNat<3:=by
  simp only[List.mem_cons,List.not_mem_nil,or_false]at hx
  rcases hx with rfl|rfl|rfl<;>dsimp only<;>exact Ef ‹_›
 exact(R.get hx3).3 y (List.mem_filter.mp hy).1
section
variable{z:Bool}{o i r:Ep}{F F' F₀:Fg}{name:Str}{P:PX}{PV:Hp->Vl->Fg->Prop}{v:Vl}{N:LS->Fg->Prop}
theorem qP(G:Gr KZ hg)(L:Nat){rows:List (List ah)}(R:gJ rows){os:List Int}(ho:os∈av)(h1:ρ.lookup ("ahead":Str)=some (.fz (DV (.list ((c8 os).map my)))))(h2:ρ.lookup ("taken":Str)=some (.fz (DV (.list (TT rows))))):
  X hg false (n +8) (callEnvC bG.fd L 295) ρ (bw (bb (bw bG.body 4)) 4) (.next (("alone",.fz (DV (.list (MM (c6 rows os)))))::ρ)):=by
 have hpair:∀x∈c8 os,(0<=x.1/\x.1<3)/\(0<=x.2/\x.2<3):=by
  obtain⟨a,b,c,rfl,ha,hb,hc⟩:=jd ho
  rw[pX]
  intro x hx
  simp only[List.mem_cons,List.not_mem_nil,or_false]at hx
  rcases hx with rfl|rfl|rfl<;>dsimp only<;>exact FO ‹_› ‹_›
 refine fq (item:=ur rows) (ρc:=[("taken",.fz (DV (.list (TT rows))))]) qN rfl (bo (ds:=(c8 os).map my) (bL (aa h1))) rfl ?_ ?_ (mw rows _ fun x hx=>⟨(hpair x hx).1.1,(hpair x hx).2.1⟩) ?_ (.inl rfl)
 ·intro q hq
  rw[List.mem_singleton.mp hq]
  exact⟨h2,.inl rfl,⟨.inl rfl,rfl⟩,rfl⟩
 ·intro C d hd
  obtain⟨x,hx,rfl⟩:=List.mem_map.mp hd
  obtain⟨⟨x1,x2⟩,x3,x4⟩:=hpair x hx
  obtain⟨e1,e2,e3⟩:=R.get (k:=x.2.toNat) (by exact o3 ‹_› ‹_›)
  obtain⟨f1,f2,f3⟩:=R.get (k:=x.1.toNat) (by exact o3 ‹_› ‹_›)
  obtain⟨e,h⟩:=x
  dsimp only at x1 x2 x3 x4 e1 e2 e3 f1 f2 f3
  refine⟨[("hand",.fz (DV (.int h))),("earlier",.fz (DV (.int e)))],true,.of (.tuple (.cons .name (.cons .name .nil))),?_,cT.at ⟨rfl,trivial⟩,ew,fun O=>?_,fun q=>by cases q⟩
  ·exact fL (rfl) (rfl)
  ·show qO hg _ _ _ _ _ (((aK (rows.getD h.toNat [])).map PyD.str).flatMap _)
   refine wt qn (bq (bL (aa rfl)) (aa rfl) (cp x3 e1 (by exact Int.lt_of_lt_of_le ‹_› (by decide)))) trivial (cT.at ⟨rfl,trivial⟩) (fun O=>rfl) ?_
   intro d hd
   obtain⟨y,hy,rfl⟩:=List.mem_map.mp hd
   show X2 fun σ b=>cn _ _ _ _ _ _ _ (.str y) (if(aK (rows.getD e.toNat [])).any (·==y)=true then[.tuple [.str y,.int e,.int h]]else[]) σ b
   refine eg .name ?_ (cT.at ⟨rfl,rfl,rfl,trivial⟩) (aX (e9 (aa rfl)) (e9 (bq (bL (aa rfl)) (aa rfl) (cp x1 f1 (by exact Int.lt_of_lt_of_le ‹_› (by decide))))) (w2 (e3 y hy).s fun u hu=>(f3 u hu).s)) fun O=>cW (ak (aa rfl) (ak (aa rfl) (ak (aa rfl) au)))
   intro u hu
   rw(occs:=.all) [List.mem_singleton.mp hu];rfl
 ·show(MM (c6 rows os)).length<=_
  rw[kt];have:=nJ R ho;exact Nat.le_trans ‹_› (by decide)
noncomputable def sq(ms:List bf)(rows:List (List ah))(a b c:List PyD):LS:=
 [("rings",.own a),("through",.own b),("alike",.own c),("waits",.fz (WD (cD ms))),("marks",.fz (DV (.list (MM ms)))),("taken",.fz (DV (.list (TT rows))))]
noncomputable def gt(ms:List bf):Bool:=!(av.any (dT (cD ms)))
noncomputable def dB(ms:List bf)(os:List Int):List PyD:=if dT (cD ms) os=true then[g8 os]else[]
noncomputable def eV(ms:List bf)(rows:List (List ah))(os:List Int):List PyD:=if dQ (MM ms) (MM (c6 rows os))=true then[g8 os]else[]
theorem sR(G:Gr KZ hg)(L:Nat){ms:List bf}{rows:List (List ah)}(R:gJ rows)(hm:∀m∈ms,dZ m.1)(hl:ms.length<=100000)(hw:cD ms∈dI){os:List Int}(ho:os∈av){a b c:List PyD}(la:a.length<=10)(lb:b.length<=10)(lc:c.length<=10):
  Ex hg false (n +8) (callEnvC bG.fd L 295) (("order",.fz (DV (g8 os)))::sq ms rows a b c) (bb (bw bG.body 4)) (.next (sq ms rows (a ++[.bool (gt ms)]) (b ++dB ms os) (c ++eV ms rows os))):=by
 refine ac (jp (ds:=[.bool (gt ms),.bool (dT (cD ms) os)]) (σ:=[("let",.fz (DV (.bool (dT (cD ms) os)))),("ring",.fz (DV (.bool (gt ms))))]) (aB (ck G rfl rfl) (bc G wv) (bu (aa rfl) (bu (aa rfl) ao)) (vF G hw ho)) (.cons .name (.cons .name .nil)) ?_) ?_
 ·exact fL (.inl rfl) (.inl rfl)
 refine ac (dR (ds:=a) (d:=.bool (gt ms)) rfl (aa rfl) (by exact Nat.le_trans ‹_› (by decide))) ?_
 refine ac (jm (ds:=b) (es:=dB ms os) rfl (gh ?_) (by unfold dB;split<;>simp<;>exact Nat.le_trans ‹_› (by decide)) (.inl rfl)) ?_
 ·refine uy (cw (aa rfl)) (fun q=>?_) fun q=>?_
  ·unfold dB;rw[if_pos q];exact aO (ak (aa rfl) au)
  ·unfold dB;rw[if_neg (by rw[q];decide)];exact aO au
 obtain⟨x,y,u,rfl,hx,hy,hu⟩:=jd ho
 refine ac (rf G L rfl) ?_
 refine ac (qP G L R ho rfl rfl) ?_
 refine ac (jm (ds:=c) (es:=eV ms rows [x,y,u]) rfl (gh ?_) (by unfold eV;split<;>simp<;>exact Nat.le_trans ‹_› (by decide)) (.inl rfl)) (aQ (cT.at ⟨rfl,rfl,rfl,rfl,rfl,rfl,trivial⟩))
 refine uy (b:=dQ (MM ms) (MM (c6 rows [x,y,u]))) (cw (aB (ck G rfl rfl) (bc G m7) (bu (aa rfl) (bu (aa rfl) ao)) (z8 G _ _ (rh hm) (rh (xp R ho)) (by rw[kt];exact hl) (by rw[kt];have:=nJ R ho;exact Nat.le_trans ‹_› (by decide))))) (fun q=>?_) fun q=>?_
 ·unfold eV;rw[if_pos q];exact aO (ak (aa rfl) au)
 ·unfold eV;rw[if_neg (by rw[q];decide)];exact aO au
end
theorem iz{m:bf}:∀{rest pre:List (Str×Nat)},m∈cN pre rest↔X2 fun r1 r2=>rest=r1 ++(m.1,m.2.2)::r2/\(m.1,m.2.1)∈pre ++r1
 |[],pre=>by
  constructor
  ·intro h;cases h
  ·rintro⟨r1,r2,e,_⟩
   have:=congrArg List.length e
   simp at this
 |f::rest,pre=>by
  show m∈dj pre f ++cN (pre ++[f]) rest↔_
  rw[List.mem_append,iz]
  constructor
  ·rintro(h|⟨r1,r2,e,h⟩)
   ·unfold dj at h
    obtain⟨q,hq,rfl⟩:=List.mem_map.mp h
    obtain⟨h1,h2⟩:=List.mem_filter.mp hq
    have e:q.1=f.1:=by simpa using h2
    refine⟨[],rest,rfl,?_⟩
    rw[List.append_nil]
    show(f.1,q.2)∈pre
    rw[<-e];exact h1
   ·exact⟨f::r1,r2,by rw[e];rfl,by simpa using h⟩
  ·rintro⟨r1,r2,e,h⟩
   cases r1 with
   |nil=>
    injection e with e1 e2
    left
    subst e1
    rw[List.append_nil]at h
    exact List.mem_map.mpr ⟨(m.1,m.2.1),List.mem_filter.mpr ⟨h,by simp⟩,rfl⟩
   |cons c r1=>
    injection e with e1 e2
    subst e1
    exact .inr ⟨r1,r2,e2,by simpa using h⟩
section
variable{g:Str->Str}{rows:List (List ah)}{lk:Bool}{log:List (Str×Nat)}
theorem j1(hn:log.Nodup){m:bf}:m∈aq log↔(m.1,m.2.2)∈log/\tm log m.1 m.2.1<tm log m.1 m.2.2:=by
 unfold aq
 rw[iz]
 constructor
 ·rintro⟨A,B,e,h⟩
  rw[List.nil_append]at h
  have hm:(m.1,m.2.2)∈log:=by rw[e];simp
  have ht:tm log m.1 m.2.2=A.length:=by
   have hA:(m.1,m.2.2)∉A:=fun q=>by
    rw[e,List.nodup_append]at hn
    exact hn.2.2 _ q _ (.head _) rfl
   rw[tm,e,List.idxOf_append,if_neg hA,List.idxOf_cons_self]
   exact Nat.zero_add _
  refine⟨hm,?_⟩
  rw[ht]
  refine pP (k:=A.length) ?_
  rw[e,List.take_left];exact h
 ·rintro⟨h1,h2⟩
  exact⟨_,_,jr h1,by rw[List.nil_append];exact kM h2 (fg.mp (Nat.lt_trans h2 (fg.mpr h1)))⟩
theorem fJ.hand(K:fJ g rows lk log)(h3:rows.length=3){x:Str}{i:Nat}(h:(x,i)∈log):i<3:=by
 have:=(K.ok.ord _ _ x i (jr h)).1
 exact Nat.lt_of_lt_of_eq ‹_› ‹_›
theorem fJ.mark(K:fJ g rows lk log){x:Str}{i j:Nat}(hi:x∈tk rows i)(hj:x∈tk rows j)(ne:i≠j):(x,i,j)∈aq log\/(x,j,i)∈aq log:=by
 have mi:=(K.all x i).mpr hi
 have mj:=(K.all x j).mpr hj
 rcases Nat.lt_trichotomy (tm log x i) (tm log x j)with c|c|c
 ·exact .inl ((j1 K.ok.nd).mpr ⟨mj,c⟩)
 ·exact absurd (yr mi c).2 ne
 ·exact .inr ((j1 K.ok.nd).mpr ⟨mi,c⟩)
theorem fJ.of_mark(K:fJ g rows lk log)(h3:rows.length=3){m:bf}(h:m∈aq log):A6 (m.1∈tk rows m.2.1) (m.1∈tk rows m.2.2) (m.2.1≠m.2.2) (m.2.1<3) (m.2.2<3) (tm log m.1 m.2.1<tm log m.1 m.2.2):=by
 obtain⟨h1,h2⟩:=(j1 K.ok.nd).mp h
 have m1:(m.1,m.2.1)∈log:=fg.mp (Nat.lt_trans h2 (fg.mpr h1))
 refine⟨(K.all _ _).mp m1,(K.all _ _).mp h1,fun e=>?_,K.hand h3 m1,K.hand h3 h1,h2⟩
 rw[e]at h2;exact absurd ‹_› (Nat.lt_irrefl _)
end
noncomputable def Be:List bf->List bf->Option (List bf)
 |[],t=>some t
 |d::ds,t=>if d∈t then Be ds (t.erase d)else none
theorem rK(m m':bf):PyD.eqv (eh m) (eh m')=decide (m=m'):=by
 obtain⟨x,e,l⟩:=m
 obtain⟨x',e',l'⟩:=m'
 have q:PyD.eqv (eh (x,e,l)) (eh (x',e',l'))=((x==x')&&(((e:Nat):Int)==((e':Nat):Int))&&(((l:Nat):Int)==((l':Nat):Int))):=by
  simp[eh,PyD.eqv,PyD.eqvAll,Bool.and_assoc]
 rw[q,Bool.eq_iff_iff]
 simp only[Bool.and_eq_true,beq_iff_eq,decide_eq_true_eq,Prod.mk.injEq]
 constructor
 ·rintro⟨⟨a,b⟩,c⟩;exact⟨a,by exact C5 ‹_›,by exact C5 ‹_›⟩
 ·rintro⟨a,b,c⟩;exact⟨⟨a,by exact Ea ‹_›⟩,by exact Ea ‹_›⟩
theorem w1(ms:List bf)(m:bf):((MM ms).any fun y=>PyD.eqv y (eh m))=decide (m∈ms):=by
 induction ms with
 |nil=>rfl
 |cons a ms ih=>
  show(PyD.eqv (eh a) (eh m)||(MM ms).any _)=_
  rw[ih,rK,Bool.eq_iff_iff]
  simp only[Bool.or_eq_true,decide_eq_true_eq,List.mem_cons]
  exact⟨fun h=>h.imp Eq.symm id,fun h=>h.imp Eq.symm id⟩
theorem y5(ms:List bf)(m:bf):((MM ms).eraseP fun y=>PyD.eqv y (eh m))=MM (ms.erase m):=by
 induction ms with
 |nil=>rfl
 |cons a ms ih=>
  show List.eraseP _ (eh a::MM ms)=_
  rw[List.eraseP_cons,rK,List.erase_cons,ih]
  by_cases q:a=m
  ·subst q;simp
  ·simp[q];rfl
theorem AA:∀(ds t:List bf),ef (MM ds) (MM t)=(Be ds t).map MM
 |[],t=>rfl
 |d::ds,t=>by
  show(if((MM t).any fun y=>PyD.eqv y (eh d))=true then ef (MM ds) ((MM t).eraseP fun y=>PyD.eqv y (eh d))else none)=_
  rw[w1,y5,AA ds]
  unfold Be
  by_cases q:d∈t
  ·rw[if_pos (by simpa using q),if_pos q];cases ds<;>rfl
  ·rw[if_neg (by simpa using q),if_neg q];rfl
noncomputable def AF(ms:List bf):List bf:=ms.foldl (fun acc m=>if m∈acc then acc else acc ++[m]) []
theorem AG(ms:List bf):dd (MM ms)=MM (AF ms):=by
 have:∀(ms acc:List bf),(MM ms).foldl lj (MM acc)=MM (ms.foldl (fun acc m=>if m∈acc then acc else acc ++[m]) acc):=fun ms=>by
  induction ms with
  |nil=>intro acc;rfl
  |cons m ms ih=>
   intro acc
   show List.foldl lj (lj (MM acc) (eh m)) (MM ms)=_
   have e:lj (MM acc) (eh m)=MM (if m∈acc then acc else acc ++[m]):=by
    unfold lj
    rw[w1]
    by_cases q:m∈acc
    ·simp[q]
    ·simp[q,MM]
   rw[e,ih];rfl
 exact this ms []
theorem rX(ms:List bf):(AF ms).Nodup/\∀m,m∈AF ms↔m∈ms:=by
 have:∀(ms acc:List bf),acc.Nodup->(ms.foldl (fun acc m=>if m∈acc then acc else acc ++[m]) acc).Nodup/\∀m,m∈ms.foldl (fun acc m=>if m∈acc then acc else acc ++[m]) acc↔m∈acc\/m∈ms:=fun ms=>by
  induction ms with
  |nil=>intro acc h;exact⟨h,fun m=>by simp⟩
  |cons a ms ih=>
   intro acc h
   rw[List.foldl_cons]
   by_cases q:a∈acc
   ·rw[if_pos q]
    refine⟨(ih acc h).1,fun m=>?_⟩
    rw[(ih acc h).2 m,List.mem_cons]
    exact⟨fun z=>z.imp id .inr,fun z=>z.elim .inl fun z=>z.elim (fun e=>.inl (e▸q)) .inr⟩
   ·rw[if_neg q]
    have hn:(acc ++[a]).Nodup:=by
     rw[List.nodup_append]
     refine⟨h,by simp,fun x hx y hy=>?_⟩
     rw[List.mem_singleton.mp hy]
     exact fun e=>q (e▸hx)
    refine⟨(ih _ hn).1,fun m=>?_⟩
    rw[(ih _ hn).2 m,List.mem_append,List.mem_singleton,List.mem_cons,or_assoc]
 obtain⟨a,b⟩:=this ms [] List.nodup_nil
 exact⟨a,fun m=>by rw[AF,b m];simp⟩
theorem uE:∀(a b:List bf),a.Nodup->b.Nodup->(Be a b=some []↔∀m,m∈a↔m∈b)
 |[],b,_,_=>by
  constructor
  ·intro h m
   have:b=[]:=by injection h
   rw[this]
  ·intro h
   have:b=[]:=List.eq_nil_iff_forall_not_mem.mpr fun m hm=>by cases(h m).mpr hm
   rw[this];rfl
 |d::ds,b,ha,hb=>by
  unfold Be
  obtain⟨h1,h2⟩:=List.nodup_cons.mp ha
  by_cases q:d∈b
  ·rw[if_pos q,uE ds _ h2 (hb.erase _)]
   constructor
   ·intro h m
    rw[List.mem_cons,h m,hb.mem_erase_iff]
    by_cases e:m=d
    ·simp[e,q]
    ·simp[e]
   ·intro h m
    rw[hb.mem_erase_iff,<-h m,List.mem_cons]
    by_cases e:m=d
    ·simp[e,h1]
    ·simp[e]
  ·rw[if_neg q]
   exact⟨fun h=>(by cases h),fun h=>absurd ((h d).mp (.head _)) q⟩
theorem yO(a b:List bf):dQ (MM a) (MM b)=true↔∀m,m∈a↔m∈b:=by
 obtain⟨a1,a2⟩:=rX a
 obtain⟨b1,b2⟩:=rX b
 have e:dQ (MM a) (MM b)=true↔Be (AF a) (AF b)=some []:=by
  unfold dQ
  rw[AG,AG,AA]
  cases Be (AF a) (AF b)with
  |none=>exact⟨fun h=>(by cases h),fun h=>(by cases h)⟩
  |some t=>cases t<;>exact⟨fun h=>(by first|rfl|cases h),fun h=>(by first|rfl|cases h)⟩
 rw[e,uE _ _ a1 b1]
 exact forall_congr' fun m=>by rw[a2,b2]
noncomputable def d9(os:List Int)(e l:Nat):Bool:=(os.takeWhile (·!=((l:Nat):Int))).contains ((e:Nat):Int)
theorem wX:(av.all fun os=>(List.range 3).all fun e=>(List.range 3).all fun l=>(c8 os).contains (((e:Nat):Int),((l:Nat):Int))==d9 os e l&&!(d9 os e l&&d9 os l e)&&!(d9 os e e))=true:=by decide +kernel
theorem tY:(av.all fun os=>(c8 os).all fun x=>(List.range 3).any fun e=>(List.range 3).any fun l=>x==(((e:Nat):Int),((l:Nat):Int)))=true:=by decide +kernel
theorem ji{os:List Int}(ho:os∈av){e l:Nat}(he:e<3)(hl:l<3):A3 ((((e:Nat):Int),((l:Nat):Int))∈c8 os↔d9 os e l=true) (¬(d9 os e l=true/\d9 os l e=true)) (¬d9 os e e=true):=by
 have h:=List.all_eq_true.mp (List.all_eq_true.mp (List.all_eq_true.mp wX os ho) e (List.mem_range.mpr he)) l (List.mem_range.mpr hl)
 simp only[Bool.and_eq_true,beq_iff_eq,Bool.not_eq_eq_eq_not,Bool.not_true]at h
 obtain⟨⟨h1,h2⟩,h3⟩:=h
 refine⟨?_,fun q=>?_,fun q=>?_⟩
 ·rw[<-h1,List.contains_iff_mem]
 ·rw[q.1,q.2]at h2;cases h2
 ·rw[q]at h3;cases h3
theorem vm{os:List Int}(ho:os∈av){x:Int×Int}(hx:x∈c8 os):∃e l:Nat,A3 (e<3) (l<3) (x=(((e:Nat):Int),((l:Nat):Int))):=by
 have h:=List.all_eq_true.mp (List.all_eq_true.mp tY os ho) x hx
 obtain⟨e,he,h⟩:=List.any_eq_true.mp h
 obtain⟨l,hl,h⟩:=List.any_eq_true.mp h
 exact⟨e,l,List.mem_range.mp he,List.mem_range.mp hl,eq_of_beq h⟩
theorem me(l:List Int):(Av l).Nodup/\∀x,x∈Av l↔x∈l:=by
 have:∀(l acc:List Int),acc.Nodup->(l.foldl (fun acc x=>if acc.contains x=true then acc else acc ++[x]) acc).Nodup/\∀x,x∈l.foldl (fun acc x=>if acc.contains x=true then acc else acc ++[x]) acc↔x∈acc\/x∈l:=fun l=>by
  induction l with
  |nil=>intro acc h;exact⟨h,fun m=>by simp⟩
  |cons a ms ih=>
   intro acc h
   rw[List.foldl_cons]
   by_cases q:acc.contains a=true
   ·rw[if_pos q]
    have q':=List.contains_iff_mem.mp q
    refine⟨(ih acc h).1,fun m=>?_⟩
    rw[(ih acc h).2 m,List.mem_cons]
    exact⟨fun z=>z.imp id .inr,fun z=>z.elim .inl fun z=>z.elim (fun e=>.inl (e▸q')) .inr⟩
   ·rw[if_neg q]
    have q':a∉acc:=fun z=>q (List.contains_iff_mem.mpr z)
    have hn:(acc ++[a]).Nodup:=by
     rw[List.nodup_append]
     refine⟨h,by simp,fun x hx y hy=>?_⟩
     rw[List.mem_singleton.mp hy]
     exact fun e=>q' (e▸hx)
    refine⟨(ih _ hn).1,fun m=>?_⟩
    rw[(ih _ hn).2 m,List.mem_append,List.mem_singleton,List.mem_cons,or_assoc]
 obtain⟨a,b⟩:=this l [] List.nodup_nil
 exact⟨a,fun m=>by rw[Av,b m];simp⟩
theorem p8{ms:List bf}{h:Nat}{e:Int}:e∈w0 ms h↔∃m∈ms,m.2.2=h/\e=((m.2.1:Nat):Int):=by
 unfold w0
 rw[(me _).2]
 unfold Bz
 rw[List.mem_map]
 constructor
 ·rintro⟨m,hm,rfl⟩
  obtain⟨a,b⟩:=List.mem_filter.mp hm
  exact⟨m,a,by simpa using b,rfl⟩
 ·rintro⟨m,hm,h1,rfl⟩
  exact⟨m,List.mem_filter.mpr ⟨hm,by simpa using h1⟩,rfl⟩
theorem yw{l:List Int}{a b:Int}(hn:l.Nodup)(hm:∀x∈l,x=a\/x=b):l∈rO a b:=by
 match l,hn,hm with
 |[],_,_=>exact .head _
 |[x],_,hm=>rcases hm x (.head _)with rfl|rfl<;>simp[rO]
 |[x,y],hn,hm=>
  have ne:x≠y:=by intro e;simp[e]at hn
  rcases hm x (.head _)with rfl|rfl<;>rcases hm y (.tail _ (.head _))with rfl|rfl
  ·exact absurd rfl ne
  ·simp[rO]
  ·simp[rO]
  ·exact absurd rfl ne
 |x::y::v::r,hn,hm=>
  exfalso
  simp only[List.nodup_cons,List.mem_cons,not_or]at hn
  have h1:=hm x (.head _)
  have h2:=hm y (.tail _ (.head _))
  have h3:=hm v (.tail _ (.tail _ (.head _)))
  obtain⟨⟨n1,n2,_⟩,⟨n3,_⟩,_⟩:=hn
  rcases h1 with h1|h1<;>rcases h2 with h2|h2<;>rcases h3 with h3|h3<;>simp_all
section
variable{g:Str->Str}{rows:List (List ah)}{lk:Bool}{log:List (Str×Nat)}(K:fJ g rows lk log)(h3:rows.length=3)
include K h3
theorem xH:cD (aq log)∈dI:=by
 have key:∀(h a b:Nat),(∀e:Nat,e<3->e≠h->e=a\/e=b)->w0 (aq log) h∈rO ((a:Nat):Int) ((b:Nat):Int):=fun h a b k=>by
  refine yw (me _).1 fun x hx=>?_
  obtain⟨m,hm,rfl,rfl⟩:=p8.mp hx
  obtain⟨_,_,ne,l1,_⟩:=K.of_mark h3 hm
  rcases k _ l1 ne with e|e
  ·left;rw[e]
  ·right;rw[e]
 have e:cD (aq log)=[(0,w0 (aq log) 0),(1,w0 (aq log) 1),(2,w0 (aq log) 2)]:=rfl
 rw[e]
 unfold dI
 refine List.mem_flatMap.mpr ⟨_,key 0 1 2 (by decide),List.mem_flatMap.mpr ⟨_,key 1 0 2 (by decide),List.mem_map.mpr ⟨_,key 2 0 1 (by decide),rfl⟩⟩⟩
theorem qK(os:List Int):dT (cD (aq log)) os=true↔∀m∈aq log,d9 os m.2.1 m.2.2=true:=by
 unfold dT cD
 rw[List.all_eq_true]
 constructor
 ·intro h m hm
  obtain⟨_,_,_,_,l2,_⟩:=K.of_mark h3 hm
  have:=h _ (List.mem_map.mpr ⟨m.2.2,List.mem_range.mpr l2,rfl⟩)
  exact List.all_eq_true.mp this _ (p8.mpr ⟨m,hm,rfl,rfl⟩)
 ·intro h x hx
  obtain⟨k,_,rfl⟩:=List.mem_map.mp hx
  rw[List.all_eq_true]
  intro p hp
  obtain⟨m,hm,rfl,rfl⟩:=p8.mp hp
  exact h m hm
theorem j7{os:List Int}(ho:os∈av){m:bf}:m∈c6 rows os↔A5 (m.2.1<3) (m.2.2<3) (d9 os m.2.1 m.2.2=true) (m.1∈tk rows m.2.2) (m.1∈tk rows m.2.1):=by
 unfold c6
 rw[List.mem_flatMap]
 constructor
 ·rintro⟨x,hx,hm⟩
  obtain⟨y,hy,rfl⟩:=List.mem_map.mp hm
  obtain⟨e,l,he,hl,rfl⟩:=vm ho hx
  unfold i5 at hy
  obtain⟨a,b⟩:=List.mem_filter.mp hy
  obtain⟨y',b1,b2⟩:=List.any_eq_true.mp b
  have:y'=y:=eq_of_beq b2
  subst this
  exact⟨he,hl,(ji ho he hl).1.mp hx,a,b1⟩
 ·rintro⟨he,hl,h,a,b⟩
  refine⟨_,(ji ho he hl).1.mpr h,List.mem_map.mpr ⟨m.1,?_,rfl⟩⟩
  exact List.mem_filter.mpr ⟨a,List.any_eq_true.mpr ⟨m.1,b,by simp⟩⟩
theorem tA{os:List Int}(ho:os∈av):dQ (MM (aq log)) (MM (c6 rows os))=dT (cD (aq log)) os:=by
 rw[Bool.eq_iff_iff,yO,qK K h3]
 constructor
 ·intro h m hm
  exact((j7 K h3 ho).mp ((h m).mp hm)).3
 ·intro h m
  constructor
  ·intro hm
   obtain⟨a,b,_,l1,l2,_⟩:=K.of_mark h3 hm
   exact(j7 K h3 ho).mpr ⟨l1,l2,h m hm,b,a⟩
  ·intro hm
   obtain⟨l1,l2,q,a,b⟩:=(j7 K h3 ho).mp hm
   have ne:m.2.1≠m.2.2:=fun e=>by
    rw[e]at q
    exact(ji ho l2 l2).3 q
   rcases K.mark b a ne with r|r
   ·exact r
   ·exact absurd ⟨q,h _ r⟩ (ji ho l1 l2).2
end
theorem yP:∀a b c d e f:Bool,(a&&b)=false->(c&&d)=false->(e&&f)=false->(a&&e&&d)=false->(c&&f&&b)=false->
  (av.any fun os=>(!a||d9 os 0 1)&&(!b||d9 os 1 0)&&(!c||d9 os 0 2)&&(!d||d9 os 2 0)&&(!e||d9 os 1 2)&&(!f||d9 os 2 1))=true:=by decide +kernel
section
variable{ps:List Str}{g:Str->Str}{Bl:Str->Str->Prop}{rows:List (List ah)}{log:List (Str×Nat)}(T:gm ps g Bl)(K:fJ g rows true log)(W:za ps g rows)(h3:rows.length=3)
include T K W h3
theorem tW:av.any (dT (cD (aq log)))=true:=by
 classical
 have sw:∀i,i<3->aZ ps g (rows.getD i []):=fun i hi=>W i (by exact Nat.lt_of_lt_of_eq ‹_› (Eq.symm ‹_›))
 have two:∀i j,i<3->j<3->i≠j->(decide (dA rows log i j)&&decide (dA rows log j i))=false:=fun i j hi hj ne=>by
  rw[Bool.and_eq_false_iff,decide_eq_false_iff_not,decide_eq_false_iff_not]
  by_cases q:dA rows log i j
  ·exact .inr fun q'=>j2 T K.ok rfl (sw i hi) (sw j hj) ne q q'
  ·exact .inl q
 have three:∀i j k,i<3->j<3->k<3->i≠j->j≠k->k≠i->(decide (dA rows log i j)&&decide (dA rows log j k)&&decide (dA rows log k i))=false:=fun i j k hi hj hk n1 n2 n3=>by
  rw[Bool.eq_false_iff]
  intro q
  simp only[Bool.and_eq_true,decide_eq_true_eq]at q
  exact uN T K.ok rfl (sw i hi) (sw j hj) (sw k hk) n1 n2 n3 q.1.1 q.1.2 q.2
 have h:=yP _ _ _ _ _ _ (two 0 1 (by decide) (by decide) (by decide)) (two 0 2 (by decide) (by decide) (by decide)) (two 1 2 (by decide) (by decide) (by decide)) (three 0 1 2 (by decide) (by decide) (by decide) (by decide) (by decide) (by decide)) (three 0 2 1 (by decide) (by decide) (by decide) (by decide) (by decide) (by decide))
 obtain⟨os,ho,h⟩:=List.any_eq_true.mp h
 refine List.any_eq_true.mpr ⟨os,ho,(qK K h3 os).mpr fun m hm=>?_⟩
 obtain⟨a,b,ne,l1,l2,lt⟩:=K.of_mark h3 hm
 have ld:dA rows log m.2.1 m.2.2:=⟨m.1,a,b,lt⟩
 generalize m.2.1=e at*
 generalize m.2.2=l at*
 simp only[Bool.and_eq_true,Bool.or_eq_true,Bool.not_eq_eq_eq_not,Bool.not_true,decide_eq_false_iff_not]at h
 obtain⟨⟨⟨⟨⟨q1,q2⟩,q3⟩,q4⟩,q5⟩,q6⟩:=h
 have hc:(e=0/\l=1)\/(e=1/\l=0)\/(e=0/\l=2)\/(e=2/\l=0)\/(e=1/\l=2)\/(e=2/\l=1):=by exact Fd ‹_› ‹_› ‹_›
 rcases hc with⟨rfl,rfl⟩|⟨rfl,rfl⟩|⟨rfl,rfl⟩|⟨rfl,rfl⟩|⟨rfl,rfl⟩|⟨rfl,rfl⟩
 ·exact q1.resolve_left fun q=>q ld
 ·exact q2.resolve_left fun q=>q ld
 ·exact q3.resolve_left fun q=>q ld
 ·exact q4.resolve_left fun q=>q ld
 ·exact q5.resolve_left fun q=>q ld
 ·exact q6.resolve_left fun q=>q ld
end
noncomputable def jz:PyD->List PyD
 | .str s=>if(s.cps[0]?==some 43)=true then[.str (Txt.slice s (some 1) none)]else[]
 |_=>[]
noncomputable def qZ:PyD->List PyD
 | .list ds=>[.list (ds.flatMap jz)]
 |_=>[]
theorem nX(d:ah):((bZ d).cps[0]?==some 43)=d.1:=by
 rw[fQ]
 cases d.1<;>rfl
theorem mx(r:List ah):(DD r).flatMap jz=(aK r).map .str:=by
 induction r with
 |nil=>rfl
 |cons d r ih=>
  show jz (.str (bZ d)) ++(DD r).flatMap jz=_
  rw[ih]
  have e:jz (.str (bZ d))=if d.1=true then[PyD.str d.2]else[]:=by
   show(if((bZ d).cps[0]?==some 43)=true then[PyD.str (Txt.slice (bZ d) (some 1) none)]else[])=_
   rw[nX,eB]
  rw[e]
  unfold aK
  rw[List.filterMap_cons]
  by_cases q:d.1=true
  ·rw[if_pos q,if_pos q];rfl
  ·rw[if_neg q,if_neg q];rfl
theorem oo(rows:List (List ah)):(RR rows).flatMap qZ=TT rows:=by
 induction rows with
 |nil=>rfl
 |cons r rows ih=>
  show qZ (.list (DD r)) ++(RR rows).flatMap qZ=_
  rw[ih]
  show[PyD.list ((DD r).flatMap jz)] ++TT rows=_
  rw[mx];rfl
noncomputable def gx(ms:List bf)(oss:List (List Int)):List PyD:=oss.map fun O=>.bool (gt ms)
noncomputable def gp(ms:List bf)(rows:List (List ah)):PyD:=.tuple [.list (gx ms av),.list (av.flatMap (dB ms)),.list (av.flatMap (eV ms rows))]
section
variable{z:Bool}{o i r:Ep}{F F' F₀:Fg}{name:Str}{P:PX}{PV:Hp->Vl->Fg->Prop}{v:Vl}{N:LS->Fg->Prop}
theorem Bm{ms:List bf}{os:List Int}:(dB ms os).length<=1:=by unfold dB;split<;>simp
theorem Bx{ms:List bf}{rows:List (List ah)}{os:List Int}:(eV ms rows os).length<=1:=by unfold eV;split<;>simp
theorem l8(G:Gr KZ hg)(L:Nat){ms:List bf}{rows:List (List ah)}(R:gJ rows)(hm:∀m∈ms,dZ m.1)(hl:ms.length<=100000)(hw:cD ms∈dI):∀(oss:List (List Int))(a b c:List PyD),(∀os∈oss,os∈av)->a.length +oss.length<=10->b.length +oss.length<=10->c.length +oss.length<=10->
  dh hg false (n +8) (callEnvC bG.fd L 295) (dC (bw bG.body 4)) (bb (bw bG.body 4)) (sq ms rows a b c) (oss.map g8) (.next (sq ms rows (a ++gx ms oss) (b ++oss.flatMap (dB ms)) (c ++oss.flatMap (eV ms rows))))
 |[],a,b,c,_,_,_,_=>by
  rw[show gx ms []=[] from rfl,List.append_nil,List.flatMap_nil,List.flatMap_nil,List.append_nil,List.append_nil]
  exact .nil fun O O e=>e
 |os::oss,a,b,c,h,la,lb,lc=>by
  simp only[List.length_cons]at la lb lc
  have l1:=Bm (ms:=ms) (os:=os)
  have l2:=Bx (ms:=ms) (rows:=rows) (os:=os)
  have ih:=l8 G L R hm hl hw oss (a ++[.bool (gt ms)]) (b ++dB ms os) (c ++eV ms rows os) (fun x hx=>h x (.tail _ hx)) (by rw[List.length_append];simp;exact Co ‹_›) (by rw[List.length_append];exact Er ‹_› ‹_›) (by rw[List.length_append];exact Er ‹_› ‹_›)
  rw[List.append_assoc,List.append_assoc,List.append_assoc]at ih
  refine .next .name ?_ (sR G L R hm hl hw (h os (.head _)) (by exact jy ‹_›) (by exact jy ‹_›) (by exact jy ‹_›)) ih
  intro y hy
  rw(occs:=.all) [List.mem_singleton.mp hy]
  exact .inr ⟨rfl,_,rfl⟩
theorem fO{a b c:Int}{k1 k2 k3 k:Nat}{p1 p2 p3:Pos}:Ev hg n env ρ (.Tuple [.Constant (.int a) k1 p1,.Constant (.int b) k2 p2,.Constant (.int c) k3 p3] k pos) (RF (DV (g8 [a,b,c]))):=
 cW (ak aJ (ak aJ (ak aJ au)))
theorem Bc{t1:List Ep}{k1:Nat}{p1:Pos}{d1:PyD}{t2:List Ep}{k2:Nat}{p2:Pos}{d2:PyD}{t3:List Ep}{k3:Nat}{p3:Pos}{d3:PyD}{t4:List Ep}{k4:Nat}{p4:Pos}{d4:PyD}{t5:List Ep}{k5:Nat}{p5:Pos}{d5:PyD}{t6:List Ep}{k6:Nat}{p6:Pos}{d6:PyD}(h1:Ev hg n env ρ (.Tuple t1 k1 p1) (RF (DV d1)))(h2:Ev hg n env ρ (.Tuple t2 k2 p2) (RF (DV d2)))(h3:Ev hg n env ρ (.Tuple t3 k3 p3) (RF (DV d3)))(h4:Ev hg n env ρ (.Tuple t4 k4 p4) (RF (DV d4)))(h5:Ev hg n env ρ (.Tuple t5 k5 p5) (RF (DV d5)))(h6:Ev hg n env ρ (.Tuple t6 k6 p6) (RF (DV d6))):Ev hg n env ρ (.List [.Tuple t1 k1 p1,.Tuple t2 k2 p2,.Tuple t3 k3 p3,.Tuple t4 k4 p4,.Tuple t5 k5 p5,.Tuple t6 k6 p6] pos) (RF (DV (.list [d1,d2,d3,d4,d5,d6]))):=
 d8 (aO (ak h1 (ak h2 (ak h3 (ak h4 (ak h5 (ak h6 au rfl) rfl) rfl) rfl) rfl) rfl))
theorem zd{ρ1:LS}{ms:List bf}{rows:List (List ah)}(f1:ρ1.lookup ("rings":Str)=some (LV.own []))(f2:ρ1.lookup ("through":Str)=some (LV.own []))(f3:ρ1.lookup ("alike":Str)=some (LV.own []))
  (h1:ρ1.lookup ("waits":Str)=some (.fz (WD (cD ms))))(h2:ρ1.lookup ("marks":Str)=some (.fz (DV (.list (MM ms)))))(h3:ρ1.lookup ("taken":Str)=some (.fz (DV (.list (TT rows))))):cT (sq ms rows [] [] []) ρ1:=
 ⟨f1,f2,f3,h1,h2,h3,trivial⟩
theorem xU(L:Nat){ρ1:LS}{ms:List bf}{rows:List (List ah)}{ss:List Stmt}{o:kR}(sub:cT (sq ms rows [] [] []) ρ1)(h:Ex hg false (n +8) (callEnvC bG.fd L 295) (sq ms rows [] [] []) ss o):Ex hg false (n +8) (callEnvC bG.fd L 295) ρ1 ss o:=
 dN (cT.at sub) h
noncomputable def AZ:Stmt->Ep
 | .For _ it _ _ _=>it
 |_=>.Tuple [] 0 ⟨0,0,0,0⟩
noncomputable def bT:Ep->List Ep
 | .List es _=>es
 |_=>[]
noncomputable def gA:List Ep->Nat->Ep
 |[],_=>.Tuple [] 0 ⟨0,0,0,0⟩
 |e::_,0=>e
 |_::r,i +1=>gA r i
noncomputable def fE:Ep:=AZ (bw bG.body 4)
theorem xR:∃pos,fE= .List [gA (bT fE) 0,gA (bT fE) 1,gA (bT fE) 2,gA (bT fE) 3,gA (bT fE) 4,gA (bT fE) 5] pos:=⟨_,rfl⟩
theorem BZ(L:Nat):Ev hg (n +8) (callEnvC bG.fd L 295) ρ (gA (bT fE) 0) (RF (DV (g8 [0,1,2]))):=fO
theorem B5(L:Nat):Ev hg (n +8) (callEnvC bG.fd L 295) ρ (gA (bT fE) 1) (RF (DV (g8 [0,2,1]))):=fO
theorem BX(L:Nat):Ev hg (n +8) (callEnvC bG.fd L 295) ρ (gA (bT fE) 2) (RF (DV (g8 [1,0,2]))):=fO
theorem BJ(L:Nat):Ev hg (n +8) (callEnvC bG.fd L 295) ρ (gA (bT fE) 3) (RF (DV (g8 [1,2,0]))):=fO
theorem BQ(L:Nat):Ev hg (n +8) (callEnvC bG.fd L 295) ρ (gA (bT fE) 4) (RF (DV (g8 [2,0,1]))):=fO
theorem BW(L:Nat):Ev hg (n +8) (callEnvC bG.fd L 295) ρ (gA (bT fE) 5) (RF (DV (g8 [2,1,0]))):=fO
theorem BM:X3 fun t k q=>gA (bT fE) 0= .Tuple t k q:=⟨_,_,_,rfl⟩
theorem BN:X3 fun t k q=>gA (bT fE) 1= .Tuple t k q:=⟨_,_,_,rfl⟩
theorem BH:X3 fun t k q=>gA (bT fE) 2= .Tuple t k q:=⟨_,_,_,rfl⟩
theorem BU:X3 fun t k q=>gA (bT fE) 3= .Tuple t k q:=⟨_,_,_,rfl⟩
theorem BK:X3 fun t k q=>gA (bT fE) 4= .Tuple t k q:=⟨_,_,_,rfl⟩
theorem BI:X3 fun t k q=>gA (bT fE) 5= .Tuple t k q:=⟨_,_,_,rfl⟩
theorem B6:X2 fun x q=>dC (bw bG.body 4)= .Name x q:=⟨_,_,rfl⟩
theorem Ac:cz (dC (bw bG.body 4)):=by
 obtain⟨x,q,e⟩:=B6
 rw[e];trivial
theorem DT{e tgt:Ep}{ds:List PyD}(h:Ev hg n env ρ e (RF (DV (.list ds))))(ht:cz tgt):kP hg false n env ρ e tgt ds:=gY h ht
theorem Ca:∃q,bw bG.body 4= .For (dC (bw bG.body 4)) fE (bb (bw bG.body 4)) [] q:=⟨_,rfl⟩
theorem Bv{env:Env}:∀x,foldedSetIterable fE env x=pure x:=by
 obtain⟨q,e⟩:=xR
 rw[e]
 intro x;rfl
theorem EJ(L:Nat){o:kR}(lp:dh hg false (n +8) (callEnvC bG.fd L 295) (dC (bw bG.body 4)) (bb (bw bG.body 4)) ρ (av.map g8) o):X hg false (n +8) (callEnvC bG.fd L 295) ρ (bw bG.body 4) o:=by
 have h0:=BZ (hg:=hg) (n:=n) (ρ:=ρ) L
 have h1:=B5 (hg:=hg) (n:=n) (ρ:=ρ) L
 have h2:=BX (hg:=hg) (n:=n) (ρ:=ρ) L
 have h3:=BJ (hg:=hg) (n:=n) (ρ:=ρ) L
 have h4:=BQ (hg:=hg) (n:=n) (ρ:=ρ) L
 have h5:=BW (hg:=hg) (n:=n) (ρ:=ρ) L
 obtain⟨q,e⟩:=Ca
 have hs:=Bv (env:=callEnvC bG.fd L 295)
 obtain⟨pos,e'⟩:=xR
 obtain⟨t0,k0,q0,e0⟩:=BM
 obtain⟨t1,k1,q1,e1⟩:=BN
 obtain⟨t2,k2,q2,e2⟩:=BH
 obtain⟨t3,k3,q3,e3⟩:=BU
 obtain⟨t4,k4,q4,e4⟩:=BK
 obtain⟨t5,k5,q5,e5⟩:=BI
 rw[e0,e1,e2,e3,e4,e5]at e'
 rw[e0]at h0
 rw[e1]at h1
 rw[e2]at h2
 rw[e3]at h3
 rw[e4]at h4
 rw[e5]at h5
 have pl:=Ac
 rw[e']at e hs
 rw[e]
 generalize dC (bw bG.body 4)=tgt at lp pl⊢
 generalize bb (bw bG.body 4)=bd at lp⊢
 generalize callEnvC bG.fd L 295=env at lp hs h0 h1 h2 h3 h4 h5⊢
 exact gR (DT (Bc h0 h1 h2 h3 h4 h5) pl) lp hs
theorem pI(G:Gr KZ hg)(L:Nat){ms:List bf}{rows:List (List ah)}(R:gJ rows)(hm:∀m∈ms,dZ m.1)(hl:ms.length<=100000)(hw:cD ms∈dI):
  Ex hg false (n +8) (callEnvC bG.fd L 295) (sq ms rows [] [] []) [bw bG.body 4,bw bG.body 5] (.ret (RF (DV (gp ms rows)))):=by
 have lp:=l8 (n:=n) G L R hm hl hw av [] [] [] (fun O h=>h) (by decide) (by decide) (by decide)
 rw[List.nil_append,List.nil_append,List.nil_append]at lp
 unfold gp
 generalize gx ms av=r1 at lp⊢
 generalize av.flatMap (dB ms)=r2 at lp⊢
 generalize av.flatMap (eV ms rows)=r3 at lp⊢
 exact @ac _ _ _ _ _ _ _ _ _ (@EJ _ _ _ L _ lp) (aY (oW rfl rfl rfl) rfl)
theorem pq(L:Nat){o:kR}{ss:List Stmt}(h:Ex hg false (n +8) (callEnvC bG.fd L 295) ((("rings":Str),LV.own [])::(("through":Str),LV.own [])::(("alike":Str),LV.own [])::ρ) ss o):
  Ex hg false (n +8) (callEnvC bG.fd L 295) ρ (bw bG.body 3::ss) o:=by
 refine ac (ρ1:=(("rings":Str),LV.own [])::(("through":Str),LV.own [])::(("alike":Str),LV.own [])::ρ) (AN (xs:=["rings","through","alike"]) (Ks:=[.own [],.own [],.own []]) (ej (aO au) (ej (aO au) (ej (aO au) lw))) rfl ?_) h
 exact nB (.inl rfl) (.inl rfl) (.inl rfl)
theorem sh(G:Gr KZ hg)(L:Nat){ms:List bf}{rows:List (List ah)}(R:gJ rows)(hm:∀m∈ms,dZ m.1)(hl:ms.length<=100000)(hw:cD ms∈dI)
  (h1:ρ.lookup ("waits":Str)=some (.fz (WD (cD ms))))(h2:ρ.lookup ("marks":Str)=some (.fz (DV (.list (MM ms)))))(h3:ρ.lookup ("taken":Str)=some (.fz (DV (.list (TT rows))))):
  Ex hg false (n +8) (callEnvC bG.fd L 295) ρ [bw bG.body 3,bw bG.body 4,bw bG.body 5] (.ret (RF (DV (gp ms rows)))):=by
 have low:∀{y:Str}{lv:LV},y≠"rings"->y≠"through"->y≠"alike"->ρ.lookup y=some lv->List.lookup y ((("rings":Str),LV.own [])::(("through":Str),LV.own [])::(("alike":Str),LV.own [])::ρ)=some lv:=fun a b c e=>by
  rw[aw,if_neg a,aw,if_neg b,aw,if_neg c];exact e
 have s1:=zd (ms:=ms) (rows:=rows) (ρ1:=(("rings":Str),LV.own [])::(("through":Str),LV.own [])::(("alike":Str),LV.own [])::ρ) rfl rfl rfl (low (by decide) (by decide) (by decide) h1) (low (by decide) (by decide) (by decide) h2) (low (by decide) (by decide) (by decide) h3)
 exact @pq _ _ _ L _ _ (@xU _ _ L _ _ _ _ _ s1 (@pI _ _ G L _ _ R hm hl hw))
end
section
variable{z:Bool}{o i r:Ep}{F F' F₀:Fg}{name:Str}{P:PX}{PV:Hp->Vl->Fg->Prop}{v:Vl}{N:LS->Fg->Prop}
theorem pw(L:Nat){rows:List (List ah)}(hz:rows.length<=1000)(hr:∀r∈rows,r.length<=1000/\∀d∈r,dZ d.2)(h1:ρ.lookup ("rows":Str)=some (.fz (DV (.list (RR rows))))):
  X hg false (n +8) (callEnvC bG.fd L 295) ρ (bw bG.body 0) (.next (("taken",.fz (DV (.list (TT rows))))::ρ)):=by
 rw[<-oo]
 refine bS (F:=DV (.list ((RR rows).flatMap qZ))) (d8 (dw (item:=qZ) (ρc:=[]) bv (bo (ds:=RR rows) (bL (aa h1))) rfl (fun O q=>by cases q) ?_ ?_)) (.inr ⟨rfl,_,rfl⟩)
 ·intro C d hd
  obtain⟨r,hr',rfl⟩:=List.mem_map.mp hd
  obtain⟨l1,l2⟩:=hr r hr'
  show X2 fun σ b=>cn _ _ _ _ _ _ _ (.list (DD r)) [.list ((DD r).flatMap jz)] σ b
  refine b9 .name ?_ (fun O O e=>by cases e) (d8 (dw (ρc:=[]) bv (bo (ds:=DD r) (bL (aa rfl))) rfl (fun O q=>by cases q) ?_ ?_))
  ·exact cG rfl
  ·intro C' d hd
   obtain⟨d,hd',rfl⟩:=List.mem_map.mp hd
   have e1:jz (.str (bZ d))=if d.1=true then[PyD.str d.2]else[]:=by
    show(if((bZ d).cps[0]?==some 43)=true then[PyD.str (Txt.slice (bZ d) (some 1) none)]else[])=_
    rw[nX,eB]
   show X2 fun σ b=>cn _ _ _ _ _ _ _ (.str (bZ d)) (jz (.str (bZ d))) σ b
   rw[e1]
   refine eg .name ?_ (fun O O e=>by cases e) (pF rfl) fun O=>jc rfl (l2 d hd')
   exact cG rfl
  ·rw[mx,List.length_map]
   have:(aK r).length<=r.length:=by unfold aK;exact List.length_filterMap_le _ _
   exact Nat.le_trans ‹_› (Nat.le_trans ‹_› (by decide))
 ·rw[oo];unfold TT;rw[List.length_map];exact Nat.le_trans ‹_› (by decide)
end
section
variable{z:Bool}{o i r:Ep}{F F' F₀:Fg}{name:Str}{P:PX}{PV:Hp->Vl->Fg->Prop}{v:Vl}{N:LS->Fg->Prop}
theorem uu(G:Gr KZ hg)(L:Nat){ms:List bf}(hz:ms.length<=100000){d:Ad}{od:Obj}(lo:(d==sysModules)=false)(hd0:F d=some od)(hd:od.IsDictOf (intKind PG W0) [])(no:ar ρ)(h1:aU ρ "waits" (WK d [] []))(h2:aU ρ "marks" (DV (.list (MM ms)))){T:FP}(h3:aU ρ "taken" T)
  (hN:∀ρ' F' kvs o',ar ρ'->aU ρ' "waits" (WK d kvs (cD ms))->aU ρ' "marks" (DV (.list (MM ms)))->aU ρ' "taken" T->F' d=some o'->o'.IsDictOf (intKind PG W0) kvs->N ρ' F'):
  XX hg (n +4) (callEnvC bG.fd L 295) F ρ (bw bG.body 2) {next:=N}:=by
 refine lB (vG (N:=3) (aV (fun hp a b=>bg (hO G a) rfl rfl rfl (by decide)) fA)) ?_
 rintro hb v F' ⟨rfl,rg,t,u,w',rfl,hr⟩
 refine⟨3,fun i ρ1 F₁=>ar ρ1/\X2 fun kvs o'=>A6 (aU ρ1 "waits" (WK d kvs ((cD ms).take i))) (aU ρ1 "marks" (DV (.list (MM ms)))) (aU ρ1 "taken" T) (F₁ d=some o') (o'.IsDictOf (intKind PG W0) kvs) (kvs.map (·.1)=(List.range i).map fun h=>((h:Nat):Int)),_,_,_,⟨no,[],od,h1,h2,h3,hd0,hd,rfl⟩,vE (t:=t) (u:=u) (v:=w') (by decide),?_,?_,?_⟩
 ·intro hb1 F₁ hm h ρ1 i kb kb' B _
  exact B.sub _ _ (kb' _ _ (kb _ _ hr))
 ·rintro i ρ1 F₁ ⟨no1,kvs,o',g1,g2,g3,e1,e2,e3⟩ hi
  refine⟨_,fun hb1 k=>jW (.inr ⟨rfl,_,rfl⟩) no1,?_⟩
  rintro ρ2 ⟨_,v,⟨t,rfl⟩,rfl⟩
  have no2:ar ((("hand":Str),LV.fz (RV (Vl.int (i:Int) t)))::ρ1):=an no1
  have hi3:i<(cD ms).length:=by unfold cD;simpa using hi
  have hget:(cD ms)[i]?=some (((i:Nat):Int),w0 ms i):=by unfold cD;rw[List.getElem?_map,List.getElem?_range hi];rfl
  have nk:((i:Nat):Int)∉kvs.map (·.1):=by
   rw[e3];intro h
   obtain⟨j,hj,e⟩:=List.mem_map.mp h
   have:=List.mem_range.mp hj
   omega
  refine ad (tS (x:="waits") (G:=WK d kvs ((cD ms).take i)) (PE:=fun hb v F'=>F'=F₁/\(DV (.list (aG (w0 ms i)))).P hb v) g1 (qV (ns:=w0 ms i) (fun hp a b=>De (hO G a) hz rfl g2) fun ra g'=>eZ (fY ra.choose_spec) g') ?_) fun O O h=>aP h
  rintro h v F2 ⟨rfl,hv⟩
  refine⟨d,o',kvs,((i:Nat):Int),fun hp a b=>?_,fun hp a b=>?_,e1,e2,?_,WK d (kvs ++[(((i:Nat):Int),v)]) ((cD ms).take (i +1)),fun u hu=>⟨hu.1,?_⟩,fun o'' hd'=>?_⟩
  ·refine Ev.weak (R:=RF (WK d kvs ((cD ms).take i))) (aa g1) fun st r=>⟨_,st,?_⟩
   exact r.1
  ·exact(aa (F:=RV (Vl.int (i:Int) t)) rfl).weak fun st r=>⟨_,st,by obtain rfl:_=Vl.int (i:Int) t:=r;exact cQ⟩
  ·have:kvs.length=(kvs.map (·.1)).length:=by rw[List.length_map]
   rw[this,e3];simp;omega
  ·rw[List.take_succ,hget]
   exact hu.2.snoc hv
  ·rw[jo nk]at hd'
   refine⟨an no2,_,o'',rfl,g2,g3,Fg.put_same _ _ _,hd',?_⟩
   rw[List.map_append,e3,List.range_succ,List.map_append];rfl
 ·rintro ρ1 F₁ ⟨no1,kvs,o',g1,g2,g3,e1,e2,e3⟩
  have:(cD ms).take 3=cD ms:=List.take_of_length_le (by unfold cD;simp)
  rw[this]at g1
  exact hN ρ1 F₁ kvs o' no1 g1 g2 g3 e1 e2
end
theorem qW(G:Gr KZ hg){ms:List bf}{rows:List (List ah)}(R:gJ rows)(hr:∀r∈rows,r.length<=1000/\∀d∈r,dZ d.2)(hm:∀m∈ms,dZ m.1)(hl:ms.length<=100000)(hw:cD ms∈dI):
  fK hg (n +9) (fun O=>none) (.ref 295) [DV (.list (RR rows)),DV (.list (MM ms))] fun hb v O=>(DV (gp ms rows)).P hb v:=by
 refine fG G bG ["rows","marks"] [DV (.list (RR rows)),DV (.list (MM ms))] _ _ (ct rfl fun vs h=>by obtain⟨_,_,rfl⟩:=wD h;rfl) (fun L=>fL (.inl rfl) (.inl rfl)) fun L=>?_
 have no:ar (bz ["rows","marks"] [DV (.list (RR rows)),DV (.list (MM ms))]):=bK _ _
 refine ad (N:=fun ρ1 F₁=>A4 (F₁=(fun O=>none)) (ar ρ1) (aU ρ1 "taken" (DV (.list (TT rows)))) (aU ρ1 "marks" (DV (.list (MM ms))))) (zU (pw L (by rw[R.n];decide) hr rfl) ⟨rfl,an no,rfl,rfl⟩) ?_
 rintro ρ1 F₁ ⟨rfl,no1,h1,h2⟩
 refine ad (N:=fun ρ2 F2=>∃d,A6 ((d==sysModules)=false) (F2 d=some emptyDict) (ar ρ2) (aU ρ2 "waits" (WK d [] [])) (aU ρ2 "taken" (DV (.list (TT rows)))) (aU ρ2 "marks" (DV (.list (MM ms))))) (cE (j8 G) (.inl rfl) no1 ?_) ?_
 ·rintro h v F' ⟨d,rfl,fd,lo,rfl⟩
  exact⟨WK d [] [],⟨rfl,trivial⟩,d,lo,Fg.put_same _ _ _,an no1,rfl,h1,h2⟩
 rintro ρ2 F2 ⟨d,lo,hd0,no2,g1,g2,g3⟩
 refine ad (N:=fun ρ3 F3=>X2 fun kvs o'=>A6 (ar ρ3) (aU ρ3 "waits" (WK d kvs (cD ms))) (aU ρ3 "marks" (DV (.list (MM ms)))) (aU ρ3 "taken" (DV (.list (TT rows)))) (F3 d=some o') (o'.IsDictOf (intKind PG W0) kvs))
  (uu (n:=n +4) G L hl lo hd0 ⟨#[],0,⟨rfl,rfl,rfl⟩,rfl,fun e he=>(by simp at he),.nil,List.nodup_nil⟩ no2 g1 g3 g2 fun ρ' F' kvs o' a b c d e f=>⟨kvs,o',a,b,c,d,e,f⟩).up ?_
 rintro ρ3 F3 ⟨kvs,o',no3,r1,r2,r3,e1,e2⟩
 exact tg (z:=false) (x:="waits") (G:=WK d kvs (cD ms)) (G':=WD (cD ms)) (R:=RF (DV (gp ms rows))) no3 r1 (fun hb hp u k kF q=>⟨d,q.1,lo,o',kvs,kF _ _ e1,e2,q.2.up (fB k)⟩) (sh G L R hm hl hw rfl r2 r3) (fun h hb h' v q=>q) rfl
theorem cV:Slot "map" "__next__" "map.__next__":=
 .of (owner:="map") (n:="__next__") (by rw[typeLookup_type,builtinLookup_eq_fast];kernel_rfl) (by decide +kernel) (by decide +kernel) (by decide +kernel)
  (by first|exact .inl (by decide +kernel)|exact .inr (by decide +kernel)) (by rw[isSubtype_type];kernel_rfl)
theorem iH:Slot "map" "__iter__" "map.__iter__":=
 .of (owner:="map") (n:="__iter__") (by rw[typeLookup_type,builtinLookup_eq_fast];kernel_rfl) (by decide +kernel) (by decide +kernel) (by decide +kernel)
  (by first|exact .inl (by decide +kernel)|exact .inr (by decide +kernel)) (by rw[isSubtype_type];kernel_rfl)
theorem m8:Slot "map" "__init__" "object.__init__":=
 .of (owner:="object") (n:="__init__") (by rw[typeLookup_type,builtinLookup_eq_fast];kernel_rfl) (by decide +kernel) (by decide +kernel) (by decide +kernel)
  (by first|exact .inl (by decide +kernel)|exact .inr (by decide +kernel)) (by rw[isSubtype_type];kernel_rfl)
theorem gT:entryFor table "map.__next__"=some Builtin.«map.__next__»:=entryFor_of_tree (by kernel_rfl)
theorem oA:Manifest.owners.lookup (String.ofList ['p','a','m'].reverse)=some Manifest.sig_map:=by kernel_rfl
theorem gK(a:Vl):argsOk "map.__next__" ⟨[a],[]⟩:=by
 unfold argsOk;rw[signature?_of (id:="map.__next__") (n:=['_','_','t','x','e','n','_','_']) (o:=['p','a','m']) (by kernel_rfl) oA];kernel_rfl
theorem mR:entryFor table "map.__iter__"=some Builtin.«dict_keyiterator.__iter__»:=
 entryFor_alias (id':="dict_keyiterator.__iter__") (by kernel_rfl) (by first|rfl|decide +kernel|(unfold String.splitOn;simp +decide [String.splitOnAux])) (by decide +kernel) (by kernel_rfl)
theorem lg(a:Vl):argsOk "map.__iter__" ⟨[a],[]⟩:=by
 unfold argsOk;rw[signature?_of (id:="map.__iter__") (n:=['_','_','r','e','t','i','_','_']) (o:=['p','a','m']) (by kernel_rfl) oA];kernel_rfl
theorem va:mroOf (.type "map")=pure [.type "map",.type "object"]:=by rw[mroOf_type];kernel_rfl
theorem lD:typeLookup (.type "map") "__new__"=pure (some (.builtin "map.__new__")):=by rw[typeLookup_type,builtinLookup_eq_fast];kernel_rfl
theorem ue:TypeCalled "map" "map.__new__" "object.__init__":=
 ⟨by decide +kernel,by decide +kernel,⟨_,_,va⟩,madeBy_type va lD (by decide +kernel),by decide +kernel,by rw[isSubtype_type];kernel_rfl,m8⟩
theorem mh(a b:Vl):checkTypeCall "map" ⟨[a,b],[]⟩=pure ():=by kernel_rfl
theorem m4(a b:Vl):checkBuiltinCall "map.__new__" ⟨[.type "map",a,b],[]⟩=pure ():=by kernel_rfl
theorem na:entryFor table "map.__new__"=some Builtin.«map.__new__»:=entryFor_of_tree (by kernel_rfl)
theorem wc:typeLookup (.type "map") "__len__"=pure none:=by rw[typeLookup_type,builtinLookup_eq_fast];kernel_rfl
theorem sU:typeLookup (.type "map") "__length_hint__"=pure none:=by rw[typeLookup_type,builtinLookup_eq_fast];kernel_rfl
theorem zl:isSubtype (.type "map") (.type "map")=pure true:=by rw[isSubtype_type];kernel_rfl
theorem ni(f:Vl)(l:Ad)(o:Obj)(hc:o.cls= .type "list")(items:Array Vl)(n:Nat)(hd:o.data= .seq items n):
  Meets (Builtin.«map.__new__» ⟨[.type "map",f,.ref l],[]⟩) (fun O R s=>s.heap.get? l=some o/\∀h' I T M,h'.IsListIter I l 0->h'.IsTuple T #[.ref I]->h'.get? M=some {cls:=.type "map",data:=.fields #[.ref T,f]}->s.heap.get? I=none->s.heap.get? M=none->
   (∀b o,s.heap.get? b=some o->h'.get? b=some o)->R (.ok (.ret (.ref M))) {s with heap:=h'}):=
 .of_wp fun pg wd A R s h=>by
  obtain⟨hp,g,d,tk,os⟩:=s;obtain⟨hl,h⟩:=h
  have hsub:=zl
  have hL:Hp.IsList (SD.heap ⟨hp,g,d,tk,os⟩) l items:=⟨_,hl,hc,n,hd⟩
  wp_walk using wpAny_pyIter_list hL
  have no:∀(h:Hp),h.get? h.objs.size=none:=fun h=>by
   cases e:h.get? h.objs.size with
   |none=>rfl
   |some o=>exact absurd (Hp.lt_size e) (Nat.lt_irrefl _)
  refine⟨_,rfl,h _ hp.objs.size _ _ ⟨_,Hp.get?_push_of_some _ (Hp.get?_push_of_some _ (Hp.get?_push_size _ rfl)),rfl,rfl⟩ ⟨_,Hp.get?_push_of_some _ (Hp.get?_push_size _ rfl),rfl,_,rfl⟩ (Hp.get?_push_size _ rfl) (no hp) ?_ fun b o e=>Hp.get?_push_of_some _ (Hp.get?_push_of_some _ (Hp.get?_push_of_some _ e))⟩
  cases e:hp.get? _ with
  |none=>rfl
  |some o=>
   have:=Hp.lt_size e
   rw[Hp.size_push,Hp.size_push]at this
   exact absurd this (by show¬hp.objs.size +1 +1<hp.objs.size;omega)
section
variable{A:Ar}{E:VS}{s:SD}
theorem yX{f:Vl}{l:Ad}{items:Array Vl}{Q:VS}(hL:s.heap.IsList l items)
  (h:∀h' I T M,h'.IsListIter I l 0->h'.IsTuple T #[.ref I]->h'.get? M=some {cls:=.type "map",data:=.fields #[.ref T,f]}->s.heap.get? I=none->s.heap.get? M=none->
   (∀b o,s.heap.get? b=some o->h'.get? b=some o)->Q (.ref M) {s with heap:=h'}):
  wA MD A (call (.type "map") [f,.ref l]) Q E s:=by
 obtain⟨o,hl,hc,n,hd⟩:=hL
 exact callType_new ue (by decide) (mh _ _) (m4 _ _) (fun obj=>F.args_object_init_3 obj _ _) na
  (ni f l o hc items n hd) ⟨hl,fun h' I T M a b c d e k=>⟨⟨_,c,rfl⟩,h h' I T M a b c d e k⟩⟩
structure iI(h:Hp)(M T I l:Ad)(f:Vl)(vs:Array Vl)(i:Nat):Prop where
 m:∃o,h.get? M=some o/\o.cls= .type "map"/\o.data= .fields #[.ref T,f]
 t:h.IsTuple T #[.ref I]
 i:h.IsListIter I l i
 l:h.IsList l vs
theorem tU{M T I l:Ad}{f:Vl}{vs:Array Vl}{i:Nat}{Q:VS}(he:iI s.heap M T I l f vs i)(h:Q (.ref M) s):wA MD A (pyIter (.ref M)) Q E s:=by
 obtain⟨o,ho,hc,hd⟩:=he.m
 have hT:s.TypeIs (.ref M) "map":=⟨_,ho,hc⟩
 refine wpAny_pyIter_slot hT iH (wpAny_call_entry iH hT mR ?_ (lg _))
 show wA _ _ (ret (.ref M)) _ _ s
 exact wP ⟨_,rfl,"map",_,hT,cV.lookup,h⟩
end
theorem tN{h h':Hp}{a:Ad}{vs:Array Vl}(k:h.UpToSlots h')(x:h.IsTuple a vs):h'.IsTuple a vs:=by
 obtain⟨o,ho,hc,n,hd⟩:=x
 obtain⟨sl,e⟩:=k a o ho (fun O q=>by rw[hd]at q;cases q)
 exact⟨_,e,hc,n,hd⟩
theorem br.in'{A A':Ar}{fr:List Env}{n:Nat}(o:br A fr (n +1))(h:A'.handled=A.handled)(d:A'.depth=A.depth)(f:A'.frames=A.frames)(u:A'.units<=A.units +100):br A' fr n:=
 ⟨h.trans o.h,by have:=o.d;exact Eu ‹_› ‹_›,by have:=o.u;exact Fk ‹_› ‹_›,f.trans o.f⟩
section
variable{A A':Ar}{E:VS}{fr:List Env}
theorem xc{M T I l:Ad}{f:Vl}{vs:Array Vl}{i:Nat}{d d':PyD}{x:Vl}{hb:Hp}{s:SD}{Q:Option Vl->SD->Prop}(F:gO hg n f [rF (DV d)] (RF (DV d')))(ok:br A.in1 fr n)(sg:hg.StaysIn hb)(sb:hb.StaysIn s.heap)(ff:s.heap.FunFrames hb fr)
  (he:iI s.heap M T I l f vs i)(hx:vs[i]?=some x)(rx:RD hb x d)(m0:hb.get? M=none)(i0:hb.get? I=none)
  (hQ:∀v h' hb' tk,ay s.heap hb h' hb'->iI h' M T I l f vs (i +1)->hb'.get? M=none->hb'.get? I=none->RD hb' v d'->Q (some v) (aA s h' tk)):wA MD A (pyNext (.ref M)) Q E s:=by
 obtain⟨⟨o,ho,hc,hd⟩,ht,hi,hl⟩:=he
 have hT:s.TypeIs (.ref M) "map":=⟨_,ho,hc⟩
 obtain⟨ot,hot,hct,nt,hdt⟩:=id ht
 obtain⟨oi,hoi,hci,hdi⟩:=id hi
 obtain⟨ol,hol,hcl,nl,hdl⟩:=id hl
 unfold pyNext
 refine wBi (wpAny_attempt (wpAny_callSpecial?_slot (name:=Str.ofString "__next__") hT cV
  (wpAny_call_entry cV hT gT ?_ (gK _))))
 show wA _ _ (field (.ref M) 0>>=_) _ _ _
 refine wBi (wpAny_field ho hd (x:=.ref T) rfl ?_)
 show wA _ _ (seqItems? (.ref T)>>=_) _ _ s
 refine wBi (wpAny_seqItems hot hdt ?_)
 refine wBi ?_
 simp only[List.forIn_toArray,List.forIn_cons,List.forIn_nil]
 refine wBi (wBi (wpAny_holding (wpAny_nextOf_list_item hi hl hx fun h₁ hi1 hs1=>wP (wP ?_))))
 have hIM:M≠I:=fun e=>by
  subst e
  rw[ho]at hoi;injection hoi with hoi;subst hoi
  rw[hc]at hci;injection hci with hci;exact absurd hci (by decide)
 have hIl:l≠I:=fun e=>by
  subst e
  rw[hol]at hoi;injection hoi with hoi;subst hoi
  rw[hdl]at hdi;cases hdi
 have hIT:T≠I:=fun e=>by
  subst e
  rw[hot]at hoi;injection hoi with hoi;subst hoi
  rw[hdt]at hdi;cases hdi
 have k1:∀b o,b≠I->s.heap.get? b=some o->h₁.get? b=some o:=hs1.extBut
 have st1:ay s.heap hb h₁ hb:=cZ (wr:=[I]) sb (fun b o q=>k1 b o fun z=>q (by simp[z])) (fun b q=>by rw[List.mem_singleton.mp q];exact⟨_,_,hoi,hdi⟩) (fun b q=>by rw[List.mem_singleton.mp q];exact i0)
 obtain⟨oi1,hoi1,hci1,hdi1⟩:=id hi1
 have hm1:=k1 M o hIM ho
 show wA _ _ (field (.ref M) 1>>=_) _ _ {s with heap:=h₁}
 refine wBi (wpAny_field hm1 hd (x:=f) rfl ?_)
 obtain⟨hb2,st2,a1,a2⟩:=iV st1.up (fun b o e=>st1.stay b o (st1.sub b o e)) (fun a=>a=M\/a=I) (fun a q=>by
  rcases q with rfl|rfl
  ·intro o' ho'
   rw[ho]at ho';injection ho' with ho';subst ho'
   exact⟨_,hd⟩
  ·intro o' ho'
   rw[hoi]at ho';injection ho' with ho';subst ho'
   exact⟨_,hdi⟩)
 refine wBi (wpAny_holding (F A.in1 fr s.heap hb2 {s with heap:=h₁} [x] _ _ ok (fun b o e=>st2.sub b o (sg b o e)) st2.stay (st2.frames ff) (.cons ((rx.keeps st2.sub)) .nil) fun v h3 hb3 tk3 st3 rv=>?_))
 refine wBi (wpAny_letGo (wP ⟨_,rfl,wP ?_⟩))
 have sM:=st3.stay M o (st3.sub M o ((a1 M (.inl rfl)).trans hm1))
 have sI:=st3.stay I oi1 (st3.sub I oi1 ((a1 I (.inr rfl)).trans hoi1))
 obtain⟨g,g1,g2,g3,g4⟩:=fR (hb:=hb3) (h:=h3) [M,I] (fun b q=>by
  simp only[List.mem_cons,List.not_mem_nil,or_false]at q
  rcases q with rfl|rfl
  ·exact⟨_,_,sM,hd⟩
  ·exact⟨_,_,sI,hdi1⟩) st3.stay
 have b2g:hb.StaysIn g:=fun b o e=>by
  rw[g4 b (fun q=>by
   simp only[List.mem_cons,List.not_mem_nil,or_false]at q
   rcases q with rfl|rfl
   ·rw[m0]at e;cases e
   ·rw[i0]at e;cases e)]
  exact st3.sub b o (st2.sub b o e)
 have st:ay s.heap hb h3 g:=⟨st1.up.trans st3.up,b2g,fun b o e=>st3.stay b o (g1 b o e),fun a oa ha hda e=>by
  obtain⟨sl,e'⟩:=st1.up a oa ha hda
  exact am g1 (st3.fresh a _ e' hda (st2.fresh a oa ha hda e))⟩
 exact hQ v h3 g tk3 st ⟨⟨o,sM,hc,hd⟩,tN st.up ht,⟨oi1,sI,hci1,hdi1⟩,fU st.up hl⟩ (g3 M (by simp)) (g3 I (by simp)) (rv.imp fun O r=>mf g2.up r)
theorem xi{M T I l:Ad}{f:Vl}{vs:Array Vl}{i:Nat}{s:SD}{Q:Option Vl->SD->Prop}(hh:A.handled=none)(he:iI s.heap M T I l f vs i)(hx:vs[i]?=none)
  (hQ:∀h',Hp.ExtBut I s.heap h'->Q none {s with heap:=h'}):wA MD A (pyNext (.ref M)) Q E s:=by
 obtain⟨⟨o,ho,hc,hd⟩,ht,hi,hl⟩:=he
 have hT:s.TypeIs (.ref M) "map":=⟨_,ho,hc⟩
 obtain⟨ot,hot,hct,nt,hdt⟩:=id ht
 unfold pyNext
 refine wBi (wpAny_attempt (wpAny_callSpecial?_slot (name:=Str.ofString "__next__") hT cV
  (wpAny_call_entry cV hT gT ?_ (gK _))))
 show wA _ _ (field (.ref M) 0>>=_) _ _ _
 refine wBi (wpAny_field ho hd (x:=.ref T) rfl ?_)
 show wA _ _ (seqItems? (.ref T)>>=_) _ _ s
 refine wBi (wpAny_seqItems hot hdt ?_)
 refine wBi ?_
 simp only[List.forIn_toArray,List.forIn_cons,List.forIn_nil]
 refine wBi (wBi (wpAny_holding (wpAny_nextOf_list_end hh hi hl hx fun h' x he' hx'=>?_)))
 obtain⟨o,ho,hc⟩:=hx'
 refine wBi (wpAny_isInstance (T:="StopIteration") (b:=true) ⟨o,ho,hc⟩ isSubtype_stop ?_)
 exact wP (hQ _ he')
end
section
variable{A:Ar}{E:VS}{fr:List Env}{M T I l:Ad}{f:Vl}{vs:Array Vl}{ds:List PyD}
structure BO(hg h₀ hb₀:Hp)(M T I l:Ad)(f:Vl)(vs:Array Vl)(ds:List PyD)(S:Ad)(hb h:Hp)(i:Nat):Prop where
 st:ay h₀ hb₀ h hb
 g:hg.StaysIn hb
 at':iI h M T I l f vs i
 m0:hb.get? M=none
 i0:hb.get? I=none
 s0:hb.get? S=none
 sn:eO h₀ S
 sl:S≠l
 vs:RA hb vs.toList ds
 acc:∃ys,PL h S ys/\RA hb ys.toList (ds.take i)
theorem rZ(Fs:∀d∈ds,gO hg n f [rF (DV d)] (RF (DV d)))(hh:A.handled=none)(ok:br A.in1.in1 fr n){S:Ad}{res:Vl}{h₀ hb₀:Hp}(ff:h₀.FunFrames hb₀ fr)(hz:ds.length<=1000000){R:Result->SD->Prop}:∀(k i:Nat)(hb:Hp)(s:SD),ds.length - i=k->i<=ds.length->BO hg h₀ hb₀ M T I l f vs ds S hb s.heap i->
  (∀h' hb' tk ys,ay h₀ hb₀ h' hb'->PL h' S ys->RA hb' ys.toList ds->R (.ok (.ret res)) (aA s h' tk))->codeAny MD A (.builtin "list.extend.loop" ⟨[.ref S,.ref M,res],[]⟩) R s
 |0,i,hb,s,hk,hi,J,hR=>by
  obtain rfl:i=ds.length:=by exact o7 ‹_› ‹_›
  refine codeAny_builtin F.entry_extend_loop ?_
  rw[Ar.under_plainId F.plain_extend_loop _]
  show wA _ A.in1 (pyNext (.ref M)>>=_) _ _ s
  have hx:vs[ds.length]?=none:=by
   have:=J.vs.length
   simp only[Array.length_toList]at this
   simp[this]
  obtain⟨st,g,⟨m,t,it,lt⟩,m0,i0,s0,sn,sl,vs',ys,p,r⟩:=J
  obtain⟨oi,hoi,hci,hdi⟩:=id it
  have nI:eO h₀ I:=fun o ho=>Classical.byContradiction fun hn=>by
   obtain⟨sl,e⟩:=st.up I o ho fun vs q=>hn ⟨vs,q⟩
   rw[hoi]at e;injection e with e
   exact hn ⟨_,by rw[e]at hdi;exact hdi⟩
  refine wBi (xi (A:=A.in1) hh ⟨m,t,it,lt⟩ hx fun h' k'=>wP (hR h' hb s.toks ys (et st nI i0 k') ?_ ?_))
  ·obtain⟨o,ho,hc,hq,n,hd⟩:=p
   exact⟨o,k' S o (fun e=>by subst e;rw[hoi]at ho;injection ho with ho;subst ho;rw[hd]at hdi;cases hdi) ho,hc,hq,n,hd⟩
  ·rwa [List.take_length]at r
 |k +1,i,hb,s,hk,hi,J,hR=>by
  have hlt:i<ds.length:=by exact Nat.lt_of_sub_eq_succ ‹_›
  refine codeAny_builtin F.entry_extend_loop ?_
  rw[Ar.under_plainId F.plain_extend_loop _]
  show wA _ A.in1 (pyNext (.ref M)>>=_) _ _ s
  obtain⟨st,g,at',m0,i0,s0,sn,sl,vs',ys,p,r⟩:=J
  obtain⟨x,hx,rx⟩:=vs'.get (List.getElem?_eq_getElem hlt)
  refine wBi (xc (Fs _ (List.getElem_mem hlt)) ok g st.stay (st.frames ff) at' (by simpa using hx) rx m0 i0 fun v h₁ hb1 tk1 st1 at1 m1 i1 rv=>?_)
  have p1:=p.up st1.up
  obtain⟨o,ho,hc,hq,c,hd⟩:=id p
  obtain⟨⟨_,_,_,_⟩,hoS,rfl,rfl,cS,rfl⟩:=id p1
  have s₁:hb1.get? S=none:=st1.fresh S o ho (fun O q=>by rw[hd]at q;cases q) s0
  have r1:RA hb1 ys.toList (ds.take i):=r.keeps st1.sub
  have hl:ys.size=i:=by
   have:=r1.length
   simp only[Array.length_toList,List.length_take]at this
   exact FR ‹_› ‹_›
  show wA _ A.in1 (updateSeq S (·.push v)>>=_) _ _ _
  have uS:=Hp.get?_update_self (Obj.mapSeq (·.push v)) hoS rfl
  have uo:∀b o,b≠S->h₁.get? b=some o->(h₁.update S (Obj.mapSeq (·.push v))).get? b=some o:=fun b o q e=>(Hp.get?_update_other _ _ (Ne.symm q)).trans e
  refine wBi (wpAny_updateSeq hoS rfl (wP ⟨plainId_quiet F.plain_extend_loop _,rZ Fs hh ok ff hz k (i +1) hb1 _ (by exact o1 ‹_›) hlt ?_ fun h' hb' tk zs a b c=>hR h' hb' tk zs a b c⟩) ?_ ?_)
  ·obtain⟨⟨om,hom,hcm,hdm⟩,⟨ot,hot,hct,nt,hdt⟩,⟨oi,hoi,hci,hdi⟩,⟨ol,hol,hcl⟩⟩:=at1
   have ne:∀{b o},h₁.get? b=some o->o.cls≠ .type "list"->b≠S:=fun e q z=>by
    subst z;rw[hoS]at e;injection e with e;subst e;exact q rfl
   refine⟨et (st.trans st1) sn s₁ uo,fun b o e=>st1.sub b o (g b o e),⟨⟨om,uo _ _ (ne hom (by rw[hcm];decide)) hom,hcm,hdm⟩,⟨ot,uo _ _ (ne hot (by rw[hct];decide)) hot,hct,nt,hdt⟩,⟨oi,uo _ _ (ne hoi (by rw[hci];decide)) hoi,hci,hdi⟩,⟨ol,uo _ _ sl.symm hol,hcl⟩⟩,m1,i1,s₁,sn,sl,vs'.keeps st1.sub,_,⟨_,uS,rfl,rfl,_,rfl⟩,?_⟩
   rw[Array.toList_push,List.take_succ_eq_append_getElem hlt]
   exact r1.append (.cons rv .nil)
  ·rw[hl];exact aE (by exact Nat.le_trans ‹_› (Nat.le_trans ‹_› (by decide)))
  ·show(ys.push v).size<=sizeLine +1
   rw[Array.size_push,hl];exact Nat.succ_le_succ (aE (by exact Nat.le_trans ‹_› (Nat.le_trans ‹_› (by decide))))
theorem rc(Fs:∀d∈ds,gO hg n f [rF (DV d)] (RF (DV d)))(ok:br A fr (n +1)){hb:Hp}{s:SD}(sg:hg.StaysIn hb)(sb:hb.StaysIn s.heap)(ff:s.heap.FunFrames hb fr)(hz:ds.length<=1000000)
  (J:iI s.heap M T I l f vs 0)(m0:hb.get? M=none)(i0:hb.get? I=none)(rl:RA hb vs.toList ds){Q:List Vl->SD->Prop}
  (hQ:∀h' hb' tk ys,ay s.heap hb h' hb'->RA hb' ys ds->Q ys (aA s h' tk)):wA MD A (collect (.ref M)) Q E s:=by
 have hT:∀{h:Hp},iI h M T I l f vs 0->SD.TypeIs {s with heap:=h} (.ref M) "map":=fun J=>let⟨o,ho,hc,_⟩:=J.m;⟨o,ho,hc⟩
 have lt:∀{b o},s.heap.get? b=some o->b≠s.heap.objs.size:=fun e=>Nat.ne_of_lt (Hp.lt_size e)
 unfold collect
 refine wBi (wpAny_runValue (codeAny_builtin F.entry_proto_collect ?_))
 rw[Ar.under_plainId F.plain_proto_collect _]
 show wA _ A.in1 (newList []>>=fun l=>again (.builtin "list.__iadd__" ⟨[l,.ref M],[]⟩)) _ _ s
 refine wBi (wpAny_newObj_type ?_)
 refine wP ⟨plainId_quiet F.plain_list_iadd _,codeAny_builtin F.entry_list_iadd ?_⟩
 rw[Ar.under_plainId F.plain_list_iadd _]
 show wA _ A.in1 (Builtin.List.listExtendWith (.ref s.heap.objs.size) (.ref M) (.ref s.heap.objs.size)) _ _ _
 have hS1:(s.heap.push {cls:=.type "list",data:=.seq ([]:List Vl).toArray}).get? s.heap.objs.size=some {cls:=.type "list",data:=.seq ([]:List Vl).toArray}:=Hp.get?_push_size _ rfl
 have k1:∀b o,s.heap.get? b=some o->(s.heap.push {cls:=.type "list",data:=.seq ([]:List Vl).toArray}).get? b=some o:=fun b o e=>Hp.get?_push_of_some _ e
 generalize s.heap.push {cls:=.type "list",data:=.seq ([]:List Vl).toArray}=h₁ at hS1 k1⊢
 have at_k:∀{h₁:Hp},(∀b o,b≠s.heap.objs.size->s.heap.get? b=some o->h₁.get? b=some o)->iI h₁ M T I l f vs 0:=fun k=>by
  obtain⟨⟨om,hom,hm⟩,⟨ot,hot,ht⟩,⟨oi,hoi,hi⟩,⟨ol,hol,hl⟩⟩:=J
  exact⟨⟨om,k _ _ (lt hom) hom,hm⟩,⟨ot,k _ _ (lt hot) hot,ht⟩,⟨oi,k _ _ (lt hoi) hoi,hi⟩,⟨ol,k _ _ (lt hol) hol,hl⟩⟩
 have J1:iI h₁ M T I l f vs 0:=at_k fun b o O=>k1 b o
 unfold Builtin.List.listExtendWith
 refine wBi (wpAny_typeOf (hT J1) ?_)
 obtain⟨om,hom,hm⟩:=J.m
 have h1:Builtin.List.listSameRef (.ref s.heap.objs.size) (.ref M)=false:=by simp[Builtin.List.listSameRef,(lt hom).symm]
 have h2:(Vl.type "map"==Vl.type "list")=false:=by decide
 have h3:(Vl.type "map"==Vl.type "tuple")=false:=by decide
 simp only[h1,h2,h3,Bool.or_false,Bool.false_eq_true,if_false]
 refine wBi (tU J1 ?_)
 refine wBi (wpAny_holding ?_)
 unfold Builtin.List.listLengthHint
 refine wBi (wpAny_specialOf (hT J1) wc ?_)
 show wA _ A.in1 (specialOf (Vl.ref M) (Str.ofString "__length_hint__")>>=_) _ _ _
 refine wBi (wpAny_specialOf (hT J1) sU ?_)
 refine wP ?_
 show wA _ A.in1 (rule "list.extend.makes-room">>=fun O=>Builtin.List.listTouch (.ref s.heap.objs.size)>>=fun O=>
  again (.builtin "list.extend.loop" ⟨[.ref s.heap.objs.size,.ref M,.ref s.heap.objs.size],[]⟩)) _ _ _
 refine wBi (wpAny_rule (wBi ?_))
 show wA _ A.in1 (updateSeq s.heap.objs.size (·.push .none)>>=fun O=>updateSeq s.heap.objs.size (·.pop)) _ _ _
 refine wBi (wpAny_updateSeq hS1 rfl ?_)
 have hS2:=Hp.get?_update_self (Obj.mapSeq (·.push Vl.none)) hS1 rfl
 refine wpAny_updateSeq hS2 rfl ?_
 have hS3:=Hp.get?_update_self (Obj.mapSeq (·.pop)) hS2 rfl
 have oth:∀b o,b≠s.heap.objs.size->s.heap.get? b=some o->
   ((h₁.update s.heap.objs.size (Obj.mapSeq (·.push Vl.none))).update s.heap.objs.size (Obj.mapSeq (·.pop))).get? b=some o:=
  fun b o hb e=>(Hp.get?_update_other _ _ (Ne.symm hb)).trans ((Hp.get?_update_other _ _ (Ne.symm hb)).trans (k1 b o e))
 generalize (h₁.update s.heap.objs.size (Obj.mapSeq (·.push Vl.none))).update s.heap.objs.size (Obj.mapSeq (·.pop))=h₃ at hS3 oth⊢
 obtain⟨ol,hol,hl⟩:=J.l
 have s0:hb.get? s.heap.objs.size=none:=Hp.StaysIn.fresh sb
 refine wP ⟨plainId_quiet F.plain_extend_loop _,rZ Fs ok.h (ok.in' rfl rfl rfl (by show A.units +1 +1<=_;omega)) ff hz ds.length 0 hb _ rfl (Nat.zero_le _)
  ⟨et (.refl sb) (bQ _) s0 oth,sg,at_k oth,m0,i0,s0,bQ _,(lt hol).symm,rl,#[],⟨_,hS3,rfl,rfl,_,rfl⟩,.nil⟩ fun h' hb' tk ys st p r=>?_⟩
 obtain⟨oS,hoS,_,_,_,hdS⟩:=p
 show wA _ A (load s.heap.objs.size>>=_) _ _ _
 refine wBi (wpAny_load hoS ?_)
 rw[hdS]
 exact wP (hQ _ _ _ _ st r)
theorem mG(Fs:∀d∈ds,gO hg n f [rF (DV d)] (RF (DV d)))(ok:br A fr (n +2)){hb:Hp}{s:SD}(sg:hg.StaysIn hb)(sb:hb.StaysIn s.heap)(ff:s.heap.FunFrames hb fr)(hz:ds.length<=1000000)
  (J:iI s.heap M T I l f vs 0)(m0:hb.get? M=none)(i0:hb.get? I=none)(rl:RA hb vs.toList ds){Q:VS}
  (hQ:∀v h' hb' tk,ay s.heap hb h' hb'->RD hb' v (.tuple ds)->Q v (aA s h' tk)):wA MD A (call (.type "tuple") [.ref M]) Q E s:=by
 refine callType_codes (Q₁:=fun obj s₁=>s₁.TypeIs obj "tuple"/\Q obj s₁) F.called_tuple (F.typeCall_tuple_1 _) F.entry_object_init (codeAny_of_tree ?_) fun obj s₁ h₁=>
  ⟨h₁.1,F.args_object_init_2 obj _,object_init_meets F.called_tuple.init.lookup F.called_tuple.made (by decide) PG W0 A.in1 _ s₁ ⟨h₁.1,rfl,h₁.2⟩⟩
 show wA _ A.in1.in1 (do checkBuiltinCall "tuple.__new__" ⟨[.type "tuple",.ref M],[]⟩;again (.builtin "tuple.__new__" ⟨[.type "tuple",.ref M],[]⟩)) _ _ s
 refine wBi (wpAny_of_eq (F.newCall_tuple_1 _) (wP ⟨plainId_quiet F.plain_tuple_new _,codeAny_builtin F.entry_tuple_new ?_⟩))
 rw[Ar.under_plainId F.plain_tuple_new _]
 have hsub:=sub_tuple_self
 have hinit:=init_tuple_lookup
 have hmh:=madeHere_tuple
 obtain⟨om,hom,hcm,_⟩:=J.m
 have hTI:s.TypeIs (.ref M) "map":=⟨om,hom,hcm⟩
 have ok':br A.in1.in1 fr (n +1):=ok.in' rfl rfl rfl (by show A.units +1 +1<=_;omega)
 wp_walk using wpAny_typeOf hTI,rc Fs ok' sg sb ff hz J m0 i0 rl
 intro h' hb' tk ys st r
 show wA _ _ (Builtin.Tuple.tupleExact ys.toArray>>=fun v=>ret v) _ _ _
 unfold Builtin.Tuple.tupleExact
 refine wBi (wpAny_newObj_type ?_ (by show ys.toArray.size<=sizeLine;rw[List.size_toArray,r.length];exact aE hz))
 obtain⟨hb2,st2,e2⟩:=dq (h:=h') (hb:=hb') {cls:=.type "tuple",data:=.seq ys.toArray} st.stay
 obtain⟨bs,hr⟩:=r.keeps st2.sub
 exact wP ⟨⟨_,Hp.get?_push_size _ rfl,rfl⟩,hQ _ _ hb2 _ (st.trans st2) ⟨_,.tuple e2 rfl rfl (by simpa using hr)⟩⟩
end
theorem pj{x y fx:Str}{p q pf pi:Pos}{f:Vl}{ds:List PyD}(h1:Ev hg (n +2) env ρ (.Name x p) (RF (RV (.type "tuple"))))(h2:Ev hg (n +2) env ρ (.Name y q) (RF (RV (.type "map"))))(h3:Ev hg (n +2) env ρ (.Name fx pf) (RF (RV f)))(h4:Ev hg (n +2) env ρ e (RL ds))
  (Fs:∀d∈ds,gO hg n f [rF (DV d)] (RF (DV d)))(hz:ds.length<=1000000)
  (hn:autoParam (sE [.Name fx pf,e] env=(false,eval (.Name fx pf) env)::sE [e] env) Rf)(hn1:autoParam (sE [e] env=(false,eval e env)::sE [] env) Rf)(hp:autoParam ((backTo pi (sE [e] env)).any (·.1)=false) Rf)
  (hn2:autoParam (sE [.Call (.Name y q) [.Name fx pf,e] [] pi] env=(false,eval (.Call (.Name y q) [.Name fx pf,e] [] pi) env)::sE [] env) Rf):
  Ev hg (n +2) env ρ (.Call (.Name x p) [.Call (.Name y q) [.Name fx pf,e] [] pi] [] pos) (RF (DV (.tuple ds))):=fun A fr hb s Q E ok S h=>by
 refine wpAny_Call_NameR (h1 A fr hb s _ E ok S fun v h₁ hb1 tk1 st1 r1=>?_)
 obtain rfl:v= .type "tuple":=r1
 have S1:=S.step st1
 have key:wA MD A (spliced (backTo pos (sE [.Call (.Name y q) [.Name fx pf,e] [] pi] env))) (fun vs s₁=>hg.StaysIn s₁.heap/\wA MD A (call (.type "tuple") ([] ++vs)) Q E s₁) E (aA s h₁ tk1):=by
  refine wpAny_items_cons (he:=hn2) (gj h2 (.type _) (cJ (R:=rF (RV f)) h3 (gH h4 ao hn1) hn) ok S1 (fun vs h₂ hb2 tk2 st2 r2=>?_) hn hp)
  obtain⟨v,u,rfl,rv,ru⟩:=r2.two
  obtain rfl:v=f:=rv
  obtain⟨l,vs,bs,rfl,hl,hr⟩:=ru
  refine yX hl fun h₃ I T M a b c d e' k=>?_
  have S2:=S1.step st2
  have up:ay h₂ hb2 h₃ hb2:=⟨.of_keeps k,fun O O e=>e,fun b o e=>k b o (S2.b b o e),fun O O O O e=>e⟩
  have S3:=S2.step up
  refine wpAny_items_nil ⟨fun b o e=>S3.b b o (S3.g b o e),mG Fs ok S3.g S3.b S3.f hz ⟨⟨_,c,rfl,rfl⟩,b,a,fU up.up hl⟩ (am S2.b e') (am S2.b d) ⟨bs,hr⟩ fun v h₄ hb4 tk4 st4 r4=>?_⟩
  exact h v h₄ hb4 tk4 ((st1.trans st2).trans (up.trans st4)) r4
 rw[hn2]at key⊢
 exact bh (.type _) rfl key
section
open AutoSeq1 (wpAny_loadPart')
open MeetsSeq3 (plain_eq_loop entry_eq_loop)
noncomputable def Ch(lt:Bool)(x y:Str):Bool:=if lt=true then decide (x.cps.toList<y.cps.toList)else decide (y.cps.toList<x.cps.toList)
noncomputable def gN(lt:Bool):List Str->List Str->Bool
 |x::xs,y::ys=>if(x==y)=true then gN lt xs ys else Ch lt x y
 |xs,ys=>if lt=true then decide (xs.length<ys.length)else decide (ys.length<xs.length)
theorem ym{prog:Program}{w:World}{A:Ar}{E:VS}{s:SD}{x y:Str}{t u:Tok}(lt:Bool){Q:VS}(h:Q (.bool (Ch lt x y)) s):wA (model prog w) A (richCompare (if lt=true then .Lt else .Gt) (.str x t) (.str y u)) Q E s:=by
 cases lt with
 |true=>exact PyProof.Rows.lt_str h
 |false=>exact PySem.P.gt_str h
noncomputable abbrev AC(lt:Bool):Int:=if lt=true then 0 else 4
theorem xy(lt:Bool)(a b:Ad)(l m:List (Str×Tok))(n n2:Nat)(dd dd2:Option Ad)(sl sl2:Array (Option Vl))(k:Nat):
  ∀i:Nat,l.length - i=k->i<=l.length->i<=m.length->Meets (Builtin.«list.__eq__.loop» ⟨[.ref a,.ref b,rawInt i,rawInt (AC lt)],[]⟩)
   (fun A R s=>A3 (s.heap.get? a=some {cls:=.type "list",dict:=dd,data:=.seq (strValues l).toArray n,slots:=sl}) (s.heap.get? b=some {cls:=.type "list",dict:=dd2,data:=.seq (strValues m).toArray n2,slots:=sl2}) (R (.ok (.ret (.bool (gN lt ((l.drop i).map (·.1)) ((m.drop i).map (·.1)))))) s)):=by
 have out:∀(i:Nat),l.length<=i\/m.length<=i->i<=l.length->i<=m.length->gN lt ((l.drop i).map (·.1)) ((m.drop i).map (·.1))=if lt=true then decide (l.length<m.length)else decide (m.length<l.length):=by
  intro i h h1 h2
  rcases h with h|h
  ·have e:l.drop i=[]:=List.drop_eq_nil_of_le h
   rw[e]
   show(if lt=true then decide (0<((m.drop i).map (·.1)).length)else decide (((m.drop i).map (·.1)).length<0))=_
   rw[List.length_map,List.length_drop]
   cases lt<;>simp<;>omega
  ·have e:m.drop i=[]:=List.drop_eq_nil_of_le h
   rw[e]
   have:gN lt ((l.drop i).map (·.1)) (([]:List (Str×Tok)).map (·.1))=if lt=true then decide (((l.drop i).map (·.1)).length<0)else decide (0<((l.drop i).map (·.1)).length):=by
    cases(l.drop i).map (fun x=>x.1)<;>rfl
   rw[this,List.length_map,List.length_drop]
   cases lt<;>simp<;>(first|exact Ey ‹_› ‹_› ‹_›|omega)
 have hs:∀(l:List (Str×Tok))(i:Nat),(strValues l).toArray[((i:Nat):Int).toNat]?=(l[i]?).map fun p=>.str p.1 p.2:=fun l i=>by simp[strValues]
 have fin:∀(i:Nat),l.length<=i\/m.length<=i->i<=l.length->i<=m.length->Meets (Builtin.«list.__eq__.loop» ⟨[.ref a,.ref b,rawInt i,rawInt (AC lt)],[]⟩)
   (fun A R s=>A3 (s.heap.get? a=some {cls:=.type "list",dict:=dd,data:=.seq (strValues l).toArray n,slots:=sl}) (s.heap.get? b=some {cls:=.type "list",dict:=dd2,data:=.seq (strValues m).toArray n2,slots:=sl2}) (R (.ok (.ret (.bool (gN lt ((l.drop i).map (·.1)) ((m.drop i).map (·.1)))))) s)):=by
  intro i hi h1 h2 pg wd A R s h
  obtain⟨hp,g,d,tk,os⟩:=s;obtain⟨hl,hb,h⟩:=h
  rw[out i hi h1 h2]at h
  cases lt
  all_goals
   wp_walk using wpAny_loadPart' hl,wpAny_loadPart' hb
   rw[hs,hs]
   have n:l[i]?=none\/m[i]?=none:=hi.imp List.getElem?_eq_none List.getElem?_eq_none
   have e2:(strValues l).toArray.size=l.length:=by simp[strValues]
   have e3:(strValues m).toArray.size=m.length:=by simp[strValues]
   rcases n with n|n
   ·rw[n]
    cases m[i]? with
    |none=>
     wp_walk using wpAny_loadPart' hl,wpAny_loadPart' hb
     rw[e2,e3];exact h
    |some y=>
     wp_walk using wpAny_loadPart' hl,wpAny_loadPart' hb
     rw[e2,e3];exact h
   ·rw[n]
    cases l[i]? with
    |none=>
     wp_walk using wpAny_loadPart' hl,wpAny_loadPart' hb
     rw[e2,e3];exact h
    |some y=>
     wp_walk using wpAny_loadPart' hl,wpAny_loadPart' hb
     rw[e2,e3];exact h
 induction k with
 |zero=>intro i hk h1 h2;exact fin i (.inl (by exact Nat.le_of_sub_eq_zero ‹_›)) h1 h2
 |succ k ih=>
  intro i hk h1 h2
  by_cases hm:m.length<=i
  ·exact fin i (.inr hm) h1 h2
  intro pg wd A R s h
  obtain⟨hp,g,d,tk,os⟩:=s;obtain⟨hl,hb,h⟩:=h
  have hil:i<l.length:=by exact Nat.lt_of_sub_eq_succ ‹_›
  have him:i<m.length:=by exact Nat.lt_of_not_le ‹_›
  have dl:l.drop i=l[i]::l.drop (i +1):=List.drop_eq_getElem_cons hil
  have dm:m.drop i=m[i]::m.drop (i +1):=List.drop_eq_getElem_cons him
  rw[dl,dm,List.map_cons,List.map_cons]at h
  change R (.ok (.ret (.bool (if(l[i].1==m[i].1)=true then gN lt ((l.drop (i +1)).map (·.1)) ((m.drop (i +1)).map (·.1))else Ch lt l[i].1 m[i].1)))) _ at h
  have hc:((i:Int) +1)=((i +1:Nat):Int):=by push_cast;rfl
  have hrs:=fun A E s x y t u Q=>@ym pg wd A E s x y t u lt Q
  cases lt
  all_goals
   wp_walk using wpAny_loadPart' hl,wpAny_loadPart' hb
   rw[hs,hs,List.getElem?_eq_getElem hil,List.getElem?_eq_getElem him]
   refine wBi (PyProof.Rows.eqBool_str ?_)
   by_cases q:(l[i].1==m[i].1)=true
   ·rw[if_pos q]at h
    rw[q]
    wp_walk
    rw[hc]
    exact⟨plainId_quiet plain_eq_loop _,codeAny_builtin entry_eq_loop (by
     rw[Ar.under_plainId plain_eq_loop _]
     exact ih (i +1) (by exact o1 ‹_›) (by exact Nat.succ_le_of_lt ‹_›) (by exact Nat.succ_le_of_lt ‹_›) pg wd A R _ ⟨hl,hb,h⟩)⟩
   ·rw[if_neg q]at h
    rw[Bool.not_eq_true]at q
    rw[q]
    wp_walk using wpAny_loadPart' hl,wpAny_loadPart' hb
    rw[hs,hs,List.getElem?_eq_getElem hil,List.getElem?_eq_getElem him]
    exact wBi (hrs _ _ _ _ _ _ _ _ (wP h))
end
section
open AutoSeq1 (wpAny_loadPart')
open MeetsSeq3 (plain_eq_loop entry_eq_loop)
section
variable{A:Ar}{E:VS}{s:SD}
theorem mU{h:Hp}{v:Vl}{xs:List Str}(r:RD h v (.list (xs.map .str))):X5 fun a l n dd sl=>A3 (v= .ref a) (h.get? a=some {cls:=.type "list",dict:=dd,data:=.seq (strValues l).toArray n,slots:=sl}) (l.map (·.1)=xs):=by
 obtain⟨_,r⟩:=r
 obtain⟨a,⟨_,dd,_,sl⟩,vs,k,bs,rfl,ho,rfl,rfl,hr,_⟩:=reads_list_inv r
 obtain⟨l,e,rfl⟩:=hU ⟨bs,hr⟩
 exact⟨a,l,k,dd,sl,rfl,by rw[ho,<-e],rfl⟩
theorem vN(lt:Bool){x y:Vl}{xs ys:List Str}{Q:VS}(hx:RD s.heap x (.list (xs.map .str)))(hy:RD s.heap y (.list (ys.map .str)))(hu:A.units<cLine)(h:Q (.bool (gN lt xs ys)) s):wA MD A (richCompare (if lt=true then .Lt else .Gt) x y) Q E s:=by
 obtain⟨a,l,n,dd,sl,rfl,ha,rfl⟩:=mU hx
 obtain⟨b,m,n2,dd2,sl2,rfl,hb,rfl⟩:=mU hy
 have hTa:s.TypeIs (.ref a) "list":=⟨_,ha,rfl⟩
 have hTb:s.TypeIs (.ref b) "list":=⟨_,hb,rfl⟩
 obtain⟨hp,g,d,tk,os⟩:=s
 have f3:=AutoSeq1.sub_list_list
 have lp:=xy lt a b l m n n2 dd dd2 sl sl2 _ 0 rfl (Nat.zero_le _) (Nat.zero_le _) PG W0
 cases lt with
 |true=>
  refine wpAny_richCompare_same_room (op:=.Lt) hTa hTb F.slot_list_lt (wpAny_call (codeAny_call_builtin F.slot_list_lt.plain F.entry_list_lt (F.slot_list_lt.check _ _ _ _ _ _ _ _ hTa (F.args_list_lt_2 _ _) ?_))) hu
  wp_walk using wpAny_loadPart' ha,wpAny_loadPart' hb
  exact⟨plainId_quiet plain_eq_loop _,codeAny_builtin entry_eq_loop (by
   rw[Ar.under_plainId plain_eq_loop _]
   exact lp A (wants (fun v s'=>v≠ .notImplemented/\Q v s') E) _ ⟨ha,hb,fun q=>(nomatch q),h⟩)⟩
 |false=>
  refine wpAny_richCompare_same_room (op:=.Gt) hTa hTb F.slot_list_gt (wpAny_call (codeAny_call_builtin F.slot_list_gt.plain F.entry_list_gt (F.slot_list_gt.check _ _ _ _ _ _ _ _ hTa (F.args_list_gt_2 _ _) ?_))) hu
  wp_walk using wpAny_loadPart' ha,wpAny_loadPart' hb
  exact⟨plainId_quiet plain_eq_loop _,codeAny_builtin entry_eq_loop (by
   rw[Ar.under_plainId plain_eq_loop _]
   exact lp A (wants (fun v s'=>v≠ .notImplemented/\Q v s') E) _ ⟨ha,hb,fun q=>(nomatch q),h⟩)⟩
end
noncomputable def lO(S:Ad)(xs:Array Vl)(h:Hp):Prop:=X2 fun o c=>h.get? S=some o/\o.data= .seq xs c
structure ju(id:String)(op:CmpOp):Prop where
 done:∀{A:Ar}{s:SD}{R:Result->SD->Prop}{P:Hp->Prop}{I S:Ad}{v:Vl},lO S #[v,v] s.heap->(∀Q E,(∀h',P h'->Q none {s with heap:=h'})->wA MD A.in1 (pyNext (.ref I)) Q E s)->
  (∀h',P h'->lO S #[v,v] h'/\R (.ok (.ret v)) {s with heap:=h'.update S (Obj.mapSeq fun O=>#[])})->codeAny MD A (.builtin id ⟨[.ref I,.none,.ref S],[]⟩) R s
 first:∀{A:Ar}{s:SD}{R:Result->SD->Prop}{P:Hp->Prop}{I S:Ad}{v:Vl},lO S #[] s.heap->(∀Q E,(∀h',P h'->Q (some v) {s with heap:=h'})->wA MD A.in1 (pyNext (.ref I)) Q E s)->
  (∀h',P h'->lO S #[] h'/\codeAny MD A (.builtin id ⟨[.ref I,.none,.ref S],[]⟩) R {s with heap:=h'.update S (Obj.mapSeq fun O=>#[v,v])})->codeAny MD A (.builtin id ⟨[.ref I,.none,.ref S],[]⟩) R s
 turn:∀{A:Ar}{s:SD}{R:Result->SD->Prop}{P:Hp->Prop}{I S:Ad}{u v:Vl}{b:Bool},lO S #[u,u] s.heap->(∀Q E,(∀h',P h'->Q (some v) {s with heap:=h'})->wA MD A.in1 (pyNext (.ref I)) Q E s)->
  (∀h',P h'->A3 (lO S #[u,u] h') (∀Q E,Q (.bool b) {s with heap:=h'}->wA MD A.in1 (richCompare op v u) Q E {s with heap:=h'}) (codeAny MD A (.builtin id ⟨[.ref I,.none,.ref S],[]⟩) R {s with heap:=if b=true then h'.update S (Obj.mapSeq fun O=>#[v,v])else h'}))->codeAny MD A (.builtin id ⟨[.ref I,.none,.ref S],[]⟩) R s
theorem xG:ju "min.loop" .Lt where
 done:=fun{A s R P I S v} ⟨o,c,hS,hd⟩ hn hR=>by
  refine codeAny_builtin F.entry_min_loop ?_
  rw[Ar.under_plainId F.plain_min_loop _]
  show wA _ A.in1 (seqItems? (.ref S)>>=_) _ _ s
  refine wBi (wpAny_seqItems hS hd ?_)
  show wA _ A.in1 (tryCatch (pyNext (.ref I)) _>>=_) _ _ s
  refine wBi (wpAny_tryCatch (hn _ _ fun h' p=>?_))
  obtain⟨⟨o',c',hS',hd'⟩,r⟩:=hR h' p
  show wA _ A.in1 (updateSeq S (fun O=>#[])>>=_) _ _ _
  exact wBi (wpAny_updateSeq hS' hd' (wBi (wpAny_letGo (wP r))))
 first:=fun{A s R P I S v} ⟨o,c,hS,hd⟩ hn hR=>by
  have hname:(toString "min" ++toString ".loop":String)="min.loop":=by decide
  refine codeAny_builtin F.entry_min_loop ?_
  rw[Ar.under_plainId F.plain_min_loop _]
  show wA _ A.in1 (seqItems? (.ref S)>>=_) _ _ s
  refine wBi (wpAny_seqItems hS hd ?_)
  show wA _ A.in1 (tryCatch (pyNext (.ref I)) _>>=_) _ _ s
  refine wBi (wpAny_tryCatch (hn _ _ fun h' p=>?_))
  obtain⟨⟨o',c',hS',hd'⟩,r⟩:=hR h' p
  show wA _ A.in1 (updateSeq S (fun O=>#[v,v])>>=_) _ _ _
  refine wBi (wpAny_updateSeq hS' hd' ?_)
  rw[hname]
  exact wP ⟨plainId_quiet F.plain_min_loop _,r⟩
 turn:=fun{A s R P I S u v b} ⟨o,c,hS,hd⟩ hn hR=>by
  have hname:(toString "min" ++toString ".loop":String)="min.loop":=by decide
  refine codeAny_builtin F.entry_min_loop ?_
  rw[Ar.under_plainId F.plain_min_loop _]
  show wA _ A.in1 (seqItems? (.ref S)>>=_) _ _ s
  refine wBi (wpAny_seqItems hS hd ?_)
  show wA _ A.in1 (tryCatch (pyNext (.ref I)) _>>=_) _ _ s
  refine wBi (wpAny_tryCatch (hn _ _ fun h' p=>?_))
  obtain⟨⟨o',c',hS',hd'⟩,hc,r⟩:=hR h' p
  show wA _ A.in1 (tryCatch (holding [v,v] (richCompare .Lt v u>>=_)) _>>=_) _ _ _
  refine wBi (wpAny_tryCatch (wpAny_holding (wBi (hc _ _ ?_))))
  refine wBi (wpAny_holding (wpAny_truthy_bool ?_))
  refine wBi (wpAny_letGo (wP ?_))
  cases b with
  |true=>
   refine wBi (wpAny_updateSeq hS' hd' (wBi (wpAny_letGo ?_)))
   rw[hname]
   exact wP ⟨plainId_quiet F.plain_min_loop _,r⟩
  |false=>
   refine wBi (wpAny_letGo ?_)
   rw[hname]
   exact wP ⟨plainId_quiet F.plain_min_loop _,r⟩
theorem xq:ju "max.loop" .Gt where
 done:=fun{A s R P I S v} ⟨o,c,hS,hd⟩ hn hR=>by
  refine codeAny_builtin F.entry_max_loop ?_
  rw[Ar.under_plainId F.plain_max_loop _]
  show wA _ A.in1 (seqItems? (.ref S)>>=_) _ _ s
  refine wBi (wpAny_seqItems hS hd ?_)
  show wA _ A.in1 (tryCatch (pyNext (.ref I)) _>>=_) _ _ s
  refine wBi (wpAny_tryCatch (hn _ _ fun h' p=>?_))
  obtain⟨⟨o',c',hS',hd'⟩,r⟩:=hR h' p
  show wA _ A.in1 (updateSeq S (fun O=>#[])>>=_) _ _ _
  exact wBi (wpAny_updateSeq hS' hd' (wBi (wpAny_letGo (wP r))))
 first:=fun{A s R P I S v} ⟨o,c,hS,hd⟩ hn hR=>by
  have hname:(toString "max" ++toString ".loop":String)="max.loop":=by decide
  refine codeAny_builtin F.entry_max_loop ?_
  rw[Ar.under_plainId F.plain_max_loop _]
  show wA _ A.in1 (seqItems? (.ref S)>>=_) _ _ s
  refine wBi (wpAny_seqItems hS hd ?_)
  show wA _ A.in1 (tryCatch (pyNext (.ref I)) _>>=_) _ _ s
  refine wBi (wpAny_tryCatch (hn _ _ fun h' p=>?_))
  obtain⟨⟨o',c',hS',hd'⟩,r⟩:=hR h' p
  show wA _ A.in1 (updateSeq S (fun O=>#[v,v])>>=_) _ _ _
  refine wBi (wpAny_updateSeq hS' hd' ?_)
  rw[hname]
  exact wP ⟨plainId_quiet F.plain_max_loop _,r⟩
 turn:=fun{A s R P I S u v b} ⟨o,c,hS,hd⟩ hn hR=>by
  have hname:(toString "max" ++toString ".loop":String)="max.loop":=by decide
  refine codeAny_builtin F.entry_max_loop ?_
  rw[Ar.under_plainId F.plain_max_loop _]
  show wA _ A.in1 (seqItems? (.ref S)>>=_) _ _ s
  refine wBi (wpAny_seqItems hS hd ?_)
  show wA _ A.in1 (tryCatch (pyNext (.ref I)) _>>=_) _ _ s
  refine wBi (wpAny_tryCatch (hn _ _ fun h' p=>?_))
  obtain⟨⟨o',c',hS',hd'⟩,hc,r⟩:=hR h' p
  show wA _ A.in1 (tryCatch (holding [v,v] (richCompare .Gt v u>>=_)) _>>=_) _ _ _
  refine wBi (wpAny_tryCatch (wpAny_holding (wBi (hc _ _ ?_))))
  refine wBi (wpAny_holding (wpAny_truthy_bool ?_))
  refine wBi (wpAny_letGo (wP ?_))
  cases b with
  |true=>
   refine wBi (wpAny_updateSeq hS' hd' (wBi (wpAny_letGo ?_)))
   rw[hname]
   exact wP ⟨plainId_quiet F.plain_max_loop _,r⟩
  |false=>
   refine wBi (wpAny_letGo ?_)
   rw[hname]
   exact wP ⟨plainId_quiet F.plain_max_loop _,r⟩
section
variable{A:Ar}{E:VS}{id:String}{op:CmpOp}{bt:Nat->Nat->Bool}{us:Array Vl}{a I S:Ad}{h₀:Hp}
structure eD(h₀:Hp)(us:Array Vl)(a I S:Ad)(old:Array Vl)(h:Hp)(k:Nat):Prop where
 it:h.IsListIter I a k
 l:h.IsList a us
 s:lO S old h
 k:∀b o,h₀.get? b=some o->h.get? b=some o
 sI:S≠I
 s0:h₀.get? S=none
 i0:h₀.get? I=none
theorem eD.upd{old new:Array Vl}{h:Hp}{k:Nat}(J:eD h₀ us a I S old h k)(sa:S≠a):eD h₀ us a I S new (h.update S (Obj.mapSeq fun O=>new)) k:=by
 obtain⟨⟨oi,hoi,hi⟩,⟨ol,hol,hl⟩,⟨⟨_,_,_,_⟩,c,ho,rfl⟩,kk,sI,s0,i0⟩:=J
 refine⟨⟨oi,(Hp.get?_update_other _ _ sI).trans hoi,hi⟩,⟨ol,(Hp.get?_update_other _ _ sa).trans hol,hl⟩,⟨_,_,Hp.get?_update_self _ ho rfl,rfl⟩,fun b o e=>?_,sI,s0,i0⟩
 exact(Hp.get?_update_other _ _ (fun z=>by subst z;rw[s0]at e;cases e)).trans (kk b o e)
theorem eD.next{old:Array Vl}{h h':Hp}{k:Nat}(J:eD h₀ us a I S old h k)(aI:a≠I)(it:h'.IsListIter I a (k +1))(e:Hp.SameBut I h h'):eD h₀ us a I S old h' (k +1):=by
 obtain⟨_,⟨ol,hol,hl⟩,⟨oS,c,hoS,hd⟩,kk,sI,s0,i0⟩:=J
 exact⟨it,⟨ol,e.extBut _ _ aI hol,hl⟩,⟨oS,c,e.extBut _ _ sI hoS,hd⟩,fun b o q=>e.extBut _ _ (fun z=>by subst z;rw[i0]at q;cases q) (kk b o q),sI,s0,i0⟩
theorem kl(B:ju id op)(hh:A.handled=none)(sa:S≠a)(aI:a≠I)
  (cmp:∀i j vi vj (s:SD) (Q:VS) (E:VS),us[i]?=some vi->us[j]?=some vj->(∀b o,h₀.get? b=some o->s.heap.get? b=some o)->Q (.bool (bt i j)) s->wA MD A.in1 (richCompare op vi vj) Q E s){R:Result->SD->Prop}:
  ∀(m k:Nat)(u:Vl)(s:SD),us.size - (k +1)=m->k +1<=us.size->us[argBest bt k]?=some u->eD h₀ us a I S #[u,u] s.heap (k +1)->
   (∀v h',us[argBest bt (us.size - 1)]?=some v->(∀b o,h₀.get? b=some o->h'.get? b=some o)->R (.ok (.ret v)) {s with heap:=h'})->codeAny MD A (.builtin id ⟨[.ref I,.none,.ref S],[]⟩) R s
 |0,k,u,s,hm,hk,hu,J,hR=>by
  refine B.done J.s (fun Q E hq=>wpAny_pyNext_list_end hh J.it J.l (by simp;exact Nat.le_of_sub_eq_zero ‹_›) hq) fun h' e=>?_
  obtain⟨oS,c,hoS,hd⟩:=J.s
  refine⟨⟨oS,c,e _ _ J.sI hoS,hd⟩,hR u _ (by rw[show us.size - 1=k by exact o9 ‹_› ‹_›];exact hu) fun b o q=>?_⟩
  exact(Hp.get?_update_other _ _ (fun z=>by subst z;rw[J.s0]at q;cases q)).trans (e _ _ (fun z=>by subst z;rw[J.i0]at q;cases q) (J.k b o q))
 |m +1,k,u,s,hm,hk,hu,J,hR=>by
  have hlt:k +1<us.size:=by exact Nat.lt_of_sub_eq_succ ‹_›
  refine B.turn (P:=fun h'=>eD h₀ us a I S #[u,u] h' (k +1 +1)) (b:=bt (k +1) (argBest bt k)) J.s (fun Q E hq=>wpAny_pyNext_list_item J.it J.l (Array.getElem?_eq_getElem hlt) fun h' it e=>hq h' (J.next aI it e)) fun h' J'=>⟨J'.s,fun Q E q=>cmp _ _ _ _ _ Q E (Array.getElem?_eq_getElem hlt) hu J'.k q,?_⟩
  cases hb:bt (k +1) (argBest bt k)with
  |true=>exact kl B hh sa aI cmp m (k +1) _ _ (by exact o1 ‹_›) hlt (by simp only[argBest,hb,if_true];exact Array.getElem?_eq_getElem hlt) (J'.upd sa) hR
  |false=>exact kl B hh sa aI cmp m (k +1) u _ (by exact o1 ‹_›) hlt (by simp only[argBest,hb,Bool.false_eq_true,if_false];exact hu) J' hR
theorem rS(B:ju id op)(hh:A.handled=none)(sa:S≠a)(aI:a≠I)(hne:0<us.size)
  (cmp:∀i j vi vj (s:SD) (Q:VS) (E:VS),us[i]?=some vi->us[j]?=some vj->(∀b o,h₀.get? b=some o->s.heap.get? b=some o)->Q (.bool (bt i j)) s->wA MD A.in1 (richCompare op vi vj) Q E s){R:Result->SD->Prop}{s:SD}
  (J:eD h₀ us a I S #[] s.heap 0)(hR:∀v h',us[argBest bt (us.size - 1)]?=some v->(∀b o,h₀.get? b=some o->h'.get? b=some o)->R (.ok (.ret v)) {s with heap:=h'}):codeAny MD A (.builtin id ⟨[.ref I,.none,.ref S],[]⟩) R s:=
 B.first (P:=fun h'=>eD h₀ us a I S #[] h' 1) J.s (fun Q E hq=>wpAny_pyNext_list_item J.it J.l (Array.getElem?_eq_getElem hne) fun h' it e=>hq h' (J.next aI it e)) fun h' J'=>
  ⟨J'.s,kl B hh sa aI cmp _ 0 _ _ rfl hne (Array.getElem?_eq_getElem hne) (J'.upd sa) hR⟩
end
end
section
variable{A:Ar}{E:VS}{s:SD}
noncomputable def mu(h:Hp)(l:Ad):Hp:=(h.push {cls:=.type "list_iterator",data:=.fields #[.ref l,.int 0 0]}).push {cls:=.type "list",data:=.seq ([]:List Vl).toArray}
theorem nF{l:Ad}{us:Array Vl}{Q:VS}(hl:s.heap.IsList l us)(h:codeAny MD A (.builtin "min.loop" ⟨[.ref s.heap.objs.size,.none,.ref (s.heap.push {cls:=.type "list_iterator",data:=.fields #[.ref l,.int 0 0]}).objs.size],[]⟩) (wants Q E) {s with heap:=mu s.heap l}):
  wA MD A (call (.builtin "min") [.ref l]) Q E s:=by
 have hname:(toString "min" ++toString ".loop":String)="min.loop":=by decide
 refine call_function_tree F.kind_min F.plain_min F.entry_min (F.args_min1 _) ?_
 show wA _ A.in1 (Builtin.Builtins.bindParams "min" ["key","default"] 0 ⟨[],[]⟩>>=_) _ _ s
 refine wBi (wpAny_of_eq (show Builtin.Builtins.bindParams "min" ["key","default"] 0 ⟨[],[]⟩=pure [none,none] from rfl) ?_)
 refine wBi (wP (wBi (wpAny_pyIter_list hl (wBi (wpAny_newObj_type ?_)))))
 rw[hname]
 exact wP ⟨plainId_quiet F.plain_min_loop _,h⟩
theorem nj{l:Ad}{us:Array Vl}{Q:VS}(hl:s.heap.IsList l us)(h:codeAny MD A (.builtin "max.loop" ⟨[.ref s.heap.objs.size,.none,.ref (s.heap.push {cls:=.type "list_iterator",data:=.fields #[.ref l,.int 0 0]}).objs.size],[]⟩) (wants Q E) {s with heap:=mu s.heap l}):
  wA MD A (call (.builtin "max") [.ref l]) Q E s:=by
 have hname:(toString "max" ++toString ".loop":String)="max.loop":=by decide
 refine call_function_tree F.kind_max F.plain_max F.entry_max (F.args_max1 _) ?_
 show wA _ A.in1 (Builtin.Builtins.bindParams "max" ["key","default"] 0 ⟨[],[]⟩>>=_) _ _ s
 refine wBi (wpAny_of_eq (show Builtin.Builtins.bindParams "max" ["key","default"] 0 ⟨[],[]⟩=pure [none,none] from rfl) ?_)
 refine wBi (wP (wBi (wpAny_pyIter_list hl (wBi (wpAny_newObj_type ?_)))))
 rw[hname]
 exact wP ⟨plainId_quiet F.plain_max_loop _,h⟩
noncomputable def SS(xss:List (List Str)):List PyD:=xss.map fun xs=>.list (xs.map .str)
noncomputable def gV(lt:Bool)(xss:List (List Str)):List Str:=xss.getD (argBest (fun i j=>gN lt (xss.getD i []) (xss.getD j [])) (xss.length - 1)) []
theorem n0{hg:Hp}{n:Nat}(lt:Bool){xss:List (List Str)}(hx:xss≠[]):gO hg (n +1) (.builtin (if lt=true then "min" else "max")) [rL (SS xss)] (RF (DV (.list ((gV lt xss).map .str)))):=fun A fr h₀ hb s vs Q E ok sg sb ff al h=>by
 obtain⟨v,rfl,r1⟩:=al.one
 obtain⟨l,us,bs,rfl,hl,hr⟩:=r1
 obtain⟨ol,hol,hcl⟩:=id hl
 have hra:RA hb us.toList (SS xss):=⟨bs,hr⟩
 have hlen:us.size=xss.length:=by simpa [SS]using hra.length
 have hpos:0<xss.length:=List.length_pos_iff.mpr hx
 have no:s.heap.get? s.heap.objs.size=none:=Hp.StaysIn.fresh fun O O e=>e
 have k1:∀b o,s.heap.get? b=some o->(s.heap.push {cls:=.type "list_iterator",data:=.fields #[.ref l,.int 0 0]}).get? b=some o:=fun b o e=>Hp.get?_push_of_some _ e
 have i1:=Hp.get?_push_size (o:={cls:=.type "list_iterator",data:=.fields #[.ref l,.int 0 0]}) s.heap rfl
 have z1:(s.heap.push {cls:=.type "list_iterator",data:=.fields #[.ref l,.int 0 0]}).objs.size=s.heap.objs.size +1:=Hp.size_push ..
 have J:eD s.heap us l s.heap.objs.size (s.heap.push {cls:=.type "list_iterator",data:=.fields #[.ref l,.int 0 0]}).objs.size #[] (mu s.heap l) 0:=by
  refine⟨⟨_,Hp.get?_push_of_some _ i1,rfl,rfl⟩,⟨ol,Hp.get?_push_of_some _ (k1 _ _ hol),hcl⟩,⟨_,_,Hp.get?_push_size _ rfl,rfl⟩,fun b o e=>Hp.get?_push_of_some _ (k1 _ _ e),by rw[z1];exact Nat.succ_ne_self _,?_,no⟩
  cases e:s.heap.get? _ with
  |none=>rfl
  |some o=>have:=Hp.lt_size e;rw[z1]at this;exact absurd this (Nat.not_lt.mpr (Nat.le_succ _))
 have al:l<s.heap.objs.size:=Hp.lt_size hol
 have item:∀i v,us[i]?=some v->RD hb v (.list ((xss.getD i []).map .str)):=fun i v hv=>by
  have hi:i<xss.length:=by rw[<-hlen];exact(Array.getElem?_eq_some_iff.mp hv).1
  obtain⟨u,hu,ru⟩:=hra.get (k:=i) (d:=.list ((xss.getD i []).map .str)) (by unfold SS;rw[List.getElem?_map,List.getD_eq_getElem?_getD,List.getElem?_eq_getElem hi];rfl)
  rw[show us.toList[i]?=us[i]? by simp,hv]at hu
  injection hu with hu;subst hu;exact ru
 have cmp:∀i j vi vj (s':SD) (Q:VS) (E:VS),us[i]?=some vi->us[j]?=some vj->(∀b o,s.heap.get? b=some o->s'.heap.get? b=some o)->Q (.bool (gN lt (xss.getD i []) (xss.getD j []))) s'->wA MD A.in1 (richCompare (if lt=true then .Lt else .Gt) vi vj) Q E s':=
  fun i j vi vj s' Q E hi hj k q=>vN lt ((item i vi hi).keeps fun b o e=>k b o (sb b o e)) ((item j vj hj).keeps fun b o e=>k b o (sb b o e)) (by have:=ok.u;show A.units +1<cLine;exact Fz ‹_›) q
 have fin:∀v h',us[argBest (fun i j=>gN lt (xss.getD i []) (xss.getD j [])) (us.size - 1)]?=some v->(∀b o,s.heap.get? b=some o->h'.get? b=some o)->Q v {s with heap:=h'}:=fun v h' hv k=>by
  have r:=item _ v hv
  rw[hlen]at r
  exact h v h' hb s.toks ⟨.of_keeps k,fun O O e=>e,fun b o e=>k b o (sb b o e),fun O O O O e=>e⟩ r
 cases lt with
 |true=>exact nF hl (rS xG ok.h (by rw[z1];exact Nat.ne_of_gt (Nat.lt_succ_of_lt al)) (Nat.ne_of_lt al) (by rw[hlen];exact hpos) cmp J fin)
 |false=>exact nj hl (rS xq ok.h (by rw[z1];exact Nat.ne_of_gt (Nat.lt_succ_of_lt al)) (Nat.ne_of_lt al) (by rw[hlen];exact hpos) cmp J fin)
end
noncomputable def nr:SetTable:={mask:=7,place:=#[1],dummies:=#[],finger:=0,led:=!W0.params.followText "set-order",moves:=0,plain:=true}
noncomputable def c7:Nat->Data
 |0=>.set #[] 0 (.fresh 0 0 (!W0.params.followText "set-order"))
 |_=>.set #[(1,.bool true)] 1 (nr)
theorem DK:layNew (SetTable.fresh 0 0 (!W0.params.followText "set-order")) #[] 1 (.bool true)=(#[(1,.bool true)],nr,false,false):=by
 unfold nr
 cases W0.params.followText "set-order"<;>decide +kernel
theorem BF:(nr).tooFull=false:=by unfold nr;cases W0.params.followText "set-order"<;>decide +kernel
section
variable{A:Ar}{E:VS}{s:SD}{D:Ad}{o:Obj}
theorem fX{Q:Bool->SD->Prop}(h:Q (W0.params.followText "set-order") s):wA MD A setsByText Q E s:=by
 unfold setsByText
 exact wBi (wpAny_askSetting (wP h))
theorem vT{Q:Int->SD->Prop}(h:∀tk,Q 1 {s with toks:=tk}):wA MD A (pyHash (.bool true)) Q E s:=by
 have hT:s.TypeIs (.bool true) "bool":=rfl
 unfold pyHash
 have hv:[Vl.bool true].any Vl.onHeap=false:=rfl
 refine wBi ?_
 rw[cRoomFor,if_neg (by rw[hv];exact Bool.false_ne_true)];refine wP ?_
 refine wBi (wpAny_specialOf hT F.slot_bool_hash.lookup ?_)
 show wA _ _ (if(some (Vl.builtin "int.__hash__")==some Vl.none)=true then _ else _) Q E s
 rw[if_neg (by rw[beq_builtin_none];exact Bool.false_ne_true)]
 refine wBi (wpAny_specialOf hT F.slot_bool_hash.lookup ?_)
 show wA _ _ (callSpecialIfBoundUnlessNone? (.bool true) "__hash__" _>>=_) Q E s
 refine wBi (wpAny_callSpecialIfBoundUnlessNone?_slot hT F.slot_bool_hash
  (wpAny_call_entry F.slot_bool_hash hT entry_int_hash
   (show wA _ _ (do ret (<-mkInt 1)) _ _ s from wpAny_ret_mkInt ?_) (args_int_hash _)))
 exact wP (h _)
theorem pN{Q:Bool->SD->Prop}(h:Q true s):wA MD A (eqBool (.bool true) (.bool true)) Q E s:=by
 unfold eqBool
 refine wpAny_holding ?_
 rw[if_pos (by rfl)]
 exact wBi (wpAny_rule (wP h))
theorem sy{k:Nat}{cl:Vl}{Q:VS}(ho:s.heap.get? D=some o)(hc:o.cls= .type "set")(hd:o.data=c7 k)
  (h:∀h' tk,(∃o',h'.get? D=some o'/\o'.cls= .type "set"/\o'.data=c7 (k +1))->(∀b o,b≠D->s.heap.get? b=some o->h'.get? b=some o)->Q .none (aA s h' tk)):wA MD A (call (.builtin "set.add") [.ref D,.bool true]) Q E s:=by
 have hT:s.TypeIs (.ref D) "set":=⟨o,ho,hc⟩
 refine wpAny_call_entry F.slot_set_add hT F.entry_set_add ?_ (F.args_set_add_2 _ _)
 unfold Builtin.«set.add» Builtin.Frozenset.oneOther
 simp only[List.isEmpty_nil,bind_assoc]
 unfold Builtin.Frozenset.addrOf setAdd
 refine wBi (wP ?_)
 try dsimp only
 refine wBi (wP ?_)
 try dsimp only
 refine wBi (wpAny_holding (wBi (vT fun tk=>?_)))
 unfold setAddHashed setAddHashedIn
 refine wpAny_holding ?_
 cases k with
 |zero=>
  refine wBi (wpAny_setState_of ho hd (by rfl) ?_)
  dsimp only
  rw[if_pos (by decide +kernel)]
  unfold setAddByScan
  refine wBi (wBi (wpAny_rule (wBi (wP ?_))))
  dsimp only
  rw[DK]
  dsimp only
  refine wBi (wP ?_)
  rw[if_pos (by rfl)]
  refine wBi (wP ?_)
  rw[if_pos rfl]
  refine wBi (wpAny_storeSet_of (s:={s with toks:=tk}) ho hd ?_)
  rw[BF]
  refine wP (wP (wP ⟨_,rfl,h _ tk ⟨{o with data:=c7 1},?_,?_,rfl⟩ fun b u q e=>(Hp.get?_update_other _ _ (Ne.symm q)).trans e⟩))
  ·have:=Hp.get?_update_self (Obj.putSet #[(1,.bool true)] (nr)) ho (by rw[putSet_of _ _ hd];rfl)
   rw[putSet_of _ _ hd]at this
   exact this
  ·exact hc
 |succ k=>
  refine wBi (wpAny_setState_of ho hd (by rfl) ?_)
  dsimp only
  rw[if_pos (by decide +kernel)]
  unfold setAddByScan
  refine wBi (wBi (wpAny_rule (wBi ?_)))
  show wA _ _ (setScanFrom D (.bool true) 1 true [(1,.bool true)] 0) _ _ _
  unfold setScanFrom
  rw[if_pos (by rfl)]
  refine wBi (wpAny_setEpoch_of ho hd (by rfl) (wBi ?_))
  refine pN (wP (wP (wP ?_)))
  exact wP ⟨_,rfl,h _ tk ⟨o,ho,hc,hd⟩ fun b o O e=>e⟩
theorem md:entryFor table "set.__iter__"=some Builtin.«frozenset.__iter__»:=
 entryFor_alias (id':="frozenset.__iter__") (by kernel_rfl) rfl (by decide +kernel) (by kernel_rfl)
theorem cy:Slot "set_iterator" "__next__" "set_iterator.__next__":=
 .of (owner:="set_iterator") (n:="__next__") (by rw[typeLookup_type,builtinLookup_eq_fast];kernel_rfl) (by decide +kernel) (by decide +kernel) (by decide +kernel)
  (by first|exact .inl (by decide +kernel)|exact .inr (by decide +kernel)) (by rw[isSubtype_type];kernel_rfl)
theorem ga:entryFor table "set_iterator.__next__"=some Builtin.«set_iterator.__next__»:=entryFor_of_tree (by kernel_rfl)
theorem gL(a:Vl):argsOk "set_iterator.__next__" ⟨[a],[]⟩:=by
 unfold argsOk;rw[signature?_of (id:="set_iterator.__next__") (n:=['_','_','t','x','e','n','_','_']) (o:=['r','o','t','a','r','e','t','i','_','t','e','s']) (by kernel_rfl) (by kernel_rfl:Manifest.owners.lookup _=some Manifest.sig_set_iterator)];kernel_rfl
noncomputable def lU(D:Ad)(slot i:Int):Obj:={cls:=.type "set_iterator",data:=.fields #[.int slot 0,.int i 0,.ref D,.int 1 0,.int 1 0]}
theorem wT{Q:VS}(ho:s.heap.get? D=some o)(hc:o.cls= .type "set")(hd:o.data=c7 1)
  (h:Q (.ref s.heap.objs.size) {s with heap:=s.heap.push (lU D 0 0)}):wA MD A (pyIter (.ref D)) Q E s:=by
 have hT:s.TypeIs (.ref D) "set":=⟨o,ho,hc⟩
 refine wpAny_pyIter_slot hT F.slot_set_iter (wpAny_call_entry F.slot_set_iter hT md ?_ (F.args_set_iter_1 _))
 unfold Builtin.«frozenset.__iter__» Builtin.Frozenset.slot0 slotArgs
 have e:=fun Q E=>@wpAny_setState_of PG W0 A.in1 E s D o _ _ _ Q ho hd (by rfl)
 wp_walk using e
 refine wpAny_askSetting (wP (wP ?_))
 dsimp only
 rw[if_neg (by rw[Bool.and_eq_true];rintro⟨_,q⟩;exact Bool.noConfusion q)]
 refine wBi (wP (wBi (wpAny_setEpoch_of ho hd (by rfl) (wBi (wpAny_newObj_type (wP ⟨_,rfl,"set_iterator",_,⟨_,Hp.get?_push_size _ rfl,rfl⟩,cy.lookup,?_⟩))))))
 exact h
noncomputable def jh:Nat:=if W0.params.followText "set-order"=true then 0 else 2
theorem Aw(f:Nat->Nat):pickOrder f #[((1:Int),Vl.bool true)]=#[(1,.bool true)]:=by
 unfold pickOrder pickOrder.go
 simp[Nat.mod_one,pickOrder.go]
theorem wk{Q:Option (Vl×Nat)->SD->Prop}(ho:s.heap.get? D=some o)(hd:o.data=c7 1)(h:Q (some (.bool true,jh)) s):wA MD A (setNext D 0 0 1) Q E s:=by
 unfold setNext
 refine wBi (wpAny_setState_of ho hd (by rfl) (wBi (fX ?_)))
 dsimp only
 cases q:W0.params.followText "set-order" with
 |true=>
  unfold jh at h
  rw[q]at h
  rw[if_pos rfl,if_neg (by decide)]
  refine wBi ?_
  unfold setWalk
  refine wBi (wpAny_setState_of ho hd (by rfl) (wBi (fX ?_)))
  rw[q]
  rw[if_pos rfl]
  refine wBi (wpAny_askSetting (wP (wP ?_)))
  rw[Aw];exact h
 |false=>
  unfold jh at h
  rw[q]at h
  have ht:nr={mask:=7,place:=#[1],dummies:=#[],finger:=0,led:=true,moves:=0,plain:=true}:=by unfold nr;rw[q];rfl
  rw[ht,if_neg (fun z=>Bool.noConfusion (z:false=true))]
  exact wBi (wP (wP h))
theorem vq{Q:Option (Vl×Nat)->SD->Prop}(ho:s.heap.get? D=some o)(hd:o.data=c7 1)(h:Q none s):wA MD A (setNext D (jh) 1 1) Q E s:=by
 unfold setNext
 refine wBi (wpAny_setState_of ho hd (by rfl) (wBi (fX ?_)))
 dsimp only
 unfold jh
 cases q:W0.params.followText "set-order" with
 |true=>
  rw[if_pos rfl,if_neg (by decide)]
  refine wBi ?_
  unfold setWalk
  refine wBi (wpAny_setState_of ho hd (by rfl) (wBi (fX ?_)))
  rw[q]
  rw[if_pos rfl]
  refine wBi (wpAny_askSetting (wP (wP ?_)))
  rw[Aw];exact h
 |false=>
  have ht:nr={mask:=7,place:=#[1],dummies:=#[],finger:=0,led:=true,moves:=0,plain:=true}:=by unfold nr;rw[q];rfl
  rw[ht,if_neg (fun z=>Bool.noConfusion (z:false=true))]
  exact wBi (wP (wP h))
theorem wH{I:Ad}{Q:Option Vl->SD->Prop}(ho:s.heap.get? D=some o)(hd:o.data=c7 1)(hi:s.heap.get? I=some (lU D 0 0))
  (h:∀h',h'.get? I=some (lU D (jh) 1)->(∀b o,b≠I->s.heap.get? b=some o->h'.get? b=some o)->Q (some (.bool true)) {s with heap:=h'}):wA MD A (pyNext (.ref I)) Q E s:=by
 have hT:s.TypeIs (.ref I) "set_iterator":=⟨_,hi,rfl⟩
 unfold pyNext
 refine wBi (wpAny_attempt (wpAny_callSpecial?_slot (name:=Str.ofString "__next__") hT cy
  (wpAny_call_entry cy hT ga ?_ (gL _))))
 have e:=fun Q E=>@wpAny_setState_of PG W0 A.in1 E s D o _ _ _ Q ho hd (by rfl)
 have e2:∀(Q:Option (Vl×Nat)->SD->Prop) E,Q (some (.bool true,jh)) s->wA MD A.in1 (setNext D (Int.toNat 0) (Int.toNat 0) (Int.toNat 1)) Q E s:=fun Q E=>wk ho hd
 unfold Builtin.«set_iterator.__next__» slotArgs
 wp_walk using e2,e
 refine⟨_,rfl,wP (h _ ?_ fun b o q e=>(Hp.get?_update_other _ _ (Ne.symm q)).trans ((Hp.get?_update_other _ _ (Ne.symm q)).trans e))⟩
 exact Hp.get?_update_self _ (Hp.get?_update_self _ hi rfl) rfl
theorem wf{I:Ad}{Q:Option Vl->SD->Prop}(hh:A.handled=none)(ho:s.heap.get? D=some o)(hd:o.data=c7 1)(hi:s.heap.get? I=some (lU D (jh) 1))
  (h:∀h',(∀b o,b≠I->s.heap.get? b=some o->h'.get? b=some o)->Q none {s with heap:=h'}):wA MD A (pyNext (.ref I)) Q E s:=by
 have hT:s.TypeIs (.ref I) "set_iterator":=⟨_,hi,rfl⟩
 unfold pyNext
 refine wBi (wpAny_attempt (wpAny_callSpecial?_slot (name:=Str.ofString "__next__") hT cy
  (wpAny_call_entry cy hT ga ?_ (gL _))))
 have e:=fun Q E=>@wpAny_setState_of PG W0 A.in1 E s D o _ _ _ Q ho hd (by rfl)
 have e2:∀(Q:Option (Vl×Nat)->SD->Prop) E,Q none s->wA MD A.in1 (setNext D ((jh:Nat):Int).toNat (Int.toNat 1) (Int.toNat 1)) Q E s:=fun Q E=>vq ho hd
 unfold Builtin.«set_iterator.__next__» slotArgs
 wp_walk using e2,e
 simp only[raiseNew]
 refine wBi (wpAny_handled ?_)
 rw[show A.in1.handled=none from hh]
 refine wBi (wP (wpAny_throw ?_))
 refine wBi (wpAny_isInstance (T:="StopIteration") (b:=true) ⟨_,Hp.get?_push_size _ rfl,rfl⟩ isSubtype_stop ?_)
 exact wP (h _ fun b o q e=>Hp.get?_push_of_some _ (Hp.get?_push_of_some _ ((Hp.get?_update_other _ _ (Ne.symm q)).trans e)))
theorem ql{f:Vl->Sem Unit}{Q:Unit->SD->Prop}(hh:A.handled=none)(ho:s.heap.get? D=some o)(hc:o.cls= .type "set")(hd:o.data=c7 1)
  (h:∀h',(∀b o,s.heap.get? b=some o->h'.get? b=some o)->wA MD A (f (.bool true)) Q E {s with heap:=h'}):wA MD A (unpack (.ref D) [(false,f)]) Q E s:=by
 have hT:s.TypeIs (.ref D) "set":=⟨o,ho,hc⟩
 unfold unpack
 refine wBi (wpAny_holding ?_)
 show wA _ _ (unpackItems (.ref D) 1 none) _ _ _
 unfold unpackItems notIterableAtAll
 refine wBi (wBi (wpAny_specialOf hT F.slot_set_iter.lookup (wP ?_)))
 rw[if_neg (by decide)]
 refine wBi (wpAny_holding (wT ho hc hd ?_))
 have lt:∀{b o},s.heap.get? b=some o->b≠s.heap.objs.size:=fun e=>Nat.ne_of_lt (Hp.lt_size e)
 have hi:=Hp.get?_push_size (o:=lU D 0 0) s.heap rfl
 have k1:∀b o,s.heap.get? b=some o->(s.heap.push (lU D 0 0)).get? b=some o:=fun b o e=>Hp.get?_push_of_some _ e
 generalize s.heap.push (lU D 0 0)=h₁ at hi k1⊢
 unfold draw draw
 refine wBi (wpAny_holding (wBi (wH (s:={s with heap:=h₁}) (k1 _ _ ho) hd hi fun h2 hi2 k2=>wBi (wpAny_holding (wP (wP ?_))))))
 have k12:∀b o,s.heap.get? b=some o->h2.get? b=some o:=fun b o e=>k2 b o (lt e) (k1 b o e)
 dsimp only
 rw[if_neg (by decide)]
 refine wBi (wpAny_holding (wf (s:={s with heap:=h2}) hh (k12 _ _ ho) hd hi2 fun h3 k3=>?_))
 rw[if_neg (by decide)]
 refine wP ?_
 show wA _ _ (assignInOrder [f] [.bool true]) _ _ _
 unfold assignInOrder assignInOrder
 exact wBi (wpAny_holding (wpAny_mono (h h3 fun b o e=>k3 b o (lt e) (k12 b o e)) (fun O O q=>wP q) fun O O q=>q))
end
noncomputable def AL:AK where
 P:=fun out hb h D=>∃o,h.get? D=some o/\o.cls= .type "set"/\o.data=c7 out.length
 loose:=true
 base:=fun O r=>r
 step:=fun _ {out h hb h' hb' D} st ⟨o,ho,hc,hd⟩=>by
  obtain⟨sl,e⟩:=st.up D o ho (fun vs q=>by rw[hd]at q;cases out<;>cases q)
  exact⟨_,e,hc,hd⟩
 at':=fun k ⟨o,ho,r⟩=>⟨o,k o ho,r⟩
 keep:=fun O r=>r
 data:=fun{out h hb D} ⟨o,ho,_,hd⟩=>⟨o,ho,(fun vs q=>by rw[hd]at q;cases out<;>cases q),(fun vs q=>by rw[hd]at q;cases out<;>cases q)⟩
section
variable{z:Bool}{elt tgt iter:Ep}
theorem z0:uG (AL) (newSet (.type "set")) {cls:=.type "set",data:=c7 0} where
 new:=fun h=>by
  unfold newSet
  exact wBi (fX (wpAny_newObj_type h))
 p:=fun h=>⟨_,h,rfl,rfl⟩
 fr:=rfl
theorem wh(he:Ev hg n env ρ elt (RF (DV (.bool true))))(hρ:∀y lv,ρ'.lookup y=some lv->ρ.lookup y=some lv):pY (AL) hg n env ρ ρ' (s8 elt env) [.bool true]:=fun A fr h₀ hb₀ hb s D out Q E ok x hz h=>by
 unfold s8
 refine wBi (he A fr hb s _ E ok x.s fun v h₁ hb1 tk1 st1 r1=>wBi (wpAny_standAt (wBi ?_)))
 obtain rfl:=de r1
 have x1:=x.step st1 (.inl rfl)
 obtain⟨⟨o,ho,hc,hd⟩,d2⟩:=x1.d
 refine sy (cl:=.none) ho hc hd fun h' tk p k=>wP ?_
 exact h h' hb1 tk (x1.filled (by show∃o,_;rw[List.length_append];exact p) k hρ) st1.sub ((Kb.of_up st1.up).trans (Kb.of_but (by simp) k))
theorem v9{elt:Ep}{g:Comprehension}{rest:List Comprehension}{scope:Scope}(hg:g.is_async=0):uQ (.SetComp elt (g::rest) scope pos):=fun{A env it acc s R} h0 h=>by
 refine codeAny_of_tree ?_
 show wA _ _ ((compStart (.SetComp elt (g::rest) scope pos) 0 it acc env).onRaise (fun x=>do noteFrame x env;standAt theWindowsPlace)) _ _ _
 refine wpAny_notedAt ?_
 unfold compStart
 rw[show((clausesOf (.SetComp elt (g::rest) scope pos))[0]?).elim false (fun g=>g.is_async !=0)=false by show(g.is_async !=0)=false;rw[hg];rfl]
 show wA _ _ (ask>>=_) _ _ _
 refine wBi (wpAny_askSetting (wpAny_ite ?_))
 split
 ·exact wP (And.intro rfl h0)
 ·refine wBi (wpAny_rule ?_)
  show wA _ _ (standAt g.iter.pos>>=_) _ _ _
  exact wBi (wpAny_standAt (wBi (wpAny_mono h (fun O O q=>wP (And.intro rfl q)) fun O O q=>q)))
theorem pU{x:Str}{p p' pc:Pos}{k:Nat}{scope:Scope}{cl:List (Str×Ad)}{ρc:LS}{ds:List PyD}
  (hit:ls hg n env ρ iter tgt ds)(hclos:closureFor scope env=pure cl)(hcap:nz env scope cl ρ ρc)
  (turn:∀C,∀d∈ds,∃σ,A4 (Bd tgt d σ) (∀y∈σ.map (·.1),(compEnvC scope cl C env).kindOf y=some .local) (∀y lv,ρc.lookup y=some lv->(σ ++ρc).lookup y=some lv) (Ev hg n (compEnvC scope cl C env) (σ ++ρc) elt (RF (DV (.bool true)))))
  (hne:ds≠[])(hz:ds.length<=1000000)(kx:cM env x)(hcell:autoParam (∀y∈scope.names,y.2≠ .cell) Dc)(hkind:autoParam (scope.kind= .function) Rf)
  (hnames:autoParam (∀y∈scope.names,y.2= .local->scope.names.lookup y.1=some .local) Dc)(hs:autoParam (∀x,foldedSetIterable iter env x=pure x) If)
  (hsw:autoParam (swapsWithSole [.Tuple [.Name x p] k p'] (.SetComp elt [⟨tgt,iter,[],0⟩] scope pc) pos.line env=pure false) Rf)(hw:autoParam (swappedStores [.Tuple [.Name x p] k p'] (.SetComp elt [⟨tgt,iter,[],0⟩] scope pc) env=pure none) Rf):
  X hg z n env ρ (.Assign [.Tuple [.Name x p] k p'] (.SetComp elt [⟨tgt,iter,[],0⟩] scope pc) pos) (.next ((x,.fz (DV (.bool true)))::ρ)):=fun A fr h₀ hb₀ hb s Q E ok Rl h=>by
 refine PyProof.Rows.Assign_Tuple ?_ hsw hw
 rw[arm_eval_SetComp]
 have el:∀ds:List PyD,(ds.map fun d=>(DV d,[PyD.bool true])).flatMap (·.2)=ds.map fun O=>.bool true:=fun ds=>by
  induction ds with
  |nil=>rfl
  |cons d ds ih=>simp only[List.map_cons,List.flatMap_cons,ih];rfl
 refine iP (K:=AL) (ds:=ds.map fun d=>(DV d,[.bool true])) (use:=none) ya rfl (v9 rfl) z0 (by rw[List.map_map];exact hit.g) hclos hcap hcell hkind hnames hs (.inl rfl) (fun C d hd=>?_) (by rw[el,List.length_map];exact hz) ok Rl.s fun C D h₁ hb1 tk1 m st1 p1 ne1 d2 d3 hm c2 c3=>⟨m,hm,fun h2 sb=>?_⟩
 ·obtain⟨d,hd',rfl⟩:=List.mem_map.mp hd
  obtain⟨σ,b,loc,apart,he⟩:=turn C d hd'
  exact⟨σ,true,.of b,loc,apart,ew,fun O=>wh he apart,fun q=>by cases q⟩
 ·rw[el]at p1
  obtain⟨o,ho,hc,hd⟩:=p1
  have hd:o.data=c7 1:=by
   rw[hd]
   cases ds with
   |nil=>exact absurd rfl hne
   |cons d ds=>rfl
  have st2:=et st1 c3 c2 sb.extBut
  show wA _ A (do standAt p';unpack (.ref D) [(false,assign (.Name x p) env)]) _ _ _
  refine wBi (wpAny_standAt (ql ok.h (sb.extBut D o ne1 ho) hc hd fun h3 k3=>wpAny_assign_Name ?_))
  have st3:ay s.heap hb h3 hb1:=st2.trans ⟨.of_keeps k3,fun O O e=>e,fun b o e=>k3 b o (st2.stay b o e),fun O O O O e=>e⟩
  exact(Rl.step st3).store kx (lv:=.fz (DV (.bool true))) bp fun h' tk R' O O O O=>h .next h' hb1 tk ⟨rfl,R'⟩ (.of st1.sub)
end
section
open Builtin Builtin.Str
noncomputable def jv(c:Str):Bool:=c.length !=0&&c !="."
noncomputable def bi(x:Str):List Str:=(Txt.split x "/").filter jv
structure iR(x:Str):Prop where
 ok:dZ x
 abs:Txt.startswith x "/"=true
 n:(partsBetween x (occurrences x "/" 0 x.length (x.length +1)) 1).length<=100
 s:(Txt.split x "/").length<=100
 p:∀c∈Txt.split x "/",c.length<=100
noncomputable def yo:PyD->List PyD
 | .str x=>[.list ((Txt.split x "/").map .str)]
 |_=>[]
noncomputable def uF:PyD->List PyD
 | .str c=>if jv c=true then[.str c]else[]
 |_=>[]
noncomputable def uj:PyD->List PyD
 | .list ds=>[.list (ds.flatMap uF)]
 |_=>[]
theorem tw(xs:List Str):(xs.map PyD.str).flatMap yo=SS (xs.map fun x=>Txt.split x "/"):=by
 induction xs with
 |nil=>rfl
 |cons x xs ih=>rw[List.map_cons,List.flatMap_cons,ih];rfl
theorem xh(cs:List Str):(cs.map PyD.str).flatMap uF=(cs.filter jv).map .str:=by
 rw[List.flatMap_map]
 exact kL cs jv PyD.str
theorem Ao(xss:List (List Str)):(SS xss).flatMap uj=SS (xss.map fun cs=>cs.filter jv):=by
 induction xss with
 |nil=>rfl
 |cons x xs ih=>
  show[PyD.list ((x.map PyD.str).flatMap uF)] ++(SS xs).flatMap uj=_
  rw[ih,xh];rfl
section
variable{z:Bool}
theorem yC{ds:List PyD}(he:Ev hg n env ρ e (RF (DV (.tuple ds))))(hz:ds.length<=1000000)(hq:autoParam (∀whole,isTrue e env whole=(do let v <-whole;standAt e.pos;holding [v] (truthy v))) If):Tv hg n env ρ e (!ds.isEmpty):=fun A fr hb s Q E ok S h=>
 wpAny_isTrue_value (he:=hq _) (he A fr hb s _ E ok S fun v h' hb' tk st r=>by
  obtain⟨a,vs,rfl,ht,hr⟩:=eW st.stay r
  have hlen:vs.size=ds.length:=by simpa using hr.length
  refine truthy_tuple ht (by rw[hlen];exact Int.lt_of_le_of_lt (b:=1000000) (by exact BT ‹_›) (by decide)) ?_
  have e1:(!vs.isEmpty)=!ds.isEmpty:=by
   congr 1
   rw[Bool.eq_iff_iff]
   simp only[Array.isEmpty_iff_size_eq_zero,List.isEmpty_iff_length_eq_zero,hlen]
  rw[e1]
  exact h _ _ _ st)
theorem yk(G:Gr KZ hg)(L:Nat){xs:List Str}(hx:∀x∈xs,iR x)(hne:xs≠[])(hz:xs.length<=100000)(h1:ρ.lookup ("paths":Str)=some (.fz (DV (.list (xs.map .str))))):
  X hg z (n +4) (callEnvC ir.fd L 247) ρ (bw ir.body 0) (.next (("paths",.fz (DV (.tuple (xs.map .str))))::ρ)):=
 bS (pj (bg G rfl rfl rfl (by decide)) (bg G rfl rfl rfl (by decide)) (ck G rfl rfl) (bL (aa h1)) (fun d hd=>by obtain⟨x,hx',rfl⟩:=List.mem_map.mp hd;exact gC G x) (by rw[List.length_map];exact Nat.le_trans ‹_› (by decide))) (.inl rfl)
theorem xE(G:Gr KZ hg)(L:Nat){xs:List Str}{x:Str}{tl:List Str}(hne:xs=x::tl)(hz:xs.length<=100000)(h1:ρ.lookup ("paths":Str)=some (.fz (DV (.tuple (xs.map .str))))){o:kR}{ss:List Stmt}
  (h:Ex hg z (n +4) (callEnvC ir.fd L 247) (("curdir",.fz (DV (.str ".")))::("sep",.fz (DV (.str "/")))::ρ) ss o):Ex hg z (n +4) (callEnvC ir.fd L 247) ρ (bw ir.body 1::bw ir.body 2::ss) o:=by
 refine ac (ρ1:=ρ) (fv (b:=!(!(xs.map PyD.str).isEmpty)) (uc (yC (aa h1) (by rw[List.length_map];exact Nat.le_trans ‹_› (by decide)))) ?_ fun O=>aQ fun O O e=>e) (ac (fv (b:=false) (cw (aB (bg G rfl rfl rfl (by decide)) (.builtin _) (bu (bq (aa h1) aJ (tj (d:=.str x) (by decide) (by rw[hne];rfl) (by decide))) (bu (bg G rfl rfl rfl (by decide)) ao)) dU)) (fun q=>by cases q) fun O=>?_) h)
 ·intro q;rw[hne]at q;cases q
 ·exact ac (bS du (.inr ⟨rfl,_,rfl⟩)) (ac (bS du (.inr ⟨rfl,_,rfl⟩)) (aQ fun O O e=>e))
noncomputable def jB:List Stmt:=bb (bw ir.body 3)
theorem xv(G:Gr KZ hg)(L:Nat){xs:List Str}(hx:∀x∈xs,iR x)(hz:xs.length<=100000)(h1:ρ.lookup ("paths":Str)=some (.fz (DV (.tuple (xs.map .str)))))(h2:ρ.lookup ("sep":Str)=some (.fz (DV (.str "/")))):
  X hg z (n +4) (callEnvC ir.fd L 247) ρ (bw jB 0) (.next (("split_paths",.fz (DV (.list (SS (xs.map fun x=>Txt.split x "/")))))::ρ)):=by
 refine fq (item:=yo) (ρc:=[("sep",.fz (DV (.str "/")))]) bv rfl (lJ (ds:=xs.map .str) (aa h1)) rfl ?_ ?_ (tw xs) (by unfold SS;rw[List.length_map,List.length_map];exact Nat.le_trans ‹_› (by decide)) (.inl rfl)
 ·intro q hq
  rw[List.mem_singleton.mp hq]
  exact⟨h2,.inl rfl,⟨.inl rfl,rfl⟩,rfl⟩
 ·intro C d hd
  obtain⟨x,hx',rfl⟩:=List.mem_map.mp hd
  have P:=hx x hx'
  refine b9 .name ?_ (cT.at ⟨rfl,trivial⟩) (d8 (xW (aa rfl) (aa rfl) rfl (by have:=P.ok.2;exact Nat.le_trans ‹_› (by decide)) (Nat.le_trans P.n (by decide))))
  exact cG rfl
theorem yD(G:Gr KZ hg)(L:Nat){xs:List Str}(hx:∀x∈xs,iR x)(hne:xs≠[])(hz:xs.length<=100000)(h1:ρ.lookup ("paths":Str)=some (.fz (DV (.tuple (xs.map .str)))))(h2:ρ.lookup ("sep":Str)=some (.fz (DV (.str "/")))):
  X hg z (n +4) (callEnvC ir.fd L 247) ρ (bw (bb (bw jB 1)) 0) (.next (("isabs",.fz (DV (.bool true)))::ρ)):=by
 refine pU (ρc:=[("sep",.fz (DV (.str "/")))]) (lJ (ds:=xs.map .str) (aa h1)) rfl ?_ ?_ (fun q=>hne (List.map_eq_nil_iff.mp q)) (by rw[List.length_map];exact Nat.le_trans ‹_› (by decide)) (.inl rfl)
 ·intro q hq
  rw[List.mem_singleton.mp hq]
  exact⟨h2,.inl rfl,⟨.inl rfl,rfl⟩,rfl⟩
 ·intro C d hd
  obtain⟨x,hx',rfl⟩:=List.mem_map.mp hd
  refine⟨_,.name,?_,cT.at ⟨rfl,trivial⟩,?_⟩
  ·exact cG rfl
  ·rw[<-(hx x hx').abs]
   exact iA (aa rfl) (aa rfl)
end
end
section
open Builtin Builtin.Str
section
variable{z:Bool}
theorem yn(G:Gr KZ hg)(L:Nat){xss:List (List Str)}(hx:∀cs∈xss,cs.length<=1000/\∀c∈cs,c.length<=1000)(hz:xss.length<=100000)(h1:ρ.lookup ("split_paths":Str)=some (.fz (DV (.list (SS xss)))))(h2:ρ.lookup ("curdir":Str)=some (.fz (DV (.str ".")))):
  X hg z (n +4) (callEnvC ir.fd L 247) ρ (bw jB 2) (.next (("split_paths",.fz (DV (.list (SS (xss.map fun cs=>cs.filter jv)))))::ρ)):=by
 refine fq (item:=uj) (ρc:=[("curdir",.fz (DV (.str ".")))]) bv rfl (bo (ds:=SS xss) (bL (aa h1))) rfl ?_ ?_ (Ao xss) (by unfold SS;rw[List.length_map,List.length_map];exact Nat.le_trans ‹_› (by decide)) (.inl rfl)
 ·intro q hq
  rw[List.mem_singleton.mp hq]
  exact⟨h2,.inl rfl,⟨.inl rfl,rfl⟩,rfl⟩
 ·intro C d hd
  obtain⟨cs,hcs,rfl⟩:=List.mem_map.mp hd
  obtain⟨l1,l2⟩:=hx cs hcs
  show X2 fun σ b=>cn _ _ _ _ _ _ _ (.list (cs.map .str)) [.list ((cs.map PyD.str).flatMap uF)] σ b
  refine b9 .name ?_ (cT.at ⟨rfl,trivial⟩) (d8 (dw (ρc:=[("curdir",.fz (DV (.str ".")))]) bv (bo (ds:=cs.map .str) (bL (aa rfl))) rfl ?_ ?_ ?_))
  ·exact cG rfl
  ·intro q hq
   rw[List.mem_singleton.mp hq]
   exact⟨rfl,.inl rfl,⟨.inl rfl,rfl⟩,rfl⟩
  ·intro C' d hd
   obtain⟨c,hc,rfl⟩:=List.mem_map.mp hd
   show X2 fun σ b=>cn _ _ _ _ _ _ _ (.str c) (if jv c=true then[.str c]else[]) σ b
   refine eg .name ?_ (cT.at ⟨rfl,trivial⟩) (jN (ug (aa rfl) (by have:=l2 c hc;exact Nat.le_trans ‹_› (by decide))) fun O=>aX (aa rfl) (aa rfl) ib) fun O=>aa rfl
   exact cG rfl
  ·rw[xh,List.length_map]
   have:=List.length_filter_le jv cs
   exact Nat.le_trans ‹_› (Nat.le_trans ‹_› (by decide))
theorem kU(L:Nat){F:LV}{s1 s2:List Str}(hz:s1.length<=1000):∀(m k:Nat),m +k=s1.length->(∀(i:Nat)(c:Str),s1[i]?=some c->s2[i]?=some c)->
  dh hg z (n +4) (callEnvC ir.fd L 247) (dC (bw jB 6)) (bb (bw jB 6)) [("s2",.fz (DV (.list (s2.map .str)))),("common",F),("sep",.fz (DV (.str "/"))),("isabs",.fz (DV (.bool true)))] (jQ k ((s1.drop k).map .str)) (.next [("common",F),("sep",.fz (DV (.str "/"))),("isabs",.fz (DV (.bool true)))])
 |0,k,hk,hp=>by
  rw[List.drop_eq_nil_of_le (by omega)]
  exact .nil (cT.at ⟨rfl,rfl,rfl,trivial⟩)
 |m +1,k,hk,hp=>by
  have hlt:k<s1.length:=by exact Ej ‹_›
  rw[List.drop_eq_getElem_cons hlt]
  refine .next (.tuple (.cons .name (.cons .name .nil))) ?_ (ρ1:=[("s2",.fz (DV (.list (s2.map .str)))),("common",F),("sep",.fz (DV (.str "/"))),("isabs",.fz (DV (.bool true)))]) ?_ (kU L hz m (k +1) (by exact CF ‹_›) hp)
  ·exact fL (.inl rfl) (.inl rfl)
  ·have h2:(s2.map PyD.str)[k]?=some (.str s1[k]):=by rw[List.getElem?_map,hp k _ (List.getElem?_eq_getElem hlt)];rfl
   refine ac (ρ1:=[("s2",.fz (DV (.list (s2.map .str)))),("common",F),("sep",.fz (DV (.str "/"))),("isabs",.fz (DV (.bool true)))]) (fv (b:=s1[k] !=s1[k]) (aX (aa rfl) (bq (bL (aa rfl)) (aa rfl) (cp (i:=(k:Nat)) (by exact Int.natCast_nonneg _) (by simpa using h2) (by exact zb (Nat.lt_of_lt_of_le ‹_› (Nat.le_trans ‹_› (by decide)))))) ib) (fun q=>by rw[bne_self_eq_false]at q;cases q) fun O=>aQ (cT.at ⟨rfl,rfl,rfl,rfl,trivial⟩)) (aQ fun O O e=>e)
theorem sZ(G:Gr KZ hg)(L:Nat){s1 s2:List Str}(hz:s1.length<=1000)(hp:∀(i:Nat)(c:Str),s1[i]?=some c->s2[i]?=some c)(hok:JoinOk "/" s1=true)(hl:(Txt.join "/" s1).length<=1000)
  (h1:ρ.lookup ("s1":Str)=some (.fz (DV (.list (s1.map .str)))))(h2:ρ.lookup ("s2":Str)=some (.fz (DV (.list (s2.map .str)))))(h3:ρ.lookup ("sep":Str)=some (.fz (DV (.str "/"))))(h4:ρ.lookup ("isabs":Str)=some (.fz (DV (.bool true)))):
  Ex hg false (n +4) (callEnvC ir.fd L 247) ρ [bw jB 5,bw jB 6,bw jB 7,bw jB 8] (.ret (RF (DV (.str ("/" ++Txt.join "/" s1))))):=by
 have low:∀{y:Str}{lv lv':LV},y≠"common"->ρ.lookup y=some lv->List.lookup y ((("common":Str),lv')::ρ)=some lv:=fun a e=>by rw[aw,if_neg a];exact e
 refine ac (bS (aa h1) (.inl rfl)) (ac (ρ1:=[("common",.fz (DV (.list (s1.map .str)))),("sep",.fz (DV (.str "/"))),("isabs",.fz (DV (.bool true)))]) (gR (ds:=bN (s1.map .str)) (qL ?_ (aa (low (by decide) h1))) ?_) (ac (bS (F:=DV (.str "/")) (uy (b:=true) (cw (aa rfl)) (fun O=>aa rfl) fun q=>by cases q) (.inl rfl)) (aY (jI (bO (aa rfl) (zz (aa rfl) (bL (aa rfl)) hok) (dK ?_))) rfl)))
 ·exact bg G rfl rfl rfl (by decide)
 ·rw[k7]
  exact nN (ρ':=[("s2",.fz (DV (.list (s2.map .str)))),("common",.fz (DV (.list (s1.map .str)))),("sep",.fz (DV (.str "/"))),("isabs",.fz (DV (.bool true)))]) (cT.at ⟨low (by decide) h2,rfl,low (by decide) h3,low (by decide) h4,trivial⟩) (kU L hz s1.length 0 rfl hp)
 ·have:Str.length "/"=1:=rfl
  rw[this]
  exact aE (by exact Nat.le_trans (Nat.add_le_add_left ‹_› _) (by decide))
theorem vA(G:Gr KZ hg)(L:Nat){xs:List Str}(hx:∀x∈xs,iR x)(hne:xs≠[])(hz:xs.length<=100000){s1:List Str}(hs:gV true (xs.map bi)=s1)(hzs:s1.length<=1000)(hp:∀(i:Nat)(c:Str),s1[i]?=some c->(gV false (xs.map bi))[i]?=some c)(hok:JoinOk "/" s1=true)(hl:(Txt.join "/" s1).length<=1000):
  Ex hg false (n +4) (callEnvC ir.fd L 247) [("paths",.fz (DV (.list (xs.map .str))))] ir.body (.ret (RF (DV (.str ("/" ++Txt.join "/" s1))))):=by
 obtain⟨x,tl,hc⟩:=List.exists_cons_of_ne_nil hne
 refine ac (yk G L hx hne hz rfl) (xE G L hc hz rfl (aY (vf ?_) rfl))
 refine ac (xv G L hx hz rfl rfl) (ac (vf (ac (yD G L hx hne hz rfl rfl) (aQ fun O O e=>e))) (ac (yn G L ?_ ?_ rfl rfl) ?_))
 ·intro cs hcs
  obtain⟨x,hx',rfl⟩:=List.mem_map.mp hcs
  exact⟨Nat.le_trans (hx x hx').s (by decide),fun c hc=>Nat.le_trans ((hx x hx').p c hc) (by decide)⟩
 ·rw[List.length_map];exact hz
 rw[List.map_map,show(fun cs:List Str=>cs.filter jv)∘(fun x=>Txt.split x "/")=bi from rfl]
 have hm:xs.map bi≠[]:=fun q=>hne (List.map_eq_nil_iff.mp q)
 have b1:=n0 (hg:=hg) (n:=n +3) true hm
 have b2:=n0 (hg:=hg) (n:=n +3) false hm
 rw[hs]at b1
 generalize gV false (xs.map bi)=s2 at hp b2
 refine ac (bS (aB (bg G rfl rfl rfl (by decide)) (.builtin "min") (gH (bL (aa rfl)) ao) b1) (.inl rfl)) (ac (bS (aB (bg G rfl rfl rfl (by decide)) (.builtin "max") (gH (bL (aa rfl)) ao) b2) (.inl rfl)) ?_)
 exact sZ G L hzs hp hok hl rfl rfl rfl rfl
theorem tT(G:Gr KZ hg){xs:List Str}(hx:∀x∈xs,iR x)(hne:xs≠[])(hz:xs.length<=100000){s1:List Str}(hs:gV true (xs.map bi)=s1)(hzs:s1.length<=1000)(hp:∀(i:Nat)(c:Str),s1[i]?=some c->(gV false (xs.map bi))[i]?=some c)(hok:JoinOk "/" s1=true)(hl:(Txt.join "/" s1).length<=1000):
  gO hg (n +5) (.ref 247) [rF (DV (.list (xs.map .str)))] (RF (DV (.str ("/" ++Txt.join "/" s1)))):=by
 refine gM G ir ["paths"] [DV (.list (xs.map .str))] _ ?_ ?_ fun L=>vA G L hx hne hz hs hzs hp hok hl
 ·intro vs h
  obtain⟨_,rfl⟩:=jG h;rfl
 ·exact fun L=>cG (.inl rfl)
end
end
section
open Builtin Builtin.Str
noncomputable def iB(a b:Nat)(m:bf):Bool:=(if m.2.1<=m.2.2 then m.2.1==a&&m.2.2==b else m.2.2==a&&m.2.1==b)
noncomputable def b7(ms:List bf)(a b:Nat):List (Str×Nat):=(ms.filter (iB a b)).map fun m=>(m.1,m.2.1)
noncomputable def l7(a b:Nat):PyD->List PyD
 | .tuple [.str x,.int e,.int l]=>if(if e<=l then e==(a:Nat)&&l==(b:Nat)else l==(a:Nat)&&e==(b:Nat))=true then[.tuple [.str x,.int e]]else[]
 |_=>[]
theorem vI(a b:Nat)(m:bf):(if((m.2.1:Nat):Int)<=((m.2.2:Nat):Int)then((m.2.1:Nat):Int)==(a:Nat)&&((m.2.2:Nat):Int)==(b:Nat)else((m.2.2:Nat):Int)==(a:Nat)&&((m.2.1:Nat):Int)==(b:Nat))=iB a b m:=by
 have e:∀x y:Nat,(((x:Nat):Int)==((y:Nat):Int))=(x==y):=fun x y=>by
  rw[Bool.eq_iff_iff];simp only[beq_iff_eq];exact Fl
 unfold iB
 rw[e,e,e,e]
 by_cases q:m.2.1<=m.2.2
 ·rw[if_pos q,if_pos (by exact Int.ofNat_le.mpr ‹_›)]
 ·rw[if_neg q,if_neg (by omega)]
theorem xr(a b:Nat)(ms:List bf):(MM ms).flatMap (l7 a b)=LL (b7 ms a b):=by
 induction ms with
 |nil=>rfl
 |cons m ms ih=>
  show l7 a b (eh m) ++(MM ms).flatMap (l7 a b)=_
  rw[ih]
  have e:l7 a b (eh m)=if iB a b m=true then[.tuple [.str m.1,.int ((m.2.1:Nat):Int)]]else[]:=by
   rw[<-vI];rfl
  rw[e]
  unfold b7
  rw[List.filter_cons]
  by_cases q:iB a b m=true
  ·rw[if_pos q,if_pos q];rfl
  ·rw[if_neg q,if_neg q];rfl
noncomputable def pr:PyD->List PyD
 | .tuple [x,_]=>[x]
 |_=>[]
noncomputable def pH:PyD->List PyD
 | .tuple [_,e]=>[e]
 |_=>[]
theorem zG(fs:List (Str×Nat)):(LL fs).flatMap pr=(fs.map (·.1)).map .str:=by
 induction fs with
 |nil=>rfl
 |cons f fs ih=>show pr (mZ f) ++(LL fs).flatMap pr=_;rw[ih];rfl
theorem lx(fs:List (Str×Nat)):(LL fs).flatMap pH=aG (fs.map fun f=>((f.2:Nat):Int)):=by
 induction fs with
 |nil=>rfl
 |cons f fs ih=>show pH (mZ f) ++(LL fs).flatMap pH=_;rw[ih];rfl
noncomputable def xK(xs:List Str)(r:Str):Prop:=(∀x∈xs,iR x)/\∃s1,A6 (gV true (xs.map bi)=s1) (s1.length<=1000) (∀(i:Nat)(c:Str),s1[i]?=some c->(gV false (xs.map bi))[i]?=some c) (JoinOk "/" s1=true) ((Txt.join "/" s1).length<=1000) (r="/" ++Txt.join "/" s1)
noncomputable def lC(ms:List bf)(a b:Nat):Prop:=b7 ms a b≠[]->xK ((b7 ms a b).map (·.1)) (vy ((b7 ms a b).map (·.1)))/\(dd (aG ((b7 ms a b).map fun f=>((f.2:Nat):Int)))).length=1
section
variable{z:Bool}
theorem z5{x y a b:Int}:PyD.eqv (.list (if x<=y then[.int x,.int y]else[.int y,.int x])) (.list [.int a,.int b])=if x<=y then x==a&&y==b else y==a&&x==b:=by
 split<;>simp[PyD.eqv,PyD.eqvAll]
theorem Aq(G:Gr KZ hg)(L:Nat){ms:List bf}(hz:ms.length<=100000){a b:Nat}(h1:ρ.lookup ("marks":Str)=some (.fz (DV (.list (MM ms)))))(h2:ρ.lookup ("one":Str)=some (.fz (DV (.int (a:Nat)))))(h3:ρ.lookup ("other":Str)=some (.fz (DV (.int (b:Nat))))):
  X hg z (n +8) (callEnvC mT.fd L 300) ρ (bw (bb (bw mT.body 0)) 0) (.next (("met",.fz (DV (.list (LL (b7 ms a b)))))::ρ)):=by
 refine fq (item:=l7 a b) (ρc:=[("one",.fz (DV (.int (a:Nat)))),("other",.fz (DV (.int (b:Nat))))]) bv rfl (bo (ds:=MM ms) (bL (aa h1))) rfl ?_ ?_ (xr a b ms) ?_ (.inl rfl)
 ·intro q hq
  simp only[List.mem_cons,List.not_mem_nil,or_false]at hq
  rcases hq with rfl|rfl
  ·exact⟨h2,.inl rfl,⟨.inl rfl,rfl⟩,rfl⟩
  ·exact⟨h3,.inl rfl,⟨.inl rfl,rfl⟩,rfl⟩
 ·intro C d hd
  obtain⟨m,hm,rfl⟩:=List.mem_map.mp hd
  show X2 fun σ b'=>cn _ _ _ _ _ _ _ (eh m) (if(if((m.2.1:Nat):Int)<=((m.2.2:Nat):Int)then((m.2.1:Nat):Int)==(a:Nat)&&((m.2.2:Nat):Int)==(b:Nat)else((m.2.2:Nat):Int)==(a:Nat)&&((m.2.1:Nat):Int)==(b:Nat))=true then[.tuple [.str m.1,.int ((m.2.1:Nat):Int)]]else[]) σ b'
  rw[<-z5]
  refine eg (.tuple (.cons .name (.cons .name (.cons .name .nil)))) ?_ (cT.at ⟨rfl,rfl,trivial⟩) (aX (aB (bg G rfl rfl rfl (by decide)) (.builtin _) (gH (gh (aO (ak (aa rfl) (ak (aa rfl) au)))) ao) rM) (gP (aO (ak (aa rfl) (ak (aa rfl) au)))) (Ay ?_ rfl ?_)) fun O=>cW (ak (aa rfl) (ak (aa rfl) au))
  ·exact nB (rfl) (rfl) (rfl)
  ·split<;>rfl
  ·split<;>simp[PyD.depth,PyD.depthAll]
 ·unfold LL b7
  rw[List.length_map,List.length_map]
  have:=List.length_filter_le (iB a b) ms
  exact Nat.le_trans ‹_› (Nat.le_trans ‹_› (by decide))
theorem xw:∀{fs:List (Str×Nat)},(∀f∈fs,dZ f.1)->PyD.canLayAll0 (LL fs)=true
 |[],_=>rfl
 |f::fs,h=>by
  show((PyD.canLay0 (.str f.1)&&(PyD.canLay0 (.int _)&&true))&&PyD.canLayAll0 (LL fs))=true
  rw[(h f (.head _)).s.lay,xw fun g hg=>h g (.tail _ hg)];rfl
theorem qA:∀fs:List (Str×Nat),PyD.depthAll (LL fs)<=1
 |[]=>by simp[LL,PyD.depthAll]
 |f::fs=>by
  have:=qA fs
  unfold LL mZ at*
  simp only[List.map_cons,PyD.depthAll,PyD.depth]at*
  omega
noncomputable abbrev ti(ms:List bf):LS:=[("marks",.fz (DV (.list (MM ms))))]
theorem yy(G:Gr KZ hg)(L:Nat){ms:List bf}(hz:ms.length<=100000)(hm:∀m∈ms,dZ m.1){a b:Nat}(ok:lC ms a b):
  Ex hg false (n +8) (callEnvC mT.fd L 300) (("other",.fz (DV (.int (b:Nat))))::("one",.fz (DV (.int (a:Nat))))::ti ms) (bb (bw mT.body 0)) (.next (ti ms)):=by
 have hml:(b7 ms a b).length<=ms.length:=by
  unfold b7
  rw[List.length_map]
  exact List.length_filter_le _ _
 have hmo:∀f∈b7 ms a b,dZ f.1:=fun f hf=>by
  obtain⟨m,hm',rfl⟩:=List.mem_map.mp hf
  exact hm m (List.mem_filter.mp hm').1
 refine ac (Aq G L hz rfl rfl rfl) (ac (ρ1:=ti ms) (fv (b:=!(LL (b7 ms a b)).isEmpty) (aX (e9 (aa rfl)) (gP (aO au)) (jT (xw hmo) (Nat.le_trans (qA _) (by decide)))) (fun q=>?_) fun O=>aQ (cT.at ⟨rfl,trivial⟩)) (aQ fun O O e=>e))
 have hne:b7 ms a b≠[]:=fun e=>by rw[e]at q;cases q
 obtain⟨⟨hx,s1,e1,e2,e3,e4,e5,e6⟩,hl⟩:=ok hne
 have hf:=tT (n:=n +3) G hx (fun e=>hne (List.map_eq_nil_iff.mp e)) (by rw[List.length_map];exact Nat.le_trans ‹_› (Nat.le_trans ‹_› (by decide))) e1 e2 e3 e4 e5
 rw[<-e6]at hf
 have hmin:=zC (hg:=hg) (n:=n +8) (xs:=(b7 ms a b).map (·.1)) (fun e=>hne (List.map_eq_nil_iff.mp e))
 generalize vy ((b7 ms a b).map (·.1))=r at hf hmin
 refine ac (fq (item:=pr) (ρc:=[]) bv rfl (bo (ds:=LL (b7 ms a b)) (bL (aa rfl))) rfl (fun O q=>by cases q) ?_ (zG _) (by rw[List.length_map,List.length_map];exact Nat.le_trans ‹_› (Nat.le_trans ‹_› (by decide))) (.inl rfl)) ?_
 ·intro C d hd
  obtain⟨f,hf',rfl⟩:=List.mem_map.mp hd
  refine b9 (.tuple (.cons .name (.cons .name .nil))) ?_ (fun O O e=>by cases e) (aa rfl)
  exact fL (rfl) (rfl)
 refine ac (bS (d8 (aB (ck G rfl rfl) (bc G nv) (bu (d8 (dw (item:=pH) (ρc:=[]) bv (bo (ds:=LL (b7 ms a b)) (bL (aa rfl))) rfl (fun O q=>by cases q) ?_ ?_)) ao) (io G _ (by rw[lx];exact mA) (by rw[lx,List.length_map,List.length_map];exact Nat.le_trans ‹_› (Nat.le_trans ‹_› (by decide)))))) (.inl rfl)) ?_
 ·intro C d hd
  obtain⟨f,hf',rfl⟩:=List.mem_map.mp hd
  show X2 fun σ b'=>cn _ _ _ _ _ _ _ (mZ f) [.int ((f.2:Nat):Int)] σ b'
  refine b9 (.tuple (.cons .name (.cons .name .nil))) ?_ (fun O O e=>by cases e) (aa rfl)
  exact fL (rfl) (rfl)
 ·rw[lx,List.length_map,List.length_map];exact Nat.le_trans ‹_› (Nat.le_trans ‹_› (by decide))
 rw[lx]
 refine ac (ρ1:=ti ms) (fv (b:=r !=r||(((dd (aG ((b7 ms a b).map fun f=>((f.2:Nat):Int)))).length:Nat):Int) !=1) (pL (aX (aB (ck G rfl rfl) (bc G ir) (bu (aa rfl) ao) hf) (aB (bg G rfl rfl rfl (by decide)) (.builtin _) (gH (bL (aa rfl)) ao) hmin) ib) fun O=>aX (aB (bg G rfl rfl rfl (by decide)) (.builtin _) (gH (bL (aa rfl)) ao) (eo (by rw[hl];decide))) aJ n6) (fun q=>?_) fun O=>aQ (cT.at ⟨rfl,trivial⟩)) (aQ fun O O e=>e)
 rw[hl,bne_self_eq_false]at q
 cases q
end
end
section
variable{z:Bool}
noncomputable def iK:List (Nat×Nat):=[(0,1),(0,2),(1,2)]
noncomputable def yq(x:Nat×Nat):PyD:=.tuple [.int (x.1:Nat),.int (x.2:Nat)]
theorem se(G:Gr KZ hg)(L:Nat){ms:List bf}(hz:ms.length<=100000)(hm:∀m∈ms,dZ m.1):∀xs:List (Nat×Nat),(∀x∈xs,lC ms x.1 x.2)->
  dh hg false (n +8) (callEnvC mT.fd L 300) (dC (bw mT.body 0)) (bb (bw mT.body 0)) (ti ms) (xs.map yq) (.next (ti ms))
 |[],_=>.nil fun O O e=>e
 |x::xs,h=>by
  refine .next (.tuple (.cons .name (.cons .name .nil))) ?_ (yy G L hz hm (h x (.head _))) (se G L hz hm xs fun y hy=>h y (.tail _ hy))
  exact fL (.inr ⟨rfl,_,rfl⟩) (.inr ⟨rfl,_,rfl⟩)
theorem pV{a b:Nat}{k1 k2 k:Nat}{p1 p2:Pos}:Ev hg n env ρ (.Tuple [.Constant (.int (a:Nat)) k1 p1,.Constant (.int (b:Nat)) k2 p2] k pos) (RF (DV (yq (a,b)))):=cW (ak aJ (ak aJ au))
theorem Bi(G:Gr KZ hg)(L:Nat){ms:List bf}(hz:ms.length<=100000)(hm:∀m∈ms,dZ m.1)(ok:∀x∈iK,lC ms x.1 x.2):
  Ex hg false (n +8) (callEnvC mT.fd L 300) (ti ms) mT.body (.ret (RF (DV (.bool true)))):=by
 have lp:=se (n:=n) G L hz hm iK ok
 exact @ac _ _ _ _ _ _ _ _ _ (@gR _ _ _ _ _ _ _ _ _ _ (iK.map yq) (gY (d8 (aO (ak (pV (a:=0) (b:=1)) (ak (pV (a:=0) (b:=2)) (ak (pV (a:=1) (b:=2)) au)))))) lp (fun O=>rfl)) (aY (jI dP) rfl)
theorem zY(G:Gr KZ hg){ms:List bf}(hz:ms.length<=100000)(hm:∀m∈ms,dZ m.1)(ok:∀x∈iK,lC ms x.1 x.2):gO hg (n +9) (.ref 300) [rF (DV (.list (MM ms)))] (RF (DV (.bool true))):=by
 refine gM G mT ["marks"] [DV (.list (MM ms))] _ ?_ ?_ fun L=>@Bi _ _ G L _ hz hm ok
 ·intro vs h
  obtain⟨_,rfl⟩:=jG h;rfl
 ·exact fun L=>cG (.inl rfl)
end
theorem eU(kvs:List (Str×Vl))(k y:Str)(v:Vl):valueAt (stored kvs k v) y=if y=k then some v else valueAt kvs y:=by
 unfold valueAt stored
 by_cases h:kvs.any (fun kv=>decide (kv.1=k))=true
 ·rw[if_pos h,List.find?_map,Option.map_map]
  have e:((fun kv:Str×Vl=>decide (kv.1=y))∘fun kv=>if kv.1=k then(kv.1,v)else kv)=fun kv=>decide (kv.1=y):=by
   funext kv
   show decide ((if kv.1=k then(kv.1,v)else kv).1=y)=_
   split<;>rfl
  rw[e]
  cases hf:kvs.find? fun kv=>decide (kv.1=y)with
  |none=>
   by_cases q:y=k
   ·subst q
    obtain⟨kv,hm,hk⟩:=List.any_eq_true.mp h
    exact absurd hk (List.find?_eq_none.mp hf kv hm)
   ·rw[if_neg q];rfl
  |some kv=>
   have hy:kv.1=y:=by have:=List.find?_some hf;simpa using this
   by_cases q:y=k
   ·rw[if_pos q];show some (if kv.1=k then(kv.1,v)else kv).2=_;rw[if_pos (hy.trans q)]
   ·rw[if_neg q];show some (if kv.1=k then(kv.1,v)else kv).2=_;rw[if_neg (fun z=>q (hy.symm.trans z))];rfl
 ·rw[if_neg h,List.find?_append]
  by_cases q:y=k
  ·subst q
   have hf:(kvs.find? fun kv=>decide (kv.1=y))=none:=List.find?_eq_none.mpr fun kv hm hk=>h (List.any_eq_true.mpr ⟨kv,hm,hk⟩)
   rw[if_pos rfl,hf];simp
  ·rw[if_neg q]
   have:([(k,v)]:List (Str×Vl)).find? (fun kv=>decide (kv.1=y))=none:=by simp[Ne.symm q]
   rw[this,Option.or_none]
noncomputable def uU(g:Str->Str):AK where
 P:=fun out hb h D=>∃kvs,A3 (h.DictOf (strKind PG W0) D kvs) (kvs.length<=out.length) (∀d∈out,X2 fun x t=>d= .tuple [.str x,.str (g x)]/\valueAt kvs x=some (.str (g x) t))
 loose:=false
 step:=fun q=>by cases q
 base:=fun O r=>r
 at':=fun k ⟨kvs,⟨o,es,ep,ho,r⟩,q,q'⟩=>⟨kvs,⟨o,es,ep,k o ho,r⟩,q,q'⟩
 keep:=fun O r=>r
 data:=fun⟨kvs,⟨o,es,ep,ho,_,hd,_⟩,_,_⟩=>⟨o,ho,(fun vs q=>by rw[hd]at q;cases q),(fun vs q=>by rw[hd]at q;cases q)⟩
section
variable{z:Bool}{elt tgt iter ke ve:Ep}{g:Str->Str}
theorem yu:uG (uU g) newDict {cls:=.type "dict",data:=.dict #[] 0} where
 new:=fun h=>wpAny_newObj_type h
 p:=fun h=>⟨[],⟨_,_,_,h,⟨rfl,rfl,rfl⟩,rfl,(fun e he=>by simp at he),.nil,List.nodup_nil⟩,Nat.zero_le _,fun d hd=>by cases hd⟩
 fr:=rfl
theorem CR.guard{K:AK}{h₀ hb₀ hb h:Hp}{fr:List Env}{D:Ad}{out:List PyD}(x:CR K hg h₀ hb₀ hb h env fr ρ D out):∃hd,A4 (dc hg hd h env fr ρ) (hd.get? D=h.get? D) (hb.StaysIn hd) (∀a,a≠D->hb.get? a=none->hd.get? a=none):=by
 obtain⟨_,d2,d3,_⟩:=x.d
 obtain⟨hd,a,b⟩:=cu h fun b=>(hb.get? b).isSome=true\/b=D
 have sub:hb.StaysIn hd:=fun b o e=>(a b (.inl (by rw[e];rfl))).trans (x.s.b b o e)
 have off:∀c,c≠D->hb.get? c=none->hd.get? c=none:=fun c q e=>b c fun r=>r.elim (fun r=>by rw[e]at r;cases r) q
 refine⟨hd,⟨fun b o e=>sub b o (x.s.g b o e),fun c o e=>?_,?_,x.s.k,x.s.gl,x.s.bl,fun y lv e=>?_⟩,a D (.inr rfl),sub,off⟩
 ·by_cases q:(hb.get? c).isSome=true\/c=D
  ·rw[<-a c q];exact e
  ·rw[b c q]at e;cases e
 ·have ff:∀l:List Env,h₀.FunFrames hb₀ l->h.FunFrames hb l->h.FunFrames hd l:=fun l=>by
   induction l with
   |nil=>intro _ _;trivial
   |cons e l ih=>
    rintro⟨_,⟨L0,o0,f₀,_,ho0,hd0⟩,r0⟩ ⟨k,⟨L,o,f,hn,ho,hd'⟩,r⟩
    rw[f₀]at f;injection f with f;subst f
    refine⟨k,⟨L0,o,f₀,off L0 (fun q=>?_) hn,ho,hd'⟩,ih r0 r⟩
    subst q
    obtain⟨vs,e⟩:=d3 _ ho0
    exact hd0 vs e
  exact ff fr x.f0 x.s.f
 ·obtain⟨v,r,l⟩:=x.s.v y lv e
  refine⟨v,r,?_⟩
  cases lv with
  |fz F=>exact F.stays sub l
  |own ds=>obtain⟨a,vs,bs,e,p,q⟩:=l;exact⟨a,vs,bs,e,p,ReadsAll.keeps sub q⟩
theorem ww{hb h hd h' hb':Hp}{D:Ad}(st:ay h hd h' hb')(e:hd.get? D=h.get? D)(d2:hb.get? D=none)(sub:hb.StaysIn hd)(off:∀a,a≠D->hb.get? a=none->hd.get? a=none):∃g,A3 (ay h hb h' g) (∀o,h.get? D=some o->h'.get? D=some o) (g.StaysIn hb'):=by
 obtain⟨g,a,b⟩:=cu hb' fun b=>b≠D
 have gs:g.StaysIn hb':=fun c o q=>by
  by_cases z:c=D
  ·rw[b c (fun r=>r z)]at q;cases q
  ·rw[<-a c z];exact q
 refine⟨g,⟨st.up,fun c o q=>?_,fun c o q=>st.stay c o (gs c o q),fun c o ho hd' q=>?_⟩,fun o ho=>st.stay D o (st.sub D o (e.trans ho)),gs⟩
 ·rw[a c (fun z=>by subst z;rw[d2]at q;cases q)]
  exact st.sub c o (sub c o q)
 ·by_cases z:c=D
  ·exact b c fun r=>r z
  ·rw[a c z];exact st.fresh c o ho hd' (off c z q)
theorem tR{x:Str}(hk:Ev hg n env ρ ke (RF (DV (.str x))))(hv:Ev hg n env ρ ve (RF (DV (.str (g x)))))(hρ:∀y lv,ρ'.lookup y=some lv->ρ.lookup y=some lv):pY (uU g) hg n env ρ ρ' (qb ke ve env) [.tuple [.str x,.str (g x)]]:=fun A fr h₀ hb₀ hb s D out Q E ok X hz h=>by
 unfold qb
 obtain⟨hd,S,e,sub,off⟩:=X.guard
 refine wBi (hk A fr hd s _ E ok S fun kv h₁ hb1 tk1 st1 r1=>wBi (wpAny_holding (hv A fr hb1 _ _ E ok (S.step st1) fun vv h2 hb2 tk2 st2 r2=>wBi (wpAny_standAt (wpAny_holding ?_)))))
 obtain⟨t,rfl⟩:=az r1
 obtain⟨t',rfl⟩:=az r2
 obtain⟨gb,st,ex,gs⟩:=ww (st1.trans st2) e X.d.2 sub off
 have X2:=X.step st (.inr ex)
 obtain⟨⟨kvs,hD,hl,hq⟩,d2,_⟩:=X2.d
 have hk':(strKind PG W0).is x (.str x t)=true:=by show(x==x)=true;simp
 have h1:([PyD.tuple [.str x,.str (g x)]]:List PyD).length=1:=rfl
 rw[h1]at hz
 refine wpAny_dictSet_pairs (s:=(aA s h2 tk2)) hk' hD (fun h3 hD3 sb=>?_) (aE (by exact Nat.le_trans ‹_› (Nat.le_of_succ_le ‹_›)))
 refine h h3 gb _ (X2.filled ⟨stored kvs x (.str (g x) t'),hD3,?_,fun d hd=>?_⟩ sb.extBut hρ) st.sub ((Kb.of_up st.up).trans (Kb.of_but (by simp) sb.extBut))
 ·have:=stored_length_le kvs x (.str (g x) t')
  rw[List.length_append,h1]
  exact EH ‹_› ‹_›
 ·rcases List.mem_append.mp hd with hd|hd
  ·obtain⟨y,u,rfl,e⟩:=hq d hd
   by_cases q:y=x
   ·subst q
    exact⟨y,t',rfl,by rw[eU,if_pos rfl]⟩
   ·exact⟨y,u,rfl,by rw[eU,if_neg q];exact e⟩
  ·rw[List.mem_singleton.mp hd]
   exact⟨x,t',rfl,by rw[eU,if_pos rfl]⟩
theorem qQ{scope:Scope}{cl:List (Str×Ad)}{ρc:LS}{ks:List Str}{x:Str}{q:Pos}
  (hit:ls hg n env ρ iter (.Name x q) (ks.map .str))(hclos:closureFor scope env=pure cl)(hcap:nz env scope cl ρ ρc)
  (turn:∀C,∀y∈ks,A4 ((compEnvC scope cl C env).kindOf x=some .local) (∀z lv,ρc.lookup z=some lv->((x,LV.fz (DV (.str y)))::ρc).lookup z=some lv) (Ev hg n (compEnvC scope cl C env) ((x,LV.fz (DV (.str y)))::ρc) ke (RF (DV (.str y)))) (Ev hg n (compEnvC scope cl C env) ((x,LV.fz (DV (.str y)))::ρc) ve (RF (DV (.str (g y))))))
  (hz:ks.length<=1000000)(hcell:autoParam (∀y∈scope.names,y.2≠ .cell) Dc)(hkind:autoParam (scope.kind= .function) Rf)
  (hnames:autoParam (∀y∈scope.names,y.2= .local->scope.names.lookup y.1=some .local) Dc)(hs:autoParam (∀x,foldedSetIterable iter env x=pure x) If):
  Ev hg n env ρ (.DictComp ke ve [⟨.Name x q,iter,[],0⟩] scope pos) (RF (AB ks g)):=fun A fr hb s Q E ok S h=>by
 rw[arm_eval_DictComp]
 have el:∀ks:List Str,(ks.map fun y=>(DV (.str y),[PyD.tuple [.str y,.str (g y)]])).flatMap (·.2)=ks.map fun y=>.tuple [.str y,.str (g y)]:=fun ks=>by
  induction ks with
  |nil=>rfl
  |cons d ks ih=>simp only[List.map_cons,List.flatMap_cons,ih];rfl
 have tr:∀C,∀d∈ks.map fun y=>(DV (.str y),[PyD.tuple [.str y,.str (g y)]]),∃σ,iG (uU g) hg n (compEnvC scope cl C env) ρc (.Name x q) [] (qb ke ve (compEnvC scope cl C env)) d.1 d.2 σ true:=fun C d hd=>by
  obtain⟨y,hy,rfl⟩:=List.mem_map.mp hd
  obtain⟨a,b,c,e⟩:=turn C y hy
  refine⟨_,.of .name,fun z hz=>?_,b,ew,fun O=>tR c e b,fun q=>by cases q⟩
  rw(occs:=.all) [List.mem_singleton.mp hz];exact a
 have hit':=hit.g
 rw[List.map_map]at hit'
 refine iP (K:=uU g) (ds:=ks.map fun y=>(DV (.str y),[.tuple [.str y,.str (g y)]])) (use:=none) v7 rfl (fun a b=>codeAny_compStart_dict a b) yu (by rw[List.map_map];exact hit') hclos hcap hcell hkind hnames hs (.inr ⟨rfl,tr⟩) (fun C d hd=>let⟨σ,t⟩:=tr C d hd;⟨σ,true,t⟩) (by rw[el,List.length_map];exact hz) ok S fun C D h₁ hb1 tk1 m st1 p1 ne1 d2 d3 hm c2 c3=>⟨m,hm,fun h2 sb=>?_⟩
 rw[el]at p1
 obtain⟨kvs,⟨o,es,ep,ho,r⟩,_,hq⟩:=p1
 have st2:=et st1 c3 c2 sb.extBut
 have ho2:=sb.extBut D o ne1 ho
 obtain⟨hb',st3,a1,_⟩:=iV st2.up (fun b o e=>st2.stay b o (st2.sub b o e)) (fun a=>a=D) (fun a e=>e▸d3)
 refine h _ h2 hb' tk1 st3 ⟨D,_,rfl,Hp.DictOf.mapOf ⟨o,es,ep,(a1 D rfl).trans ho2,r⟩,fun y hy=>?_⟩
 obtain⟨y',t,e,v⟩:=hq _ (List.mem_map.mpr ⟨y,hy,rfl⟩)
 injection e with e;injection e with e1 e2;injection e1 with e1
 subst e1
 exact⟨t,v⟩
end
theorem rD(v:Vl):∀(k:Nat)(acc:List Vl),(List.replicate k #[v]).foldl (fun a b=>a ++b) acc.toArray=(acc ++List.replicate k v).toArray
 |0,acc=>by simp
 |k +1,acc=>by
  rw[List.replicate_succ,List.foldl_cons,List.replicate_succ]
  have:acc.toArray ++#[v]=(acc ++[v]).toArray:=by simp
  rw[this,rD v k]
  simp
theorem xJ{h:Hp}{v:Vl}{d:PyD}(r:RD h v d):∀k,RA h (List.replicate k v) (List.replicate k d)
 |0=>.nil
 |k +1=>.cons r (xJ r k)
theorem vR{A:Ar}{E:VS}{s:SD}{l:Ad}{items:Array Vl}{k:Nat}{x:Int}{u:Tok}{Q:VS}
  (hl:s.heap.get? l=some {cls:=.type "list",dict:=none,data:=.seq items k,slots:=#[]})(hlo: -(2^63:Int)<=x)(hhi:x<2^63)(hsz:items.size*x.toNat<=2^24)
  (h:Q (.ref s.heap.objs.size) {s with heap:=s.heap.push {cls:=.type "list",data:=.seq (List.foldl (fun x1 x2=>x1 ++x2) #[] (List.replicate (if items.isEmpty=true then 0 else x.toNat) items))}}):wA MD A (binaryOp .Mult (.ref l) (.int x u)) Q E s:=
 wpAny_binaryOp_repeat_ref (T:="list") (U:="int") (by decide) ⟨_,hl,rfl⟩ (fun s'=>typeIs_int s' x u) noFill_list_mul F.fills_int_mul F.slot_int_rmul repeat_list F.slot_int_index.lookup
  (call_meets F.slot_int_rmul (typeIs_int s x u) F.entry_int_rmul (F.args_int_rmul_2 _ _) (int___rmul___int_list x u l items k)
   ⟨hl,rfl,⟨_,hl,rfl⟩,call_meets F.slot_list_mul ⟨_,hl,rfl⟩ F.entry_list_mul (F.args_list_mul_2 _ _)
    (AutoListH.list___mul___list_int_3 l items k x u (by simp[Builtin.List.listFitsIndex];omega) (by omega) (by simp[Builtin.List.listTooLong,sizeLine];assumption)) ⟨hl,h⟩⟩)
section
variable{z:Bool}
theorem A2{d:PyD}{k j:Nat}{p1 p2:Pos}(he:Ev hg n env ρ e (RF (DV d)))(hk:k<=1000)(hn:autoParam (sE [e] env=(false,eval e env)::sE [] env) Rf):
  Ev hg n env ρ (.BinOp (.List [e] p1) .Mult (.Constant (.int (k:Nat)) j p2) pos) (RN (List.replicate k d)):=fun A fr hb s Q E ok S h=>by
 refine wpAny_BinOp (wpAny_List (ak he au hn p1 A fr hb s _ E ok S fun vs h₁ hb1 tk1 st1 r1=>⟨by rw[r1.length];exact aE (by show 1<=1000000;decide),?_⟩))
 obtain⟨v,us,rfl,rv,r'⟩:=r1.inv
 obtain rfl:=r'.inv0
 have hl:=Hp.get?_push_size (o:={cls:=.type "list",data:=.seq #[v]}) h₁ rfl
 have st2:=st1.trans (aL {cls:=.type "list",data:=.seq #[v]} st1.stay)
 refine wpAny_Constant_int ?_
 show wA _ A (binaryOp .Mult (.ref h₁.objs.size) (.int (k:Nat) tk1)) _ _ _
 refine vR hl (by exact Int.le_trans (by decide) (Int.natCast_nonneg _)) (by exact Int.lt_of_le_of_lt (Int.ofNat_le.mpr ‹_›) (by decide)) (by show 1*((k:Nat):Int).toNat<=_;rw[Int.toNat_natCast];omega) ?_
 generalize h₁.push {cls:=.type "list",data:=.seq #[v]}=h2 at hl st2⊢
 have e1:List.foldl (fun x1 x2=>x1 ++x2) #[] (List.replicate (if(#[v]:Array Vl).isEmpty=true then 0 else((k:Nat):Int).toNat) #[v])=(List.replicate k v).toArray:=by
  rw[if_neg (by simp),Int.toNat_natCast]
  exact rD v k []
 rw[e1]
 obtain⟨bs,hr⟩:=xJ rv k
 exact h _ _ hb1 _ (st2.trans (aL _ st2.stay)) ⟨_,_,bs,rfl,⟨_,Hp.get?_push_size _ rfl,rfl,rfl,_,rfl⟩,by simpa using hr,Hp.StaysIn.fresh st2.stay,(bQ _).early st2.up⟩
end
noncomputable def bA(sc:List Int):List Int:=(sc.take 12).map fun c=>c.fmod 1000000
noncomputable def bB(cs:List Int)(p:Int):List Int:=(sliceRange (sliceBounds (some p) none (some 5) cs.length).1 (sliceBounds (some p) none (some 5) cs.length).2.1 (sliceBounds (some p) none (some 5) cs.length).2.2).filterMap fun i=>cs[i]?
noncomputable def q9(sc:List Int):List Int:=[15 +(bB (bA sc) 0).sum,156 +(bB (bA sc) 1).sum,19 +(bB (bA sc) 2).sum,2 +(bB (bA sc) 3).sum,7 +(bB (bA sc) 4).sum]
noncomputable def sv:PyD->List PyD
 | .int c=>[.int (c.fmod 1000000)]
 |_=>[]
noncomputable def uW(cs:List Int):PyD->List PyD
 | .tuple [.int p,.int s]=>[.int (s +(bB cs p).sum)]
 |_=>[]
theorem sk(cs:List Int)(p:Int):uR (cs.map PyD.int) (some p) none (some 5)=(bB cs p).map .int:=by
 unfold uR bB
 rw[List.length_map,List.map_filterMap]
 congr 1
 funext i
 rw[List.getElem?_map]
theorem lV(sc:List Int):((sc.take 12).map PyD.int).flatMap sv=(bA sc).map .int:=by
 unfold bA
 induction sc.take 12 with
 |nil=>rfl
 |cons x xs ih=>rw[List.map_cons,List.flatMap_cons,ih];rfl
theorem oQ(cs:List Int):(bN [.int 15,.int 156,.int 19,.int 2,.int 7]).flatMap (uW cs)=([15 +(bB cs 0).sum,156 +(bB cs 1).sum,19 +(bB cs 2).sum,2 +(bB cs 3).sum,7 +(bB cs 4).sum]:List Int).map .int:=rfl
section
variable{z:Bool}
theorem vC(G:Gr KZ hg)(L:Nat){sc:List Int}(hz:sc.length<=63)(h1:ρ.lookup ("script":Str)=some (.fz (DV (.list (sc.map .int))))):
  X hg z (n +12) (callEnvC dH.fd L 305) ρ (bw dH.body 0) (.next (("cells",.fz (DV (.list ((bA sc).map .int))))::ρ)):=by
 have e0:fV (sc.map PyD.int) none (some 12)=(sc.take 12).map .int:=by
  rw[show(12:Int)=((12:Nat):Int) from rfl,lY,List.map_take]
 refine bS (d8 ?_) (.inr ⟨rfl,_,rfl⟩)
 rw[<-lV]
 refine dw (item:=sv) (ρc:=[]) bv (bo (ds:=(sc.take 12).map .int) ?_) rfl (fun O q=>by cases q) ?_ ?_
 ·rw[<-e0]
  exact gh (bq (bL (aa h1)) (cY bU (c9 aJ) bU) (eH (by rw[List.length_map];exact Nat.le_trans ‹_› (by decide))))
 ·intro C d hd
  obtain⟨c,hc,rfl⟩:=List.mem_map.mp hd
  show X2 fun σ b=>cn _ _ _ _ _ _ _ (.int c) [.int (c.fmod 1000000)] σ b
  refine b9 .name ?_ (fun O O e=>by cases e) (bO (aB (bg G rfl rfl rfl (by decide)) (.type _) (bu (aa rfl) ao) zc) (bO aJ aJ (t9 (by decide) (by decide))) (lN (b:=1000000) (by decide)))
  exact cG rfl
 ·rw[lV]
  unfold bA
  rw[List.length_map,List.length_map,List.length_take]
  exact Nat.le_trans (Nat.min_le_left _ _) (by decide)
theorem qe(G:Gr KZ hg)(L:Nat){sc:List Int}(h1:ρ.lookup ("cells":Str)=some (.fz (DV (.list ((bA sc).map .int))))):
  X hg z (n +12) (callEnvC dH.fd L 305) ρ (bw dH.body 1) (.next (("numbers",.fz (DV (.list ((q9 sc).map .int))))::ρ)):=by
 have hc:(bA sc).length<=12:=by
  unfold bA
  rw[List.length_map,List.length_take];exact Nat.min_le_left _ _
 refine fq (item:=uW (bA sc)) (ρc:=[("cells",.fz (DV (.list ((bA sc).map .int))))]) bv rfl (mn (ds:=[.int 15,.int 156,.int 19,.int 2,.int 7]) (bg G rfl rfl rfl (by decide)) (gh (aO (ak aJ (ak aJ (ak aJ (ak aJ (ak aJ au)))))))) rfl ?_ ?_ (oQ (bA sc)) (by show 5<=1000000;decide) (.inl rfl)
 ·intro q hq
  rw[List.mem_singleton.mp hq]
  exact⟨h1,.inl rfl,⟨.inl rfl,rfl⟩,rfl⟩
 ·intro C d hd
  have hd':X2 fun(k s:Nat)=>d= .tuple [.int (k:Nat),.int (s:Nat)]:=by
   obtain⟨k,hk⟩:=List.mem_iff_getElem?.mp hd
   obtain⟨d',hd',rfl⟩:=em hk
   match k,hd' with
   |0,h=>cases h;exact⟨0,15,rfl⟩
   |1,h=>cases h;exact⟨1,156,rfl⟩
   |2,h=>cases h;exact⟨2,19,rfl⟩
   |3,h=>cases h;exact⟨3,2,rfl⟩
   |4,h=>cases h;exact⟨4,7,rfl⟩
   |k +5,h=>cases h
  obtain⟨k,s,rfl⟩:=hd'
  show X2 fun σ b=>cn _ _ _ _ _ _ _ (.tuple [.int (k:Nat),.int (s:Nat)]) [.int (((s:Nat):Int) +(bB (bA sc) ((k:Nat):Int)).sum)] σ b
  refine b9 (.tuple (.cons .name (.cons .name .nil))) ?_ (cT.at ⟨rfl,trivial⟩) (bO (aa rfl) (aB (bg G rfl rfl rfl (by decide)) (.builtin _) (gH (ds:=(bB (bA sc) ((k:Nat):Int)).map .int) ?_ ao) zA) iW)
  ·exact fL (rfl) (rfl)
  ·rw[<-sk]
   exact gh (bq (bL (aa rfl)) (cY (c9 (aa rfl)) bU (c9 aJ)) (qs (by decide) (by rw[List.length_map];exact Nat.le_trans ‹_› (by decide))))
end
section
open Builtin Builtin.Str
noncomputable def F3(a b c:Nat):List Str:=
 let p1:List Str:=["/",cf "/" (hK 0)]
 let p2:=p1 ++[cf (p1.getD a "") (hK 1)]
 let p3:=p2 ++[cf (p2.getD b "") (hK 2)]
 p3 ++[cf (p3.getD c "") (hK 3)]
theorem ul(k:Nat):dM k=F3 (k%2) (k / 2%3) (k / 2 / 3%4):=by
 show((g9 (g9 (g9 (g9 (["/"],k) 0) 1) 2) 3).1)=_
 simp only[g9,Nat.mod_one,Nat.div_one,Nat.zero_add]
 rfl
noncomputable def mz(r x:Str):Prop:=bi r<+:bi x/\r.cps.toList<+:x.cps.toList
noncomputable def lT(x:Str):Bool:=
 PyD.strOk x&&decide (x.length<=99)&&Txt.startswith x "/"&&decide ((partsBetween x (occurrences x "/" 0 x.length (x.length +1)) 1).length<=100)&&decide ((Txt.split x "/").length<=100)&&((Txt.split x "/").all fun c=>decide (c.length<=100))&&
 PyD.strOk (bR x)&&decide ((bR x).length<=99)&&(bR x==x||decide ((bR x).length<x.length))&&(bi (bR x)).isPrefixOf (bi x)&&((bR x).cps.toList).isPrefixOf x.cps.toList&&
 (("/" ++Txt.join "/" (bi x))==x)&&JoinOk "/" (bi x)&&decide ((Txt.join "/" (bi x)).length<=1000)&&decide ((bi x).length<=1000)
theorem ye:((List.range 2).all fun a=>(List.range 3).all fun b=>(List.range 4).all fun c=>(F3 a b c).all lT)=true:=by decide +kernel
end
section
open Builtin Builtin.Str
theorem uK{α:Type}(lt:α->α->Bool)(xs:List α)(d u:α)(h1:∀v∈xs,lt v u=false)(h2:∀v∈xs,lt u v=false->v=u):∀k,k<xs.length->(∃i,i<=k/\xs[i]?=some u)->xs.getD (argBest (fun i j=>lt (xs.getD i d) (xs.getD j d)) k) d=u
 |0,hk,⟨i,hi,e⟩=>by
  obtain rfl:i=0:=by exact Nat.eq_zero_of_le_zero ‹_›
  show xs.getD 0 d=u
  rw[List.getD_eq_getElem?_getD,e];rfl
 |k +1,hk,⟨i,hi,e⟩=>by
  have at':∀j,j<xs.length->xs.getD j d∈xs:=fun j hj=>by
   rw[List.getD_eq_getElem?_getD,List.getElem?_eq_getElem hj];exact List.getElem_mem hj
  have ha:=j6 (fun i j=>lt (xs.getD i d) (xs.getD j d)) k
  unfold argBest
  by_cases q:i<=k
  ·have ih:=uK lt xs d u h1 h2 k (by exact Nat.lt_of_succ_lt ‹_›) ⟨i,q,e⟩
   rw[if_neg (by rw[ih,h1 _ (at' (k +1) hk)];decide)]
   exact ih
  ·obtain rfl:i=k +1:=by exact Nat.le_antisymm ‹_› (Nat.lt_of_not_le ‹_›)
   have e':xs.getD (k +1) d=u:=by rw[List.getD_eq_getElem?_getD,e];rfl
   by_cases b:lt (xs.getD (k +1) d) (xs.getD (argBest (fun i j=>lt (xs.getD i d) (xs.getD j d)) k) d)=true
   ·rw[if_pos b];exact e'
   ·rw[if_neg b]
    rw[e',Bool.not_eq_true]at b
    exact h2 _ (at' _ (by exact Nat.lt_of_le_of_lt ‹_› (Nat.lt_of_succ_lt ‹_›))) b
theorem re{α:Type}(lt:α->α->Bool)(xs:List α)(d u:α)(hu:u∈xs)(h1:∀v∈xs,lt v u=false)(h2:∀v∈xs,lt u v=false->v=u):xs.getD (argBest (fun i j=>lt (xs.getD i d) (xs.getD j d)) (xs.length - 1)) d=u:=by
 obtain⟨i,hi,e⟩:=List.getElem_of_mem hu
 exact uK lt xs d u h1 h2 _ (by exact Nat.sub_lt (Nat.lt_of_le_of_lt (Nat.zero_le _) ‹_›) Nat.zero_lt_one) ⟨i,by exact Eb ‹_›,by rw[List.getElem?_eq_getElem hi,e]⟩
theorem r9:∀(u t:List Str),gN true (u ++t) u=false
 |[],[]=>rfl
 |[],_::_=>rfl
 |x::u,t=>by
  show(if(x==x)=true then gN true (u ++t) u else _)=false
  rw[if_pos (by simp)];exact r9 u t
theorem qw:∀(u t:List Str),gN true u (u ++t)=false->t=[]
 |[],[],_=>rfl
 |[],x::t,h=>by
  have:gN true [] (x::t)=decide (0<(x::t).length):=rfl
  rw[List.nil_append,this]at h
  simp at h
 |x::u,t,h=>by
  have e:gN true (x::u) (x::u ++t)=if(x==x)=true then gN true u (u ++t)else Ch true x x:=rfl
  rw[e,if_pos (by simp)]at h
  exact qw u t h
theorem wS{xss:List (List Str)}{u:List Str}(hu:u∈xss)(hp:∀v∈xss,u<+:v):gV true xss=u:=
 re (gN true) xss [] u hu (fun v hv=>by obtain⟨t,rfl⟩:=hp v hv;exact r9 u t) fun v hv q=>by obtain⟨t,rfl⟩:=hp v hv;rw[qw u t q,List.append_nil]
theorem vx{lt:Bool}{xss:List (List Str)}(hu:xss≠[]):gV lt xss∈xss:=by
 have h0:=List.length_pos_iff.mpr hu
 have ha:=j6 (fun i j=>gN lt (xss.getD i []) (xss.getD j [])) (xss.length - 1)
 unfold gV
 rw[List.getD_eq_getElem?_getD,List.getElem?_eq_getElem (by exact EL ‹_› ‹_›)]
 exact List.getElem_mem _
theorem BV:∀(u t:List Nat),¬(u ++t<u)
 |[],t=>List.not_lt_nil t
 |x::u,t=>by
  rw[List.cons_append,List.cons_lt_cons_iff]
  rintro(h|⟨_,h⟩)
  ·exact Nat.lt_irrefl _ h
  ·exact BV u t h
theorem BE:∀(u t:List Nat),¬(u<u ++t)->t=[]
 |[],[],_=>rfl
 |[],x::t,h=>absurd (List.nil_lt_cons x t) h
 |x::u,t,h=>by
  rw[List.cons_append,List.cons_lt_cons_iff]at h
  exact BE u t fun q=>h (.inr ⟨rfl,q⟩)
theorem xa{xs:List Str}{u:Str}(hu:u∈xs)(hp:∀v∈xs,u.cps.toList<+:v.cps.toList):vy xs=u:=
 re Cb xs "" u hu (fun v hv=>by
  obtain⟨t,e⟩:=hp v hv
  unfold Cb
  rw[<-e];exact decide_eq_false (BV _ t)) fun v hv q=>by
  obtain⟨t,e⟩:=hp v hv
  unfold Cb at q
  rw[<-e]at q
  have:=BE _ t (of_decide_eq_false q)
  rw[this,List.append_nil]at e
  cases u;cases v
  simp only[Str.mk.injEq]
  exact(Array.toList_inj.mp e).symm
structure mc(x:Str):Prop where
 p:iR x
 d:dZ (bR x)
 len:bR x=x\/(bR x).length<x.length
 bel:mz (bR x) x
 join:"/" ++Txt.join "/" (bi x)=x
 jok:JoinOk "/" (bi x)=true
 jl:(Txt.join "/" (bi x)).length<=1000
 pl:(bi x).length<=1000
theorem Br{x:Str}(h:lT x=true):mc x:=by
 unfold lT at h
 simp only[Bool.and_eq_true,Bool.or_eq_true,decide_eq_true_eq,beq_iff_eq,List.all_eq_true,List.isPrefixOf_iff_prefix]at h
 obtain⟨⟨⟨⟨⟨⟨⟨⟨⟨⟨⟨⟨⟨⟨a1,a2⟩,a3⟩,a4⟩,a5⟩,a6⟩,a7⟩,a8⟩,a9⟩,b1⟩,b2⟩,b3⟩,b4⟩,b5⟩,b6⟩:=h
 exact⟨⟨⟨a1,a2⟩,a3,a4,a5,a6⟩,⟨a7,a8⟩,a9,⟨b1,b2⟩,b3,b4,b5,b6⟩
theorem oX(k:Nat):(dM k).length=5/\∀x∈dM k,mc x:=by
 rw[ul]
 refine⟨rfl,fun x hx=>Br ?_⟩
 have h:=List.all_eq_true.mp (List.all_eq_true.mp (List.all_eq_true.mp ye (k%2) (List.mem_range.mpr (Nat.mod_lt _ (by decide)))) (k / 2%3) (List.mem_range.mpr (Nat.mod_lt _ (by decide)))) (k / 2 / 3%4) (List.mem_range.mpr (Nat.mod_lt _ (by decide)))
 exact List.all_eq_true.mp h x hx
theorem jC{ps:List Str}(h:∀x∈ps,mc x):gm ps bR mz where
 len:=fun x hx=>(h x hx).len
 bel:=fun x hx=>(h x hx).bel
 refl:=fun x=>⟨List.prefix_refl _,List.prefix_refl _⟩
 trans:=fun x y z a b=>⟨a.1.trans b.1,a.2.trans b.2⟩
section
variable{ps:List Str}{rows:List (List ah)}{log:List (Str×Nat)}(hps:∀x∈ps,mc x)(K:fJ bR rows true log)(W:za ps bR rows)(h3:rows.length=3)
include hps K W h3
theorem tH{a b:Nat}(ab:a<b)(hb:b<3):lC (aq log) a b:=fun hne=>by
 have ne:a≠b:=Nat.ne_of_lt ab
 have T:=jC hps
 have sa:=W a (by omega)
 have sb:=W b (by exact Nat.lt_of_lt_of_eq ‹_› (Eq.symm ‹_›))
 have met:∀f∈b7 (aq log) a b,A3 (f.1∈tk rows a) (f.1∈tk rows b) ((f.2=a/\dA rows log a b)\/(f.2=b/\dA rows log b a)):=fun f hf=>by
  obtain⟨m,hm,rfl⟩:=List.mem_map.mp hf
  obtain⟨hm,q⟩:=List.mem_filter.mp hm
  obtain⟨t1,t2,_,_,_,lt⟩:=K.of_mark h3 hm
  have q':(m.2.1=a/\m.2.2=b)\/(m.2.2=a/\m.2.1=b):=by
   unfold iB at q
   split at q<;>simp only[Bool.and_eq_true,beq_iff_eq]at q
   ·exact .inl q
   ·exact .inr q
  rcases q' with⟨q1,q2⟩|⟨q1,q2⟩
  ·rw[q1]at t1 lt;rw[q2]at t2 lt
   exact⟨t1,t2,.inl ⟨q1,m.1,t1,t2,lt⟩⟩
  ·rw[q2]at t1 lt;rw[q1]at t2 lt
   exact⟨t2,t1,.inr ⟨q2,m.1,t1,t2,lt⟩⟩
 have in_met:∀{x:Str},x∈tk rows a->x∈tk rows b->x∈(b7 (aq log) a b).map (·.1):=fun{x} h1 h2=>by
  have im:iB a b (x,a,b)=true/\iB a b (x,b,a)=true:=by
   unfold iB
   constructor<;>(dsimp only;split)<;>simp<;>omega
  rcases K.mark h1 h2 ne with m|m
  ·exact List.mem_map.mpr ⟨(x,a),List.mem_map.mpr ⟨_,List.mem_filter.mpr ⟨m,im.1⟩,rfl⟩,rfl⟩
  ·exact List.mem_map.mpr ⟨(x,b),List.mem_map.mpr ⟨_,List.mem_filter.mpr ⟨m,im.2⟩,rfl⟩,rfl⟩
 have inps:∀{x:Str},x∈tk rows a->x∈ps:=fun{x} h=>(cU _ sa).mem x h
 obtain⟨f0,fs,e0⟩:=List.exists_cons_of_ne_nil hne
 have hf0:f0∈b7 (aq log) a b:=by rw[e0];exact .head _
 obtain⟨t1,t2,_⟩:=met f0 hf0
 obtain⟨r,R,_⟩:=gr (lk:=true) (log:=log) T sa sb _ f0.1 (Nat.le_refl _) t1 t2
 have hr:=in_met R.i R.j
 have below:∀x∈(b7 (aq log) a b).map (·.1),mz r x:=fun x hx=>by
  obtain⟨f,hf,rfl⟩:=List.mem_map.mp hx
  obtain⟨u1,u2,_⟩:=met f hf
  obtain⟨r',R',_⟩:=gr (lk:=true) (log:=log) T sa sb _ f.1 (Nat.le_refl _) u1 u2
  rw[qh T sa sb R R'];exact R'.b
 have G:=hps r (inps R.i)
 constructor
 ·rw[xa hr fun v hv=>(below v hv).2]
  have pre:∀v∈((b7 (aq log) a b).map (·.1)).map bi,bi r<+:v:=fun v hv=>by
   obtain⟨x,hx,rfl⟩:=List.mem_map.mp hv
   exact(below x hx).1
  refine⟨fun x hx=>?_,bi r,wS (List.mem_map.mpr ⟨r,hr,rfl⟩) pre,G.pl,fun i c hc=>?_,G.jok,G.jl,G.join.symm⟩
  ·obtain⟨f,hf,rfl⟩:=List.mem_map.mp hx
   exact(hps _ (inps (met f hf).1)).p
  ·obtain⟨t,e⟩:=pre _ (vx (lt:=false) (xss:=((b7 (aq log) a b).map (·.1)).map bi) (fun q=>by rw[e0]at q;cases q))
   rw[<-e,List.getElem?_append_left (List.getElem?_eq_some_iff.mp hc).1]
   exact hc
 ·rw[uZ]
  have all:∀f∈b7 (aq log) a b,f.2=f0.2:=fun f hf=>by
   obtain⟨_,_,q⟩:=met f hf
   obtain⟨_,_,q0⟩:=met f0 hf0
   rcases q with⟨q,l⟩|⟨q,l⟩<;>rcases q0 with⟨q',l'⟩|⟨q',l'⟩
   ·rw[q,q']
   ·exact(j2 T K.ok rfl sa sb ne l l').elim
   ·exact(j2 T K.ok rfl sa sb ne l' l).elim
   ·rw[q,q']
  obtain⟨n1,n2⟩:=me ((b7 (aq log) a b).map fun f=>((f.2:Nat):Int))
  have hm:∀x∈Av ((b7 (aq log) a b).map fun f=>((f.2:Nat):Int)),x=((f0.2:Nat):Int):=fun x hx=>by
   obtain⟨f,hf,rfl⟩:=List.mem_map.mp ((n2 x).mp hx)
   rw[all f hf]
  have he:((f0.2:Nat):Int)∈Av ((b7 (aq log) a b).map fun f=>((f.2:Nat):Int)):=(n2 _).mpr (List.mem_map.mpr ⟨f0,hf0,rfl⟩)
  show(aG _).length=1
  rw[List.length_map]
  generalize Av ((b7 (aq log) a b).map fun f=>((f.2:Nat):Int))=l at n1 hm he
  match l,n1,hm,he with
  |[x],_,_,_=>rfl
  |x::y::l,n1,hm,_=>
   have h1:=hm x (.head _)
   have h2:=hm y (.tail _ (.head _))
   rw[h1,h2]at n1
   simp at n1
end
end
theorem pM{ps:List Str}{g:Str->Str}(hps:∀x∈ps,dZ x)(h3:3<=ps.length){k:Nat}(hk:k<100000000):(eQ k ps g).length<=10:=by
 have hi:k%3<ps.length:=Nat.lt_of_lt_of_le (Nat.mod_lt _ (by decide)) h3
 have hf:ps.getD (k%3) ""∈ps:=by rw[List.getD_eq_getElem?_getD,List.getElem?_eq_getElem hi];exact List.getElem_mem hi
 have hfok:=hps _ hf
 unfold eQ
 generalize ps.getD (k%3) ""=f at hf hfok⊢
 have I0:fw ps g 1 ⟨k / 3,[(true,f)],[f],[f]⟩:=⟨Nat.lt_of_le_of_lt (Nat.div_le_self _ _) hk,Nat.le_refl _,⟨Nat.le_refl _,fun x hx=>by rw[List.mem_singleton.mp hx];exact hfok⟩,⟨Nat.le_refl _,fun x hx=>by rw[List.mem_singleton.mp hx];exact hfok⟩⟩
 have IE:=iQ (g:=g) hps 4 1 _ I0
 have a:=IE.row
 have b:=IE.held.1
 unfold uk
 split
 ·exact Nat.le_trans ‹_› (by decide)
 ·rw[List.length_append,List.length_map];exact Nat.le_trans (Nat.add_le_add ‹_› ‹_›) (by decide)
structure iJ(ps:List Str)(rows:List (List ah)):Prop where
 paths:∀x∈ps,mc x
 n:rows.length=3
 good:∀r∈rows,lA ps bR r
 len:∀r∈rows,r.length<=10
section
variable{ps:List Str}{rows:List (List ah)}(R:iJ ps rows)
include R
theorem iJ.at'{i:Nat}(hi:i<3):rows.getD i []∈rows:=by
 rw[List.getD_eq_getElem?_getD,List.getElem?_eq_getElem (by rw[R.n];exact hi)]
 exact List.getElem_mem _
theorem iJ.w:za ps bR rows:=fun i hi=>(R.good _ (R.at' (by rw[R.n]at hi;exact hi))).steps
theorem iJ.deed{r:List ah}(hr:r∈rows){d:ah}(hd:d∈r):dZ d.2:=by
 have hs:=(R.good r hr).steps
 have mem:=(cU r hs).mem
 obtain⟨A,B,e⟩:=List.append_of_mem hd
 obtain⟨b,x⟩:=d
 cases b with
 |true=>exact(R.paths x (mem x (hY.mpr ⟨A,B,e⟩))).p.ok
 |false=>
  have hs':=hs
  rw[e]at hs'
  have st:=hs' A _ B rfl
  unfold dE at st
  have hA:A≠[]:=fun q=>by rw[if_pos q]at st;cases st.1
  rw[if_neg hA,if_neg (fun q=>by cases q)]at st
  have:=(cU A (aZ.prefix hs')).sub x st
  exact(R.paths x (mem x (by rw[e,bW];exact List.mem_append_left _ this))).p.ok
theorem iJ.run:gW rows:=⟨by rw[R.n];decide,fun r hr=>⟨Nat.le_trans (R.len r hr) (by decide),fun d hd=>R.deed hr hd⟩,fun r hr=>(R.good r hr).valid⟩
theorem iJ.t:gJ rows where
 n:=R.n
 len:=fun r hr=>by
  have:(aK r).length<=r.length:=by unfold aK;exact List.length_filterMap_le _ _
  have:=R.len r hr
  exact Nat.le_trans ‹_› (Nat.le_trans ‹_› (by decide))
 ok:=fun r hr x hx=>(R.paths x ((cU r (R.good r hr).steps).mem x hx)).p.ok
end
theorem u9(num:Nat)(lk:Bool):∀(m:Nat)(st:bV),(cO num lk m st).log.length +aR (cO num lk m st).rest<=st.log.length +aR st.rest
 |0,st=>Nat.le_refl _
 |m +1,st=>by
  unfold cO
  change(if bP st=[]then st else _).log.length +aR (if bP st=[]then st else _).rest<=_
  by_cases q:bP st=[]
  ·rw[if_pos q];exact Nat.le_refl _
  ·rw[if_neg q]
   obtain⟨f,r,_,_,_,hr,e⟩:=lQ (num:=num) (lk:=lk) q
   rw[e]
   refine Nat.le_trans (u9 num lk m _) ?_
   have h1:=gc hr
   have h2:(eY lk st f r).log.length<=st.log.length +1:=by
    unfold eY
    dsimp only
    split
    ·rw[List.length_append];exact Nat.le_refl _
    ·exact Nat.le_add_right _ _
   show _ +aR (st.rest.set f.1 r)<=_
   exact DW ‹_› ‹_›
structure yT(rows:List (List ah))(num:Nat)(lk:Bool):Prop where
 fin:ai (bC rows num lk).rest=[]
 log:(bC rows num lk).log.length<=300
 ok:∀m∈aq (bC rows num lk).log,dZ m.1
 len:(aq (bC rows num lk).log).length<=100000
 ws:cD (aq (bC rows num lk).log)∈dI
 same:∀os∈av,dQ (MM (aq (bC rows num lk).log)) (MM (c6 rows os))=dT (cD (aq (bC rows num lk).log)) os
 some:lk=true->av.any (dT (cD (aq (bC rows num lk).log)))=true
 led:lk=true->∀x∈iK,lC (aq (bC rows num lk).log) x.1 x.2
theorem zX{ps:List Str}{rows:List (List ah)}(R:iJ ps rows)(num:Nat)(lk:Bool):yT rows num lk:=by
 have T:=jC R.paths
 obtain⟨h1,K⟩:=Ab (lk:=lk) (num:=num) T R.w R.n fun i hi=>(R.good _ (R.at' hi)).done
 have hl:(bC rows num lk).log.length<=300:=by
  have a:=u9 num lk (aR rows +1) ⟨rows,[],[],0⟩
  have b:=mO rows fun r hr=>(R.run.rows r hr).1
  have c:=R.n
  have:aR rows<=300:=by rw[c]at b;exact b
  show(cO num lk (aR rows +1) ⟨rows,[],[],0⟩).log.length<=300
  have e:(⟨rows,[],[],0⟩:bV).log.length +aR (⟨rows,[],[],0⟩:bV).rest=aR rows:=Nat.zero_add _
  exact FV ‹_› ‹_› ‹_› ‹_›
 have hm:=oG (bC rows num lk).log []
 refine⟨h1,hl,fun m hm=>?_,?_,xH K R.n,fun os ho=>tA K R.n ho,fun q=>?_,fun q x hx=>?_⟩
 ·have:=(K.of_mark R.n hm).1
  exact(R.t.get (K.of_mark R.n hm).4).3 _ this
 ·show(cN [] (bC rows num lk).log).length<=_
  rw[List.length_nil,Nat.zero_add]at hm
  exact Nat.le_trans hm (Nat.le_trans (Nat.mul_le_mul hl hl) (by decide))
 ·subst q
  exact tW T K R.w R.n
 ·subst q
  unfold iK at hx
  simp only[List.mem_cons,List.not_mem_nil,or_false]at hx
  rcases hx with rfl|rfl|rfl
  ·exact tH R.paths K R.w R.n (by decide) (by decide)
  ·exact tH R.paths K R.w R.n (by decide) (by decide)
  ·exact tH R.paths K R.w R.n (by decide) (by decide)
theorem kJ{k:Nat}:∀{ds:List PyD},(∀d∈ds,d.depth<=k)->PyD.depthAll ds<=k
 |[],_=>by simp[PyD.depthAll]
 |d::ds,h=>by
  have:=kJ fun e he=>h e (.tail _ he)
  have:=h d (.head _)
  simp only[PyD.depthAll]
  exact EK ‹_› ‹_›
noncomputable def Bq(ds:List PyD):Prop:=∀d∈ds,∃os∈av,d=g8 os
theorem yG{ds:List PyD}(h:Bq ds):PyD.canLayAll0 ds=true/\PyD.depthAll ds<=5:=by
 have one:∀d∈ds,d.canLay0=true/\d.depth<=5:=fun d hd=>by
  obtain⟨os,ho,rfl⟩:=h d hd
  obtain⟨a,b,c,rfl,_⟩:=jd ho
  exact⟨rfl,by simp[aG,PyD.depth,PyD.depthAll]⟩
 exact⟨ch.lay fun d hd=>⟨(one d hd).1,Nat.le_trans (one d hd).2 (by decide)⟩,kJ fun d hd=>(one d hd).2⟩
section
variable{z:Bool}
noncomputable abbrev rT(rows:List (List ah))(ns:List Int):LS:=[("rows",.fz (DV (.list (RR rows)))),("numbers",.fz (DV (.list (ns.map .int))))]
noncomputable abbrev vk(rows:List (List ah))(ns:List Int)(lk:Bool)(ms:List bf)(rs th al:List PyD):LS:=
 [("waiting",.fz (DV (.list []))),("marks",.fz (DV (.list (MM ms)))),("rings",.fz (DV (.list rs))),("through",.fz (DV (.list th))),("alike",.fz (DV (.list al))),("locked",.fz (DV (.bool lk))),("rows",.fz (DV (.list (RR rows)))),("numbers",.fz (DV (.list (ns.map .int))))]
theorem tL(G:Gr KZ hg)(L:Nat){rows:List (List ah)}{ns:List Int}{num:Nat}{lk:Bool}(hr:gW rows)(RT:gJ rows)(hnum:num<100000000)(hn:ns[4]?=some ((num:Nat):Int))(TI:yT rows num lk){o:kR}{ss:List Stmt}
  (h:Ex hg false (n +12) (callEnvC dH.fd L 305) (vk rows ns lk (aq (bC rows num lk).log) (gx (aq (bC rows num lk).log) av) (av.flatMap (dB (aq (bC rows num lk).log))) (av.flatMap (eV (aq (bC rows num lk).log) rows))) ss o):
  Ex hg false (n +12) (callEnvC dH.fd L 305) (("locked",.fz (DV (.bool lk)))::rT rows ns) (bw (bb (bw dH.body 5)) 0::bw (bb (bw dH.body 5)) 1::bw (bb (bw dH.body 5)) 2::ss) o:=by
 have fr:=Ai (n:=n +6) G rows num lk hr hnum
 rw[TI.fin]at fr
 have fm:=wN (n:=n +6) G _ TI.log
 have fo:=qS (R:=RF (DV (gp (aq (bC rows num lk).log) rows))) (qW (n:=n +3) G RT (fun r hr'=>⟨Nat.le_trans (hr.rows r hr').1 (by decide),(hr.rows r hr').2⟩) TI.ok TI.len TI.ws) fun h hb v F' h' p=>p
 unfold gp at fo
 have hi:(ns.map PyD.int)[Int.toNat 4]?=some (.int ((num:Nat):Int)):=by
  show(ns.map PyD.int)[4]?=_
  rw[List.getElem?_map,hn];rfl
 generalize aq (bC rows num lk).log=ms at fm fo h
 generalize gx ms av=rs at fo h
 generalize av.flatMap (dB ms)=th at fo h
 generalize av.flatMap (eV ms rows)=al at fo h
 refine ac (jp (ds:=[.list (LL (bC rows num lk).log),.list (FF [])]) (aB (ck G rfl rfl) (bc G jf) (bu (aa rfl) (bu (bq (bL (aa rfl)) aJ (cp (by decide) hi (by decide))) (bu (aa rfl) ao))) fr) (.cons .name (.cons .name .nil)) ?_) ?_
 ·exact fL (.inl rfl) (.inl rfl)
 refine ac (bS (d8 (aB (ck G rfl rfl) (bc G rP) (bu (aa rfl) ao) fm)) (.inl rfl)) ?_
 refine ac (jp (ds:=[.list rs,.list th,.list al]) (aB (ck G rfl rfl) (bc G bG) (bu (aa rfl) (bu (aa rfl) ao)) fo) (.cons .name (.cons .name (.cons .name .nil))) ?_) ?_
 ·exact nB (.inl rfl) (.inl rfl) (.inl rfl)
 exact dN (ρ':=vk rows ns lk ms rs th al) (cT.at (by exact⟨rfl,rfl,rfl,rfl,rfl,rfl,rfl,rfl,trivial⟩)) h
theorem tJ(G:Gr KZ hg)(L:Nat){rows:List (List ah)}{ns:List Int}{lk b:Bool}{ms:List bf}{al:List PyD}(ho:Bq al)(hb:al.isEmpty=b)(hm:∀m∈ms,dZ m.1)(hl:ms.length<=100000)(hs:lk=true->b=false/\∀x∈iK,lC ms x.1 x.2):
  Ex hg false (n +12) (callEnvC dH.fd L 305) (vk rows ns lk ms (List.replicate 6 (.bool b)) al al) [bw (bb (bw dH.body 5)) 3,bw (bb (bw dH.body 5)) 4] (.next (rT rows ns)):=by
 obtain⟨o1,o2⟩:=yG ho
 have isn:∀{ρ:LS},ρ.lookup ("alike":Str)=some (.fz (DV (.list al)))->∀{p1 p2 p3:Pos},Ev hg (n +12) (callEnvC dH.fd L 305) ρ (.Compare (.Name "alike" p1) [.Eq] [.List [] p2] p3) (RF (DV (.bool b))):=fun h O O O=>by
  rw[<-hb]
  exact AJ (e9 (aa h)) (gP (aO au)) (ev o1 (Nat.le_trans o2 (by decide)))
 have lay6:(PyD.list (List.replicate 6 (.bool b))).canLay0=true/\(PyD.list (List.replicate 6 (.bool b))).depth<=64:=by
  cases b<;>exact⟨rfl,by simp[List.replicate,PyD.depth,PyD.depthAll]⟩
 have layA:(PyD.list al).canLay0=true/\(PyD.list al).depth<=64:=⟨o1,by simp only[PyD.depth];exact Nat.le_trans (Nat.add_le_add_right ‹_› _) (by decide)⟩
 refine ac (ρ1:=vk rows ns lk ms (List.replicate 6 (.bool b)) al al) (fv (b:=(!([]:List PyD).isEmpty)||((!PyD.eqv (.list al) (.list al))||(!PyD.eqv (.list (List.replicate 6 (.bool b))) (.list (List.replicate 6 (.bool b)))))) (A1 (aX (e9 (aa rfl)) (gP (aO au)) (jT rfl (by simp[PyD.depthAll]))) (fun O=>aX (e9 (aa rfl)) (e9 (aa rfl)) (yi layA.1 layA.1 layA.2)) fun O O=>aX (e9 (aa rfl)) (gP (A2 (isn rfl) (by decide))) (yi lay6.1 lay6.1 lay6.2)) (fun q=>?_) fun O=>aQ fun O O e=>e) ?_
 ·rw[PySem.SeqAt.eqv_refl _ layA.1,PySem.SeqAt.eqv_refl _ lay6.1]at q
  cases q
 refine ac (ρ1:=rT rows ns) (fv (b:=lk&&false) (jN (cw (aa rfl)) fun q=>?_) (fun q=>by rw[Bool.and_false]at q;cases q) fun O=>aQ (cT.at (by exact⟨rfl,rfl,trivial⟩))) (aQ fun O O e=>e)
 obtain⟨hs1,hs2⟩:=hs q
 have key:(b||(!true))=false:=by rw[hs1];rfl
 rw[<-key]
 exact pL (aX (e9 (aa rfl)) (gP (aO au)) (by rw[<-hb];exact ev o1 (Nat.le_trans o2 (by decide)))) fun O=>uc (cw (aB (ck G rfl rfl) (bc G mT) (bu (aa rfl) ao) (zY (n:=n +3) G hl hm hs2)))
end
theorem sW{α β:Type}(l:List α)(f:α->Bool)(g:α->β):(l.flatMap fun x=>if f x=true then[g x]else[]).isEmpty=!(l.any f):=by
 induction l with
 |nil=>rfl
 |cons x l ih=>
  rw[List.flatMap_cons,List.any_cons]
  by_cases q:f x=true
  ·rw[if_pos q,q];rfl
  ·rw[if_neg q,Bool.not_eq_true]at*
   rw[q,List.nil_append,ih,Bool.false_or]
theorem nY{α β:Type}{f g:α->List β}:∀{l:List α},(∀x∈l,f x=g x)->l.flatMap f=l.flatMap g
 |[],_=>rfl
 |x::l,h=>by rw[List.flatMap_cons,List.flatMap_cons,h x (.head _),nY fun y hy=>h y (.tail _ hy)]
theorem oj{k:Int}:∀{l:List Int},(∀x∈l,0<=x/\x<k)->0<=l.sum/\l.sum<=k*l.length
 |[],_=>⟨Int.le_refl _,by simp⟩
 |x::l,h=>by
  obtain⟨a,b⟩:=oj fun y hy=>h y (.tail _ hy)
  obtain⟨c,d⟩:=h x (.head _)
  rw[List.sum_cons,List.length_cons]
  refine⟨by omega,?_⟩
  have:k*((l.length +1:Nat):Int)=k*l.length +k:=by rw[Int.natCast_add,Int.mul_add];simp
  omega
theorem v0:((List.range 13).all fun n=>(List.range 5).all fun p=>decide ((sliceRange (sliceBounds (some ((p:Nat):Int)) none (some 5) n).1 (sliceBounds (some ((p:Nat):Int)) none (some 5) n).2.1 (sliceBounds (some ((p:Nat):Int)) none (some 5) n).2.2).length<=12))=true:=by decide +kernel
theorem qc(sc:List Int){p:Nat}(hp:p<5):0<=(bB (bA sc) ((p:Nat):Int)).sum/\(bB (bA sc) ((p:Nat):Int)).sum<=12000000:=by
 have hc:(bA sc).length<=12:=by
  unfold bA
  rw[List.length_map,List.length_take];exact Nat.min_le_left _ _
 have hl:(bB (bA sc) ((p:Nat):Int)).length<=12:=by
  have h:=List.all_eq_true.mp (List.all_eq_true.mp v0 (bA sc).length (List.mem_range.mpr (by exact Nat.lt_of_le_of_lt ‹_› (by decide)))) p (List.mem_range.mpr hp)
  unfold bB
  exact Nat.le_trans (List.length_filterMap_le _ _) (of_decide_eq_true h)
 have he:∀x∈bB (bA sc) ((p:Nat):Int),0<=x/\x<1000000:=fun x hx=>by
  obtain⟨i,_,e⟩:=List.mem_filterMap.mp hx
  have hm:=List.mem_of_getElem? e
  unfold bA at hm
  obtain⟨c,_,rfl⟩:=List.mem_map.mp hm
  exact⟨Int.fmod_nonneg_of_pos c (by decide),Int.fmod_lt_of_pos c (by decide)⟩
 obtain⟨a,b⟩:=oj he
 exact⟨a,by omega⟩
theorem q7(sc:List Int):∃a b c d e:Nat,A6 (q9 sc=[((a:Nat):Int),((b:Nat):Int),((c:Nat):Int),((d:Nat):Int),((e:Nat):Int)]) (a<100000000) (b<100000000) (c<100000000) (d<100000000) (e<100000000):=by
 have one:∀(s p:Nat),s<=156->p<5->∃a:Nat,((s:Nat):Int) +(bB (bA sc) ((p:Nat):Int)).sum=((a:Nat):Int)/\a<100000000:=fun s p hs hp=>by
  obtain⟨x,y⟩:=qc sc hp
  exact⟨(((s:Nat):Int) +(bB (bA sc) ((p:Nat):Int)).sum).toNat,by exact C3 ‹_›,by exact CB ‹_› ‹_› ‹_›⟩
 obtain⟨a,ea,ha⟩:=one 15 0 (by decide) (by decide)
 obtain⟨b,eb,hb⟩:=one 156 1 (by decide) (by decide)
 obtain⟨c,ec,hc⟩:=one 19 2 (by decide) (by decide)
 obtain⟨d,ed,hd⟩:=one 2 3 (by decide) (by decide)
 obtain⟨e,ee,he⟩:=one 7 4 (by decide) (by decide)
 refine⟨a,b,c,d,e,?_,ha,hb,hc,hd,he⟩
 rw[<-ea,<-eb,<-ec,<-ed,<-ee];rfl
noncomputable def Ap(ps:List Str):PyD->List PyD
 | .int k=>[.list (DD (eQ k.toNat ps bR))]
 |_=>[]
section
variable{z:Bool}
theorem yM(G:Gr KZ hg)(L:Nat){ps:List Str}{rows:List (List ah)}{ns:List Int}{num:Nat}{lk:Bool}(R:iJ ps rows)(hnum:num<100000000)(hn:ns[4]?=some ((num:Nat):Int)):
  Ex hg false (n +12) (callEnvC dH.fd L 305) (("locked",.fz (DV (.bool lk)))::rT rows ns) (bb (bw dH.body 5)) (.next (rT rows ns)):=by
 have TI:=zX R num lk
 refine tL G L R.run R.t hnum hn TI ?_
 have hal:av.flatMap (eV (aq (bC rows num lk).log) rows)=av.flatMap (dB (aq (bC rows num lk).log)):=nY fun os ho=>by
  unfold eV dB
  rw[TI.same os ho]
 have hem:(av.flatMap (dB (aq (bC rows num lk).log))).isEmpty=gt (aq (bC rows num lk).log):=sW av (dT (cD (aq (bC rows num lk).log))) g8
 have hords:Bq (av.flatMap (dB (aq (bC rows num lk).log))):=fun d hd=>by
  obtain⟨os,ho,hd⟩:=List.mem_flatMap.mp hd
  unfold dB at hd
  split at hd
  ·exact⟨os,ho,List.mem_singleton.mp hd⟩
  ·cases hd
 rw[hal,show gx (aq (bC rows num lk).log) av=List.replicate 6 (.bool (gt (aq (bC rows num lk).log))) from rfl]
 refine tJ G L hords hem TI.ok TI.len fun q=>⟨?_,TI.led q⟩
 unfold gt
 rw[TI.some q];rfl
theorem w6(G:Gr KZ hg)(L:Nat){ps:List Str}(hps:∀x∈ps,mc x)(h5:ps.length=5){a b c d e:Nat}(hb:b<100000000)(hc:c<100000000)(hd:d<100000000)
  (h1:ρ.lookup ("numbers":Str)=some (.fz (DV (.list ([((a:Nat):Int),((b:Nat):Int),((c:Nat):Int),((d:Nat):Int),((e:Nat):Int)].map .int)))))(h2:ρ.lookup ("paths":Str)=some (.fz (DV (.list (ps.map .str)))))(h3:ρ.lookup ("above":Str)=some (.fz (AB ps bR))):
  X hg z (n +12) (callEnvC dH.fd L 305) ρ (bw dH.body 4) (.next (("rows",.fz (DV (.list (RR [eQ b ps bR,eQ c ps bR,eQ d ps bR]))))::ρ)):=by
 refine fq (item:=Ap ps) (ds:=[.int ((b:Nat):Int),.int ((c:Nat):Int),.int ((d:Nat):Int)]) (ρc:=[("paths",.fz (DV (.list (ps.map .str)))),("above",.fz (AB ps bR))]) bv rfl (bo ?_) rfl ?_ ?_ rfl (by show 3<=1000000;decide) (.inl rfl)
 ·exact gh (bq (bL (aa h1)) (cY (c9 aJ) (c9 aJ) bU) (eH (by show 5<=1000000;decide)))
 ·intro q hq
  simp only[List.mem_cons,List.not_mem_nil,or_false]at hq
  rcases hq with rfl|rfl
  ·exact⟨h2,.inl rfl,⟨.inl rfl,rfl⟩,rfl⟩
  ·exact⟨h3,.inl rfl,⟨.inl rfl,rfl⟩,rfl⟩
 ·intro C d' hd'
  have:∃k:Nat,d'= .int ((k:Nat):Int)/\k<100000000:=by
   simp only[List.mem_cons,List.not_mem_nil,or_false]at hd'
   rcases hd' with rfl|rfl|rfl
   ·exact⟨b,rfl,hb⟩
   ·exact⟨c,rfl,hc⟩
   ·exact⟨d,rfl,hd⟩
  obtain⟨k,rfl,hk⟩:=this
  show X2 fun σ b'=>cn _ _ _ _ _ _ _ (.int ((k:Nat):Int)) [.list (DD (eQ k ps bR))] σ b'
  refine b9 .name ?_ (cT.at ⟨rfl,rfl,trivial⟩) (d8 (aB (ck G rfl rfl) (bc G ln) (bu (aa rfl) (bu (aa rfl) (bu (aa rfl) ao))) (Am (n:=n +6) G k ps bR (fun x hx=>(hps x hx).p.ok) (fun x hx=>(hps x hx).d) (by omega) (by omega) hk)))
  exact cG rfl
end
section
variable{z:Bool}
theorem wo(G:Gr KZ hg)(L:Nat){a:Nat}(ha:a<100000000){ns:List Int}(h1:ρ.lookup ("numbers":Str)=some (.fz (DV (.list (ns.map .int)))))(hn:ns[0]?=some ((a:Nat):Int)):
  X hg z (n +12) (callEnvC dH.fd L 305) ρ (bw dH.body 2) (.next (("paths",.fz (DV (.list ((dM a).map .str))))::ρ)):=by
 refine bS (d8 (aB (ck G rfl rfl) (bc G tM) (bu (bq (bL (aa h1)) aJ (cp (d:=.int ((a:Nat):Int)) (by decide) ?_ (by decide))) ao) (qF (n:=n +6) G a ha))) (.inr ⟨rfl,_,rfl⟩)
 show(ns.map PyD.int)[0]?=_
 rw[List.getElem?_map,hn];rfl
theorem wW(G:Gr KZ hg)(L:Nat){ps:List Str}(hps:∀x∈ps,mc x)(h5:ps.length=5)(h2:ρ.lookup ("paths":Str)=some (.fz (DV (.list (ps.map .str))))):
  X hg z (n +12) (callEnvC dH.fd L 305) ρ (bw dH.body 3) (.next (("above",.fz (AB ps bR))::ρ)):=by
 refine bS (qQ (ρc:=[]) (bo (bL (aa h2))) rfl (fun O q=>by cases q) (fun C y hy=>⟨rfl,(fun O O q=>by cases q),aa rfl,aB (ck G rfl rfl) (bc G zw) (bu (aa rfl) ao) (rB (n:=n +8) G y (Nat.le_trans (hps y hy).p.ok.2 (by decide)))⟩) (by omega)) (.inr ⟨rfl,_,rfl⟩)
theorem rI(G:Gr KZ hg)(L:Nat){ps:List Str}{rows:List (List ah)}{ns:List Int}{num:Nat}(R:iJ ps rows)(hnum:num<100000000)(hn:ns[4]?=some ((num:Nat):Int)):∀lks:List Bool,
  dh hg false (n +12) (callEnvC dH.fd L 305) (dC (bw dH.body 5)) (bb (bw dH.body 5)) (rT rows ns) (lks.map .bool) (.next (rT rows ns))
 |[]=>.nil fun O O e=>e
 |lk::lks=>by
  refine .next .name ?_ (yM G L R hnum hn) (rI G L R hnum hn lks)
  intro y hy
  rw(occs:=.all) [List.mem_singleton.mp hy];exact .inl rfl
theorem AP(G:Gr KZ hg)(L:Nat){sc:List Int}(hz:sc.length<=63):Ex hg false (n +12) (callEnvC dH.fd L 305) [("script",.fz (DV (.list (sc.map .int))))] dH.body (.ret (RF (DV (.bool true)))):=by
 have hc:=vC (hg:=hg) (n:=n) (z:=false) (ρ:=[("script",.fz (DV (.list (sc.map .int))))]) G L hz rfl
 have hn:=qe (hg:=hg) (n:=n) (z:=false) (ρ:=[("cells",.fz (DV (.list ((bA sc).map .int)))),("script",.fz (DV (.list (sc.map .int))))]) G L rfl
 obtain⟨a,b,c,d,e,en,ha,hb,hc',hd,he⟩:=q7 sc
 rw[en]at hn
 obtain⟨h5,hps⟩:=oX a
 refine ac hc (ac hn (ac (wo G L ha rfl rfl) ?_))
 generalize dM a=ps at h5 hps
 have R:iJ ps [eQ b ps bR,eQ c ps bR,eQ d ps bR]:=by
  refine⟨hps,rfl,fun r hr=>?_,fun r hr=>?_⟩
  all_goals
   simp only[List.mem_cons,List.not_mem_nil,or_false]at hr
   rcases hr with rfl|rfl|rfl
  ·exact i7 (by omega)
  ·exact i7 (by omega)
  ·exact i7 (by omega)
  ·exact pM (fun x hx=>(hps x hx).p.ok) (by omega) hb
  ·exact pM (fun x hx=>(hps x hx).p.ok) (by omega) hc'
  ·exact pM (fun x hx=>(hps x hx).p.ok) (by omega) hd
 refine ac (wW G L hps h5 rfl) (ac (w6 G L hps h5 hb hc' hd rfl rfl rfl) (dN (ρ':=rT _ _) (cT.at (by exact⟨rfl,rfl,trivial⟩)) ?_))
 exact ac (gR (ds:=[true,false].map .bool) (oz (cW (ak dP (ak dP au)))) (rI G L R he rfl [true,false])) (aY (jI dP) rfl)
theorem zg(G:Gr KZ hg){sc:List Int}(hz:sc.length<=63):gO hg (n +13) (.ref 305) [rF (DV (.list (sc.map .int)))] (RF (DV (.bool true))):=by
 refine gM G dH ["script"] [DV (.list (sc.map .int))] _ ?_ ?_ fun L=>AP G L hz
 ·intro vs h
  obtain⟨_,rfl⟩:=jG h;rfl
 ·exact fun L=>cG (.inl rfl)
end
set_option tactic.hygienic true in
theorem Em:PySem.Challenge.rw_il0093_01.Holds:=by
 refine hd ?_
 intro w s0 s₁ mg mb G Y fa o pm cd doc dV kV ho hd' hcd hD hmg hg args vals as hpre hlay hrd hwl hlo
 have KX:=kIn_of Y
 refine Ground.open G ?_
 intro T B D TE TW
 wrow_args hpre hlay hrd hwl hlo
 all_goals clear G TE TW D B ho hd' hcd hD
 rename_i sc _ _ _ _ _ as _ a us _ hL ra _ r0 _ _ hlen _
 have G:Gr (KK w.params) s₁.heap:=⟨KX,_,_,_,_,_,T⟩
 have e1:=mg_of KX T.g (show nsIn (KK w.params) mainGlobals "law"=some (some (.ref 305)) from rfl)
 have e2:(Vl.ref fa)= .ref 305:=by
  have h:mg d0.name=some (.ref 305):=e1
  rw[hmg]at h;injection h
 injection e2 with e2
 subst e2
 have hz:sc.length<=63:=by omega
 have F:=zx (fun O O O G h=>zg G h) w _ 0 sc G hz
 rw[BP]at F
 refine F callerA [] s₁.heap s₁.heap s₁ [.ref a] _ _ ⟨rfl,by decide +kernel,by decide +kernel,rfl⟩ (fun O O e=>e) (fun O O e=>e) trivial (.cons ⟨_,r0⟩ .nil) fun v h' hb' tk st r=>?_
 obtain rfl:=de r
 refine GoodW.toG ⟨.inl ⟨.bool true,.bool true,[],rfl,?_,?_,?_,?_⟩,fun b o e=>st.stay b o (st.sub b o e),rfl,hg⟩
 ·exact raisesW_false (by wrow_none_raised)
 ·exact .bool true
 ·wrow_post
 ·exact unshared_nil
end Mine
theorem PySem.Challenge.cw_il0093_01_holds : PySem.Challenge.rw_il0093_01.Holds :=
  Mine.Em
