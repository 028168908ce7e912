import PyProof.Rows.All
import Wide.All
import OpenK.AllK
import Wide.FinOn
import PySem.Challenge.RW_jc0022_01
open PySem PySem.Calls PySem.Spec PySem.W PyProof.Rows
set_option Elab.async false
set_option maxRecDepth 100000
set_option linter.unusedVariables false
set_option linter.deprecated false
set_option autoImplicit false
set_option maxHeartbeats 0
namespace Mine
theorem wBn {α β:Type}{M:Model}{A:Around}{E:Value→Shared→Prop}{s:Shared}{m:Sem α}{f:α→Sem β}{Q:β→Shared→Prop}(h:wpAny M A m (fun a s'=>wpAny M A (f a) Q E s') E s):wpAny M A (m>>=f) Q E s:=wpAny_bind h
theorem wPu {α:Type}{M:Model}{A:Around}{E:Value→Shared→Prop}{s:Shared}{a:α}{Q:α→Shared→Prop}(h:Q a s):wpAny M A (pure a) Q E s:=wpAny_pure h
theorem wMo {α:Type}{M:Model}{A:Around}{E:Value→Shared→Prop}{s:Shared}{t:Sem α}{Q Q':α→Shared→Prop}{E':Value→Shared→Prop}(h:wpAny M A t Q E s)(k:∀ a s,Q a s→Q' a s)(l:∀ e s,E e s→E' e s):wpAny M A t Q' E' s:=wpAny_mono h k l
theorem lTr {n m k:Nat}(h:n≤m)(g:m≤k):n≤k:=Nat.le_trans h g
theorem mSg {α:Type}{a b:α}(h:a∈[b]):a=b:=List.mem_singleton.mp h
theorem lBt {n m:Nat}(h:Nat.ble n m=true):n≤m:=Nat.le_of_ble_eq_true h
theorem mMp {α β:Type}{f:α→β}{l:List α}{b:β}(h:b∈l.map f):∃ a,a∈l∧f a=b:=List.mem_map.mp h
theorem mCn {α:Type}{a b:α}{l:List α}(h:a∈b::l):a=b∨a∈l:=List.mem_cons.mp h
theorem mAp {α:Type}{a:α}{s t:List α}(h:a∈s++t):a∈s∨a∈t:=List.mem_append.mp h
noncomputable abbrev PW:Program:=PySem.Challenge.pw_jc0022_01
noncomputable def isD (n:Str):Stmt→Bool
 |.FunctionDef m ..=>m == n
 |.ClassDef m ..=>m == n
 |_=>false
noncomputable def dN (n:Str):Option Stmt:=PW.main.body.find? (isD n)
noncomputable def mN (c n:Str):Option Stmt:=match dN c with
 |some (.ClassDef _ _ _ b ..)=>b.find? (isD n)
 |_=>none
noncomputable def fo (s:Option Stmt) (q:Str) (dv:Value) (md:Str) (mt:Tok) (c:Addr):Obj:=match s with
 |some (.FunctionDef n a b _ _ _ sc _ _ _)=>{cls:=.type "function",data:=.func {name:=n,qualname:=q,params:=a,body:=.stmts b,scope:=sc,globals:=3,closure:=[],defaults:=dv,kwdefaults:=.none,pyModule:=.str md mt,code:=.ref c}}
 |_=>{cls:=.none}
noncomputable def co (n q:Str) (t:Tok) (l ar fl:Int) (a b:Addr) (v u:Value) (c:Addr) (z:Tok):Obj:=
 {cls:=.type "code",data:=.fields #[.str n t,.str q (t+1),.str "/claim/cut.py" (t+2),.int l 0,.int ar 0,.int 0 0,.int 0 0,.int fl 0,.ref a,.bool true,.int 276 0,.ref b,.none,v,u,.ref c,.int z 0,.int l 0,.str "/claim/cut.py" (z+1)]}
noncomputable def en (P:Params) (k:Str) (t:Tok) (v:Value):DictEntry:={hash:=PyData.keyHash P k,key:=.str k t,val:=v}
noncomputable def KF (P:Params):Frag:=[(2,{cls:=.none,data:=.dict #[en P "\x69mport.loaded._sre" 183 (.bool true),en P "class._frozen_importlib.BuiltinImporter" 185 (.ref 14),en P "watched.\x69mport" 206 (.ref 18),en P "class._frozen_importlib.ModuleSpec" 216 (.ref 22),en P "sys.modules.booked-epoch" 245 (.int 3 0),en P "\x69mport.later-laid._sre" 270 (.bool true),en P "watched.library" 272 (.ref 27),en P "watched.library-objects" 0 (.str "\x0c" 0),en P "watched.library-deep._sre" 273 (.str "\x04\x00\x00\x0b\x04\x00\x00\x0b\x04\x00\x00\x03\x04\x00\x00\x0b\x08\x04dict\x02" 0),en P "type.__subclasses__.OSError.0" 498 (.int 150 0),en P "type.__subclasses__.OSError.n" 499 (.int 1 0)] 11}),
 (3,{cls:=.type "dict",data:=.dict #[en P "__name__" 165 (.str "law_jc0022_01" 583),en P "__doc__" 166 (.none),en P "__package__" 167 (.none),en P "__loader__" 168 (.builtin "__main__.__loader__#opaque"),en P "__spec__" 169 (.none),en P "__annotations__" 170 (.ref 6),en P "__builtins__" 171 (.ref 4),en P "__file__" 173 (.str "/claim/cut.py" 172),en P "__cached__" 174 (.none),en P "_sre" 275 (.ref 12),en P "ge" 291 (.ref 38),en P "gt" 299 (.ref 45),en P "is_" 307 (.ref 52),en P "is_not" 315 (.ref 59),en P "countOf" 325 (.ref 66),en P "getitem" 333 (.ref 73),en P "indexOf" 343 (.ref 80),en P "setitem" 352 (.ref 87),en P "length_hint" 364 (.ref 95),en P "TupleComp" 408 (.ref 119),en P "add_callers" 419 (.ref 130),en P "_twin_re_1" 437 (.ref 135),en P "_twin_re_2" 479 (.ref 140),en P "CRLF" 481 (.str "\x0d\n" 480),en P "SMTPException" 501 (.ref 150),en P "SMTPResponseException" 529 (.ref 170),en P "SMTPSenderRefused" 559 (.ref 189),en P "SMTPDataError" 575 (.ref 201),en P "quotedata" 582 (.ref 210),en P "_law_cell" 590 (.ref 215),en P "_law_sent" 596 (.ref 220),en P "_law_key" 603 (.ref 227),en P "_law_asked" 618 (.ref 234),en P "_law_answer" 632 (.ref 241),en P "_law_text" 639 (.ref 248),en P "_law_read" 646 (.ref 255),en P "_law_over" 655 (.ref 262),en P "_law_high" 666 (.ref 269),en P "_law_last" 676 (.ref 276),en P "_law_due" 690 (.ref 283),en P "_law_onward" 696 (.ref 288),en P "law" 702 (.ref 293)] 42}),
 (37,co "ge" "ge" 284 3 2 3 32 33 (.ref 34) (.ref 35) 36 289),
 (38,fo (dN "ge") "ge" .none "cpy313.operator" 282 37),
 (44,co "gt" "gt" 292 5 2 3 39 40 (.ref 41) (.ref 42) 43 297),
 (45,fo (dN "gt") "gt" .none "cpy313.operator" 282 44),
 (51,co "is_" "is_" 300 7 2 3 46 47 (.ref 48) (.ref 49) 50 305),
 (52,fo (dN "is_") "is_" .none "cpy313.operator" 282 51),
 (58,co "is_not" "is_not" 308 9 2 3 53 54 (.ref 55) (.ref 56) 57 313),
 (59,fo (dN "is_not") "is_not" .none "cpy313.operator" 282 58),
 (65,co "countOf" "countOf" 316 11 2 3 60 61 (.ref 62) (.ref 63) 64 323),
 (66,fo (dN "countOf") "countOf" .none "cpy313.operator" 282 65),
 (72,co "getitem" "getitem" 326 17 2 3 67 68 (.ref 69) (.ref 70) 71 331),
 (73,fo (dN "getitem") "getitem" .none "cpy313.operator" 282 72),
 (79,co "indexOf" "indexOf" 334 19 2 3 74 75 (.ref 76) (.ref 77) 78 341),
 (80,fo (dN "indexOf") "indexOf" .none "cpy313.operator" 282 79),
 (86,co "setitem" "setitem" 344 25 3 3 81 82 (.ref 83) (.ref 84) 85 350),
 (87,fo (dN "setitem") "setitem" .none "cpy313.operator" 282 86),
 (88,{cls:=.type "tuple",data:=.seq #[.int 0 353]}),
 (94,co "length_hint" "length_hint" 354 27 2 3 89 90 (.ref 91) (.ref 92) 93 362),
 (95,fo (dN "length_hint") "length_hint" (.ref 88) "cpy313.operator" 282 94),
 (108,co "__init__" "TupleComp.__init__" 379 55 2 3 103 104 (.ref 105) (.ref 106) 107 384),
 (109,fo (mN "TupleComp" "__init__") "TupleComp.__init__" .none "cpy313.pstats" 365 108),
 (115,co "compare" "TupleComp.compare" 387 58 3 3 110 111 (.ref 112) (.ref 113) 114 397),
 (116,fo (mN "TupleComp" "compare") "TupleComp.compare" .none "cpy313.pstats" 365 115),
 (118,{cls:=.type "dict",data:=.dict #[en P "__module__" 374 (.str "cpy313.pstats" 365),en P "__firstlineno__" 378 (.int 53 377),en P "__init__" 386 (.ref 109),en P "compare" 399 (.ref 116),en P "__static_attributes__" 401 (.ref 117),en P "__dict__" 403 (.ref 120),en P "__weakref__" 405 (.ref 121),en P "__doc__" 406 (.none)] 4}),
 (119,{cls:=.type "type",data:=.cls {name:="TupleComp",bases:=[.type "object"],mro:=[.ref 119,.type "object"],ns:=118,qualname:="TupleComp"},slots:=#[none,none,some (.str "TupleComp" 367),some (.str "TupleComp" 375),some (.builtin "object.__new__"),some (.bool true)]}),
 (129,co "add_callers" "add_callers" 409 67 2 3 124 125 (.ref 126) (.ref 127) 128 417),
 (130,fo (dN "add_callers") "add_callers" .none "cpy313.pstats" 365 129),
 (134,{cls:=.type "tuple",data:=.seq #[.int 14 0,.int 4 0,.int 0 0,.int 1 0,.int 1 0,.int 6 0,.int 1 0,.int 16 0,.int 46 0,.int 1 0]}),
 (135,{cls:=.type "re.Pattern",data:=.fields #[.str "(?m)^\\." 423,.int 40 436,.int 0 0,.none,.none,.ref 134,.int 0 0]}),
 (139,{cls:=.type "tuple",data:=.seq #[.int 14 0,.int 9 0,.int 4 0,.int 1 0,.int 2 0,.int 16 0,.int 10 0,.int 16 0,.int 13 0,.int 0 0,.int 7 0,.int 7 0,.int 16 0,.int 13 0,.int 16 0,.int 10 0,.int 15 0,.int 18 0,.int 5 0,.int 16 0,.int 10 0,.int 15 0,.int 13 0,.int 11 0,.int 16 0,.int 13 0,.int 5 0,.int 5 0,.int 0 0,.int 16 0,.int 10 0,.int 1 0,.int 15 0,.int 2 0,.int 0 0,.int 1 0]}),
 (140,{cls:=.type "re.Pattern",data:=.fields #[.str "(?:\\r\\n|\\n|\\r(?!\\n))" 439,.int 32 478,.int 0 0,.none,.none,.ref 139,.int 0 0]}),
 (149,{cls:=.type "dict",data:=.dict #[en P "__module__" 489 (.str "cpy313.smtplib" 420),en P "__firstlineno__" 493 (.int 84 492),en P "__static_attributes__" 494 (.ref 148),en P "__weakref__" 496 (.ref 151),en P "__doc__" 497 (.none)] 3}),
 (150,{cls:=.type "type",data:=.cls {name:="SMTPException",bases:=[.type "OSError"],mro:=[.ref 150,.type "OSError",.type "Exception",.type "BaseException",.type "object"],ns:=149,qualname:="SMTPException",subclasses:=[.ref 170]},slots:=#[some (.ref 141),none,some (.str "SMTPException" 482),some (.str "SMTPException" 490),some (.builtin "OSError.__new__"),some (.bool true)]}),
 (166,co "__init__" "SMTPResponseException.__init__" 514 88 3 3 161 162 (.ref 163) (.ref 164) 165 520),
 (167,fo (mN "SMTPResponseException" "__init__") "SMTPResponseException.__init__" .none "cpy313.smtplib" 420 166),
 (169,{cls:=.type "dict",data:=.dict #[en P "__module__" 509 (.str "cpy313.smtplib" 420),en P "__firstlineno__" 513 (.int 86 512),en P "__init__" 522 (.ref 167),en P "__static_attributes__" 526 (.ref 168),en P "__doc__" 527 (.none)] 2}),
 (170,{cls:=.type "type",data:=.cls {name:="SMTPResponseException",bases:=[.ref 150],mro:=[.ref 170,.ref 150,.type "OSError",.type "Exception",.type "BaseException",.type "object"],ns:=169,qualname:="SMTPResponseException",subclasses:=[.ref 189,.ref 201]},slots:=#[some (.ref 154),none,some (.str "SMTPResponseException" 502),some (.str "SMTPResponseException" 510),some (.builtin "OSError.__new__"),some (.bool true)]}),
 (185,co "__init__" "SMTPSenderRefused.__init__" 542 94 4 3 180 181 (.ref 182) (.ref 183) 184 549),
 (186,fo (mN "SMTPSenderRefused" "__init__") "SMTPSenderRefused.__init__" .none "cpy313.smtplib" 420 185),
 (188,{cls:=.type "dict",data:=.dict #[en P "__module__" 537 (.str "cpy313.smtplib" 420),en P "__firstlineno__" 541 (.int 92 540),en P "__init__" 551 (.ref 186),en P "__static_attributes__" 556 (.ref 187),en P "__doc__" 557 (.none)] 2}),
 (189,{cls:=.type "type",data:=.cls {name:="SMTPSenderRefused",bases:=[.ref 170],mro:=[.ref 189,.ref 170,.ref 150,.type "OSError",.type "Exception",.type "BaseException",.type "object"],ns:=188,qualname:="SMTPSenderRefused"},slots:=#[some (.ref 173),none,some (.str "SMTPSenderRefused" 530),some (.str "SMTPSenderRefused" 538),some (.builtin "OSError.__new__"),some (.bool true)]}),
 (200,{cls:=.type "dict",data:=.dict #[en P "__module__" 567 (.str "cpy313.smtplib" 420),en P "__firstlineno__" 571 (.int 99 570),en P "__static_attributes__" 572 (.ref 199),en P "__doc__" 573 (.none)] 2}),
 (201,{cls:=.type "type",data:=.cls {name:="SMTPDataError",bases:=[.ref 170],mro:=[.ref 201,.ref 170,.ref 150,.type "OSError",.type "Exception",.type "BaseException",.type "object"],ns:=200,qualname:="SMTPDataError"},slots:=#[some (.ref 192),none,some (.str "SMTPDataError" 560),some (.str "SMTPDataError" 568),some (.builtin "OSError.__new__"),some (.bool true)]}),
 (209,co "quotedata" "quotedata" 576 101 1 3 204 205 (.ref 206) (.ref 207) 208 580),
 (210,fo (dN "quotedata") "quotedata" .none "cpy313.smtplib" 420 209),
 (214,co "_law_cell" "_law_cell" 585 104 3 3 211 212 .none .none 213 588),
 (215,fo (dN "_law_cell") "_law_cell" .none "law_jc0022_01" 583 214),
 (219,co "_law_sent" "_law_sent" 591 106 2 3 216 217 .none .none 218 594),
 (220,fo (dN "_law_sent") "_law_sent" .none "law_jc0022_01" 583 219),
 (226,co "_law_key" "_law_key" 597 115 1 3 221 222 (.ref 223) (.ref 224) 225 601),
 (227,fo (dN "_law_key") "_law_key" .none "law_jc0022_01" 583 226),
 (233,co "_law_asked" "_law_asked" 604 117 7 3 228 229 (.ref 230) (.ref 231) 232 616),
 (234,fo (dN "_law_asked") "_law_asked" .none "law_jc0022_01" 583 233),
 (240,co "_law_answer" "_law_answer" 619 131 7 3 235 236 (.ref 237) (.ref 238) 239 630),
 (241,fo (dN "_law_answer") "_law_answer" .none "law_jc0022_01" 583 240),
 (247,co "_law_text" "_law_text" 633 138 1 3 242 243 (.ref 244) (.ref 245) 246 637),
 (248,fo (dN "_law_text") "_law_text" .none "law_jc0022_01" 583 247),
 (254,co "_law_read" "_law_read" 640 140 1 3 249 250 (.ref 251) (.ref 252) 253 644),
 (255,fo (dN "_law_read") "_law_read" .none "law_jc0022_01" 583 254),
 (261,co "_law_over" "_law_over" 647 142 3 3 256 257 (.ref 258) (.ref 259) 260 653),
 (262,fo (dN "_law_over") "_law_over" .none "law_jc0022_01" 583 261),
 (268,co "_law_high" "_law_high" 656 144 3 3 263 264 (.ref 265) (.ref 266) 267 664),
 (269,fo (dN "_law_high") "_law_high" .none "law_jc0022_01" 583 268),
 (275,co "_law_last" "_law_last" 667 150 2 3 270 271 (.ref 272) (.ref 273) 274 674),
 (276,fo (dN "_law_last") "_law_last" .none "law_jc0022_01" 583 275),
 (282,co "_law_due" "_law_due" 677 156 6 3 277 278 (.ref 279) (.ref 280) 281 688),
 (283,fo (dN "_law_due") "_law_due" .none "law_jc0022_01" 583 282),
 (287,co "_law_onward" "_law_onward" 691 166 6 3 284 285 .none .none 286 694),
 (288,fo (dN "_law_onward") "_law_onward" .none "law_jc0022_01" 583 287),
 (292,co "law" "law" 697 176 1 3 289 290 .none .none 291 700),
 (293,fo (dN "law") "law" .none "law_jc0022_01" 583 292)]
noncomputable def vw:Program:=view PW [0,2,3,4,5,6,7,8,9,12,13,15,16,17,18,19,20,21,22,24,25,26,27,28,29,30,31,32,33,34,35,36]
noncomputable abbrev lo:List Str:=[Str.ofString "length_hint",Str.ofString "_twin_re_1",Str.ofString "_twin_re_2"]
noncomputable abbrev Rx:OpenRow:=PySem.Challenge.rw_jc0022_01.row
noncomputable def asK:List Addr:=[2,3,37,38,44,45,51,52,58,59,65,66,72,73,79,80,86,87,88,94,95,108,109,115,116,118,119,129,130,134,135,139,140,149,150,166,167,169,170,185,186,188,189,200,201,209,210,214,215,219,220,226,227,233,234,240,241,247,248,254,255,261,262,268,269,275,276,282,283,287,288,292,293]
theorem Z6b (P:Params):asK=(KF P).map (·.1):=rfl
noncomputable def xt (s:Shared):Bool:=xlAt vw [] s && recOk (RowW.records Rx.toRowW) s
noncomputable def yf (s:Shared):List (Option Obj):=asK.map s.heap.get?
noncomputable def ya (w:World):List (Option Obj):=(KF w.params).map fun p=>some p.2
theorem said:PySem.Challenge.rw_jc0022_01.wellSaid=true:=by
 rw [PySem.W.Fast.te9446332074065402090]
 kernel_rfl
theorem left:LeftO PW vw lo xt yf ya 4400:=fun w=>by
 unfold openEnds fencedOpening topFrom
 simp only [PySem.W.Fast.te10274390034422433532,PySem.W.Fast.te14289696077712309145,PySem.W.Fast.te1435165496053646825,PySem.W.Fast.te14364793385576792824,PySem.W.Fast.te14082659384304107361,PySem.W.Fast.te5923862056798008813,PySem.W.Fast.te8920871248978507458,PySem.W.Fast.te4187177175401517315]
 kernel_rfl
universe u
section
universe u1 u2 u3 u4 u5 u6 u7 u8 u9
variable {Q:Prop}{a:Sort u1}{b:Sort u2}{c:Sort u3}{d:Sort u4}{e:Sort u5}{f:Sort u6}{g:Sort u7}{k:Sort u8}{l:Sort u9}
theorem aE {M:Model}{A:Around}{α:Type}{p:Sem α}{Q:α→Shared→Prop}{E:Value→Shared→Prop}{s:Shared}(h:∀ (Q':α→Shared→Prop) (E':Value→Shared→Prop),(∀ v s,Q v s→Q' v s)→(∀ v s,E v s→E' v s)→wpAny M A p Q' E' s):wpAny M A p Q E s:=h Q E (fun _ _ q=>q) fun _ _ q=>q
theorem aI {α β:Type}(P:α→β→Prop){G:Prop}(h:∀ P':α→β→Prop,(∀ a b,P' a b↔P a b)→G):G:=h P fun _ _=>Iff.rfl
theorem aR {M:Model}{A:Around}{c:Code}{R:Result→Shared→Prop}{s:Shared}(h:∀ R':Result→Shared→Prop,(∀ r s,R r s→R' r s)→codeAny M A c R' s):codeAny M A c R s:=h R fun _ _ q=>q
theorem aq {M:Model}{A:Around}{α:Type}{p:Sem α}{Q:α→Shared→Prop}{E:Value→Shared→Prop}{s:Shared}(h:∀ Q':α→Shared→Prop,(∀ v s,Q v s→Q' v s)→wpAny M A p Q' E s):wpAny M A p Q E s:=h Q fun _ _ q=>q
@[elab_as_elim] theorem kb {α:Sort u}{a b:α}{P:α→Prop}(e:a=b)(h:P b):P a:=e▸h
@[elab_as_elim] theorem kb2 {x x':a}{y y':b}{P:a→b→Prop}(e1:x=x')(e2:y=y')(h:P x' y'):P x y:=by cases e1;cases e2;exact h
@[elab_as_elim] theorem kb3 {x x':a}{y y':b}{z z':c}{P:a→b→c→Prop}(e1:x=x')(e2:y=y')(e3:z=z')(h:P x' y' z'):P x y z:=by cases e1;cases e2;cases e3;exact h
@[elab_as_elim] theorem kb5 {x x':a}{y y':b}{z z':c}{u u':d}{v v':e}{P:a→b→c→d→e→Prop}(e1:x=x')(e2:y=y')(e3:z=z')(e4:u=u')(e5:v=v')(h:P x' y' z' u' v'):P x y z u v:=by cases e1;cases e2;cases e3;cases e4;cases e5;exact h
theorem o01 {A B:Prop}(h:A∧B)(q:A→B→Q):Q:=q h.1 h.2
theorem o02 {A B C:Prop}(h:A∧B∧C)(q:A→B→C→Q):Q:=q h.1 h.2.1 h.2.2
theorem o03 {A B C D:Prop}(h:A∧B∧C∧D)(q:A→B→C→D→Q):Q:=q h.1 h.2.1 h.2.2.1 h.2.2.2
theorem o04 {A B C D E:Prop}(h:A∧B∧C∧D∧E)(q:A→B→C→D→E→Q):Q:=q h.1 h.2.1 h.2.2.1 h.2.2.2.1 h.2.2.2.2
theorem o05 {A B C D E F:Prop}(h:A∧B∧C∧D∧E∧F)(q:A→B→C→D→E→F→Q):Q:=q h.1 h.2.1 h.2.2.1 h.2.2.2.1 h.2.2.2.2.1 h.2.2.2.2.2
theorem o10 {A:a→Prop}(h:∃ x,A x)(q:∀ x,A x→Q):Q:=h.elim fun x h=>q x h
theorem o11 {A B:a→Prop}(h:∃ x,A x∧B x)(q:∀ x,A x→B x→Q):Q:=h.elim fun x h=>q x h.1 h.2
theorem o12 {A B C:a→Prop}(h:∃ x,A x∧B x∧C x)(q:∀ x,A x→B x→C x→Q):Q:=h.elim fun x h=>q x h.1 h.2.1 h.2.2
theorem o13 {A B C D:a→Prop}(h:∃ x,A x∧B x∧C x∧D x)(q:∀ x,A x→B x→C x→D x→Q):Q:=h.elim fun x h=>q x h.1 h.2.1 h.2.2.1 h.2.2.2
theorem o14 {A B C D E:a→Prop}(h:∃ x,A x∧B x∧C x∧D x∧E x)(q:∀ x,A x→B x→C x→D x→E x→Q):Q:=h.elim fun x h=>q x h.1 h.2.1 h.2.2.1 h.2.2.2.1 h.2.2.2.2
theorem o15 {A B C D E F:a→Prop}(h:∃ x,A x∧B x∧C x∧D x∧E x∧F x)(q:∀ x,A x→B x→C x→D x→E x→F x→Q):Q:=h.elim fun x h=>q x h.1 h.2.1 h.2.2.1 h.2.2.2.1 h.2.2.2.2.1 h.2.2.2.2.2
theorem o20 {A:a→b→Prop}(h:∃ x y,A x y)(q:∀ x y,A x y→Q):Q:=h.elim fun x h=>h.elim fun y h=>q x y h
theorem o21 {A B:a→b→Prop}(h:∃ x y,A x y∧B x y)(q:∀ x y,A x y→B x y→Q):Q:=h.elim fun x h=>h.elim fun y h=>q x y h.1 h.2
theorem o22 {A B C:a→b→Prop}(h:∃ x y,A x y∧B x y∧C x y)(q:∀ x y,A x y→B x y→C x y→Q):Q:=h.elim fun x h=>h.elim fun y h=>q x y h.1 h.2.1 h.2.2
theorem o23 {A B C D:a→b→Prop}(h:∃ x y,A x y∧B x y∧C x y∧D x y)(q:∀ x y,A x y→B x y→C x y→D x y→Q):Q:=h.elim fun x h=>h.elim fun y h=>q x y h.1 h.2.1 h.2.2.1 h.2.2.2
theorem o24 {A B C D E:a→b→Prop}(h:∃ x y,A x y∧B x y∧C x y∧D x y∧E x y)(q:∀ x y,A x y→B x y→C x y→D x y→E x y→Q):Q:=h.elim fun x h=>h.elim fun y h=>q x y h.1 h.2.1 h.2.2.1 h.2.2.2.1 h.2.2.2.2
theorem o25 {A B C D E F:a→b→Prop}(h:∃ x y,A x y∧B x y∧C x y∧D x y∧E x y∧F x y)(q:∀ x y,A x y→B x y→C x y→D x y→E x y→F x y→Q):Q:=h.elim fun x h=>h.elim fun y h=>q x y h.1 h.2.1 h.2.2.1 h.2.2.2.1 h.2.2.2.2.1 h.2.2.2.2.2
theorem o26 {A B C D E F G:a→b→Prop}(h:∃ x y,A x y∧B x y∧C x y∧D x y∧E x y∧F x y∧G x y)(q:∀ x y,A x y→B x y→C x y→D x y→E x y→F x y→G x y→Q):Q:=h.elim fun x h=>h.elim fun y h=>q x y h.1 h.2.1 h.2.2.1 h.2.2.2.1 h.2.2.2.2.1 h.2.2.2.2.2.1 h.2.2.2.2.2.2
theorem o30 {A:a→b→c→Prop}(h:∃ x y z,A x y z)(q:∀ x y z,A x y z→Q):Q:=h.elim fun x h=>h.elim fun y h=>h.elim fun z h=>q x y z h
theorem o31 {A B:a→b→c→Prop}(h:∃ x y z,A x y z∧B x y z)(q:∀ x y z,A x y z→B x y z→Q):Q:=h.elim fun x h=>h.elim fun y h=>h.elim fun z h=>q x y z h.1 h.2
theorem o32 {A B C:a→b→c→Prop}(h:∃ x y z,A x y z∧B x y z∧C x y z)(q:∀ x y z,A x y z→B x y z→C x y z→Q):Q:=h.elim fun x h=>h.elim fun y h=>h.elim fun z h=>q x y z h.1 h.2.1 h.2.2
theorem o33 {A B C D:a→b→c→Prop}(h:∃ x y z,A x y z∧B x y z∧C x y z∧D x y z)(q:∀ x y z,A x y z→B x y z→C x y z→D x y z→Q):Q:=h.elim fun x h=>h.elim fun y h=>h.elim fun z h=>q x y z h.1 h.2.1 h.2.2.1 h.2.2.2
theorem o34 {A B C D E:a→b→c→Prop}(h:∃ x y z,A x y z∧B x y z∧C x y z∧D x y z∧E x y z)(q:∀ x y z,A x y z→B x y z→C x y z→D x y z→E x y z→Q):Q:=h.elim fun x h=>h.elim fun y h=>h.elim fun z h=>q x y z h.1 h.2.1 h.2.2.1 h.2.2.2.1 h.2.2.2.2
theorem o36 {A B C D E F G:a→b→c→Prop}(h:∃ x y z,A x y z∧B x y z∧C x y z∧D x y z∧E x y z∧F x y z∧G x y z)(q:∀ x y z,A x y z→B x y z→C x y z→D x y z→E x y z→F x y z→G x y z→Q):Q:=h.elim fun x h=>h.elim fun y h=>h.elim fun z h=>q x y z h.1 h.2.1 h.2.2.1 h.2.2.2.1 h.2.2.2.2.1 h.2.2.2.2.2.1 h.2.2.2.2.2.2
theorem o40 {A:a→b→c→d→Prop}(h:∃ x y z u,A x y z u)(q:∀ x y z u,A x y z u→Q):Q:=h.elim fun x h=>h.elim fun y h=>h.elim fun z h=>h.elim fun u h=>q x y z u h
theorem o41 {A B:a→b→c→d→Prop}(h:∃ x y z u,A x y z u∧B x y z u)(q:∀ x y z u,A x y z u→B x y z u→Q):Q:=h.elim fun x h=>h.elim fun y h=>h.elim fun z h=>h.elim fun u h=>q x y z u h.1 h.2
theorem o42 {A B C:a→b→c→d→Prop}(h:∃ x y z u,A x y z u∧B x y z u∧C x y z u)(q:∀ x y z u,A x y z u→B x y z u→C x y z u→Q):Q:=h.elim fun x h=>h.elim fun y h=>h.elim fun z h=>h.elim fun u h=>q x y z u h.1 h.2.1 h.2.2
theorem o45 {A B C D E F:a→b→c→d→Prop}(h:∃ x y z u,A x y z u∧B x y z u∧C x y z u∧D x y z u∧E x y z u∧F x y z u)(q:∀ x y z u,A x y z u→B x y z u→C x y z u→D x y z u→E x y z u→F x y z u→Q):Q:=h.elim fun x h=>h.elim fun y h=>h.elim fun z h=>h.elim fun u h=>q x y z u h.1 h.2.1 h.2.2.1 h.2.2.2.1 h.2.2.2.2.1 h.2.2.2.2.2
theorem o53 {A B C D:a→b→c→d→e→Prop}(h:∃ x y z u v,A x y z u v∧B x y z u v∧C x y z u v∧D x y z u v)(q:∀ x y z u v,A x y z u v→B x y z u v→C x y z u v→D x y z u v→Q):Q:=h.elim fun x h=>h.elim fun y h=>h.elim fun z h=>h.elim fun u h=>h.elim fun v h=>q x y z u v h.1 h.2.1 h.2.2.1 h.2.2.2
theorem o55 {A B C D E F:a→b→c→d→e→Prop}(h:∃ x y z u v,A x y z u v∧B x y z u v∧C x y z u v∧D x y z u v∧E x y z u v∧F x y z u v)(q:∀ x y z u v,A x y z u v→B x y z u v→C x y z u v→D x y z u v→E x y z u v→F x y z u v→Q):Q:=h.elim fun x h=>h.elim fun y h=>h.elim fun z h=>h.elim fun u h=>h.elim fun v h=>q x y z u v h.1 h.2.1 h.2.2.1 h.2.2.2.1 h.2.2.2.2.1 h.2.2.2.2.2
theorem o56 {A B C D E F G:a→b→c→d→e→Prop}(h:∃ x y z u v,A x y z u v∧B x y z u v∧C x y z u v∧D x y z u v∧E x y z u v∧F x y z u v∧G x y z u v)(q:∀ x y z u v,A x y z u v→B x y z u v→C x y z u v→D x y z u v→E x y z u v→F x y z u v→G x y z u v→Q):Q:=h.elim fun x h=>h.elim fun y h=>h.elim fun z h=>h.elim fun u h=>h.elim fun v h=>q x y z u v h.1 h.2.1 h.2.2.1 h.2.2.2.1 h.2.2.2.2.1 h.2.2.2.2.2.1 h.2.2.2.2.2.2
theorem o57 {A B C D E F G H:a→b→c→d→e→Prop}(h:∃ x y z u v,A x y z u v∧B x y z u v∧C x y z u v∧D x y z u v∧E x y z u v∧F x y z u v∧G x y z u v∧H x y z u v)(q:∀ x y z u v,A x y z u v→B x y z u v→C x y z u v→D x y z u v→E x y z u v→F x y z u v→G x y z u v→H x y z u v→Q):Q:=h.elim fun x h=>h.elim fun y h=>h.elim fun z h=>h.elim fun u h=>h.elim fun v h=>q x y z u v h.1 h.2.1 h.2.2.1 h.2.2.2.1 h.2.2.2.2.1 h.2.2.2.2.2.1 h.2.2.2.2.2.2.1 h.2.2.2.2.2.2.2
theorem o60 {A:a→b→c→d→e→f→Prop}(h:∃ x y z u v w,A x y z u v w)(q:∀ x y z u v w,A x y z u v w→Q):Q:=h.elim fun x h=>h.elim fun y h=>h.elim fun z h=>h.elim fun u h=>h.elim fun v h=>h.elim fun w h=>q x y z u v w h
theorem o65 {A B C D E F:a→b→c→d→e→f→Prop}(h:∃ x y z u v w,A x y z u v w∧B x y z u v w∧C x y z u v w∧D x y z u v w∧E x y z u v w∧F x y z u v w)(q:∀ x y z u v w,A x y z u v w→B x y z u v w→C x y z u v w→D x y z u v w→E x y z u v w→F x y z u v w→Q):Q:=h.elim fun x h=>h.elim fun y h=>h.elim fun z h=>h.elim fun u h=>h.elim fun v h=>h.elim fun w h=>q x y z u v w h.1 h.2.1 h.2.2.1 h.2.2.2.1 h.2.2.2.2.1 h.2.2.2.2.2
theorem o66 {A B C D E F G:a→b→c→d→e→f→Prop}(h:∃ x y z u v w,A x y z u v w∧B x y z u v w∧C x y z u v w∧D x y z u v w∧E x y z u v w∧F x y z u v w∧G x y z u v w)(q:∀ x y z u v w,A x y z u v w→B x y z u v w→C x y z u v w→D x y z u v w→E x y z u v w→F x y z u v w→G x y z u v w→Q):Q:=h.elim fun x h=>h.elim fun y h=>h.elim fun z h=>h.elim fun u h=>h.elim fun v h=>h.elim fun w h=>q x y z u v w h.1 h.2.1 h.2.2.1 h.2.2.2.1 h.2.2.2.2.1 h.2.2.2.2.2.1 h.2.2.2.2.2.2
theorem stp {n i k:Nat}(h:n+i=k)(l:i<k):n - 1<n∧n - 1+(i+1)=k:=
 have hp:0<n:=Nat.pos_of_ne_zero fun e=>Nat.lt_irrefl k (Nat.lt_of_le_of_lt (Nat.le_of_eq (h.symm.trans (by rw [e,Nat.zero_add]))) l)
 ⟨Nat.sub_lt hp Nat.one_pos,(Nat.add_right_comm (n - 1) i 1).trans ((congrArg (· + i) (Nat.sub_add_cancel hp)).trans h)⟩
theorem xi2 {P:a→b→Prop}(x:a)(y:b)(h:P x y):∃ x y,P x y:=⟨x,y,h⟩
theorem xi3 {P:a→b→c→Prop}(x:a)(y:b)(z:c)(h:P x y z):∃ x y z,P x y z:=⟨x,y,z,h⟩
theorem xi4 {P:a→b→c→d→Prop}(x:a)(y:b)(z:c)(u:d)(h:P x y z u):∃ x y z u,P x y z u:=⟨x,y,z,u,h⟩
theorem xi5 {P:a→b→c→d→e→Prop}(x:a)(y:b)(z:c)(u:d)(v:e)(h:P x y z u v):∃ x y z u v,P x y z u v:=⟨x,y,z,u,v,h⟩
theorem xi8 {P:a→b→c→d→e→f→g→k→Prop}(x:a)(y:b)(z:c)(u:d)(v:e)(w:f)(s:g)(t:k)(h:P x y z u v w s t):∃ x y z u v w s t,P x y z u v w s t:=⟨x,y,z,u,v,w,s,t,h⟩
theorem xi9 {P:a→b→c→d→e→f→g→k→l→Prop}(x:a)(y:b)(z:c)(u:d)(v:e)(w:f)(s:g)(t:k)(r:l)(h:P x y z u v w s t r):∃ x y z u v w s t r,P x y z u v w s t r:=⟨x,y,z,u,v,w,s,t,r,h⟩
end
abbrev Kps (h h':Heap):Prop:=∀ b o,h.get? b=some o→h'.get? b=some o
inductive X where
 |d (d:PyData)
 |l (a:Addr) (ds:List PyData)
 |ll (a b:Addr) (ds:List PyData) (c:Addr) (es:List PyData)
 |it (a l:Addr) (n k:Nat)
 |lp (a:Addr) (P Q:Heap→Value→Prop)
 |p (P:Heap→Value→Prop)
 |v (v:Value)
def Rd (own:List Addr)(h:Heap)(v:Value)(d:PyData):Prop:=∃ as,Reads (hideAll h own) v d as
inductive RdAll (own:List Addr)(h:Heap):List Value→List PyData→Prop
 |nil:RdAll own h [] []
 |cons {v vs d ds}:Rd own h v d→RdAll own h vs ds→RdAll own h (v::vs) (d::ds)
def ItAt (h:Heap)(a l:Addr)(n k:Nat):Prop:=h.IsListIter a l k∧k≤n∧n≤1000∧∃ vs,h.IsList l vs∧vs.size=n∧∀ i:Nat,i<n→∃ t,vs[i]? = some (.int i t)
noncomputable def XIn (own:List Addr) (h:Heap) (v:Value):X→Prop
 |.d d=>Rd own h v d
 |.l a ds=>v = .ref a∧∃ vs,h.PlainList a vs∧RdAll own h vs.toList ds
 |.ll a b ds c es=>v = .ref a∧h.IsList a #[.ref b,.ref c]∧(∃ vs,h.PlainList b vs∧RdAll own h vs.toList ds)∧∃ vs,h.PlainList c vs∧RdAll own h vs.toList es
 |.it a l n k=>v = .ref a∧ItAt h a l n k
 |.lp a P Q=>v = .ref a∧((∀ h h' v,Kps h h'→P h v→P h' v)∧∀ h h' v,Kps h h'→Q h v→Q h' v)∧∃ u1 u2,h.IsList a #[u1,u2]∧P (hideAll h own) u1∧Q (hideAll h own) u2
 |.p P=>(∀ h h' v,Kps h h'→P h v→P h' v)∧P (hideAll h own) v
 |.v u=>v=u
inductive XAll (own:List Addr)(h:Heap):List Value→List X→Prop
 |nil:XAll own h [] []
 |cons {v vs x xs}:XIn own h v x→XAll own h vs xs→XAll own h (v::vs) (x::xs)
theorem J3r {M:Model}{A:Around}{α:Type}{c:Prop}[Decidable c]{a b:Sem α}{Q:α→Shared→Prop}{E:Value→Shared→Prop}{s:Shared}(h:c)(k:wpAny M A a Q E s):wpAny M A (if c then a else b) Q E s:=(if_pos h).symm▸k
theorem J5k {M:Model}{A:Around}{α:Type}{c:Prop}[Decidable c]{a b:Sem α}{Q:α→Shared→Prop}{E:Value→Shared→Prop}{s:Shared}(h:¬ c)(k:wpAny M A b Q E s):wpAny M A (if c then a else b) Q E s:=(if_neg h).symm▸k
@[elab_as_elim] theorem fb2 {α:Type}{a b:α}{P:α→Prop}{x:α}(h:x∈[a,b])(h1:P a)(h2:P b):P x:=List.forall_mem_cons.2 ⟨h1,List.forall_mem_singleton.2 h2⟩ x h
@[elab_as_elim] theorem fb3 {α:Type}{a b c:α}{P:α→Prop}{x:α}(h:x∈[a,b,c])(h1:P a)(h2:P b)(h3:P c):P x:=List.forall_mem_cons.2 ⟨h1,fun _ h=>fb2 h h2 h3⟩ x h
@[elab_as_elim] theorem opt_c {α:Type}{P:Option α→Prop}(o:Option α)(h0:P none)(h1:∀ v,P (some v)):P o:=by cases o with|none=>exact h0|some v=>exact h1 v
theorem ab {G:Prop}(h:∀ Q:Prop,(G→Q)→Q):G:=h G id
theorem Kps.rfl' {h:Heap}:Kps h h:=fun _ _ e=>e
theorem J0q {h0 h:Heap}{D:Nat}(k:Kps h0 h)(n:h.get? D=none):h0.get? D=none:=by
 cases q:h0.get? D with
 |none=>rfl
 |some o=>rw [k _ _ q] at n;exfalso;cases n
theorem K1w {h0 h:Heap}{D:Addr}(k:∀ b o,h0.get? b=some o→∃ o',h.get? b=some o')(n:h.get? D=none):h0.get? D=none:=by
 cases q:h0.get? D with
 |none=>rfl
 |some o=>refine o10 (k D o q) fun o' e=>?_;rw [e] at n;cases n
theorem Kps.trans {h h' h'':Heap}(a:Kps h h')(b:Kps h' h''):Kps h h'':=fun x o e=>b x o (a x o e)
theorem J0e {h h':Heap}{own own':List Addr}(hk:∀ b o,b∉own'→h.get? b=some o→h'.get? b=some o)(ho:∀ b∈own',b∈own):Kps (hideAll h own) (hideAll h' own'):=by
 intro b o e
 have e1:=of_hideAll _ e
 have nb:b∉own:=fun hb=>by rw [hideAll_none _ hb] at e;cases e
 exact hideAll_get _ (hk b o (fun hb=>nb (ho b hb)) e1) fun hb=>nb (ho b hb)
theorem J0u {h h':Heap}{own:List Addr}(hk:Kps h h'):Kps (hideAll h own) (hideAll h' own):=J0e (fun b o _ e=>hk b o e) fun _ hb=>hb
theorem Rd.mono {h h':Heap}{own own':List Addr}{v d}(hk:Kps (hideAll h own) (hideAll h' own'))(r:Rd own h v d):Rd own' h' v d:=let ⟨as,r⟩:=r;⟨as,Reads.keeps hk r⟩
theorem RdAll.mono {h h':Heap}{own own':List Addr}{vs ds}(hk:Kps (hideAll h own) (hideAll h' own'))(r:RdAll own h vs ds):RdAll own' h' vs ds:=by
 induction r with
 |nil=>exact .nil
 |cons a _ ih=>exact .cons (a.mono hk) ih
theorem Rd.keeps {h h':Heap}{own v d}(r:Rd own h v d)(hk:Kps h h'):Rd own h' v d:=r.mono (J0u hk)
theorem RdAll.keeps {h h':Heap}{own vs ds}(r:RdAll own h vs ds)(hk:Kps h h'):RdAll own h' vs ds:=r.mono (J0u hk)
theorem J1o {h h':Heap}{a vs}(r:h.IsList a vs)(hk:Kps h h'):h'.IsList a vs:=let ⟨o,ho,q⟩:=r;⟨o,hk _ _ ho,q⟩
abbrev NoF (d:Data):Prop:=(∀ vs n,d≠.seq vs n)∧∀ vs,d≠.fields vs
noncomputable def J3k:Option X→Bool
 |some (.it ..)=>false
 |_=>true
noncomputable def X.adr:X→List Addr
 |.l a _=>[a]
 |.ll a b _ c _=>[a,b,c]
 |.it a q _ _=>[a,q]
 |.lp a _ _=>[a]
 |_=>[]
def Dk (x:X)(d:Data):Prop:=(∃ vs n,d = .seq vs n)∨(J3k (some x)=false∧∃ vs,d = .fields vs)
theorem Dk.no {x d}(k:Dk x d)(n:NoF d):False:=by
 rcases k with ⟨vs,m,e⟩|⟨_,vs,e⟩
 ·exact n.1 _ _ e
 ·exact n.2 _ e
theorem XIn.mst {h h':Heap}{own own' v x}(r:XIn own h v x)(hid:Kps (hideAll h own) (hideAll h' own'))(kp:∀ a∈x.adr,∀ o,h.get? a=some o→Dk x o.data→h'.get? a=some o):XIn own' h' v x:=by
 have pls:∀ {b vs},b∈x.adr→h.PlainList b vs→h'.PlainList b vs:=fun m i=>i.at fun o e=>kp _ m o e (.inl (let ⟨n,e2⟩:=i;by rw [e2] at e;cases e;exact (xi2 _ _ rfl)))
 have lst:∀ {b vs},b∈x.adr→h.IsList b vs→h'.IsList b vs:=fun m i=>let ⟨o,ho,c,n,d⟩:=i;⟨o,kp _ m o ho (.inl (xi2 _ _ d)),c,n,d⟩
 cases x with
 |d d=>exact Rd.mono hid r
 |l b ds=>exact ⟨r.1,let ⟨vs,i,q⟩:=r.2;⟨vs,pls (.head _) i,q.mono hid⟩⟩
 |ll b c ds d es=>exact ⟨r.1,lst (.head _) r.2.1,(let ⟨vs,i,q⟩:=r.2.2.1;⟨vs,pls (.tail _ (.head _)) i,q.mono hid⟩),let ⟨vs,i,q⟩:=r.2.2.2;⟨vs,pls (.tail _ (.tail _ (.head _))) i,q.mono hid⟩⟩
 |it b l n k=>
  refine ab fun Q q9=>?_
  refine o04 r fun e n9a y z r9a=>o11 r9a fun vs p q=>?_;refine o12 n9a fun o ho c d=>?_;clear n9a;clear r
  refine q9 ?_
  exact ⟨e,⟨o,kp _ (.head _) o ho (.inr ⟨rfl,_,d⟩),c,d⟩,y,z,vs,lst (.tail _ (.head _)) p,q⟩
 |lp b P Q=>exact ⟨r.1,r.2.1,let ⟨u1,u2,i,p,q⟩:=r.2.2;⟨u1,u2,lst (.head _) i,r.2.1.1 _ _ _ hid p,r.2.1.2 _ _ _ hid q⟩⟩
 |p P=>exact ⟨r.1,r.1 _ _ _ hid r.2⟩
 |v u=>exact r
theorem XIn.to {h h':Heap}{own own':List Addr}{v x}(r:XIn own h v x)(hk:Kps h h')(hh:Kps (hideAll h own) (hideAll h' own')):XIn own' h' v x:=r.mst hh fun a _ o e _=>hk a o e
theorem XIn.keeps {h h':Heap}{own v x}(r:XIn own h v x)(hk:Kps h h'):XIn own h' v x:=r.to hk (J0u hk)
theorem XAll.keeps {h h':Heap}{own vs xs}(r:XAll own h vs xs)(hk:Kps h h'):XAll own h' vs xs:=by
 induction r with
 |nil=>exact .nil
 |cons a _ ih=>exact .cons (a.keeps hk) ih
theorem XIn.unhide {h:Heap}{own own' v x}(r:XIn own h v x)(ho:∀ b∈own',b∈own):XIn own' h v x:=r.to Kps.rfl' (J0e (fun _ _ _ e=>e) ho)
theorem XAll.unhide {h:Heap}{own own' vs xs}(r:XAll own h vs xs)(ho:∀ b∈own',b∈own):XAll own' h vs xs:=by
 induction r with
 |nil=>exact .nil
 |cons a _ ih=>exact .cons (a.unhide ho) ih
theorem Rd.none {own h}:Rd own h .none .none:=⟨_,.none⟩
theorem Rd.bool {own h b}:Rd own h (.bool b) (.bool b):=⟨_,.bool b⟩
theorem Rd.int {own h i t}:Rd own h (.int i t) (.int i):=⟨_,.int i t⟩
theorem Rd.str {own h x t}:Rd own h (.str x t) (.str x):=⟨_,.str x t⟩
theorem Rd.inv_none {own h v}(r:Rd own h v .none):v = .none:=let ⟨_,r⟩:=r;(reads_none_inv r).1
theorem Rd.inv_bool {own h v b}(r:Rd own h v (.bool b)):v = .bool b:=let ⟨_,r⟩:=r;(reads_bool_inv r).1
theorem Rd.inv_int {own h v i}(r:Rd own h v (.int i)):∃ t,v = .int i t:=let ⟨_,r⟩:=r;let ⟨t,e,_⟩:=reads_int_inv r;⟨t,e⟩
theorem Rd.inv_str {own h v x}(r:Rd own h v (.str x)):∃ t,v = .str x t:=let ⟨_,r⟩:=r;let ⟨t,e,_⟩:=reads_str_inv r;⟨t,e⟩
theorem Rd.plain {own h v d}(r:Rd own h v d):Rd [] h v d:=r.mono (J0e (fun _ _ _ e=>e) fun _ hb=>nomatch hb)
theorem Rd.reads {own h v d}(r:Rd own h v d):∃ as,Reads h v d as:=let ⟨as,q⟩:=r.plain;⟨as,q⟩
theorem RdAll.reads {own h vs ds}(r:RdAll own h vs ds):∃ as,ReadsAll h vs ds as:=by
 induction r with
 |nil=>exact ⟨_,.nil⟩
 |cons a _ ih=>refine o10 a.reads fun _ a=>?_;refine o10 ih fun _ b=>?_;clear ih;exact ⟨_,.cons a b⟩
theorem RdAll.hid {own h vs ds}(r:RdAll own h vs ds):∃ as,ReadsAll (hideAll h own) vs ds as:=by
 induction r with
 |nil=>exact ⟨_,.nil⟩
 |cons a _ ih=>obtain ⟨_,a⟩:=a;obtain ⟨_,b⟩:=ih;exact ⟨_,.cons a b⟩
theorem RdAll.of_reads {own h vs ds as}(r:ReadsAll (hideAll h own) vs ds as):RdAll own h vs ds:=by
 induction vs generalizing ds as with
 |nil=>cases r;exact .nil
 |cons v vs ih=>cases r with|cons a b=>exact .cons ⟨_,a⟩ (ih b)
theorem RdAll.length {own h vs ds}(r:RdAll own h vs ds):vs.length=ds.length:=by
 induction r with
 |nil=>rfl
 |cons _ _ ih=>simp [ih]
theorem RdAll.get {own h vs ds}(r:RdAll own h vs ds){i:Nat}{d}(hd:ds[i]? = some d):∃ v,vs[i]? = some v∧Rd own h v d:=by
 induction r generalizing i with
 |nil=>simp at hd
 |cons a _ ih=>
  cases i with
  |zero=>simp at hd;subst hd;exact ⟨_,rfl,a⟩
  |succ i=>simpa using ih (by simpa using hd)
theorem RdAll.get' {own h vs ds}(r:RdAll own h vs ds){i:Nat}{v}(hv:vs[i]? = some v):∃ d,ds[i]? = some d∧Rd own h v d:=by
 induction r generalizing i with
 |nil=>simp at hv
 |cons a _ ih=>
  cases i with
  |zero=>simp at hv;subst hv;exact ⟨_,rfl,a⟩
  |succ i=>simpa using ih (by simpa using hv)
theorem RdAll.append {own h vs ds ws es}(r:RdAll own h vs ds)(q:RdAll own h ws es):RdAll own h (vs++ws) (ds++es):=by
 induction r with
 |nil=>exact q
 |cons a _ ih=>exact .cons a ih
theorem RdAll.take {own h vs ds}(r:RdAll own h vs ds):∀ n,RdAll own h (vs.take n) (ds.take n):=by
 induction r with
 |nil=>intro n;simp;exact .nil
 |cons a _ ih=>intro n;cases n with
  |zero=>exact .nil
  |succ n=>exact .cons a (ih n)
theorem RdAll.drop {own h vs ds}(r:RdAll own h vs ds):∀ n,RdAll own h (vs.drop n) (ds.drop n):=by
 induction r with
 |nil=>intro n;simp;exact .nil
 |cons a b ih=>intro n;cases n with
  |zero=>exact .cons a b
  |succ n=>exact ih n
theorem Rd.inv_tuple {own h v ds}(r:Rd own h v (.tuple ds)):∃ a o vs n,v = .ref a∧a∉own∧h.get? a=some o∧o.cls = .type "tuple"∧o.data = .seq vs n∧RdAll own h vs.toList ds:=by
 obtain ⟨as,r⟩:=r
 cases r with
 |tuple h1 h2 h3 h4=>exact xi4 _ _ _ _ ⟨rfl,(fun hb=>by rw [hideAll_none _ hb] at h1;cases h1),of_hideAll _ h1,h2,h3,.of_reads h4⟩
theorem Rd.inv_list {own h v ds}(r:Rd own h v (.list ds)):∃ a o vs n,v = .ref a∧a∉own∧h.get? a=some o∧o.cls = .type "list"∧o.data = .seq vs n∧RdAll own h vs.toList ds:=by
 obtain ⟨as,r⟩:=r
 cases r with
 |list h1 h2 h3 h4=>exact xi4 _ _ _ _ ⟨rfl,(fun hb=>by rw [hideAll_none _ hb] at h1;cases h1),of_hideAll _ h1,h2,h3,.of_reads h4⟩
theorem Rd.tuple {own h a o vs n ds}(ha:a∉own)(ho:h.get? a=some o)(hc:o.cls = .type "tuple")(hd:o.data = .seq vs n)(r:RdAll own h vs.toList ds):Rd own h (.ref a) (.tuple ds):=by
 refine o10 r.hid fun as q=>?_
 exact ⟨as,.tuple (hideAll_get _ ho ha) hc hd q⟩
theorem Rd.list {own h a o vs n ds}(ha:a∉own)(ho:h.get? a=some o)(hc:o.cls = .type "list")(hd:o.data = .seq vs n)(r:RdAll own h vs.toList ds):Rd own h (.ref a) (.list ds):=by
 refine o10 r.hid fun as q=>?_
 exact ⟨a::as,.list (hideAll_get _ ho ha) hc hd q⟩
def PlP (ds:List PyData)(h:Heap)(v:Value):Prop:=∃ a vs as,v = .ref a∧h.PlainList a vs∧ReadsAll h vs.toList ds as
theorem PlP.st {ds}:∀ h h' v,Kps h h'→PlP ds h v→PlP ds h' v:=fun h h' v hk ⟨a,vs,as,e,p,r⟩=>⟨a,vs,as,e,p.at fun o e=>hk _ _ e,ReadsAll.keeps hk r⟩
noncomputable abbrev PL (ds:List PyData):X:=.p (PlP ds)
theorem PL.in {own h a vs ds}(ha:a∉own)(p:h.PlainList a vs)(r:RdAll own h vs.toList ds):XIn own h (.ref a) (PL ds):=by
 refine o10 r.hid fun as q=>?_
 refine o10 p fun n e=>?_;clear p
 exact ⟨PlP.st,a,vs,as,rfl,⟨n,hideAll_get _ e ha⟩,q⟩
theorem PL.plain {own h v ds}(r:XIn own h v (PL ds)):∃ a vs,v = .ref a∧h.PlainList a vs∧RdAll own h vs.toList ds:=by
 refine ab fun Q q9=>?_
 refine o01 r fun _ r9a=>o32 r9a fun a vs as e n9a q=>?_;refine o10 n9a fun n p=>?_;clear n9a;clear r
 refine q9 ?_
 exact xi2 a vs ⟨e,⟨n,of_hideAll _ p⟩,.of_reads q⟩
theorem PL.rd {own h v ds}(r:XIn own h v (PL ds)):Rd own h v (.list ds):=by
 refine ab fun Q q9=>?_
 refine o01 r fun _ r9a=>o32 r9a fun a vs as e9a n9b q=>?_;subst e9a;refine o10 n9b fun n p=>?_;clear n9b;clear r
 refine q9 ?_
 exact ⟨_,.list p rfl rfl q⟩
inductive IsL:X→List PyData→Prop
 |d {ds}:IsL (.d (.list ds)) ds
 |l {a ds}:IsL (.l a ds) ds
 |p {ds}:IsL (PL ds) ds
theorem IsL.at {x ds own h v}(i:IsL x ds)(r:XIn own h v x):∃ a vs,v = .ref a∧h.IsList a vs∧RdAll own h vs.toList ds:=by
 cases i with
 |d=>refine o45 (Rd.inv_list r) fun a o vs n e _ h1 h2 h3 h4=>?_;exact xi2 a vs ⟨e,⟨o,h1,h2,n,h3⟩,h4⟩
 |l=>refine o01 r fun e r9a=>o11 r9a fun vs h1 h2=>?_;clear r;exact xi2 _ vs ⟨e,h1.isList,h2⟩
 |p=>refine o22 (PL.plain r) fun a vs e h1 h2=>?_;exact xi2 a vs ⟨e,h1.isList,h2⟩
section
variable {C:List Value→Prop}
theorem vs0 (h:C []):∀ vs:List Value,vs.length=0→C vs:=fun vs e=>List.eq_nil_of_length_eq_zero e▸h
theorem vsS {n:Nat}(h:∀ a vs,vs.length=n→C (a::vs))(vs:List Value)(e:vs.length=n+1):C vs:=by
 cases vs with
 |nil=>cases e
 |cons a vs=>exact h a vs (Nat.succ.inj e)
theorem vs1 (h:∀ a,C [a]):∀ vs:List Value,vs.length=1→C vs:=vsS fun a=>vs0 (C:=fun t=>C (a::t)) (h a)
theorem vs2 (h:∀ a b,C [a,b]):∀ vs:List Value,vs.length=2→C vs:=vsS fun a=>vs1 (C:=fun t=>C (a::t)) (h a)
theorem vs3 (h:∀ a b c,C [a,b,c]):∀ vs:List Value,vs.length=3→C vs:=vsS fun a=>vs2 (C:=fun t=>C (a::t)) (h a)
theorem vs4 (h:∀ a b c d,C [a,b,c,d]):∀ vs:List Value,vs.length=4→C vs:=vsS fun a=>vs3 (C:=fun t=>C (a::t)) (h a)
theorem vs5 (h:∀ a b c d e,C [a,b,c,d,e]):∀ vs:List Value,vs.length=5→C vs:=vsS fun a=>vs4 (C:=fun t=>C (a::t)) (h a)
theorem vs6 (h:∀ a b c d e f,C [a,b,c,d,e,f]):∀ vs:List Value,vs.length=6→C vs:=vsS fun a=>vs5 (C:=fun t=>C (a::t)) (h a)
theorem vs7 (h:∀ a b c d e f g,C [a,b,c,d,e,f,g]):∀ vs:List Value,vs.length=7→C vs:=vsS fun a=>vs6 (C:=fun t=>C (a::t)) (h a)
@[elab_as_elim] theorem XAll.e1 {own h vs x}(r:XAll own h vs [x])(k:∀ a,XIn own h a x→C [a]):C vs:=by
 cases r with
 |cons a t=>cases t;exact k _ a
@[elab_as_elim] theorem XAll.e2 {own h vs x y}(r:XAll own h vs [x,y])(k:∀ a b,XIn own h a x→XIn own h b y→C [a,b]):C vs:=by
 cases r with
 |cons a t=>exact XAll.e1 (C:=fun t=>C (_::t)) t fun b hb=>k _ b a hb
@[elab_as_elim] theorem XAll.e3 {own h vs x y z}(r:XAll own h vs [x,y,z])(k:∀ a b c,XIn own h a x→XIn own h b y→XIn own h c z→C [a,b,c]):C vs:=by
 cases r with
 |cons a t=>exact XAll.e2 (C:=fun t=>C (_::t)) t fun b c hb hc=>k _ b c a hb hc
end
structure Gl (w:World)(h:Heap):Prop where
 K:(KF w.params).In h
 top:∃ mg mb,h.Ns mainGlobals mg∧h.Ns builtinsNs mb∧∀ x:Str,x≠"__name__"→mb x=bootBuiltins x
 lim:h.NoLimit
 seer:h.NoSeer
 mod:∃ ob,h.get? 4=some ob∧ob.cls = .type "module"∧ob.dict=some builtinsNs∧ob.data = .plain
theorem Gl.keeps {w h h'}(G:Gl w h)(hk:Kps h h'):Gl w h':=
 ⟨fun a o e=>hk _ _ (G.K a o e),let ⟨mg,mb,a,b,c⟩:=G.top;⟨mg,mb,a.keeps hk,b.keeps hk,c⟩,G.lim.keeps hk,G.seer.keeps hk,let ⟨ob,e,r⟩:=G.mod;⟨ob,hk _ _ e,r⟩⟩
abbrev Alive (own:List Addr)(h:Heap):Prop:=∀ b∈own,∃ o,h.get? b=some o
theorem Alive.keeps {own h h'}(A:Alive own h)(hk:Kps h h'):Alive own h':=fun b hb=>let ⟨o,e⟩:=A b hb;⟨o,hk _ _ e⟩
structure Cx (w:World)(own:List Addr)(h:Heap):Prop where
 gl:Gl w (hideAll h own)
 alive:Alive own h
theorem Cx.keeps {w own h h'}(C:Cx w own h)(hk:Kps h h'):Cx w own h':=⟨C.gl.keeps (J0u hk),C.alive.keeps hk⟩
theorem Cx.glh {w own h}(C:Cx w own h):Gl w h:=C.gl.keeps fun _ _ e=>of_hideAll _ e
theorem Cx.fresh {w own h a}(C:Cx w own h)(ha:h.get? a=none):a∉own:=fun hb=>by refine o10 (C.alive a hb) fun o e=>?_;rw [ha] at e;cases e
noncomputable def frs (env:Env):List Addr:=env.locals::env.cells.map (·.2)
noncomputable def Vals (own:List Addr) (h:Heap) (f:Str→Bool→Option Value):List (Str×Bool)→List (Option X)→Prop
 |[],[]=>True
 |p::ns,x::xs=>(∀ y,x=some y→∃ v,f p.1 p.2=some v∧XIn own h v y)∧Vals own h f ns xs
 |_,_=>False
theorem Vals.mono {own own':List Addr}{h h':Heap}{f g:Str→Bool→Option Value}(hx:∀ v x,XIn own h v x→XIn own' h' v x):∀ {ns xs},(∀ p∈ns,g p.1 p.2=f p.1 p.2)→Vals own h f ns xs→Vals own' h' g ns xs
 |[],[],_,_=>trivial
 |p::ns,x::xs,hg,⟨a,b⟩=>⟨fun y e=>let ⟨v,h1,h2⟩:=a y e;⟨v,(hg p (.head _)).trans h1,hx v y h2⟩,Vals.mono hx (fun q hq=>hg q (.tail _ hq)) b⟩
structure Frm (own:List Addr)(env:Env)(ns:List (Str×Bool))(xs:List (Option X))(h:Heap):Prop where
 st:env.scope.kind = .function∧env.globals=mainGlobals∧env.builtins=builtinsNs
 kinds:∀ p∈ns,env.kindOf p.1=some (if p.2 then .cell else .local)
 nodup:(ns.map (·.1)).Nodup
 mine:env.locals∈own∧∀ n c,env.cells.lookup n=some c→c∈own∧c≠env.locals
 apart:(env.cells.Pairwise fun x y=>x.2≠y.2)∧(env.cells.map (·.1)).Nodup
 has:∀ p∈ns,p.2=true→∃ c,env.cells.lookup p.1=some c
 vars:∃ (m cm:Str→Option Value),h.Ns env.locals m∧(∀ n c,env.cells.lookup n=some c→h.IsCell c (cm n))∧Vals own h (fun n b=>if b then cm n else m n) ns xs
theorem Frm.keeps {own env ns xs h h'}(F:Frm own env ns xs h)(hk:Kps h h'):Frm own env ns xs h':=
 ⟨F.st,F.kinds,F.nodup,F.mine,F.apart,F.has,let ⟨m,cm,a,b,c⟩:=F.vars;⟨m,cm,a.keeps hk,fun n c e=>(b n c e).keeps hk,c.mono (fun _ _ r=>r.keeps hk) fun _ _=>rfl⟩⟩
inductive At:List (Str×Bool)→List (Option X)→Str→Bool→X→Prop
 |head {n b ns x xs}:At ((n,b)::ns) (some x::xs) n b x
 |tail {p ns y xs n b x}:At ns xs n b x→At (p::ns) (y::xs) n b x
inductive Put:List (Str×Bool)→List (Option X)→Str→Bool→Option X→List (Option X)→Prop
 |head {n b ns y xs x}:Put ((n,b)::ns) (y::xs) n b x (x::xs)
 |tail {p ns y xs n b x xs'}:Put ns xs n b x xs'→Put (p::ns) (y::xs) n b x (y::xs')
theorem At.mem {ns xs n b x}(a:At ns xs n b x):(n,b)∈ns:=by induction a with|head=>exact .head _|tail _ ih=>exact .tail _ ih
theorem Put.mem {ns xs n b x xs'}(a:Put ns xs n b x xs'):(n,b)∈ns:=by induction a with|head=>exact .head _|tail _ ih=>exact .tail _ ih
theorem At.val {own h f ns xs n b x}(a:At ns xs n b x)(V:Vals own h f ns xs):∃ v,f n b=some v∧XIn own h v x:=by
 induction a with
 |head=>exact V.1 _ rfl
 |tail _ ih=>exact ih V.2
section
variable {M:Model}{A:Around}{E:Value→Shared→Prop}{s:Shared}{own:List Addr}{env:Env}{ns:List (Str×Bool)}{xs:List (Option X)}
theorem Z9y {n b x pos}{Q:Value→Shared→Prop}(F:Frm own env ns xs s.heap)(a:At ns xs n b x)(h:∀ v,XIn own s.heap v x→Q v s)(hd:(n == ("__debug__" : Str))=false):wpAny M A (eval (.Name n pos) env) Q E s:=by
 skip
 refine o22 F.vars fun m cm hm hc V=>?_
 refine o11 (a.val V) fun v e hv=>?_
 skip
 have k:=F.kinds _ a.mem
 cases b with
 |false=>exact wpAny_Name (wpAny_loadName_local F.st.1 k hm e (h v hv)) hd
 |true=>
  refine o10 (F.has _ a.mem rfl) fun c hl=>?_
  have ce:cm n=some v:=e
  exact wpAny_Name (wpAny_loadName_cell F.st.1 k hl (ce▸hc n c hl) (h v hv)) hd
theorem Put.vals {own own' h h' f g ns xs n b x xs'}(a:Put ns xs n b x xs')(hn:(ns.map (·.1)).Nodup)(hx:∀ v x,XIn own h v x→XIn own' h' v x)
  (hg:∀ p∈ns,p.1≠n→g p.1 p.2=f p.1 p.2) (hv:∀ y,x=some y→∃ v,g n b=some v∧XIn own' h' v y) (V:Vals own h f ns xs):Vals own' h' g ns xs':=by
 induction a with
 |@head n b ns y xs x=>
  refine ⟨hv,V.2.mono hx fun p hp=>hg p (.tail _ hp) fun e=>?_⟩
  rw [List.map_cons,List.nodup_cons] at hn
  exact hn.1 (by have:=List.mem_map_of_mem (f:=(·.1)) hp;rw [e] at this;exact this)
 |@tail p ns y xs n b x xs' a' ih=>
  rw [List.map_cons,List.nodup_cons] at hn
  have hpn:p.1≠n:=fun e=>hn.1 (by have:=List.mem_map_of_mem (f:=(·.1)) a'.mem;rw [e];exact this)
  refine ⟨fun z e=>?_,ih hn.2 (fun q hq=>hg q (.tail _ hq)) hv V.2⟩
  refine o11 (V.1 z e) fun v h1 h2=>?_
  exact ⟨v,(hg p (.head _) hpn).trans h1,hx v z h2⟩
abbrev Z7d (own:List Addr)(h h':Heap):Prop:=∀ b o,b∉own→h.get? b=some o→h'.get? b=some o
theorem XIn.frame {own h h' v x L}(r:XIn own h v x)(hs:Heap.SameBut L h h')(hL:L∈own)(hd:∃ o,h.get? L=some o∧NoF o.data):XIn own h' v x:=
 r.mst (J0e (fun b o nb e=>(hs.2 b fun q=>nb (q▸hL)).trans e) fun _ hb=>hb) fun a _ o e k=>(hs.2 a (by
  rintro rfl
  refine o11 hd fun o' e' n=>?_;clear hd
  rw [e'] at e;cases e;exact k.no n)).trans e
theorem J7k {h:Heap}{a m}(hn:h.Ns a m):∃ o,h.get? a=some o∧NoF o.data:=let ⟨o,es,ep,e,hd,_⟩:=hn;⟨o,e,⟨fun vs n q=>(by rw [hd] at q;cases q),fun vs q=>(by rw [hd] at q;cases q)⟩⟩
theorem J9r {h:Heap}{a v}(hn:h.IsCell a v):∃ o,h.get? a=some o∧NoF o.data:=let ⟨o,e,hd⟩:=hn;⟨o,e,⟨fun vs n q=>(by rw [hd] at q;cases q),fun vs q=>(by rw [hd] at q;cases q)⟩⟩
structure Sto (own:List Addr)(env:Env)(h h':Heap):Prop where
 but:Z7d (frs env) h h'
 up:∀ v x,XIn own h v x→XIn own h' v x
 hid:Kps (hideAll h own) (hideAll h' own)
 alive:Alive own h→Alive own h'
theorem Sto.refl {own env h}:Sto own env h h:=⟨fun _ _ _ e=>e,fun _ _ r=>r,fun _ _ e=>e,fun a=>a⟩
theorem Sto.trans {own env h h' h''}(a:Sto own env h h')(b:Sto own env h' h''):Sto own env h h'':=⟨fun x o nb e=>b.but x o nb (a.but x o nb e),fun v x r=>b.up v x (a.up v x r),Kps.trans a.hid b.hid,fun q=>b.alive (a.alive q)⟩
theorem Sto.of_kps {own env h h'}(k:Kps h h'):Sto own env h h':=⟨fun x o _ e=>k x o e,fun v x r=>r.keeps k,J0u k,fun a=>a.keeps k⟩
theorem Sto.cx {w own env h h'}(a:Sto own env h h')(C:Cx w own h):Cx w own h':=⟨C.gl.keeps a.hid,a.alive C.alive⟩
theorem Sto.one {own env h h' L}(hL:L∈own)(hf:L∈frs env)(hs:Heap.SameBut L h h')(hd:∃ o,h.get? L=some o∧NoF o.data)(ha:∃ o,h'.get? L=some o):Sto own env h h':=
 ⟨fun b o nb e=>(hs.2 b fun q=>nb (q▸hf)).trans e,fun v x r=>r.frame hs hL hd,J0e (fun b o nb e=>(hs.2 b fun q=>nb (q▸hL)).trans e) fun _ hb=>hb,
  fun a b hb=>by
   by_cases q:b=L
   ·exact q▸ha
   ·refine o10 (a b hb) fun o e=>?_;exact ⟨o,(hs.2 b q).trans e⟩⟩
theorem J3j {n b v x xs'}{Q:Unit→Shared→Prop}(F:Frm own env ns xs s.heap)(hv:XIn own s.heap v x)(p:Put ns xs n b (some x) xs')
  (h:∀ h' tk,Frm own env ns xs' h'→Sto own env s.heap h'→Q () {s with heap:=h',toks:=tk}) :
  wpAny M A (storeName env n v) Q E s:=by
 refine o22 F.vars fun m cm hm hc V=>?_
 have k:=F.kinds _ p.mem
 cases b with
 |false=>
  refine wpAny_storeName_local k hm (fun h' hm' hs=>?_) (by rw [F.st.1];rfl)
  have S:Sto own env s.heap h':=Sto.one F.mine.1 (.head _) hs (J7k hm) (let ⟨o,_,_,e,_⟩:=hm';⟨o,e⟩)
  refine h h' _ ⟨F.st,F.kinds,F.nodup,F.mine,F.apart,F.has,_,cm,hm',fun n c e=>(hc n c e).sameBut hs (F.mine.2 n c e).2,?_⟩ S
  refine p.vals F.nodup S.up (fun q _ hq=>?_) (fun y e=>?_) V
  ·cases q.2<;>simp [hq]
  ·cases e;exact ⟨v,by simp,S.up v x hv⟩
 |true=>
  refine o10 (F.has _ p.mem rfl) fun c hl=>?_
  refine wpAny_storeName_cell F.st.1 k hl (hc n c hl) fun h' hc' hs=>?_
  have S:Sto own env s.heap h':=Sto.one (F.mine.2 n c hl).1 (.tail _ (List.mem_map_of_mem (f:=(·.2)) (mem_of_lookup hl))) hs (J9r (hc n c hl)) (let ⟨o,e,_⟩:=hc';⟨o,e⟩)
  refine h h' _ ⟨F.st,F.kinds,F.nodup,F.mine,F.apart,F.has,m,fun y=>if y=n then some v else cm y,hm.sameBut hs (Ne.symm (F.mine.2 n c hl).2),fun n' c' e=>?_,?_⟩ S
  ·show h'.IsCell c' (if n'=n then some v else cm n')
   by_cases q:n'=n
   ·subst q;rw [hl] at e;cases e;simpa using hc'
   ·rw [if_neg q];exact (hc n' c' e).sameBut hs fun z=>q (name_of_addr F.apart.1 (mem_of_lookup e) (z▸mem_of_lookup hl))
  ·refine p.vals F.nodup S.up (fun q _ hq=>?_) (fun y e=>?_) V
   ·cases q.2<;>simp [hq]
   ·cases e;exact ⟨v,by simp,S.up v x hv⟩
end
structure Rm (n:Nat)(A:Around):Prop where
 hd:A.handled=none
 dp:A.depth+20 * n≤960
 un:A.units+200 * n≤9000
theorem Rm.deeper {n A env}(r:Rm (n+1) A):Rm n (A.deeper env):=⟨r.hd,by show A.depth+1+20 * n≤960;have:=r.dp;lia,by show A.units+3+200 * n≤9000;have:=r.un;lia⟩
theorem Rm.in1 {n A}(r:Rm (n+1) A):Rm n A.in1:=⟨r.hd,by show A.depth+20 * n≤960;have:=r.dp;lia,by show A.units+1+200 * n≤9000;have:=r.un;lia⟩
theorem Rm.less {n m A}(r:Rm n A)(h:m≤n):Rm m A:=⟨r.hd,by have:=r.dp;exact lTr (Nat.add_le_add_left (Nat.mul_le_mul_left _ h) _) this,by have:=r.un;exact lTr (Nat.add_le_add_left (Nat.mul_le_mul_left _ h) _) this⟩
theorem Kee.refl {s:Shared}:Keeps s s:=(xi2 _ _ ⟨rfl,fun _ _ e=>e⟩)
theorem Kee.trans {s s' s'':Shared}(a:Keeps s s')(b:Keeps s' s''):Keeps s s'':=by
 refine o21 a fun h t e9a k=>?_;subst e9a;clear a
 refine o21 b fun h' t' e9a k'=>?_;subst e9a;clear b
 exact xi2 h' t' ⟨rfl,fun x o e=>k' x o (k x o e)⟩
theorem Kee.sm {s s':Shared}(k:Keeps s s'):∃ h' tk,s' = {s with heap:=h',toks:=tk}:=let ⟨h,t,e,_⟩:=k;⟨h,t,e⟩
theorem J3l {s s' s'':Shared}(a:∃ h' tk,s' = {s with heap:=h',toks:=tk})(b:∃ h' tk,s'' = {s' with heap:=h',toks:=tk}):∃ h' tk,s'' = {s with heap:=h',toks:=tk}:=by
 refine o20 a fun _ _ e9a=>?_;subst e9a;clear a
 refine o20 b fun _ _ e9a=>?_;subst e9a;clear b
 exact xi2 _ _ rfl
theorem Kee.kps {s s':Shared}(a:Keeps s s'):Kps s.heap s'.heap:=by
 refine o21 a fun h t e9a k=>?_;subst e9a;clear a
 exact k
noncomputable def P1 {α:Type} (f:Value→Sem α):List Value→Sem α
 |[a]=>f a
 |_=>unsupported ""
noncomputable def P2 {α:Type} (f:Value→Value→Sem α):List Value→Sem α
 |[a,b]=>f a b
 |_=>unsupported ""
section
variable (w:World)
def Ev (A:Around)(env:Env)(ns:List (Str×Bool))(xs:List (Option X))(e:Expr)(x:X):Prop:=
 ∀ own s,Frm own env ns xs s.heap→Cx w own s.heap→wpAny (model PW w) A (eval e env) (fun v s'=>XIn own s'.heap v x∧Keeps s s') (fun _ _=>False) s
def EvT (A:Around)(env:Env)(ns:List (Str×Bool))(xs:List (Option X))(e:Expr)(b:Bool):Prop:=
 ∀ own s,Frm own env ns xs s.heap→Cx w own s.heap→wpAny (model PW w) A (isTrue e env (eval e env)) (fun v s'=>v=b∧Keeps s s') (fun _ _=>False) s
def Pr (A:Around)(xs:List X)(t:List Value→Sem Value)(x:X):Prop:=
 ∀ own s vs,Cx w own s.heap→XAll own s.heap vs xs→wpAny (model PW w) A (t vs) (fun v s'=>XIn own s'.heap v x∧Keeps s s') (fun _ _=>False) s
abbrev Fn (A:Around)(f:Value)(xs:List X)(x:X):Prop:=Pr w A xs (fun vs=>call f vs) x
end
section
variable {w:World}{own:List Addr}{A:Around}{env:Env}{ns:List (Str×Bool)}{xs:List (Option X)}{e l r:Expr}{x y z:X}{pos:Pos}{k:Nat}
theorem Kee.of {s s':Shared}(a:∃ h' tk,s' = {s with heap:=h',toks:=tk})(k:Kps s.heap s'.heap):Keeps s s':=by obtain ⟨h,t,rfl⟩:=a;exact xi2 h t ⟨rfl,k⟩
theorem J0 {s:Shared}{t:Sem Value}{E:Value→Shared→Prop}(h:wpAny (model PW w) A t (fun v s'=>XIn own s'.heap v x∧Keeps s s') (fun _ _=>False) s){Q:Value→Shared→Prop}
  (hq:∀ v s',XIn own s'.heap v x→Keeps s s'→Q v s'):wpAny (model PW w) A t Q E s:=wMo h (fun v s' q=>hq v s' q.1 q.2) fun _ _ q=>q.elim
theorem Z6y {i:Int}:Ev w A env ns xs (.Constant (.int i) k pos) (.d (.int i)):=fun _ _ _ _=>wpAny_Constant_int ⟨Rd.int,_,_,rfl,fun _ _ e=>e⟩
theorem Z6m {i:Str}:Ev w A env ns xs (.Constant (.str i) k pos) (.d (.str i)):=fun _ _ _ _=>wpAny_Constant_str ⟨Rd.str,_,_,rfl,fun _ _ e=>e⟩
theorem Z3s:Ev w A env ns xs (.Constant .none k pos) (.d .none):=fun _ _ _ _=>wpAny_Constant_none ⟨Rd.none,Kee.refl⟩
theorem Z1f {b:Bool}:Ev w A env ns xs (.Constant (.bool b) k pos) (.d (.bool b)):=fun _ _ _ _=>wpAny_Constant_bool ⟨Rd.bool,Kee.refl⟩
theorem Z2i {n b}(a:At ns xs n b x)(hd:(n == ("__debug__" : Str))=false):Ev w A env ns xs (.Name n pos) x:=fun _ _ F _=>Z9y F a (fun _ hv=>⟨hv,Kee.refl⟩) hd
theorem Z2s {n v}(hk:env.kindOf n=some .globalImplicit)(hm:∀ P,nsIn (KF P) mainGlobals n=some (some v))(hd:(n == ("__debug__" : Str))=false):Ev w A env ns xs (.Name n pos) (.v v):=by
 intro own s F G
 skip
 refine o22 G.glh.top fun mg mb h1 h2 h3=>?_
 skip
 exact Name_function_global F.st.1 hk (loadGlobal_global (by rw [F.st.2.1];exact h1) (mg_of G.glh.K h1 (hm _)) ⟨rfl,Kee.refl⟩) hd
theorem Z5o {n v}(hk:env.kindOf n=some .globalImplicit)(hm:∀ P,nsIn (KF P) mainGlobals n=some none)(hb:bootBuiltins n=some v)(hn:n≠"__name__")(hd:(n == ("__debug__" : Str))=false):Ev w A env ns xs (.Name n pos) (.v v):=by
 intro own s F G
 skip
 refine o22 G.glh.top fun mg mb h1 h2 h3=>?_
 skip
 exact Name_function_global F.st.1 hk (loadGlobal_builtin (by rw [F.st.2.1];exact h1) (mg_none_of G.glh.K h1 (hm _)) (by rw [F.st.2.2];exact h2) ((h3 n hn).trans hb) ⟨rfl,Kee.refl⟩) hd
theorem K7k {op}(hl:Ev w A env ns xs l x)(hr:Ev w A env ns xs r y)(p:Pr w A [x,y] (P2 (binaryOp op)) z):Ev w A env ns xs (.BinOp l op r pos) z:=by
 intro own s F G
 refine wpAny_BinOp (J0 (hl own s F G) fun a s1 ha k1=>J0 (hr own s1 (F.keeps (Kee.kps k1)) (G.keeps (Kee.kps k1))) fun b s2 hb k2=>?_)
 have k:=Kee.trans k1 k2
 exact J0 (p own s2 [a,b] (G.keeps (Kee.kps k)) (.cons (ha.keeps (Kee.kps k2)) (.cons hb .nil))) fun v s3 hv k3=>⟨hv,Kee.trans k k3⟩
theorem Z7x {op}(hl:Ev w A env ns xs l x)(hr:Ev w A env ns xs r y)(p:Pr w A [x,y] (P2 (compareOp op)) z)(hm:behindInMarks op r=false):Ev w A env ns xs (.Compare l [op] [r] pos) z:=by
 intro own s F G
 refine wpAny_Compare1 (J0 (hl own s F G) fun a s1 ha k1=>J0 (hr own s1 (F.keeps (Kee.kps k1)) (G.keeps (Kee.kps k1))) fun b s2 hb k2=>?_) hm
 have k:=Kee.trans k1 k2
 exact J0 (p own s2 [a,b] (G.keeps (Kee.kps k)) (.cons (ha.keeps (Kee.kps k2)) (.cons hb .nil))) fun v s3 hv k3=>⟨hv,Kee.trans k k3⟩
theorem Z2p {op b}(hl:Ev w A env ns xs l x)(hr:Ev w A env ns xs r y)(p:Pr w A [x,y] (P2 (compareOp op)) (.d (.bool b)))(hm:behindInMarks op r=false):EvT w A env ns xs (.Compare l [op] [r] pos) b:=by
 intro own s F G
 refine wpAny_isTrue_Compare1 (J0 (hl own s F G) fun a s1 ha k1=>J0 (hr own s1 (F.keeps (Kee.kps k1)) (G.keeps (Kee.kps k1))) fun c s2 hb k2=>?_) hm
 have k:=Kee.trans k1 k2
 refine J0 (p own s2 [a,c] (G.keeps (Kee.kps k)) (.cons (ha.keeps (Kee.kps k2)) (.cons hb .nil))) fun v s3 hv k3=>?_
 obtain rfl:=Rd.inv_bool hv
 exact wpAny_truthy_bool ⟨rfl,Kee.trans k k3⟩
theorem Z0f {op}(hl:Ev w A env ns xs l x)(p:Pr w A [x] (P1 (unaryOp op)) z):Ev w A env ns xs (.UnaryOp op l pos) z:=by
 intro own s F G
 refine wpAny_UnaryOp (J0 (hl own s F G) fun a s1 ha k1=>?_)
 exact J0 (p own s1 [a] (G.keeps (Kee.kps k1)) (.cons ha .nil)) fun v s3 hv k3=>⟨hv,Kee.trans k1 k3⟩
end
noncomputable def nst:Expr→Bool
 |.Starred ..=>false
 |_=>true
noncomputable def nAt:Expr→Bool
 |.Attribute ..=>false
 |_=>true
noncomputable def nsl:Expr→Bool
 |.Slice ..=>false
 |_=>true
theorem J8q {e:Expr}{es:List Expr}{env:Env}(h:nst e=true):starEach (e::es) env=(false,eval e env)::starEach es env:=by cases e<;>first|rfl|(exfalso;cases h)
theorem K8o {es:List Expr}{env:Env}(h:es.all nst=true)(pos:Pos):(backTo pos (starEach es env)).any (·.1)=false:=by
 induction es with
 |nil=>rfl
 |cons e es ih=>
  rw [List.all_cons,Bool.and_eq_true] at h
  rw [J8q h.1]
  exact ih h.2
theorem J3a {r:Expr}(h:nsl r=true)(o i:Value):subscripted r false o i=operate [o,i] (getItem o i):=by cases r<;>first|rfl|(exfalso;cases h)
section
variable (w:World)
def EvL (A:Around)(env:Env)(ns:List (Str×Bool))(xs:List (Option X))(es:List Expr)(ys:List X):Prop:=
 ∀ own s,Frm own env ns xs s.heap→Cx w own s.heap→∀ pos,wpAny (model PW w) A (spliced (backTo pos (starEach es env))) (fun vs s'=>XAll own s'.heap vs ys∧Keeps s s') (fun _ _=>False) s
def EvA (op:BoolOp)(A:Around)(env:Env)(ns:List (Str×Bool))(xs:List (Option X))(es:List Expr)(b:Bool):Prop:=
 ∀ own s,Frm own env ns xs s.heap→Cx w own s.heap→wpAny (model PW w) A (allTrue op es env) (fun v s'=>v=b∧Keeps s s') (fun _ _=>False) s
end
section
variable {w:World}{A:Around}{env:Env}{ns:List (Str×Bool)}{xs:List (Option X)}{e l r:Expr}{x y z:X}{pos:Pos}{k:Nat}{es:List Expr}{ys:List X}{b c:Bool}
theorem J0s {s:Shared}{t:Sem Bool}{E:Value→Shared→Prop}(h:wpAny (model PW w) A t (fun v s'=>v=b∧Keeps s s') (fun _ _=>False) s){Q:Bool→Shared→Prop}
  (hq:∀ s',Keeps s s'→Q b s'):wpAny (model PW w) A t Q E s:=wMo h (fun v s' q=>by obtain ⟨rfl,k⟩:=q;exact hq s' k) fun _ _ q=>q.elim
theorem Z1m:EvL w A env ns xs [] []:=fun own s F C pos=>spliced_none ⟨.nil,Kee.refl⟩
theorem K8p (h:Ev w A env ns xs e x)(t:EvL w A env ns xs es ys)(he:starEach (e::es) env=(false,eval e env)::starEach es env):EvL w A env ns xs (e::es) (x::ys):=by
 intro own s F C pos
 refine spliced_more (J0 (h own s F C) fun v s1 hv k1=>?_) he
 exact wMo (t own s1 (F.keeps (Kee.kps k1)) (C.keeps (Kee.kps k1)) pos) (fun vs s2 q=>⟨.cons (hv.keeps (Kee.kps q.2)) q.1,Kee.trans k1 q.2⟩) fun _ _ q=>q
theorem K0f:EvA w .And A env ns xs [] true:=fun own s F C=>wpAny_allTrue_And_nil ⟨rfl,Kee.refl⟩
theorem K3o:EvA w .Or A env ns xs [] false:=fun own s F C=>wpAny_allTrue_Or_nil ⟨rfl,Kee.refl⟩
theorem Z4q (h:EvT w A env ns xs e b)(t:b=true→EvA w .And A env ns xs es c):EvA w .And A env ns xs (e::es) (b && c):=by
 intro own s F C
 refine wpAny_allTrue_And_cons (J0s (h own s F C) fun s1 k1=>?_)
 cases b with
 |false=>exact ⟨rfl,k1⟩
 |true=>exact J0s (t rfl own s1 (F.keeps (Kee.kps k1)) (C.keeps (Kee.kps k1))) fun s2 k2=>⟨by simp,Kee.trans k1 k2⟩
theorem Z6i (h:EvT w A env ns xs e b)(t:b=false→EvA w .Or A env ns xs es c):EvA w .Or A env ns xs (e::es) (b || c):=by
 intro own s F C
 refine wpAny_allTrue_Or_cons (J0s (h own s F C) fun s1 k1=>?_)
 cases b with
 |true=>exact ⟨rfl,k1⟩
 |false=>exact J0s (t rfl own s1 (F.keeps (Kee.kps k1)) (C.keeps (Kee.kps k1))) fun s2 k2=>⟨by simp,Kee.trans k1 k2⟩
theorem K8e {op}(h:EvA w op A env ns xs es b):EvT w A env ns xs (.BoolOp op es pos) b:=fun own s F C=>wpAny_isTrue_BoolOp (h own s F C)
theorem Z4o (h:EvT w A env ns xs e b):EvT w A env ns xs (.UnaryOp .Not e pos) (!b):=fun own s F C=>wpAny_isTrue_Not (J0s (h own s F C) fun s' k=>⟨rfl,k⟩)
theorem Z4v (h:Ev w A env ns xs e (.d (.bool b)))(he:isTrue e env (eval e env)=(do let v ← eval e env;standAt e.pos;holding [v] (truthy v))):EvT w A env ns xs e b:=by
 intro own s F C
 refine wpAny_isTrue_value (J0 (h own s F C) fun v s1 hv k1=>?_) he
 obtain rfl:=Rd.inv_bool hv
 exact wpAny_truthy_bool ⟨rfl,k1⟩
theorem Z7f {t:Expr}(ht:EvT w A env ns xs t b)(h1:b=true→Ev w A env ns xs l x)(h2:b=false→Ev w A env ns xs r x):Ev w A env ns xs (.IfExp t l r pos) x:=by
 intro own s F C
 refine wpAny_IfExp (J0s (ht own s F C) fun s1 k1=>?_)
 cases b with
 |true=>exact J0 (h1 rfl own s1 (F.keeps (Kee.kps k1)) (C.keeps (Kee.kps k1))) fun v s2 hv k2=>⟨hv,Kee.trans k1 k2⟩
 |false=>exact J0 (h2 rfl own s1 (F.keeps (Kee.kps k1)) (C.keeps (Kee.kps k1))) fun v s2 hv k2=>⟨hv,Kee.trans k1 k2⟩
inductive Ds:List X→List PyData→Prop
 |nil:Ds [] []
 |cons {d xs ds}:Ds xs ds→Ds (.d d::xs) (d::ds)
theorem Ds.rd {own h vs xs ds}(q:Ds xs ds)(r:XAll own h vs xs):RdAll own h vs ds:=by
 induction q generalizing vs with
 |nil=>cases r;exact .nil
 |cons _ ih=>cases r with|cons a b=>exact .cons a (ih b)
theorem XAll.length {own h vs xs}(r:XAll own h vs xs):vs.length=xs.length:=by
 induction r with
 |nil=>rfl
 |cons _ _ ih=>simp [ih]
theorem J1j {own:List Addr}{h:Heap}(a:Alive own h):h.objs.size∉own:=fun hb=>by refine o10 (a _ hb) fun o e=>?_;exact Nat.lt_irrefl _ (Heap.lt_size e)
theorem kps_push {h:Heap}(o:Obj):Kps h (h.push o):=fun _ _ e=>Heap.get?_push_of_some _ e
theorem J0l {n:Nat}(h:n≤1000):n≤sizeLine:=lTr h (by decide)
theorem K7p {ds}(h:EvL w A env ns xs es ys)(q:Ds ys ds)(hsz:ds.length≤1000):Ev w A env ns xs (.Tuple es k pos) (.d (.tuple ds)):=by
 intro own s F C
 refine wpAny_Tuple (wMo (h own s F C pos) (fun vs s1 z=>?_) fun _ _ z=>z.elim)
 refine o01 z fun hv kk=>?_;clear z
 have C1:=C.keeps (Kee.kps kk)
 refine ⟨(q.rd hv).length▸J0l hsz,?_,Kee.trans kk (xi2 _ _ ⟨rfl,kps_push _⟩)⟩
 exact Rd.tuple (J1j C1.alive) (Heap.get?_push_size _ rfl) rfl rfl ((q.rd hv).keeps (kps_push _))
theorem Z2d {ds}(h:EvL w A env ns xs es ys)(q:Ds ys ds)(hsz:ds.length≤1000):Ev w A env ns xs (.List es pos) (.d (.list ds)):=by
 intro own s F C
 refine List_ (wMo (h own s F C pos) (fun vs s1 z=>?_) fun _ _ z=>z.elim)
 refine o01 z fun hv kk=>?_;clear z
 have C1:=C.keeps (Kee.kps kk)
 have hl:vs.length≤sizeLine:=(q.rd hv).length▸J0l hsz
 refine wpAny_newList ⟨?_,Kee.trans kk (xi2 _ _ ⟨rfl,kps_push _⟩)⟩ hl
 exact Rd.list (J1j C1.alive) (Heap.get?_push_size _ rfl) rfl rfl ((q.rd hv).keeps (kps_push _))
theorem Z7m (hl:Ev w A env ns xs l x)(hr:Ev w A env ns xs r y)(p:Pr w A [x,y] (P2 (subscriptTail l r)) z):Ev w A env ns xs (.Subscript l r pos) z:=by
 intro own s F G
 refine Subscript_ (J0 (hl own s F G) fun a s1 ha k1=>J0 (hr own s1 (F.keeps (Kee.kps k1)) (G.keeps (Kee.kps k1))) fun b s2 hb k2=>?_)
 have k:=Kee.trans k1 k2
 exact J0 (p own s2 [a,b] (G.keeps (Kee.kps k)) (.cons (ha.keeps (Kee.kps k2)) (.cons hb .nil))) fun v s3 hv k3=>⟨hv,Kee.trans k k3⟩
def J6r (w:World)(A:Around)(env:Env)(ns:List (Str×Bool))(xs:List (Option X))(es:List Expr)(ys:List X):Prop:=
 (∀ pos,(backTo pos (starEach es env)).any (·.1)=false)∧∀ f own s,Frm own env ns xs s.heap→Cx w own s.heap→∀ pos,
  wpAny (model PW w) A (evalArgs f true (backTo pos (starEach es env)) []) (fun a s'=>a.kw = []∧XAll own s'.heap a.pos ys∧Keeps s s') (fun _ _=>False) s
theorem K7b {pos:Pos}{env:Env}{e:Expr}{es:List Expr}(q:backTo pos (starEach (e::es) env) = []):False:=by
 cases e<;>exact List.cons_ne_nil _ _ q
theorem K5e (h:EvL w A env ns xs (e::es) ys)(hp:∀ pos,(backTo pos (starEach (e::es) env)).any (·.1)=false):J6r w A env ns xs (e::es) ys:=by
 refine ⟨hp,fun f own s F C pos=>?_⟩
 have hh:=h own s F C pos
 have hp:=hp pos
 cases q:backTo pos (starEach (e::es) env) with
 |nil=>exact (K7b q).elim
 |cons p rest=>
  obtain ⟨b,t⟩:=p
  rw [q] at hp hh
  have hb:b=false:=by simp at hp;exact hp.1
  subst hb
  exact evalArgs_plain (wMo hh (fun vs s' z=>⟨rfl,z.1,z.2⟩) fun _ _ z=>z)
noncomputable def J5 (K:Frag) (f:Addr):Bool:=match K.lookup f with
 |some ⟨_,_,.func _,_⟩=>true
 |_=>false
theorem J1w {K:Frag}{f:Addr}{h:Heap}(X:K.In h)(e:J5 K f=true):∃ o fd,h.get? f=some o∧o.data = .func fd:=by
 unfold J5 at e
 split at e
 ·rename_i q;exact xi2 _ _ ⟨X _ _ q,rfl⟩
 ·exfalso;cases e
theorem J0o {f:Expr}(pos:Pos)(env:Env)(h:nAt f=true):eval (.Call f es [] pos) env=(do callWith pos (← eval f env) [] (backTo pos (starEach es env)) []):=by
 cases f<;>first|rfl|(exfalso;cases h)
theorem K3n {f:Expr}{a:Addr}(hf:Ev w A env ns xs f (.v (.ref a)))(ha:J6r w A env ns xs es ys)(hk:∀ P,J5 (KF P) a=true)(hc:Fn w A (.ref a) ys z)(hn:nAt f=true) :
  Ev w A env ns xs (.Call f es [] pos) z:=by
 intro own s F C
 rw [J0o pos env hn]
 refine wBn (J0 (hf own s F C) fun v s1 hv k1=>?_)
 have hv:v = .ref a:=hv
 subst hv
 have F1:=F.keeps (Kee.kps k1)
 have C1:=C.keeps (Kee.kps k1)
 refine o21 (J1w C1.glh.K (hk _)) fun o fd ho hd=>?_
 refine callWith_function (o:=o) (fd:=fd) (wMo (ha.2 _ own s1 F1 C1 pos) (fun x s2 z=>?_) fun _ _ z=>z.elim)
 refine o02 z fun z1 z2 k2=>?_;clear z
 rw [z1]
 refine ⟨⟨Kee.kps k2 _ _ ho,hd⟩,?_⟩
 exact J0 (hc own s2 x.pos (C1.keeps (Kee.kps k2)) z2) fun v s3 hv k3=>⟨hv,Kee.trans (Kee.trans k1 k2) k3⟩
theorem K0b {f:Expr}{id:String}(hf:Ev w A env ns xs f (.v (.builtin id)))(ha:J6r w A env ns xs es ys)(hc:Fn w A (.builtin id) ys z)(hn:nAt f=true) :
  Ev w A env ns xs (.Call f es [] pos) z:=by
 intro own s F C
 rw [J0o pos env hn]
 refine wBn (J0 (hf own s F C) fun v s1 hv k1=>?_)
 have hv:v = .builtin id:=hv
 subst hv
 have F1:=F.keeps (Kee.kps k1)
 have C1:=C.keeps (Kee.kps k1)
 refine callWith_builtin (ha.1 _) (wMo (ha.2 _ own s1 F1 C1 pos) (fun x s2 z=>?_) fun _ _ z=>z.elim)
 refine o02 z fun z1 z2 k2=>?_;clear z
 rw [z1]
 exact J0 (hc own s2 x.pos (C1.keeps (Kee.kps k2)) z2) fun v s3 hv k3=>⟨hv,Kee.trans (Kee.trans k1 k2) k3⟩
theorem J9k {f:Expr}{T:String}(hf:Ev w A env ns xs f (.v (.type T)))(ha:J6r w A env ns xs es ys)(hc:Fn w A (.type T) ys z)(hn:nAt f=true) :
  Ev w A env ns xs (.Call f es [] pos) z:=by
 intro own s F C
 rw [J0o pos env hn]
 refine wBn (J0 (hf own s F C) fun v s1 hv k1=>?_)
 have hv:v = .type T:=hv
 subst hv
 have F1:=F.keeps (Kee.kps k1)
 have C1:=C.keeps (Kee.kps k1)
 refine PyProof.Rows.callWith_type (ha.1 _) (wMo (ha.2 _ own s1 F1 C1 pos) (fun x s2 z=>?_) fun _ _ z=>z.elim)
 refine o02 z fun z1 z2 k2=>?_;clear z
 rw [z1]
 exact J0 (hc own s2 x.pos (C1.keeps (Kee.kps k2)) z2) fun v s3 hv k3=>⟨hv,Kee.trans (Kee.trans k1 k2) k3⟩
end
inductive Fl where
 |next|brk|cont
 |ret (x:X)
noncomputable def FlIn (own:List Addr) (h:Heap):Flow→Fl→Prop
 |.next,.next=>True
 |.brk,.brk=>True
 |.cont,.cont=>True
 |.ret v,.ret x=>XIn own h v x
 |_,_=>False
structure Chg (own:List Addr)(env:Env)(s s':Shared):Prop where
 same:∃ h' tk,s' = {s with heap:=h',toks:=tk}
 sto:Sto own env s.heap s'.heap
theorem Chg.refl {own env s}:Chg own env s s:=⟨(xi2 _ _ rfl),Sto.refl⟩
theorem Chg.trans {own env s s' s''}(a:Chg own env s s')(b:Chg own env s' s''):Chg own env s s'':=by
 refine o20 a.same fun h t e9a=>?_;subst e9a
 refine o20 b.same fun h' t' e9a=>?_;subst e9a
 exact ⟨(xi2 h' t' rfl),a.sto.trans b.sto⟩
theorem Chg.of_keeps {own env}{s s':Shared}(k:Keeps s s'):Chg own env s s':=⟨let ⟨h,t,e,_⟩:=k;⟨h,t,e⟩,Sto.of_kps (Kee.kps k)⟩
theorem FlIn.sto {own env h h' f g}(r:FlIn own h f g)(k:Sto own env h h'):FlIn own h' f g:=by
 cases f<;>cases g<;>first|exact r|exact k.up _ _ r
section
variable (w:World)
def Ex (A:Around)(env:Env)(ns:List (Str×Bool))(xs:List (Option X))(ss:List Stmt)(f:Fl)(xs':List (Option X)):Prop:=
 ∀ own s,Frm own env ns xs s.heap→Cx w own s.heap→wpAny (model PW w) A (execs ss env) (fun g s'=>FlIn own s'.heap g f∧Frm own env ns xs' s'.heap∧Chg own env s s') (fun _ _=>False) s
def Ex1 (A:Around)(env:Env)(ns:List (Str×Bool))(xs:List (Option X))(st:Stmt)(f:Fl)(xs':List (Option X)):Prop:=
 ∀ own s,Frm own env ns xs s.heap→Cx w own s.heap→wpAny (model PW w) A (exec st env) (fun g s'=>FlIn own s'.heap g f∧Frm own env ns xs' s'.heap∧Chg own env s s') (fun _ _=>False) s
end
section
variable {w:World}{A:Around}{env:Env}{ns:List (Str×Bool)}{xs xs' xs'':List (Option X)}{e l r:Expr}{x y z:X}{pos npos:Pos}{k:Nat}{st:Stmt}{ss tt:List Stmt}{f:Fl}{b:Bool}{n:Str}{c:Bool}
theorem Z5n:Ex w A env ns xs [] .next xs:=fun own s F C=>wpAny_execs_nil ⟨trivial,F,.refl⟩
theorem Z1g (h:Ex1 w A env ns xs st .next xs')(t:Ex w A env ns xs' ss f xs''):Ex w A env ns xs (st::ss) f xs'':=by
 intro own s F C
 refine wpAny_execs_cons (wMo (h own s F C) (fun g s1 q=>?_) fun _ _ q=>q)
 refine o02 q fun q1 q2 q3=>?_;clear q
 cases g with
 |next=>exact wMo (t own s1 q2 (q3.sto.cx C)) (fun g s2 q=>⟨q.1,q.2.1,q3.trans q.2.2⟩) fun _ _ q=>q
 |_=>exact q1.elim
theorem Z8u (h:Ex1 w A env ns xs st (.ret x) xs'):Ex w A env ns xs (st::ss) (.ret x) xs':=by
 intro own s F C
 refine wpAny_execs_cons (wMo (h own s F C) (fun g s1 q=>?_) fun _ _ q=>q)
 cases g with
 |ret v=>exact q
 |_=>exact q.1.elim
theorem K4p (h:Ev w A env ns xs e x):Ex1 w A env ns xs (.Return (some e) pos) (.ret x) xs:=by
 intro own s F C
 exact wpAny_Return_some (J0 (h own s F C) fun v s1 hv k=>⟨hv,F.keeps (Kee.kps k),Chg.of_keeps k⟩)
theorem K6i (h:Ev w A env ns xs e x)(p:Put ns xs n c (some x) xs')(hs:swapsWith e (some (.Name n npos)) pos.line env=pure false):Ex1 w A env ns xs (.Assign [.Name n npos] e pos) .next xs':=by
 intro own s F C
 refine wpAny_Assign_Name (J0 (h own s F C) fun v s1 hv k=>?_) hs
 exact J3j (F.keeps (Kee.kps k)) hv p fun h' tk F' S=>⟨trivial,F',(Chg.of_keeps k).trans ⟨(xi2 _ _ rfl),S⟩⟩
theorem Z2j (ht:EvT w A env ns xs e b)(h1:b=true→Ex w A env ns xs ss f xs')(h2:b=false→Ex w A env ns xs tt f xs'):Ex1 w A env ns xs (.If e ss tt pos) f xs':=by
 intro own s F C
 refine wpAny_If (J0s (ht own s F C) fun s1 k=>?_)
 cases b with
 |true=>exact wMo (h1 rfl own s1 (F.keeps (Kee.kps k)) (C.keeps (Kee.kps k))) (fun g s2 q=>⟨q.1,q.2.1,(Chg.of_keeps k).trans q.2.2⟩) fun _ _ q=>q
 |false=>exact wMo (h2 rfl own s1 (F.keeps (Kee.kps k)) (C.keeps (Kee.kps k))) (fun g s2 q=>⟨q.1,q.2.1,(Chg.of_keeps k).trans q.2.2⟩) fun _ _ q=>q
theorem Z7b {op}(a:At ns xs n c x)(h:Ev w A env ns xs e y)(p:Pr w A [x,y] (P2 (inplaceOp op)) z)(q:Put ns xs n c (some z) xs')
  (hd:(n == ("__debug__" : Str))=false):Ex1 w A env ns xs (.AugAssign (.Name n npos) op e pos) .next xs':=by
 intro own s F C
 refine wpAny_AugAssign_Name ?_
 have ldn:∀ {Q:Value→Shared→Prop} {E:Value→Shared→Prop},(∀ v,XIn own s.heap v x→Q v s)→wpAny (model PW w) A (loadName env n) Q E s:=by
  intro Q E h
  skip
  refine o22 F.vars fun m cm hm hc V=>?_
  refine o11 (a.val V) fun v e hv=>?_
  skip
  have k:=F.kinds _ a.mem
  cases c with
  |false=>exact wpAny_loadName_local F.st.1 k hm e (h v hv)
  |true=>
   refine o10 (F.has _ a.mem rfl) fun c hl=>?_
   have ce:cm n=some v:=e
   exact wpAny_loadName_cell F.st.1 k hl (ce▸hc n c hl) (h v hv)
 refine ldn fun v hv=>J0 (h own s F C) fun u s1 hu k1=>?_
 refine J0 (p own s1 [v,u] (C.keeps (Kee.kps k1)) (.cons (hv.keeps (Kee.kps k1)) (.cons hu .nil))) fun t s2 ht k2=>?_
 have k:=Kee.trans k1 k2
 exact J3j (F.keeps (Kee.kps k)) ht q fun h' tk F' S=>⟨trivial,F',(Chg.of_keeps k).trans ⟨(xi2 _ _ rfl),S⟩⟩
end
theorem J5l {k:Str→Option NameKind}{n:Str}:∀ {binds:List (Str×Value)} {m:Str→Option Value},n∉binds.map (·.1)→bindL k binds m n=m n
 |[],_,_=>rfl
 |(x,v)::r,m,h=>by
  unfold bindL
  rw [J5l (fun q=>h (.tail _ q))]
  split
  ·exact if_neg (by rintro rfl;exact h (.head _))
  ·rfl
theorem J5z {k:Str→Option NameKind}{n:Str}:∀ {binds:List (Str×Value)} {m:Str→Option Value},n∉binds.map (·.1)→bindC k binds m n=m n
 |[],_,_=>rfl
 |(x,v)::r,m,h=>by
  unfold bindC
  rw [J5z (fun q=>h (.tail _ q))]
  split
  ·rfl
  ·exact if_neg (by rintro rfl;exact h (.head _))
theorem J5v {own:List Addr}{h:Heap}{k:Str→Option NameKind}:∀ {ns:List (Str×Bool)} {vs:List Value} {ys:List X} {m cm:Str→Option Value} {j:Nat},(∀ p∈ns,k p.1=some (if p.2 then .cell else .local))→(ns.map (·.1)).Nodup→XAll own h vs ys→ys.length+j=ns.length →
  Vals own h (fun n b=>if b then bindC k ((ns.map (·.1)).zip vs) cm n else bindL k ((ns.map (·.1)).zip vs) m n) ns (ys.map some++List.replicate j none)
 |[],vs,[],m,cm,j,_,_,_,hj=>by
  have:j=0:=by simpa using hj
  subst this;exact trivial
 |[],vs,_::_,m,cm,j,_,_,_,hj=>by simp at hj
 |p::ns,vs,[],m,cm,j+1,hk,hn,hv,hj=>by
  cases hv
  refine ⟨fun y e=>(nomatch e),?_⟩
  have:=J5v (own:=own) (h:=h) (k:=k) (ns:=ns) (vs:=[]) (ys:=[]) (m:=m) (cm:=cm) (j:=j) (fun q hq=>hk q (.tail _ hq)) (List.nodup_cons.mp hn).2 .nil (by simpa using hj)
  simpa using this
 |p::ns,vs,[],m,cm,0,hk,hn,hv,hj=>by simp at hj
 |p::ns,vs,y::ys,m,cm,j,hk,hn,hv,hj=>by
  cases hv with
  |@cons v vs _ _ a b=>
   have hn':=List.nodup_cons.mp hn
   have hz:p.1∉((ns.map (·.1)).zip vs).map (·.1):=fun q=>by
    refine o11 (mMp q) fun n9a hm e=>?_;obtain ⟨x,u⟩:=n9a
    exact hn'.1 (by have:=(List.of_mem_zip hm).1;simp only at e;rw [e] at this;exact this)
   have kp:=hk p (.head _)
   refine ⟨fun z e=>?_,?_⟩
   ·cases e
    refine ⟨v,?_,a⟩
    have c1:bindC k (((p::ns).map (·.1)).zip (v::vs)) cm p.1=(if k p.1=some .local then cm else fun y=>if y=p.1 then some v else cm y) p.1:=J5z (k:=k) (binds:=(ns.map (·.1)).zip vs) hz
    have c2:bindL k (((p::ns).map (·.1)).zip (v::vs)) m p.1=(if k p.1=some .local then fun y=>if y=p.1 then some v else m y else m) p.1:=J5l (k:=k) (binds:=(ns.map (·.1)).zip vs) hz
    dsimp only
    rw [c1,c2]
    cases q:p.2 with
    |true=>simp [kp,q]
    |false=>simp [kp,q]
   ·have:=J5v (own:=own) (h:=h) (k:=k) (ns:=ns) (vs:=vs) (ys:=ys) (m:=if k p.1=some .local then fun y=>if y=p.1 then some v else m y else m) (cm:=if k p.1=some .local then cm else fun y=>if y=p.1 then some v else cm y) (j:=j) (fun q hq=>hk q (.tail _ hq)) hn'.2 b (by simp at hj;lia)
    exact this
theorem XAll.map {own own':List Addr}{h h':Heap}{vs:List Value}{xs:List X}(hx:∀ v x,XIn own h v x→XIn own' h' v x)(r:XAll own h vs xs):XAll own' h' vs xs:=by
 induction r with
 |nil=>exact .nil
 |cons a _ ih=>exact .cons (hx _ _ a) ih
structure FnStat (f:Addr)(fd:FuncData)(body:List Stmt)(ns:List (Str×Bool)):Prop where
 at_:∀ P,∃ oc od osl,(KF P).lookup f=some ⟨oc,od,.func fd,osl⟩
 code:∀ P,codeIn (KF P) fd.code fd.qualname=true
 body:fd.body = .stmts body
 flat:fd.scope.isCoroutine=false∧fd.scope.isGenerator=false∧fd.scope.kind = .function∧fd.closure = []∧fd.globals=mainGlobals∧fd.builtins=builtinsNs
 kinds:∀ p∈ns,fd.scope.names.lookup p.1=some (if p.2 then .cell else .local)
 nodup:(ns.map (·.1)).Nodup
 cnod:((cellsFrom 0 fd.scope.names []).map (·.1)).Nodup
noncomputable abbrev fEnv (fd:FuncData) (f L:Addr):Env:=newEnv fd.scope L fd.globals (cellsFrom (L+1) fd.scope.names []) (fd.qualname++".<locals>.") (some f) fd.code none fd.builtins
theorem K1r {tb:Nat}{w:World}{A:Around}{f:Addr}{fd:FuncData}{body:List Stmt}{ns:List (Str×Bool)}{ys0 ys:List X}{j:Nat}{own:List Addr}{s:Shared}{vs:List Value}{R:Result→Shared→Prop}(S:FnStat f fd body ns)(hr:A.depth<recursionLimit)
  (hj:ys.length+j=ns.length) (hb:∀ A,wpAny (model PW w) A (bindArgs fd ⟨vs,[]⟩) (fun b s'=>s'=s∧∃ us,b=(ns.map (·.1)).zip us∧XAll own s.heap us ys) (fun _ _=>False) s) (htb:tb≤s.toks) (C:Cx w own s.heap)
  (k:∀ L s1,Frm (frs (fEnv fd f L)++own) (fEnv fd f L) ns (ys.map some++List.replicate j none) s1.heap→Cx w (frs (fEnv fd f L)++own) s1.heap→Keeps s s1→(∀ b∈frs (fEnv fd f L),s.heap.get? b=none)→tb≤s1.toks→Kps (hideAll s.heap own) (hideAll s1.heap (frs (fEnv fd f L)++own)) →
   wpAny (model PW w) (A.deeper (fEnv fd f L)) (execs body (fEnv fd f L)) (fun g s'=>R (.ok (.ret (match g with | .ret v=>v|_=>.none))) s')
    (fun e s'=>wpAny (model PW w) (A.deeper (fEnv fd f L)) (leaving (fEnv fd f L) e) (fun _ s''=>R (.error e) s'') (fun e' s''=>R (.error e') s'') s') s1) :
  codeAny (model PW w) A (.call (.ref f) ⟨vs,[]⟩) R s:=by
 skip
 refine o30 (S.at_ w.params) fun oc od osl hl=>?_
 refine o05 S.flat fun f1 f2 f3 f4 f5 f6=>?_
 skip
 have G:=C.glh
 refine codeAny_call_function hr (G.K _ _ hl) rfl f1 f2 S.body (codeRec_of G.K (S.code _)) ?_
 refine wMo (hb _) (fun bb s0 qq=>?_) fun _ _ q=>q.elim
 refine o01 qq fun hs0 r9a=>o11 r9a fun us hbb hv=>?_;clear qq
 subst hbb
 rw [hs0]
 clear hs0
 rw [f4]
 refine wpAny_with_toks htb ?_
 refine wpAny_newFunctionEnv_cells f3 (fun x hx=>?_) fun env he s' x htb'=>?_
 ·obtain ⟨n,v⟩:=x
  have hm:=(List.of_mem_zip hx).1
  refine o11 (mMp hm) fun p hp e9a=>?_;subst e9a
  have:=S.kinds p hp
  cases q:p.2 with
  |false=>left;rw [this,q];rfl
  |true=>right;rw [q] at this;exact ⟨this,cellsFrom_some _ _ _ (.inl this)⟩
 ·subst he
  refine o21 x.done fun h₁ tk e9a hk₁=>?_;subst e9a
  refine ⟨G.lim.keeps hk₁,codeAny_func ?_⟩
  have hnone:∀ b∈frs (fEnv fd f s.heap.objs.size),s.heap.get? b=none:=fun b hb=>by
   cases q:s.heap.get? b with
   |none=>rfl
   |some o=>
    have lt:=Heap.lt_size q
    rcases mCn hb with rfl|hb
    ·exact absurd lt (Nat.lt_irrefl _)
    ·refine o11 (mMp hb) fun p hp e9a=>?_;subst e9a
     have:=x.above p.1 p.2 hp
     exact absurd (Nat.lt_trans this lt) (Nat.lt_irrefl _)
  have hh:Kps (hideAll s.heap own) (hideAll h₁ (frs (fEnv fd f s.heap.objs.size)++own)):=by
   intro b o e
   have e1:=of_hideAll _ e
   have nb:b∉own:=fun hb=>by rw [hideAll_none _ hb] at e;cases e
   refine hideAll_get _ (hk₁ b o e1) fun hm=>?_
   rcases mAp hm with hm|hm
   ·rw [hnone b hm] at e1;cases e1
   ·exact nb hm
  have xall:XAll (frs (fEnv fd f s.heap.objs.size)++own) h₁ us ys:=hv.map fun v x r=>r.to hk₁ hh
  have kk:∀ n,(fEnv fd f s.heap.objs.size).kindOf n=fd.scope.names.lookup n:=fun _=>rfl
  have FF:Frm (frs (fEnv fd f s.heap.objs.size)++own) (fEnv fd f s.heap.objs.size) ns (ys.map some++List.replicate j none) h₁:=by
   refine ⟨⟨f3,f5,f6⟩,S.kinds,S.nodup,⟨List.mem_append_left _ (.head _),fun n c e=>⟨List.mem_append_left _ (.tail _ (List.mem_map_of_mem (f:=(·.2)) (mem_of_lookup e))),?_⟩⟩,⟨x.apart,cellsFrom_names fd.scope.names 0 (s.heap.objs.size+1) [] [] rfl▸S.cnod⟩,fun p hp q=>?_,?_⟩
   ·exact Nat.ne_of_gt (x.above n c (mem_of_lookup e))
   ·have:=S.kinds p hp
    rw [q] at this
    exact Option.isSome_iff_exists.mp (cellsFrom_some _ _ _ (.inl this))
   ·exact xi2 _ _ ⟨x.toInCall.ns,x.cell,J5v S.kinds S.nodup xall hj⟩
  have CC:Cx w (frs (fEnv fd f s.heap.objs.size)++own) h₁:=by
   refine ⟨C.gl.keeps hh,fun b hb=>?_⟩
   rcases mAp hb with hb|hb
   ·rcases mCn hb with rfl|hb
    ·refine o31 x.toInCall.ns fun o _ _ e _=>?_;exact ⟨o,e⟩
    ·refine o11 (mMp hb) fun p hp e9a=>?_;subst e9a
     have e:(fEnv fd f s.heap.objs.size).cells.lookup p.1=some p.2:=lookup_of_mem_nodup (cellsFrom_names fd.scope.names 0 (s.heap.objs.size+1) [] [] rfl▸S.cnod) hp
     refine o11 (x.cell p.1 _ e) fun o e' _=>?_
     exact ⟨o,e'⟩
   ·refine o10 (C.alive b hb) fun o e=>?_;exact ⟨o,hk₁ _ _ e⟩
  exact k s.heap.objs.size _ FF CC (xi2 h₁ tk ⟨rfl,hk₁⟩) hnone htb' hh
theorem K0q {tb:Nat}{w:World}{A:Around}{f:Addr}{fd:FuncData}{body:List Stmt}{ns:List (Str×Bool)}{ys:List X}{z:X}{j:Nat}(S:FnStat f fd body ns)(hr:A.depth<recursionLimit)
  (hj:ys.length+j=ns.length) (hb:∀ vs:List Value,vs.length=ys.length→bindArgs fd ⟨vs,[]⟩=pure ((ns.map (·.1)).zip vs))
  (h:∀ L,∃ xs',∀ own s,tb≤s.toks→Frm own (fEnv fd f L) ns (ys.map some++List.replicate j none) s.heap→Cx w own s.heap→wpAny (model PW w) (A.deeper (fEnv fd f L)) (execs body (fEnv fd f L)) (fun g s'=>FlIn own s'.heap g (.ret z)∧Frm own (fEnv fd f L) ns xs' s'.heap∧Chg own (fEnv fd f L) s s') (fun _ _=>False) s)
  (own:List Addr) (s:Shared) (vs:List Value) (htb:tb≤s.toks) (C:Cx w own s.heap) (hv:XAll own s.heap vs ys):wpAny (model PW w) A (call (.ref f) vs) (fun v s'=>XIn own s'.heap v z∧Keeps s s') (fun _ _=>False) s:=by
 refine wpAny_call (K1r (ys0:=ys) S hr hj (fun A=>by rw [hb vs hv.length];exact wPu ⟨rfl,vs,rfl,hv⟩) htb C fun L s1 F1 C1 k1 hn ht _=>?_)
 refine o10 (h L) fun xs' h=>?_
 refine wMo (h _ _ ht F1 C1) (fun g s2 q=>?_) fun _ _ q=>q.elim
 cases g with
 |ret v=>
  refine ⟨XIn.unhide q.1 fun b hb=>List.mem_append_right _ hb,?_⟩
  exact Kee.of (J3l (Kee.sm k1) q.2.2.same) fun b o e=>q.2.2.sto.but b o (fun hb=>by rw [hn b hb] at e;cases e) (Kee.kps k1 b o e)
 |_=>exact q.1.elim
theorem Z7u {w:World}{A:Around}{f:Addr}{fd:FuncData}{body:List Stmt}{ns:List (Str×Bool)}{ys:List X}{z:X}{j:Nat}(S:FnStat f fd body ns)(hr:A.depth<recursionLimit)
  (hj:ys.length+j=ns.length) (hb:∀ vs:List Value,vs.length=ys.length→bindArgs fd ⟨vs,[]⟩=pure ((ns.map (·.1)).zip vs))
  (h:∀ L,∃ xs',Ex w (A.deeper (fEnv fd f L)) (fEnv fd f L) ns (ys.map some++List.replicate j none) body (.ret z) xs'):Fn w A (.ref f) ys z:=fun own s vs C hv=>
 K0q (tb:=0) S hr hj hb (fun L=>let ⟨x,q⟩:=h L;⟨x,fun own s _ F C=>q own s F C⟩) own s vs (Nat.zero_le _) C hv
theorem XAll.one {own h vs x}(r:XAll own h vs [x]):∃ a,vs = [a]∧XIn own h a x:=by
 cases r with|cons a r=>cases r;exact ⟨_,rfl,a⟩
theorem XAll.two {own h vs x y}(r:XAll own h vs [x,y]):∃ a b,vs = [a,b]∧XIn own h a x∧XIn own h b y:=by
 cases r with|cons a r=>refine o11 r.one fun b e9a hb=>?_;subst e9a;exact xi2 _ _ ⟨rfl,a,hb⟩
theorem XAll.three {own h vs x y z}(r:XAll own h vs [x,y,z]):∃ a b c,vs = [a,b,c]∧XIn own h a x∧XIn own h b y∧XIn own h c z:=by
 cases r with|cons a r=>refine o22 r.two fun b c e9a hb hc=>?_;subst e9a;exact xi3 _ _ _ ⟨rfl,a,hb,hc⟩
theorem kt {s:Shared}{n:Nat}:Keeps s {s with toks:=n}:=(xi2 _ _ ⟨rfl,fun _ _ e=>e⟩)
abbrev K2e (own:List Addr)(s:Shared)(z:X):Value→Shared→Prop:=fun v s'=>XIn own s'.heap v z∧Keeps s s'
abbrev NoE:Value→Shared→Prop:=fun _ _=>False
section
variable {w:World}{A:Around}{x y z t:X}
theorem pr1 {f:Value→Sem Value}(h:∀ own s a,Cx w own s.heap→XIn own s.heap a x→wpAny (model PW w) A (f a) (K2e own s z) NoE s):Pr w A [x] (P1 f) z:=by
 intro own s vs C r;refine o11 r.one fun a e9a ha=>?_;subst e9a;exact h own s a C ha
theorem pr2 {f:Value→Value→Sem Value}(h:∀ own s a b,Cx w own s.heap→XIn own s.heap a x→XIn own s.heap b y→wpAny (model PW w) A (f a b) (K2e own s z) NoE s):Pr w A [x,y] (P2 f) z:=by
 intro own s vs C r;refine o22 r.two fun a b e9a ha hb=>?_;subst e9a;exact h own s a b C ha hb
theorem fn1 {f:Value}(h:∀ own s a,Cx w own s.heap→XIn own s.heap a x→wpAny (model PW w) A (call f [a]) (K2e own s z) NoE s):Fn w A f [x] z:=by
 intro own s vs C r;refine o11 r.one fun a e9a ha=>?_;subst e9a;exact h own s a C ha
theorem fn2 {f:Value}(h:∀ own s a b,Cx w own s.heap→XIn own s.heap a x→XIn own s.heap b y→wpAny (model PW w) A (call f [a,b]) (K2e own s z) NoE s):Fn w A f [x,y] z:=by
 intro own s vs C r;refine o22 r.two fun a b e9a ha hb=>?_;subst e9a;exact h own s a b C ha hb
theorem fn3 {f:Value}(h:∀ own s a b c,Cx w own s.heap→XIn own s.heap a x→XIn own s.heap b y→XIn own s.heap c t→wpAny (model PW w) A (call f [a,b,c]) (K2e own s z) NoE s):Fn w A f [x,y,t] z:=by
 intro own s vs C r;refine o33 r.three fun a b c e9a ha hb hc=>?_;subst e9a;exact h own s a b c C ha hb hc
noncomputable abbrev I (i:Int):X:=.d (.int i)
noncomputable abbrev S (x:Str):X:=.d (.str x)
noncomputable abbrev B (b:Bool):X:=.d (.bool b)
noncomputable abbrev N:X:=.d .none
noncomputable abbrev T (ds:List PyData):X:=.d (.tuple ds)
noncomputable abbrev L (ds:List PyData):X:=.d (.list ds)
section
variable {a b:Int}
theorem J1m {f:Value→Value→Sem Value}(h:∀ own s t u,Cx w own s.heap→wpAny (model PW w) A (f (.int a t) (.int b u)) (K2e own s z) NoE s):Pr w A [I a,I b] (P2 f) z:=
 pr2 fun own s va vb C ha hb=>by refine o10 (Rd.inv_int ha) fun t e9a=>?_;subst e9a;refine o10 (Rd.inv_int hb) fun u e9a=>?_;subst e9a;exact h own s t u C
theorem Z5c:Pr w A [I a,I b] (P2 (binaryOp .Add)) (I (a+b)):=J1m fun own s t u C=>add_int ⟨Rd.int,kt⟩
theorem Z7r:Pr w A [I a,I b] (P2 (binaryOp .Sub)) (I (a - b)):=J1m fun own s t u C=>sub_int ⟨Rd.int,kt⟩
theorem Z6 (hm:IntMulOk a b):Pr w A [I a,I b] (P2 (binaryOp .Mult)) (I (a * b)):=J1m fun own s t u C=>mul_int ⟨Rd.int,kt⟩ hm
theorem Z3j (hb:b≠0)(hp:Builtin.divisionGoesByPylong a b=false):Pr w A [I a,I b] (P2 (binaryOp .FloorDiv)) (I (a.fdiv b)):=J1m fun own s t u C=>floordiv_int hb ⟨Rd.int,kt⟩ (Or.inl hp)
theorem K1k {env:Env}{l:List Env}(hb:b≠0)(hA:A.depth≤800)(hf:A.frames=some (env::l))(h1:env.scope.isGenerator=false)(h2:env.scope.isCoroutine=false)(h3:env.builtins=builtinsNs)(h4:env.globals=mainGlobals):Pr w A [I a,I b] (P2 (binaryOp .FloorDiv)) (I (a.fdiv b)):=
 J1m fun own s t u C=>floordiv_int hb ⟨Rd.int,kt⟩ (Or.inr (PySem.PylongRoom.of C.glh.lim (by simp only [recursionLimit,Builtin.pylongFrames];exact Nat.lt_of_le_of_lt (Nat.add_le_add_right hA _) (by decide)) (PySem.SeerAt.of C.glh.seer (by rfl) hf h1 h2 h3 h4)))
theorem Z8a (hb:b≠0):Pr w A [I a,I b] (P2 (binaryOp .Mod)) (I (a.fmod b)):=J1m fun own s t u C=>mod_int' hb ⟨Rd.int,kt⟩
theorem Z9v:Pr w A [I a,I b] (P2 (compareOp .Lt)) (B (decide (a<b))):=J1m fun own s t u C=>PySem.P.lt_int ⟨Rd.bool,Kee.refl⟩
theorem V0w:Pr w A [I a,I b] (P2 (compareOp .LtE)) (B (decide (a≤b))):=J1m fun own s t u C=>PySem.P.le_int ⟨Rd.bool,Kee.refl⟩
theorem Z9u:Pr w A [I a,I b] (P2 (compareOp .Gt)) (B (decide (a > b))):=J1m fun own s t u C=>PySem.P.gt_int ⟨Rd.bool,Kee.refl⟩
theorem V0d:Pr w A [I a,I b] (P2 (compareOp .GtE)) (B (decide (a ≥ b))):=J1m fun own s t u C=>PySem.P.ge_int ⟨Rd.bool,Kee.refl⟩
theorem Z5f:Pr w A [I a,I b] (P2 (compareOp .Eq)) (B (a == b)):=J1m fun own s t u C=>PySem.P.eq_int ⟨Rd.bool,Kee.refl⟩
theorem Z8i:Pr w A [I a,I b] (P2 (compareOp .NotEq)) (B (a != b)):=J1m fun own s t u C=>PySem.P.ne_int ⟨Rd.bool,Kee.refl⟩
theorem Z3f:Pr w A [I a,I b] (P2 (inplaceOp .Add)) (I (a+b)):=J1m fun own s t u C=>iadd_int ⟨Rd.int,kt⟩
theorem Z7i:Pr w A [I a] (P1 (unaryOp .USub)) (I (-a)):=pr1 fun own s va C ha=>by refine o10 (Rd.inv_int ha) fun t e9a=>?_;subst e9a;exact PySem.P.neg_int ⟨Rd.int,kt⟩
end
section
variable {a b:Str}
theorem K1f {f:Value→Value→Sem Value}(h:∀ own s t u,Cx w own s.heap→wpAny (model PW w) A (f (.str a t) (.str b u)) (K2e own s z) NoE s):Pr w A [S a,S b] (P2 f) z:=
 pr2 fun own s va vb C ha hb=>by refine o10 (Rd.inv_str ha) fun t e9a=>?_;subst e9a;refine o10 (Rd.inv_str hb) fun u e9a=>?_;subst e9a;exact h own s t u C
theorem len0 {x:Str}(h:(x.length == 0)=true):x=⟨#[]⟩:=by
 obtain ⟨⟨l⟩⟩:=x
 cases l with
 |nil=>rfl
 |cons a l=>simp [Str.length] at h
theorem Z1w (h:a.length+b.length≤1000):Pr w A [S a,S b] (P2 (binaryOp .Add)) (S (a++b)):=K1f fun own s t u C=>by
 refine PySem.P.add_str ?_
 by_cases h1:(a.length == 0)=true
 ·rw [if_pos h1]
  obtain rfl:=len0 h1
  have:(⟨#[]⟩:Str)++b=b:=by show Str.mk _=_;simp
  rw [show S ((⟨#[]⟩:Str)++b)=S b from congrArg S this]
  exact ⟨Rd.str,Kee.refl⟩
 ·rw [if_neg h1]
  by_cases h2:(b.length == 0)=true
  ·rw [if_pos h2]
   obtain rfl:=len0 h2
   have:a++(⟨#[]⟩:Str)=a:=by show Str.mk _=_;simp
   rw [show S (a++(⟨#[]⟩:Str))=S a from congrArg S this]
   exact ⟨Rd.str,Kee.refl⟩
  ·rw [if_neg h2]
   refine ⟨?_,Rd.str,kt⟩
   have:(a++b).length=a.length+b.length:=by show (a.cps++b.cps).size=_;simp [Str.length]
   rw [this];exact J0l h
theorem K0m:(a.cps.toList == b.cps.toList)=decide (a=b):=by
 obtain ⟨⟨l⟩⟩:=a;obtain ⟨⟨m⟩⟩:=b
 simp
 by_cases h:l=m<;>simp [h]
theorem Z6j:Pr w A [S a,S b] (P2 (compareOp .Eq)) (B (decide (a=b))):=K1f fun own s t u C=>PySem.P.eq_str ⟨K0m▸Rd.bool,Kee.refl⟩
theorem Z8e:Pr w A [S a,S b] (P2 (compareOp .NotEq)) (B (!decide (a=b))):=K1f fun own s t u C=>PySem.P.ne_str ⟨by rw [show (a.cps.toList != b.cps.toList) = !(a.cps.toList == b.cps.toList) from rfl,K0m];exact Rd.bool,Kee.refl⟩
end
theorem K3b:Pr w A [N,N] (P2 (compareOp .Is)) (B true):=pr2 fun own s a b C ha hb=>by obtain rfl:=Rd.inv_none ha;obtain rfl:=Rd.inv_none hb;exact wpAny_is_self rfl ⟨Rd.bool,Kee.refl⟩
theorem J8c:Pr w A [N,N] (P2 (compareOp .IsNot)) (B false):=pr2 fun own s a b C ha hb=>by obtain rfl:=Rd.inv_none ha;obtain rfl:=Rd.inv_none hb;exact wpAny_isNot_self rfl ⟨Rd.bool,Kee.refl⟩
theorem J6t {own h v d}(r:Rd own h v d)(hd:d≠.none):plainIs v .none=true∧v≠.none:=by
 obtain ⟨as,r⟩:=r
 cases r with
 |none=>exact absurd rfl hd
 |_=>exact ⟨rfl,by intro h;cases h⟩
theorem K1e {d}(hd:d≠.none):Pr w A [.d d,N] (P2 (compareOp .Is)) (B false):=pr2 fun own s a b C ha hb=>by
 obtain rfl:=Rd.inv_none hb;obtain ⟨h1,h2⟩:=J6t ha hd;exact wpAny_is_other h1 h2 ⟨Rd.bool,Kee.refl⟩
theorem J6d {d}(hd:d≠.none):Pr w A [.d d,N] (P2 (compareOp .IsNot)) (B true):=pr2 fun own s a b C ha hb=>by
 obtain rfl:=Rd.inv_none hb;obtain ⟨h1,h2⟩:=J6t ha hd;exact wpAny_isNot_other h1 h2 ⟨Rd.bool,Kee.refl⟩
noncomputable def isN:PyData→Bool
 |.none=>true
 |_=>false
theorem Z6o {d}:Pr w A [.d d,N] (P2 (compareOp .Is)) (B (isN d)):=by
 cases d<;>first|exact K3b|exact K1e (by intro h;cases h)
theorem K7h {d}:Pr w A [.d d,N] (P2 (compareOp .IsNot)) (B (!isN d)):=by
 cases d<;>first|exact J8c|exact J6d (by intro h;cases h)
theorem K4q {a b:Bool}:Pr w A [B a,B b] (P2 (compareOp .IsNot)) (B (a != b)):=pr2 fun own s va vb C ha hb=>by
 obtain rfl:=Rd.inv_bool ha;obtain rfl:=Rd.inv_bool hb
 refine wpAny_isNot_plain rfl ⟨?_,Kee.refl⟩
 have:(!(Value.bool a) == (Value.bool b))=(a != b):=by cases a<;>cases b<;>rfl
 rw [this];exact Rd.bool
mutual
noncomputable def nic:PyData→Bool
 |.none | .int _=>true
 |.bool _ | .dict _=>false
 |.str x=>PyData.strOk x
 |.list xs | .tuple xs=>J0z xs
noncomputable def J0z:List PyData→Bool
 |[]=>true
 |x::xs=>nic x && J0z xs
end
mutual
theorem K1b:∀ d:PyData,nic d=true→d.canLay0=true
 |.none,_=>by simp [PyData.canLay0]
 |.int _,_=>by simp [PyData.canLay0]
 |.bool _,h=>by simp [nic] at h
 |.dict _,h=>by simp [nic] at h
 |.str x,h=>by simpa [PyData.canLay0,nic] using h
 |.list xs,h=>by simpa [PyData.canLay0] using J3h xs (by simpa [nic] using h)
 |.tuple xs,h=>by simpa [PyData.canLay0] using J3h xs (by simpa [nic] using h)
theorem J3h:∀ ds:List PyData,J0z ds=true→PyData.canLayAll0 ds=true
 |[],_=>by simp [PyData.canLayAll0]
 |x::xs,h=>by
  have h':nic x=true∧J0z xs=true:=by simpa [J0z] using h
  simp [PyData.canLayAll0,K1b x h'.1,J3h xs h'.2]
end
mutual
theorem J8a:∀ d e:PyData,nic d=true→nic e=true→SeqAt.noMix d e=true
 |.bool _,_,h,_=>by simp [nic] at h
 |.dict _,_,h,_=>by simp [nic] at h
 |.none,e,_,h=>by cases e<;>simp_all [nic,SeqAt.noMix]
 |.int _,e,_,h=>by cases e<;>simp_all [nic,SeqAt.noMix]
 |.str _,e,_,h=>by cases e<;>simp_all [nic,SeqAt.noMix]
 |.list xs,.list ys,h,h'=>by rw [SeqAt.noMix];exact J4k xs ys (by simpa [nic] using h) (by simpa [nic] using h')
 |.tuple xs,.tuple ys,h,h'=>by rw [SeqAt.noMix];exact J4k xs ys (by simpa [nic] using h) (by simpa [nic] using h')
 |.list xs,.none,_,h=>by simp_all [nic,SeqAt.noMix]
 |.list xs,.int _,_,h=>by simp_all [nic,SeqAt.noMix]
 |.list xs,.str _,_,h=>by simp_all [nic,SeqAt.noMix]
 |.list xs,.bool _,_,h=>by simp_all [nic,SeqAt.noMix]
 |.list xs,.dict _,_,h=>by simp_all [nic,SeqAt.noMix]
 |.list xs,.tuple _,_,h=>by simp_all [nic,SeqAt.noMix]
 |.tuple xs,.none,_,h=>by simp_all [nic,SeqAt.noMix]
 |.tuple xs,.int _,_,h=>by simp_all [nic,SeqAt.noMix]
 |.tuple xs,.str _,_,h=>by simp_all [nic,SeqAt.noMix]
 |.tuple xs,.bool _,_,h=>by simp_all [nic,SeqAt.noMix]
 |.tuple xs,.dict _,_,h=>by simp_all [nic,SeqAt.noMix]
 |.tuple xs,.list _,_,h=>by simp_all [nic,SeqAt.noMix]
theorem J4k:∀ d e:List PyData,J0z d=true→J0z e=true→SeqAt.noMixAll d e=true
 |[],[],_,_=>by simp [SeqAt.noMixAll]
 |[],_::_,_,_=>by simp [SeqAt.noMixAll]
 |_::_,[],_,_=>by simp [SeqAt.noMixAll]
 |x::xs,y::ys,h,h'=>by
  have h1:nic x=true∧J0z xs=true:=by simpa [J0z] using h
  have h2:nic y=true∧J0z ys=true:=by simpa [J0z] using h'
  simp [SeqAt.noMixAll,J8a x y h1.1 h2.1,J4k xs ys h1.2 h2.2]
end
def nicD (d:PyData):Prop:=nic d=true∧d.depth≤64
theorem nicD.shaped {d}(h:nicD d):SeqAt.shaped d=true:=by unfold SeqAt.shaped;rw [K1b d h.1];simpa using h.2
inductive By:X→PyData→Prop
 |d {d}:By (.d d) d
 |l {a ds}:By (.l a ds) (.list ds)
 |pl {ds}:By (PL ds) (.list ds)
 |ll {a b ds c es}:By (.ll a b ds c es) (.list [.list ds,.list es])
theorem By.reads {x d own h v}(b:By x d)(r:XIn own h v x):∃ as,Reads h v d as:=by
 have lst:∀ {a vs ds},h.IsList a vs→RdAll own h vs.toList ds→∃ as,Reads h (.ref a) (.list ds) as:=fun {a vs ds} i q=>by
  refine o12 i fun o h1 h2 r9a=>o10 r9a fun n h3=>?_;clear i;refine o10 q.reads fun as q=>?_;exact ⟨_,.list h1 h2 h3 q⟩
 cases b with
 |d=>exact Rd.reads r
 |l=>refine o01 r fun e9a r9a=>o11 r9a fun vs i q=>?_;subst e9a;clear r;exact lst i.isList q
 |pl=>exact Rd.reads (PL.rd r)
 |ll=>
  refine ab fun Q q9=>?_
  refine o03 r fun e9a i n9b r9a=>o11 r9a fun us k p=>?_;subst e9a;obtain ⟨vs,j,q⟩:=n9b;clear r
  refine o10 (lst j.isList q) fun as r1=>?_
  refine o10 (lst k.isList p) fun bs r2=>?_
  refine o12 i fun o h1 h2 r9a=>o10 r9a fun n h3=>?_;clear i
  refine q9 ?_
  exact ⟨_,.list h1 h2 h3 (.cons r1 (.cons r2 .nil))⟩
theorem Z9h {d e}(hx:By x d)(hy:By y e)(hd:nicD d)(he:nicD e)(hA:Rm 0 A):Pr w A [x,y] (P2 (compareOp .Eq)) (B (Spec.same d e)):=pr2 fun own s a b C ha hb=>by
 refine o10 (hx.reads ha) fun as ra=>?_;refine o10 (hy.reads hb) fun bs rb=>?_
 refine eq_dataH_same ra rb hd.shaped he.shaped (by have:=hA.un;simp only [cLine];exact Nat.lt_of_le_of_lt (Nat.add_le_add_right this _) (by decide)) (J8a _ _ hd.1 he.1) ⟨Rd.bool,Kee.refl⟩
theorem V0s {d e}(hx:By x d)(hy:By y e)(hd:nicD d)(he:nicD e)(hA:Rm 0 A):Pr w A [x,y] (P2 (compareOp .NotEq)) (B (!Spec.same d e)):=pr2 fun own s a b C ha hb=>by
 refine o10 (hx.reads ha) fun as ra=>?_;refine o10 (hy.reads hb) fun bs rb=>?_
 refine ne_dataH_same ra rb hd.shaped he.shaped (by have:=hA.un;simp only [cLine];lia) (J8a _ _ hd.1 he.1) ⟨Rd.bool,Kee.refl⟩
end
section
variable {w:World}{A:Around}{env:Env}{ns:List (Str×Bool)}{xs:List (Option X)}{x y z t:X}{l r:Expr}
theorem Z1p {ds k d}(i:IsL x ds)(h0:0≤k)(h1:k<2 ^ 63)(hd:ds[k.toNat]? = some d)
  (hs:∀ a u,subscripted r false (.ref a) (.int k u)=operate [.ref a,.int k u] (getItem (.ref a) (.int k u))):Pr w A [x,I k] (P2 (subscriptTail l r)) (.d d):=pr2 fun own s a b C ha hb=>by
 refine ab fun Q q9=>?_
 refine o10 (Rd.inv_int hb) fun u e9a=>?_;subst e9a
 refine o22 (i.at ha) fun c vs e9a hl hr=>?_;subst e9a
 refine o11 (hr.get hd) fun v hv rv=>?_
 refine q9 ?_
 exact tail_any hl.typeIs slot_list_getitem.lookup (wpAny_getItem_list hl h0 h1 (by simpa using hv) ⟨rv,Kee.refl⟩) (hs c u)
theorem K5s {a b c ds es}(hs:∀ a u,subscripted r false (.ref a) (.int 0 u)=operate [.ref a,.int 0 u] (getItem (.ref a) (.int 0 u))):Pr w A [.ll a b ds c es,I 0] (P2 (subscriptTail l r)) (.l b ds):=pr2 fun own s va vb C ha hb=>by
 refine o10 (Rd.inv_int hb) fun u e9a=>?_;subst e9a
 refine o03 ha fun e9a hl h1 h2=>?_;subst e9a;clear ha
 exact tail_any hl.typeIs slot_list_getitem.lookup (wpAny_getItem_list hl (by decide) (by decide) rfl ⟨⟨rfl,h1⟩,Kee.refl⟩) (hs _ u)
theorem K6o {a b c ds es}(hs:∀ a u,subscripted r false (.ref a) (.int 1 u)=operate [.ref a,.int 1 u] (getItem (.ref a) (.int 1 u))):Pr w A [.ll a b ds c es,I 1] (P2 (subscriptTail l r)) (.l c es):=pr2 fun own s va vb C ha hb=>by
 refine o10 (Rd.inv_int hb) fun u e9a=>?_;subst e9a
 refine o03 ha fun e9a hl h1 h2=>?_;subst e9a;clear ha
 exact tail_any hl.typeIs slot_list_getitem.lookup (wpAny_getItem_list hl (by decide) (by decide) rfl ⟨⟨rfl,h2⟩,Kee.refl⟩) (hs _ u)
theorem J3m {own h v ds}(q:Rd own h v (.tuple ds)):∃ a vs,v = .ref a∧IsTup h a vs∧RdAll own h vs.toList ds:=by
 refine o45 (Rd.inv_tuple q) fun a o vs n e _ h1 h2 h3 h4=>?_;exact xi2 a vs ⟨e,⟨o,h1,h2,n,h3⟩,h4⟩
theorem Z1t {ds k j d}(h0 : -(2 ^ 63)≤k)(h1:k<2 ^ 63)(hj:seqIndex? k ds.length=some j)(hd:ds[j]? = some d)
  (hs:∀ a u,subscripted r false (.ref a) (.int k u)=operate [.ref a,.int k u] (getItem (.ref a) (.int k u))):Pr w A [T ds,I k] (P2 (subscriptTail l r)) (.d d):=pr2 fun own s a b C ha hb=>by
 refine ab fun Q q9=>?_
 refine o10 (Rd.inv_int hb) fun u e9a=>?_;subst e9a
 refine o22 (J3m ha) fun c vs e9a hl hr=>?_;subst e9a
 refine o11 (hr.get hd) fun v hv rv=>?_
 refine q9 ?_
 exact tail_any hl.typeIs slot_tuple_getitem.lookup (getItem_tuple hl h0 h1 (by rw [← Array.length_toList,hr.length];exact hj) (by simpa using hv) ⟨rv,Kee.refl⟩) (hs c u)
theorem J3s:typeLookup (.type "str") "__getitem__" = pure (some (.builtin "str.__getitem__")):=F.slot_str_getitem.lookup
theorem Z1o {c:Str}{k n}(h0:(decide (k < -(2 ^ 63:Int)) || decide (k ≥ 2 ^ 63))=false)(hd:(seqIndex? k c.length).bind (c.cps[·]?)=some n)
  (hs:∀ t u,subscripted r false (.str c t) (.int k u)=operate [.str c t,.int k u] (getItem (.str c t) (.int k u))):Pr w A [S c,I k] (P2 (subscriptTail l r)) (S ⟨#[n]⟩):=pr2 fun own s a b C ha hb=>by
 obtain ⟨t,rfl⟩:=Rd.inv_str ha
 obtain ⟨u,rfl⟩:=Rd.inv_int hb
 exact tail_any (typeIs_str s c t) J3s (PyProof.Rows.getItem_str h0 hd ⟨Rd.str,kt⟩) (hs t u)
def SlP (lo hi:Option Int)(h:Heap)(v:Value):Prop:=∃ a vl vu,v = .ref a∧h.IsSliceOf a vl vu .none∧IsPart vl lo∧IsPart vu hi
theorem SlP.st {lo hi}:∀ h h' v,Kps h h'→SlP lo hi h v→SlP lo hi h' v:=fun h h' v hk ⟨a,vl,vu,e,⟨o,h1,h2⟩,p,q⟩=>⟨a,vl,vu,e,⟨o,hk _ _ h1,h2⟩,p,q⟩
noncomputable def EvP (w:World) (A:Around) (env:Env) (ns:List (Str×Bool)) (xs:List (Option X)):Option Expr→Option Int→Prop
 |none,none=>True
 |some e,some i=>Ev w A env ns xs e (I i)
 |_,_=>False
theorem evp {own s e lo}(h:EvP w A env ns xs e lo)(F:Frm own env ns xs s.heap)(C:Cx w own s.heap):wpAny (model PW w) A (evalPart e env) (fun v s'=>IsPart v lo∧Keeps s s') NoE s:=by
 cases e with
 |none=>cases lo with
  |none=>exact wpAny_evalPart_none ⟨.none,Kee.refl⟩
  |some i=>exact h.elim
 |some e=>cases lo with
  |none=>exact h.elim
  |some i=>
   refine wpAny_evalPart_some (J0 (h own s F C) fun v s' hv k=>?_)
   refine o10 (Rd.inv_int hv) fun t e9a=>?_;subst e9a
   exact ⟨.int i t,k⟩
theorem Z0b {lo hi el eu p}(h1:EvP w A env ns xs el lo)(h2:EvP w A env ns xs eu hi):Ev w A env ns xs (.Slice el eu none p) (.p (SlP lo hi)):=by
 intro own s F C
 refine wpAny_Slice (wMo (evp h1 F C) (fun v s1 q=>?_) fun _ _ q=>q)
 obtain ⟨p1,k1⟩:=q
 have F1:=F.keeps (Kee.kps k1)
 have C1:=C.keeps (Kee.kps k1)
 refine wMo (evp h2 F1 C1) (fun u s2 q=>?_) fun _ _ q=>q
 obtain ⟨p2,k2⟩:=q
 have C2:=C1.keeps (Kee.kps k2)
 refine wpAny_evalPart_none ⟨⟨SlP.st,s2.heap.objs.size,v,u,rfl,?_,p1,p2⟩,Kee.trans (Kee.trans k1 k2) ⟨_,_,rfl,kps_push _⟩⟩
 exact ⟨_,hideAll_get _ (Heap.get?_push_size _ rfl) (J1j C2.alive),rfl,rfl⟩
theorem Z3u {own s v lo hi}(q:XIn own s v (.p (SlP lo hi))):∃ a vl vu,v = .ref a∧s.IsSliceOf a vl vu .none∧IsPart vl lo∧IsPart vu hi:=by
 refine ab fun Q q9=>?_
 obtain ⟨_,a,vl,vu,e,⟨o,h1,h2⟩,p,q⟩:=q
 refine q9 ?_
 exact xi3 a vl vu ⟨e,⟨o,of_hideAll _ h1,h2⟩,p,q⟩
noncomputable def pick {α:Type} (idx:List Nat) (l:List α):List α:=idx.filterMap (l[·]?)
theorem RdAll.pick {own h vs ds}(r:RdAll own h vs ds):∀ idx,RdAll own h (pick idx vs) (pick idx ds)
 |[]=>.nil
 |i::idx=>by
  have ih:=RdAll.pick r idx
  unfold Mine.pick at ih ⊢
  cases hd:ds[i]? with
  |none=>
   have:vs[i]? = none:=by rw [List.getElem?_eq_none_iff] at hd ⊢;rw [r.length];exact hd
   rw [List.filterMap_cons,this,List.filterMap_cons,hd];exact ih
  |some d=>
   skip
   refine o11 (r.get hd) fun v hv q=>?_
   skip
   rw [List.filterMap_cons,hv,List.filterMap_cons,hd];exact .cons q ih
noncomputable def lidx (lo hi:Option Int) (n:Nat):List Nat:=sliceRange (sliceBounds lo hi none n).1 (sliceBounds lo hi none n).2.1 (sliceBounds lo hi none n).2.2
theorem J8u (items:Array Value)(lo hi):(slicePick items lo hi none).toList=pick (lidx lo hi items.toList.length) items.toList:=by
 unfold slicePick pick lidx
 simp
theorem K7d {ds lo hi el eu p}(i:IsL x ds)(hsz:ds.length≤1000)
  (hs:∀ a b,∃ ops,subscripted (.Slice el eu none p) false (.ref a) (.ref b)=operate ops (getItem (.ref a) (.ref b))):Pr w A [x,.p (SlP lo hi)] (P2 (subscriptTail l (.Slice el eu none p))) (L (pick (lidx lo hi ds.length) ds)):=pr2 fun own s a b C ha hb=>by
 refine ab fun Q q9=>?_
 refine o33 (Z3u hb) fun sl vl vu e9a hsl pl pu=>?_;subst e9a
 refine o22 (i.at ha) fun c vs e9a hl hr=>?_;subst e9a
 refine o10 (hs c sl) fun ops hs=>?_
 refine q9 ?_
 refine tail_any hl.typeIs slot_list_getitem.lookup (wpAny_getItem_list_slice hl hsl pl pu .none (by simp) ⟨?_,(xi2 _ _ ⟨rfl,kps_push _⟩)⟩ ?_) hs
 ·refine Rd.list (J1j C.alive) (Heap.get?_push_size _ rfl) rfl rfl ?_
  rw [J8u,hr.length]
  exact (hr.pick _).keeps (kps_push _)
 ·rw [← Array.length_toList,hr.length];exact J0l hsz
theorem K2a {A:Around}{E:Value→Shared→Prop}{s:Shared}{v:Value}{k:Option Int}{Q:Option Int→Shared→Prop}(hv:IsPart v k)(h:Q k s):wpAny (model PW w) A (Builtin.Slice.slicePartIndex v) Q E s:=by
 cases hv with
 |none=>exact slicePart_none h
 |int i t=>exact slicePart_int h
theorem J5a {A:Around}{E:Value→Shared→Prop}{s:Shared}{sl:Addr}{vl vu:Value}{lo hi:Option Int}{n:Nat}{Q:Int×Int×Nat→Shared→Prop}(hs:s.heap.IsSliceOf sl vl vu .none)(pl:IsPart vl lo)(pu:IsPart vu hi)
  (h:Q ((Builtin.Slice.sliceAdjust lo hi 1 (n:Int)).1,1,Builtin.Slice.slicePlaces (Builtin.Slice.sliceAdjust lo hi 1 (n:Int)).1 (Builtin.Slice.sliceAdjust lo hi 1 (n:Int)).2 1) s) :
  wpAny (model PW w) A (Builtin.Slice.sliceApplied (.ref sl) (pure (n:Int))) Q E s:=by
 skip
 refine o12 (id hs) fun os hos hcs hds=>?_
 skip
 unfold Builtin.Slice.sliceApplied Builtin.Slice.sliceFields
 refine wBn (wBn (wpAny_field hos hds (x:=vl) rfl (wBn (wpAny_field hos hds (x:=vu) rfl (wBn (wpAny_field hos hds (x:=.none) rfl (wPu ?_)))))))
 refine wBn (slicePart_none ?_)
 show wpAny _ _ (if ((1:Int) == 0)=true then _ else _) _ _ s
 rw [if_neg (by decide)]
 exact wBn (K2a pl (wBn (K2a pu (wBn (wPu (wPu h))))))
noncomputable def K3t (lo hi:Option Int) (n:Nat):List Nat:=(List.range (Builtin.Slice.slicePlaces (Builtin.Slice.sliceAdjust lo hi 1 (n:Int)).1 (Builtin.Slice.sliceAdjust lo hi 1 (n:Int)).2 1)).map fun (k:Nat)=>((Builtin.Slice.sliceAdjust lo hi 1 (n:Int)).1+(k:Int) * 1).toNat
noncomputable def J9s (lo hi:Option Int) (n:Nat):Bool:=(Builtin.Slice.sliceAdjust lo hi 1 (n:Int)).1 == 0 && (1:Int) == 1 && (Builtin.Slice.slicePlaces (Builtin.Slice.sliceAdjust lo hi 1 (n:Int)).1 (Builtin.Slice.sliceAdjust lo hi 1 (n:Int)).2 1) == n
theorem J8y {ds lo hi el eu p}(hw:J9s lo hi ds.length=false)(hsz:(K3t lo hi ds.length).length≤1000)
  (hs:∀ a b,∃ ops,subscripted (.Slice el eu none p) false (.ref a) (.ref b)=operate ops (getItem (.ref a) (.ref b))):Pr w A [T ds,.p (SlP lo hi)] (P2 (subscriptTail l (.Slice el eu none p))) (T (pick (K3t lo hi ds.length) ds)):=pr2 fun own s a b C ha hb=>by
 refine ab fun Q q9=>?_
 refine o33 (Z3u hb) fun sl vl vu e9a hsl pl pu=>?_;subst e9a
 refine o22 (J3m ha) fun c vs e9a ht hr=>?_;subst e9a
 refine o10 (hs c sl) fun ops hs=>?_
 refine q9 ?_
 refine tail_any ht.typeIs slot_tuple_getitem.lookup ?_ hs
 have hn:vs.size=ds.length:=by rw [← Array.length_toList,hr.length]
 have key:(List.range (Builtin.Slice.slicePlaces (Builtin.Slice.sliceAdjust lo hi 1 (vs.size:Int)).1 (Builtin.Slice.sliceAdjust lo hi 1 (vs.size:Int)).2 1)).filterMap (fun (k:Nat)=>vs[((Builtin.Slice.sliceAdjust lo hi 1 (vs.size:Int)).1+(k:Int) * 1).toNat]?)=pick (K3t lo hi ds.length) vs.toList:=by
  unfold pick K3t
  rw [List.filterMap_map,hn]
  congr 1
  funext k
  simp
 skip
 refine o12 (id hsl) fun os hos hcs hds=>?_
 skip
 have hTs:s.TypeIs (.ref sl) "slice":=⟨os,hos,hcs⟩
 unfold getItem
 try with_reducible refine wpAny_holding ?_
 first|refine wBn (wPu ?_)|skip
 refine wBn (wpAny_sequenceKey ht.typeIs (by decide) ?_)
 refine wBn (wpAny_callSpecial?_slot (name:=Str.ofString "__getitem__") ht.typeIs slot_tuple_getitem
  (wpAny_call_entry slot_tuple_getitem ht.typeIs entry_tuple_getitem ?_ (args_tuple_getitem _ _)))
 show wpAny _ _ (Builtin.Tuple.tupleItemsOf (.ref c)>>=_) _ _ s
 refine wBn (tupleItemsOf_ ht ?_)
 refine wBn (wpAny_typeOf hTs ?_)
 rw [if_pos (by decide)]
 refine wBn (J5a hsl pl pu ?_)
 dsimp only
 rw [key]
 have hw':¬ (((Builtin.Slice.sliceAdjust lo hi 1 (vs.size:Int)).1 == 0 && (1:Int) == 1 && (Builtin.Slice.slicePlaces (Builtin.Slice.sliceAdjust lo hi 1 (vs.size:Int)).1 (Builtin.Slice.sliceAdjust lo hi 1 (vs.size:Int)).2 1) == vs.size)=true):=by
  rw [hn];unfold J9s at hw;rw [hw];simp
 rw [if_neg hw']
 have hsz':sizeOk (.seq (pick (K3t lo hi ds.length) vs.toList).toArray):=by
  show (pick (K3t lo hi ds.length) vs.toList).toArray.size≤sizeLine
  rw [List.size_toArray]
  exact lTr (List.length_filterMap_le _ _) (J0l hsz)
 have fin:XIn own (s.heap.push {cls:=.type "tuple",data:=.seq (pick (K3t lo hi ds.length) vs.toList).toArray}) (.ref s.heap.objs.size) (T (pick (K3t lo hi ds.length) ds)):=Rd.tuple (J1j C.alive) (Heap.get?_push_size _ rfl) rfl rfl ((hr.pick _).keeps (kps_push _))
 first
  |exact wBn (m:=Builtin.Tuple.tupleExact _) (wpAny_newObj_type (wPu ⟨_,rfl,wPu ⟨fin,(xi2 _ _ ⟨rfl,kps_push _⟩)⟩⟩) hsz')
  |exact wBn (m:=Builtin.Tuple.tupleExact _) (wpAny_newObj_type (wBn (wPu (wPu ⟨_,rfl,wPu ⟨fin,⟨_,_,rfl,kps_push _⟩⟩⟩))) hsz')
  |exact wBn (wBn (m:=Builtin.Tuple.tupleExact _) (wpAny_newObj_type (wPu (wPu ⟨_,rfl,wPu ⟨fin,⟨_,_,rfl,kps_push _⟩⟩⟩)) hsz'))
  |exact wBn (wBn (m:=Builtin.Tuple.tupleExact _) (wpAny_newObj_type (wPu ⟨_,rfl,wPu ⟨fin,⟨_,_,rfl,kps_push _⟩⟩⟩) hsz'))
theorem K5k {c:Str}{lo hi el eu p}(hsz:c.length≤1000)
  (hs:∀ t b,∃ ops,subscripted (.Slice el eu none p) false (.str c t) (.ref b)=operate ops (getItem (.str c t) (.ref b))):Pr w A [S c,.p (SlP lo hi)] (P2 (subscriptTail l (.Slice el eu none p))) (S (Txt.slice c lo hi)):=pr2 fun own s a b C ha hb=>by
 refine o33 (Z3u hb) fun sl vl vu e9a n9b pl pu=>?_;subst e9a;obtain ⟨os,h1,h2,h3⟩:=n9b
 refine o10 (Rd.inv_str ha) fun t e9a=>?_;subst e9a
 refine o10 (hs t sl) fun ops hs=>?_
 refine tail_any (typeIs_str s c t) J3s ?_ hs
 have go:∀ (l u:Option (Int×Tok)),vl=partValue l→vu=partValue u→l.map (·.1)=lo→u.map (·.1)=hi→wpAny (model PW w) A (getItem (.str c t) (.ref sl)) (K2e own s (S (Txt.slice c lo hi))) NoE s:=by
  rintro l u rfl rfl rfl rfl
  exact wpAny_getItem_str_slice (l:=l) (u:=u) (st:=none) ⟨os,h1,h2,h3⟩ rfl (post_val_or_str ⟨lTr (Txt.slice_le c _ _) (J0l hsz),fun t' k=>⟨Rd.str,kt⟩⟩)
 cases pl with
 |none=>cases pu with
  |none=>exact go none none rfl rfl rfl rfl
  |int j u=>exact go none (some (j,u)) rfl rfl rfl rfl
 |int i u=>cases pu with
  |none=>exact go (some (i,u)) none rfl rfl rfl rfl
  |int j u'=>exact go (some (i,u)) (some (j,u')) rfl rfl rfl rfl
theorem K6y {d:PyData}(hd:nic d=true):∀ {ds:List PyData},J0z ds=true→(ds.any fun y=>PyData.eqv y d)=ds.any fun y=>same y d
 |[],_=>rfl
 |x::ds,h=>by
  have h':nic x=true∧J0z ds=true:=by simpa [J0z] using h
  rw [List.any_cons,List.any_cons,K6y hd h'.2,SeqAt.same_eq_eqv x d (J8a x d h'.1 hd)]
theorem K7t {d ds}(hx:By x d)(hy:By y (.list ds))(hd:nicD d)(hds:J0z ds=true)(hA:Rm 0 A):Pr w A [x,y] (P2 (compareOp .NotIn)) (B (!ds.any fun y=>same y d)):=pr2 fun own s a b C ha hb=>by
 refine o10 (hx.reads ha) fun as ra=>?_;refine o10 (hy.reads hb) fun bs rb=>?_
 refine PySem.SeqAt.notIn_list_reads rb ra (J3h _ hds) (K1b _ hd.1) (by have:=hA.un;have:=hd.2;simp only [cLine];lia) ⟨?_,Kee.refl⟩
 rw [K6y hd.1 hds];exact Rd.bool
end
theorem K4b (l b:Addr)(a1 a2 c1 c2:Int)(t1 t2 u1 u2:Tok)(n n2:Nat)(dd dd2:Option Addr)(sl sl2:Array (Option Value)) :
  Meets (Builtin.«tuple.__gt__» ⟨[.ref l,.ref b],[]⟩)
   (fun A R s=>s.heap.get? l=some {cls:=.type "tuple",dict:=dd,data:=.seq #[.int a1 t1,.int a2 t2] n,slots:=sl}∧s.heap.get? b=some {cls:=.type "tuple",dict:=dd2,data:=.seq #[.int c1 u1,.int c2 u2] n2,slots:=sl2} ∧
    R (.ok (.ret (.bool (if a1=c1 then decide (a2 > c2) else decide (a1 > c1))))) s):=
 .of_wp fun prog w A R s h=>by
  obtain ⟨hp,g,d,tk,os⟩:=s;obtain ⟨hl,hb,h⟩:=h
  have f2:=AutoSeq1.sub_tuple_tuple
  wp_walk using wpAny_loadPart' hl,wpAny_loadPart' hb,wpAny_eqBool_int
  by_cases h1:a1=c1
  ·subst h1
   rw [if_pos rfl] at h
   simp only [beq_self_eq_true,Bool.not_true,Bool.false_eq_true,if_false]
   wp_walk using wpAny_eqBool_int
   by_cases h2:a2=c2
   ·subst h2
    simp only [beq_self_eq_true,Bool.not_true,Bool.false_eq_true,if_false]
    wp_walk
    simpa [Builtin.Tuple.tupleCompareSizes] using h
   ·simp only [beq_eq_false_iff_ne.mpr h2,Bool.not_false,if_true]
    refine wBn (wpAny_rule (wBn (show wpAny _ _ (compareOp .Gt _ _) _ _ _ from PySem.P.gt_int ?_)))
    wp_walk
    exact ⟨_,rfl,by simpa using h⟩
  ·rw [if_neg h1] at h
   simp only [beq_eq_false_iff_ne.mpr h1,Bool.not_false,if_true]
   refine wBn (wpAny_rule (wBn (show wpAny _ _ (compareOp .Gt _ _) _ _ _ from PySem.P.gt_int ?_)))
   wp_walk
   exact ⟨_,rfl,by simpa using h⟩
theorem Z5d {own h v}{a b:Int}(q:Rd own h v (.tuple [.int a,.int b])):∃ l o n t u,v = .ref l∧h.get? l=some o∧o.cls = .type "tuple"∧o.data = .seq #[.int a t,.int b u] n:=by
 skip
 refine o45 (Rd.inv_tuple q) fun l o vs n e9a _ h1 h2 h3 h4=>?_;subst e9a
 obtain ⟨ls⟩:=vs
 skip
 cases h4 with|cons r1 r2=>cases r2 with|cons r2 r3=>cases r3;refine o10 (Rd.inv_int r1) fun t e9a=>?_;subst e9a;refine o10 (Rd.inv_int r2) fun u e9a=>?_;subst e9a;exact xi5 l o n t u ⟨rfl,h1,h2,h3⟩
section
variable {w:World}{A:Around}{env:Env}{ns:List (Str×Bool)}{xs xs':List (Option X)}{x y z:X}{l r e iter:Expr}{pos:Pos}
theorem Z6x {a1 a2 c1 c2:Int}(hA:Rm 0 A):Pr w A [T [.int a1,.int a2],T [.int c1,.int c2]] (P2 (compareOp .Gt)) (B (if a1=c1 then decide (a2 > c2) else decide (a1 > c1))):=pr2 fun own s a b C ha hb=>by
 refine ab fun Q q9=>?_
 refine o53 (Z5d ha) fun l o n t u e9a h1 h2 h3=>?_;subst e9a
 refine o53 (Z5d hb) fun l' o' n' t' u' e9a h1' h2' h3'=>?_;subst e9a
 obtain ⟨cls,dd,data,sl⟩:=o
 obtain ⟨cls',dd',data',sl'⟩:=o'
 refine q9 ?_
 simp only at h2 h3 h2' h3'
 subst h2 h3 h2' h3'
 refine richCompare_meets_room (op:=.Gt) ⟨_,h1,rfl⟩ ⟨_,h1',rfl⟩ F.slot_tuple_gt F.entry_tuple_gt (F.args_tuple_gt_2 _ _) (K4b l l' a1 a2 c1 c2 t u t' u' n n' dd dd' sl sl') ⟨h1,h1',?_⟩ (by have:=hA.un;simp only [cLine];exact Nat.lt_of_le_of_lt this (by decide))
 exact show Value.bool _≠Value.notImplemented∧_ from ⟨(fun x=>nomatch x),Rd.bool,Kee.refl⟩
theorem J5b {h h':Heap}{own:List Addr}{I:Addr}(hk:Kps h h')(hI:h.get? I=none):Kps (hideAll h own) (hideAll h' (I::own)):=by
 intro b o e
 have e1:=of_hideAll _ e
 have nb:b∉own:=fun hb=>by rw [hideAll_none _ hb] at e;cases e
 refine hideAll_get _ (hk b o e1) fun hm=>?_
 rcases mCn hm with rfl|hm
 ·rw [hI] at e1;cases e1
 ·exact nb hm
theorem Frm.to {h h':Heap}{own own':List Addr}(F:Frm own env ns xs h)(hk:Kps h h')(hh:Kps (hideAll h own) (hideAll h' own'))(hs:∀ b∈own,b∈own'):Frm own' env ns xs h':=
 ⟨F.st,F.kinds,F.nodup,⟨hs _ F.mine.1,fun n c e=>⟨hs _ (F.mine.2 n c e).1,(F.mine.2 n c e).2⟩⟩,F.apart,F.has,let ⟨m,cm,a,b,c⟩:=F.vars;⟨m,cm,a.keeps hk,fun n c e=>(b n c e).keeps hk,c.mono (fun _ _ r=>r.to hk hh) fun _ _=>rfl⟩⟩
theorem Cx.to {h h':Heap}{own own':List Addr}(C:Cx w own h)(hh:Kps (hideAll h own) (hideAll h' own'))(hs:Alive own' h'):Cx w own' h':=⟨C.gl.keeps hh,hs⟩
theorem Frm.notF {h:Heap}{own:List Addr}(F:Frm own env ns xs h):∀ b∈frs env,∃ o,h.get? b=some o∧NoF o.data:=by
 intro b hb
 refine o22 F.vars fun m cm a c _=>?_
 rcases mCn hb with rfl|hb
 ·exact J7k a
 ·refine o11 (mMp hb) fun p hp e9a=>?_;subst e9a
  have e:env.cells.lookup p.1=some p.2:=lookup_of_mem_nodup F.apart.2 hp
  exact J9r (c _ _ e)
end
theorem J0k (h:Heap):h.get? h.objs.size=none:=by
 cases q:h.get? h.objs.size with
 |none=>rfl
 |some o=>exact absurd (Heap.lt_size q) (Nat.lt_irrefl _)
def LgOk (h:Heap)(I:Addr):Prop:=∃ o,h.get? I=some o∧(∀ vs n,o.data≠.seq vs n)∧∀ n vs,o.cls = .type n→o.data = .fields vs→(["enumerate","zip","dict_itemiterator","dict_reverseitemiterator","odict_iterator","itertools.zip_longest","itertools.pairwise"].contains n)=false
theorem LgOk.go {w:World}{A:Around}{s:Shared}{I:Addr}{t:Expr}{v:Value}{Q:Unit→Shared→Prop}{E:Value→Shared→Prop}(g:LgOk s.heap I)(h:Q () s):wpAny (model PW w) A (letOwnedTupleGo t (.ref I) v) Q E s:=by
 refine o12 g fun o ho _ hc=>?_;clear g
 unfold letOwnedTupleGo
 split
 all_goals first
  |exact wPu h
  |split
   ·rename_i r a e
    cases e
    refine wBn (wpAny_load ho ?_)
    split
    ·rename_i n vs e1 e2
     rw [hc n vs e1 e2]
     simp only [Bool.false_and,Bool.false_eq_true,if_false]
     exact wPu h
    ·exact wPu h
   ·exact wPu h
structure ItW (w:World)(own:List Addr)(s s₂:Shared)(ds:List PyData)(I:Addr)(fp:List Addr)(P:Nat→Value→Prop)(St:Nat→Heap→Prop):Prop where
 walks:∀ A:Around,A.handled=none→Walks PW w A I fp [I] ds.length P St
 st:St 0 s₂.heap
 lt:∀ b∈fp,b<s₂.heap.objs.size
 notF:∀ b∈fp,b=I∨∃ o,s.heap.get? b=some o∧¬ NoF o.data
 new:s.heap.get? I=none
 keeps:Keeps s s₂
 alive:∃ o,s₂.heap.get? I=some o
 items:∀ i v,P i v→∃ d,ds[i]? = some d∧Rd (I::own) s₂.heap v d
 lg:∀ i h,St i h→LgOk h I
def Itb (w:World)(A:Around)(x:X)(ds:List PyData):Prop:=
 ∀ own s v,Cx w own s.heap→XIn own s.heap v x→wpAny (model PW w) A (pyIter v) (fun it s₂=>∃ I fp P St,it = .ref I∧ItW w own s s₂ ds I fp P St) NoE s
section
variable {w:World}{A:Around}{env:Env}{ns:List (Str×Bool)}{xs xs':List (Option X)}{x y z:X}{l r e iter:Expr}{pos npos p1 p2:Pos}{ds:List PyData}
theorem J5e (i:IsL x ds):Itb w A x ds:=by
 intro own s v C hx
 refine o22 (i.at hx) fun a vs e9a hl hr=>?_;subst e9a
 refine wpAny_pyIter_list hl (xi4 s.heap.objs.size ([s.heap.objs.size,a]) (fun i v=>vs[i]? = some v) (fun i h=>h.IsListIter s.heap.objs.size a i∧h.IsList a vs) ⟨rfl,?_⟩)
 have hn:vs.size=ds.length:=by rw [← Array.length_toList,hr.length]
 have hI:s.heap.get? s.heap.objs.size=none:=J0k _
 have hne:a≠s.heap.objs.size:=by rintro rfl;refine o11 hl fun o ho _=>?_;clear hl;rw [hI] at ho;cases ho
 have hll:∃ o,s.heap.get? a=some o∧¬ NoF o.data:=by refine o12 hl fun o ho _ r9a=>o10 r9a fun n hd=>?_;clear hl;exact ⟨o,ho,fun q=>q.1 _ _ hd⟩
 refine ⟨fun A' hA=>hn▸Walks.list hA _ a hne vs,⟨⟨_,Heap.get?_push_size _ rfl,rfl,rfl⟩,J1o hl (kps_push _)⟩,fun b hb=>?_,fun b hb=>?_,hI,(xi2 _ _ ⟨rfl,kps_push _⟩),⟨_,Heap.get?_push_size _ rfl⟩,fun i v hv=>?_,fun i h st=>?_⟩
 ·rw [Heap.size_push]
  refine fb2 hb ?_ ?_
  ·exact Nat.lt_succ_self _
  ·refine o11 hl fun o ho _=>?_;clear hl;exact Nat.lt_succ_of_lt (Heap.lt_size ho)
 ·refine fb2 hb ?_ ?_
  ·exact .inl rfl
  ·exact .inr hll
 ·refine o11 (hr.get' (i:=i) (v:=v) (by simpa using hv)) fun d h1 h2=>?_
  exact ⟨d,h1,h2.mono (J5b (kps_push _) hI)⟩
 ·refine o12 st.1 fun o h1 h2 h3=>?_
  exact ⟨o,h1,fun vs n q=>(by rw [h3] at q;cases q),fun n vs e _=>by rw [h2] at e;cases e;decide⟩
def RgP (a b c:Int)(h:Heap)(v:Value):Prop:=∃ r t u k,v = .ref r∧IsRange h r a b c t u k
theorem RgP.st {a b c}:∀ h h' v,Kps h h'→RgP a b c h v→RgP a b c h' v:=fun h h' v hk ⟨r,t,u,k,e,q⟩=>⟨r,t,u,k,e,hk _ _ q⟩
noncomputable abbrev Rg (a b c:Int):X:=.p (RgP a b c)
noncomputable def rgD (a c:Int) (n:Nat):List PyData:=(List.range n).map fun (i:Nat)=>.int (a+(i:Int) * c)
theorem J4c {a b c:Int}{n:Nat}(hsm:Builtin.Range.small a b c=true)(hn:Builtin.Range.rangeSize a b c=(n:Int)):Itb w A (Rg a b c) (rgD a c n):=by
 intro own s v C hx
 skip
 refine o01 hx fun _ r9a=>o41 r9a fun r t u k e9a hr=>?_;subst e9a;clear hx
 skip
 have hr:IsRange s.heap r a b c t u k:=of_hideAll _ hr
 refine wpAny_pyIter_range hr hsm ⟨s.heap.objs.size,[s.heap.objs.size],fun i v=>i<n∧∃ t,v = .int (a+i * c) t,fun i h=>IsRangeIter h s.heap.objs.size (a+(i:Nat) * c) ((n:Int) - (i:Nat)) c,rfl,?_⟩
 have hI:s.heap.get? s.heap.objs.size=none:=J0k _
 have hlen:(rgD a c n).length=n:=by simp [rgD]
 refine ⟨fun A' hA=>?_,?_,fun b hb=>?_,fun b hb=>?_,hI,(xi2 _ _ ⟨rfl,kps_push _⟩),⟨_,Heap.get?_push_size _ rfl⟩,fun i v hv=>?_,fun i h st=>?_⟩
 ·rw [hlen]
  have W:=Walks.range (prog:=PW) (w:=w) hA s.heap.objs.size a c n
  exact ⟨W.sub,W.frame,fun i s Q E hi st hQ=>W.item i s Q E hi st fun v h' tk hv=>hQ v h' tk ⟨hi,hv⟩,W.done,W.self⟩
 ·show IsRangeIter _ _ _ _ _
  have:(n:Int) - ((0:Nat):Int)=Builtin.Range.rangeSize a b c:=by rw [hn];simp
  rw [this]
  simp only [Int.natCast_zero,Int.zero_mul,Int.add_zero]
  exact Heap.get?_push_size _ rfl
 ·rw [Heap.size_push]
  obtain rfl:=mSg hb
  exact Nat.lt_succ_self _
 ·exact .inl (mSg hb)
 ·skip
  refine o01 hv fun hi r9a=>o10 r9a fun t e9a=>?_;subst e9a;clear hv
  skip
  exact ⟨_,by simp [rgD,hi],Rd.int⟩
 ·exact ⟨_,st,fun vs n q=>(by cases q),fun n vs e _=>by cases e;decide⟩
def Tg (w:World)(A:Around)(env:Env)(ns:List (Str×Bool))(xs:List (Option X))(t:Expr)(d:PyData)(xs':List (Option X)):Prop:=
 ∀ own s v,Frm own env ns xs s.heap→Cx w own s.heap→Rd own s.heap v d→wpAny (model PW w) A (assign t env v) (fun _ s'=>Frm own env ns xs' s'.heap∧Chg own env s s') NoE s
theorem Z2l {n c d}(p:Put ns xs n c (some (.d d)) xs'):Tg w A env ns xs (.Name n npos) d xs':=fun own s v F C hv=>
 wpAny_assign_Name (J3j (x:=.d d) F hv p fun h' tk F' S=>⟨F',(xi2 _ _ rfl),S⟩)
theorem Z3r {n c d m c' d' p1 p2 p3 k xs1}(hh:A.handled=none)(p:Put ns xs n c (some (.d d)) xs1)(q:Put ns xs1 m c' (some (.d d')) xs'):Tg w A env ns xs (.Tuple [.Name n p1,.Name m p2] k p3) (.tuple [d,d']) xs':=fun own s v F C hv=>by
 skip
 refine o22 (J3m hv) fun a vs e9a ht hr=>?_;subst e9a
 obtain ⟨vs⟩:=vs
 skip
 have hr:RdAll own s.heap vs [d,d']:=hr
 cases hr with|cons r1 r2=>cases r2 with|cons r2 r3=>cases r3 with|nil=>
 rename_i v1 v2
 refine wpAny_assign_Tuple hh ht rfl rfl fun h' hs=>?_
 have hk:Kps s.heap h':=fun b o e=>hs b o (Nat.ne_of_lt (Heap.lt_size e)) e
 have F1:=F.keeps hk
 refine wpAny_assignInOrder_more ?_
 refine wpAny_assign_Name (J3j (s:={s with heap:=h'}) F1 (XIn.keeps (x:=.d d) r1 hk) p fun h2 tk F2 S2=>?_)
 refine wpAny_assignInOrder_more ?_
 refine wpAny_assign_Name (J3j (s:={s with heap:=h2,toks:=tk}) F2 (S2.up _ (.d d') (XIn.keeps (x:=.d d') r2 hk)) q fun h3 tk3 F3 S3=>?_)
 refine wpAny_assignInOrder_none ⟨F3,(xi2 _ _ rfl),(Sto.of_kps hk).trans (S2.trans S3)⟩
theorem Vals.mono' {own own':List Addr}{h h':Heap}{f:Str→Bool→Option Value}(hx:∀ v x,J3k (some x)=true→XIn own h v x→XIn own' h' v x):∀ {ns xs},xs.all J3k=true→Vals own h f ns xs→Vals own' h' f ns xs
 |[],[],_,_=>trivial
 |p::ns,x::xs,hg,⟨a,b⟩=>by
  rw [List.all_cons,Bool.and_eq_true] at hg
  exact ⟨fun y e=>let ⟨v,h1,h2⟩:=a y e;⟨v,h1,hx v y (e▸hg.1) h2⟩,Vals.mono' hx hg.2 b⟩
structure Dr (w:World)(A:Around)(tb:Nat)(own:List Addr)(t:Expr)(s s₂:Shared)(ds:List X)(it:Value)(wr fp:List Addr)(St:Nat→Heap→Prop):Prop where
 frame:∀ i h h',St i h→(∀ b∈fp,∀ o,h.get? b=some o→h'.get? b=some o)→Kps (hideAll h (wr++own)) (hideAll h' (wr++own))→St i h'
 item:∀ i x (s:Shared) (Q:Value→Shared→Prop) (E:Value→Shared→Prop),ds[i]? = some x→tb≤s.toks→St i s.heap→Alive (wr++own) s.heap →
  (∀ v h' tk,XIn (wr++own) h' v x→St (i+1) h'→(∀ b o,b∉wr→s.heap.get? b=some o→h'.get? b=some o)→Q v {s with heap:=h',toks:=tk}) →
  wpAny (model PW w) A (pyNext it) (fun r s1=>∃ v,r=some v∧wpAny (model PW w) A (letOwnedTupleGo t it v) (fun _ s2=>Q v s2) E s1) E s
 done:∀ (s:Shared) (Q:Shared→Prop) (E:Value→Shared→Prop),St ds.length s.heap→(∀ h' tk,(∀ b o,b∉wr→s.heap.get? b=some o→h'.get? b=some o)→Q {s with heap:=h',toks:=tk}) →
  wpAny (model PW w) A (pyNext it) (fun r s1=>r=none∧Q s1) E s
 st:St 0 s₂.heap
 notF:∀ b∈fp,s.heap.get? b=none∨∃ o,s.heap.get? b=some o∧¬ NoF o.data
 new:∀ b∈wr,s.heap.get? b=none
 keeps:Keeps s s₂
 live:∀ i h,St i h→∀ b∈wr,∃ o,h.get? b=some o∧∀ vs n,o.data≠.seq vs n
theorem Dr.back {tb:Nat}{own:List Addr}{t:Expr}{s s1 s2:Shared}{ds:List X}{it:Value}{wr fp:List Addr}{St:Nat→Heap→Prop}(W:Dr w A tb own t s1 s2 ds it wr fp St)(k:Keeps s s1):Dr w A tb own t s s2 ds it wr fp St:=by
 have no:∀ b,s1.heap.get? b=none→s.heap.get? b=none:=fun b h=>by
  exact J0q (Kee.kps k) h
 refine ⟨W.frame,W.item,W.done,W.st,fun b hb=>?_,fun b hb=>no b (W.new b hb),Kee.trans k W.keeps,W.live⟩
 rcases W.notF b hb with h|⟨o,h1,h2⟩
 ·exact .inl (no b h)
 ·cases q:s.heap.get? b with
  |none=>exact .inl rfl
  |some o'=>exact .inr ⟨o',rfl,by have:=Kee.kps k b o' q;rw [h1] at this;cases this;exact h2⟩
theorem K6k {h h':Heap}{own wr:List Addr}(hk:Kps h h')(hI:∀ b∈wr,h.get? b=none):Kps (hideAll h own) (hideAll h' (wr++own)):=by
 intro b o e
 have e1:=of_hideAll _ e
 have nb:b∉own:=fun hb=>by rw [hideAll_none _ hb] at e;cases e
 refine hideAll_get _ (hk b o e1) fun hm=>?_
 rcases mAp hm with hm|hm
 ·rw [hI b hm] at e1;cases e1
 ·exact nb hm
def ExB (w:World)(tb:Nat)(A:Around)(env:Env)(ns:List (Str×Bool))(xs:List (Option X))(ss:List Stmt)(f:Fl)(xs':List (Option X)):Prop:=
 ∀ own s,tb≤s.toks→Frm own env ns xs s.heap→Cx w own s.heap→wpAny (model PW w) A (execs ss env) (fun g s'=>FlIn own s'.heap g f∧Frm own env ns xs' s'.heap∧Chg own env s s') NoE s
def Z8w (w:World)(tb:Nat)(A:Around)(env:Env)(ns:List (Str×Bool))(xs:List (Option X))(st:Stmt)(f:Fl)(xs':List (Option X)):Prop:=
 ∀ own s,tb≤s.toks→Frm own env ns xs s.heap→Cx w own s.heap→wpAny (model PW w) A (exec st env) (fun g s'=>FlIn own s'.heap g f∧Frm own env ns xs' s'.heap∧Chg own env s s') NoE s
def TgX (w:World)(A:Around)(env:Env)(ns:List (Str×Bool))(xs:List (Option X))(t:Expr)(x:X)(xs':List (Option X)):Prop:=
 ∀ own s v,Frm own env ns xs s.heap→Cx w own s.heap→XIn own s.heap v x→wpAny (model PW w) A (assign t env v) (fun _ s'=>Frm own env ns xs' s'.heap∧Chg own env s s') NoE s
theorem J9y {tb:Nat}{t:Expr}{body orelse:List Stmt}{f:Fl}{ds:List X}(Inv:Nat→List (Option X))(k:Nat)(h0:Inv 0=xs)(hno:∀ i,i≤k→(Inv i).all J3k=true)
  (src:∀ own s,tb≤s.toks→Frm own env ns xs s.heap→Cx w own s.heap→wpAny (model PW w) A (eval iter env) (fun v s1=>Keeps s s1∧wpAny (model PW w) A (pyIter v) (fun it s2=>∃ wr fp St,Dr w A tb own t s s2 ds it wr fp St) NoE s1) NoE s)
  (step:∀ i x,i<k→ds[i]? = some x→∃ xs1 g,TgX w A env ns (Inv i) t x xs1∧(g = .next∨g = .cont)∧Ex w A env ns xs1 body g (Inv (i+1)))
  (fin:(k=ds.length∧f = .next∧xs'=Inv k∧orelse = [])∨∃ x xs1 z,ds[k]? = some x∧f = .ret z∧TgX w A env ns (Inv k) t x xs1∧Ex w A env ns xs1 body (.ret z) xs')
  (hs:∀ x,foldedSetIterable iter env x=pure x):Z8w w tb A env ns xs (.For t iter body orelse pos) f xs':=by
 intro own s htb F C
 refine wpAny_For (wMo (wpAny_toks_of htb (src own s htb F C)) (fun v s1 q=>?_) fun _ _ q=>q.2.elim) hs
 obtain ⟨htb1,k1,q⟩:=q
 refine wMo (wpAny_toks_of htb1 q) (fun it s2 q=>?_) fun _ _ q=>q.2.elim
 obtain ⟨htb2,wr,fp,St,W⟩:=q
 have hk2:=Kee.kps W.keeps
 have hh2:Kps (hideAll s.heap own) (hideAll s2.heap (wr++own)):=K6k hk2 W.new
 have alw:∀ {i h},St i h→Alive own h→Alive (wr++own) h:=fun {i h} st a b hb=>by
  rcases mAp hb with hb|hb
  ·refine o11 (W.live _ _ st b hb) fun o e _=>?_;exact ⟨o,e⟩
  ·exact a b hb
 have inw:∀ b∈own,b∈wr++own:=fun b hb=>List.mem_append_right _ hb
 have F2:Frm (wr++own) env ns xs s2.heap:=F.to hk2 hh2 inw
 have C2:Cx w (wr++own) s2.heap:=C.to hh2 (alw W.st (C.alive.keeps hk2))
 have nf:∀ b∈fp,b∉frs env:=by
  intro b hb hf
  refine o11 (F.notF b hf) fun o ho hn=>?_
  rcases W.notF b hb with h|⟨o',ho',hn'⟩
  ·rw [h] at ho;cases ho
  ·rw [ho] at ho';cases ho';exact hn' hn
 have nW:∀ b∈frs env,b∉wr:=fun b hb hm=>by refine o11 (F.notF b hb) fun o e _=>?_;rw [W.new b hm] at e;cases e
 have nWo:∀ b∈own,b∉wr:=fun b hb hm=>by refine o10 (C.alive b hb) fun o e=>?_;rw [W.new b hm] at e;cases e
 let T:List (Option X)→Heap→Prop:=fun ys h=>Frm (wr++own) env ns ys h∧Kps (hideAll s2.heap (wr++own)) (hideAll h (wr++own))∧(∀ b o,b∉wr→b∉frs env→s2.heap.get? b=some o→h.get? b=some o)∧Alive own h
 let sh:Heap→Nat→Shared:=fun h tk=>{s2 with heap:=h,toks:=tk}
 let Iv:Nat→Shared→Prop:=fun n s'=>∃ i h' tk,n+i=k∧tb≤tk∧s'=sh h' tk∧St i h'∧T (Inv i) h'
 have un:∀ {h},Kps (hideAll h (wr++own)) (hideAll h own):=J0e (fun _ _ _ e=>e) inw
 have back:∀ {ys h' tk},T ys h'→Frm own env ns ys h'∧Chg own env s (sh h' tk):=by
  intro ys h' tk ⟨F',hk,hb,al⟩
  refine ⟨⟨F'.st,F'.kinds,F'.nodup,F.mine,F'.apart,F'.has,let ⟨m,cm,a,b,c⟩:=F'.vars;⟨m,cm,a,b,c.mono (fun _ _ r=>r.unhide inw) fun _ _=>rfl⟩⟩,?_⟩
  have kI:∀ b o,b∉frs env→s.heap.get? b=some o→h'.get? b=some o:=fun b o nb e=>hb b o (fun hm=>by rw [W.new b hm] at e;cases e) nb (hk2 _ _ e)
  have hh:=hh2.trans (hk.trans un)
  refine o21 W.keeps fun h2 tk2 e9a _=>?_;subst e9a
  exact ⟨(xi2 h' tk rfl),kI,fun v y r=>r.mst hh fun a _ o e k=>kI a o (fun hf=>by
   refine o11 (F.notF a hf) fun o2 e2 q=>?_
   rw [e2] at e;cases e;exact k.no q) e,hh,fun _=>al⟩
 refine aR fun R1 hR=>codeAny_forLoop_any (R:=R1) Iv ?_ k (xi3 0 _ _ ⟨rfl,htb2,rfl,W.st,h0▸F2,fun _ _ e=>e,fun _ _ _ _ e=>e,C.alive.keeps hk2⟩)
 rintro n s3 ⟨i,h3,tk3,hi,htb3,rfl,st3,F3,hk3,hb3,al3⟩
 have ik:i≤k:=hi▸Nat.le_add_left _ _
 have C3:Cx w (wr++own) h3:=C2.to hk3 (alw st3 al3)
 have upI:∀ {h4},(∀ b o,b∉wr→h3.get? b=some o→h4.get? b=some o)→T (Inv i) h4:=by
  intro h4 hb4
  have hh4:Kps (hideAll h3 (wr++own)) (hideAll h4 (wr++own)):=J0e (fun b o nb e=>hb4 b o (fun q=>nb (List.mem_append_left _ q)) e) fun _ q=>q
  have nseq:∀ a o,a∈wr→h3.get? a=some o→∀ vs n,o.data≠.seq vs n:=fun a o ha e=>by
   refine o11 (W.live _ _ st3 a ha) fun o' e' q=>?_;rw [e] at e';cases e';exact q
  refine o22 F3.vars fun m cm a b c=>?_
  refine ⟨⟨F3.st,F3.kinds,F3.nodup,F3.mine,F3.apart,F3.has,m,cm,a.at' fun o e=>hb4 _ o (nW _ (.head _)) e,fun n c' e=>?_,c.mono' (fun v y hy r=>?_) (hno i ik)⟩,hk3.trans hh4,fun b o n1 n2 e=>hb4 b o n1 (hb3 b o n1 n2 e),fun b hb=>?_⟩
  ·refine o11 (b n c' e) fun o e1 e2=>?_
   exact ⟨o,hb4 _ o (nW _ (.tail _ (List.mem_map_of_mem (f:=(·.2)) (mem_of_lookup e)))) e1,e2⟩
  ·exact r.mst hh4 fun a _ o e k=>hb4 a o (fun q=>by
    rcases k with ⟨vs,n,d⟩|⟨q',_⟩
    ·exact nseq a o q e vs n d
    ·rw [hy] at q';cases q') e
  ·refine o10 (al3 b hb) fun o e=>?_;exact ⟨o,hb4 b o (nWo b hb) e⟩
 by_cases hlt:i<ds.length
 ·obtain ⟨x,hx⟩:∃ x,ds[i]? = some x:=⟨_,List.getElem?_eq_getElem hlt⟩
  have turn:∀ {xs1 g xs2},TgX w A env ns (Inv i) t x xs1→Ex w A env ns xs1 body g xs2→∀ {Q:Flow→Shared→Prop} {E E':Value→Shared→Prop} v h4 tk4,XIn (wr++own) h4 v x→St (i+1) h4→(∀ b o,b∉wr→h3.get? b=some o→h4.get? b=some o) →
    (∀ g' h5 tk5,FlIn (wr++own) h5 g' g→St (i+1) h5→T xs2 h5→Q g' (sh h5 tk5)) →
    wpAny (model PW w) A (assign t env v) (fun _ s5=>wpAny (model PW w) A (execs body env) Q E' s5) E (sh h4 tk4):=by
   intro xs1 g xs2 ht hb Q E E' v h4 tk4 hv st4 hb4 hQ
   refine o03 (upI hb4) fun F4 hh4 hb4 al4=>?_
   refine wMo (ht _ (sh h4 tk4) v F4 (C2.to hh4 (alw st4 al4)) hv) (fun _ s5 q=>?_) fun _ _ q=>q.elim
   refine o01 q fun F5 G5=>?_;clear q
   refine wMo (hb _ s5 F5 (G5.sto.cx (C2.to hh4 (alw st4 al4)))) (fun g' s6 q=>?_) fun _ _ q=>q.elim
   refine o02 q fun q1 F6 G6=>?_;clear q
   have G:=G5.trans G6
   refine o20 G.same fun h6 tk6 e9a=>?_;subst e9a
   exact hQ g' h6 tk6 q1 (W.frame _ _ _ st4 (fun b hb o e=>G.sto.but b o (nf b hb) e) G.sto.hid) ⟨F6,hh4.trans G.sto.hid,fun b o n1 n2 e=>G.sto.but b o n2 (hb4 b o n1 n2 e),fun b hb=>G.sto.alive (alw st4 al4) b (inw b hb)⟩
  by_cases hik:i<k
  ·refine o22 (step i x hik hx) fun xs1 g ht hg hb=>?_
   have next:∀ {g' h5 tk5},tb≤tk5→FlIn (wr++own) h5 g' g→St (i+1) h5→T (Inv (i+1)) h5→(g' = .next∨g' = .cont)∧∃ m,m<n∧Iv m (sh h5 tk5):=fun {g' h5 tk5} q0 q1 q2 q3=>
    ⟨by rcases hg with rfl|rfl<;>cases g'<;>first|exact .inl rfl|exact .inr rfl|exact q1.elim,n - 1,(stp hi hik).1,i+1,_,_,(stp hi hik).2,q0,rfl,q2,q3⟩
   refine wMo (wpAny_toks_of htb3 (W.item i x (sh h3 tk3) (fun v s5=>tb≤s5.toks→wpAny (model PW w) A (assign t env v) (fun _ s₂=>wpAny (model PW w) A (execs body env) (fun f s₃=>tb≤s₃.toks→(f = .next∨f = .cont)∧∃ m,m<n∧Iv m s₃) NoE s₂) NoE s5) NoE hx htb3 st3 (alw st3 al3) fun v h4 tk4 hv st4 hb4 htb4=>
    turn ht hb v h4 tk4 hv st4 hb4 fun g' h5 tk5 q1 q2 q3 q0=>next q0 q1 q2 q3)) (fun r s5 q=>?_) fun _ _ q=>q.2.elim
   obtain ⟨q0,v,rfl,q⟩:=q
   refine wMo (wpAny_toks_of q0 q) (fun _ s6 q=>?_) fun _ _ q=>q.2.elim
   refine wMo (wpAny_toks_of q.1 (q.2 q.1)) (fun _ s7 q=>?_) fun _ _ q=>q.2.elim
   refine wMo (wpAny_toks_of q.1 q.2) (fun f s8 q=>?_) fun _ _ q=>q.2.elim
   refine o01 q fun q1 q2=>?_;clear q
   rcases q2 q1 with ⟨rfl|rfl,q⟩<;>exact q
  ·have ik:i=k:=Nat.le_antisymm ik (Nat.le_of_not_lt hik)
   subst ik
   rcases fin with ⟨h,_⟩|⟨d',xs1,z,h,hf,ht,hb⟩
   ·exact absurd hlt (h▸Nat.lt_irrefl _)
   ·rw [hx] at h;cases h
    subst hf
    refine wMo (W.item i x (sh h3 tk3) (fun v s5=>wpAny (model PW w) A (assign t env v) (fun _ s₂=>wpAny (model PW w) A (execs body env) (fun f s₃=>∃ v,f = .ret v∧XIn own s₃.heap v z∧Frm own env ns xs' s₃.heap∧Chg own env s s₃) NoE s₂) NoE s5) NoE hx htb3 st3 (alw st3 al3) fun v h4 tk4 hv st4 hb4=>
     turn ht hb v h4 tk4 hv st4 hb4 fun g' h5 tk5 q1 _ q2=>?_) (fun r s5 q=>?_) fun _ _ q=>q.elim
    ·refine o01 (back (tk:=tk5) q2) fun r1 r2=>?_
     cases g' with
     |ret v=>exact ⟨_,rfl,XIn.unhide q1 inw,r1,r2⟩
     |_=>exact q1.elim
    ·refine o11 q fun v e9a q=>?_;subst e9a;clear q
     refine wMo q (fun _ s6 q=>?_) fun _ _ q=>q.elim
     refine wMo q (fun _ s7 q=>?_) fun _ _ q=>q.elim
     refine wMo q (fun f s8 q=>?_) fun _ _ q=>q.elim
     refine o13 q fun v e9a r0 r1 r2=>?_;subst e9a;clear q
     exact hR (.ok (.ret _)) _ ⟨r0,r1,r2⟩
 ·rcases fin with ⟨ek,rfl,rfl,rfl⟩|⟨d',xs1,z,h,_⟩
  ·have ik:i=k:=Nat.le_antisymm ik (ek▸Nat.le_of_not_lt hlt)
   subst ik
   refine wMo (W.done (sh h3 tk3) (fun s5=>Frm own env ns (Inv i) s5.heap∧Chg own env s s5) NoE (ek▸st3) fun h4 tk4 hb4=>back (upI hb4)) (fun r s5 q=>?_) fun _ _ q=>q.elim
   obtain ⟨rfl,r1,r2⟩:=q
   exact wpAny_execs_nil (hR (.ok .next) _ ⟨trivial,r1,r2⟩)
  ·exact absurd (Nat.lt_of_le_of_lt ik (List.getElem?_eq_some_iff.mp h).1) hlt
theorem Z9b {own:List Addr}{s s₂:Shared}{I:Addr}{fp:List Addr}{P:Nat→Value→Prop}{St:Nat→Heap→Prop}(W:ItW w own s s₂ ds I fp P St)(hh:A.handled=none){t:Expr} :
  Dr w A 0 own t s s₂ (ds.map .d) (.ref I) [I] fp (fun i h=>St i h∧Kps (hideAll s₂.heap (I::own)) (hideAll h (I::own))):=by
 have W1:=W.walks A hh
 refine ⟨fun i h h' st hk hid=>⟨W1.frame i h h' st.1 hk,st.2.trans hid⟩,fun i x s Q E hx _ st _ hQ=>?_,fun s Q E st hQ=>?_,⟨W.st,fun _ _ e=>e⟩,fun b hb=>?_,fun b hb=>by rw [List.mem_singleton.mp hb];exact W.new,W.keeps,fun i h st b hb=>by
  skip
  refine o12 (W.lg i h st.1) fun o h1 h2 _=>?_
  skip
  rw [List.mem_singleton.mp hb];exact ⟨o,h1,h2⟩⟩
 ·rw [List.getElem?_map] at hx
  skip
  refine o11 (Option.map_eq_some_iff.mp hx) fun d0 hd0 e9a=>?_;subst e9a
  skip
  refine W1.item i s _ _ (List.getElem?_eq_some_iff.mp hd0).1 st.1 fun v h' tk hv st' hb=>⟨v,rfl,LgOk.go (W.lg _ _ st') ?_⟩
  skip
  refine o11 (W.items i v hv) fun d hd rd=>?_
  skip
  rw [hd0] at hd;cases hd
  have hid:Kps (hideAll s.heap (I::own)) (hideAll h' (I::own)):=J0e (fun b o nb e=>hb b o (fun q=>nb (by rw [List.mem_singleton.mp q];exact .head _)) e) fun _ q=>q
  exact hQ v h' tk (rd.mono (st.2.trans hid)) ⟨st',st.2.trans hid⟩ hb
 ·rw [List.length_map] at st
  exact W1.done s _ _ st.1 fun h' tk hb=>⟨rfl,hQ h' tk hb⟩
 ·rcases W.notF b hb with rfl|h
  ·exact .inl W.new
  ·exact .inr h
theorem Z6z {t:Expr}{body:List Stmt}{f:Fl}(Inv:Nat→List (Option X))(k:Nat)(hh:A.handled=none)(hi:Ev w A env ns xs iter x)(ib:Itb w A x ds)(h0:Inv 0=xs)(hno:∀ i,i≤k→(Inv i).all J3k=true)
  (step:∀ i d,i<k→ds[i]? = some d→∃ xs1 g,Tg w A env ns (Inv i) t d xs1∧(g = .next∨g = .cont)∧Ex w A env ns xs1 body g (Inv (i+1)))
  (fin:(k=ds.length∧f = .next∧xs'=Inv k)∨∃ d xs1 z,ds[k]? = some d∧f = .ret z∧Tg w A env ns (Inv k) t d xs1∧Ex w A env ns xs1 body (.ret z) xs')
  (hs:∀ x,foldedSetIterable iter env x=pure x):Ex1 w A env ns xs (.For t iter body [] pos) f xs':=by
 intro own s F C
 refine J9y (tb:=0) (ds:=ds.map .d) (orelse:=[]) Inv k h0 hno (fun own s _ F C=>?_) (fun i x hi hx=>?_) ?_ hs own s (Nat.zero_le _) F C
 ·refine J0 (hi own s F C) fun v s1 hv k1=>⟨k1,wMo (ib own s1 v (C.keeps (Kee.kps k1)) hv) (fun it s2 q=>?_) fun _ _ q=>q.elim⟩
  skip
  refine o41 q fun I fp P St e9a W=>?_;subst e9a;clear q
  skip
  exact xi3 _ _ _ ((Z9b W hh).back k1)
 ·rw [List.getElem?_map] at hx
  refine o11 (Option.map_eq_some_iff.mp hx) fun d hd e9a=>?_;subst e9a
  exact step i d hi hd
 ·refine fin.imp (fun h=>⟨h.1.trans (List.length_map ..).symm,h.2.1,h.2.2,rfl⟩) fun ⟨d,x1,z,h,r⟩=>⟨.d d,x1,z,by rw [List.getElem?_map,h];rfl,r⟩
end
noncomputable def K5x (ifs:List Expr) (env:Env):Sem Bool:=forIn ifs true fun c r=>if r=true then do let ok ← PySem.isTrue c env (eval c env);pure (ForInStep.yield ok) else pure (ForInStep.yield r)
def EvI (w:World)(A:Around)(env:Env)(ns:List (Str×Bool))(xs:List (Option X))(ifs:List Expr)(b:Bool):Prop:=
 ∀ own s,Frm own env ns xs s.heap→Cx w own s.heap→wpAny (model PW w) A (K5x ifs env) (fun v s'=>v=b∧Keeps s s') NoE s
section
variable {w:World}{A:Around}{env:Env}{ns:List (Str×Bool)}{xs xs':List (Option X)}
theorem Z4k:EvI w A env ns xs [] true:=fun own s F C=>by
 show wpAny _ _ (pure true) _ _ s
 exact wPu ⟨rfl,Kee.refl⟩
theorem Z4f {c:Expr}{b:Bool}(h:EvT w A env ns xs c b):EvI w A env ns xs [c] b:=fun own s F C=>by
 unfold K5x
 simp only [List.forIn_cons,List.forIn_nil,if_true]
 exact wBn (wBn (J0s (h own s F C) fun s' k=>wPu (wPu ⟨rfl,k⟩)))
end
structure CompOk (env:Env)(scope:Scope)(cl:List (Str×Addr))(x:Str)(cs:List Str):Prop where
 clos:closureFor scope env=pure cl
 cell:∀ y∈scope.names,y.2≠.cell
 kind:scope.kind = .function
 names:∀ y∈scope.names,y.2 = .local→scope.names.lookup y.1=some .local
 loc:scope.names.lookup x=some .local
 caps:∀ n∈cs,(relabel scope env).names.lookup n=some .cell
 cls:∀ p∈cl,env.cells.lookup p.1=some p.2
 cln:(cl.map (·.1)).Nodup
 csin:∀ n∈cs,∃ c,cl.lookup n=some c
 nodup:(x::cs).Nodup
inductive AtAll (ns:List (Str×Bool))(xs:List (Option X)):List Str→List X→Prop
 |nil:AtAll ns xs [] []
 |cons {n ns' y ys}:At ns xs n true y→AtAll ns xs ns' ys→AtAll ns xs (n::ns') (y::ys)
noncomputable abbrev cns (x:Str) (cs:List Str):List (Str×Bool):=(x,false)::cs.map fun n=>(n,true)
theorem AtAll.vals {own:List Addr}{h:Heap}{f g:Str→Bool→Option Value}{ns:List (Str×Bool)}{xs:List (Option X)}{cs:List Str}{ys:List X}(a:AtAll ns xs cs ys)(hg:∀ n∈cs,g n true=f n true)(V:Vals own h f ns xs):Vals own h g (cs.map fun n=>(n,true)) (ys.map some):=by
 induction a with
 |nil=>trivial
 |cons a _ ih=>
  refine ⟨fun y e=>?_,ih fun n hn=>hg n (.tail _ hn)⟩
  cases e
  refine o11 (a.val V) fun v h1 h2=>?_
  exact ⟨v,(hg _ (.head _)).trans h1,h2⟩
section
variable {w:World}{A:Around}{env:Env}{ns:List (Str×Bool)}{xs xs':List (Option X)}{x:X}{ds:List PyData}
theorem Kps.skip {h0 h h':Heap}{a:Addr}(n:h0.get? a=none)(s:∀ b o,b≠a→h.get? b=some o→h'.get? b=some o)(k:Kps h0 h):Kps h0 h':=fun b o e=>s b o (fun q=>by rw [q,n] at e;cases e) (k b o e)
theorem J5d {h h':Heap}{own own':List Addr}(k:Kps h h')(n:∀ b∈own',b∉own→h.get? b=none):Kps (hideAll h own) (hideAll h' own'):=fun b o e=>by
 have e1:=of_hideAll _ e
 have nb:b∉own:=fun hb=>by rw [hideAll_none _ hb] at e;cases e
 exact hideAll_get _ (k b o e1) fun hm=>by rw [n b hm nb] at e1;cases e1
theorem J3d {h h':Heap}{a:Addr}{own:List Addr}(m:a∈own)(s:∀ b o,b≠a→h.get? b=some o→h'.get? b=some o):Kps (hideAll h own) (hideAll h' own):=J0e (fun b o nb e=>s b o (fun q=>nb (q▸m)) e) fun _ hb=>hb
theorem Alive.skip {h h':Heap}{a:Addr}{own:List Addr}{o}(A:Alive own h)(s:∀ b o,b≠a→h.get? b=some o→h'.get? b=some o)(e:h'.get? a=some o):Alive own h':=fun b hb=>by
 by_cases q:b=a
 ·exact ⟨o,q▸e⟩
 ·refine o10 (A b hb) fun o' e'=>?_;exact ⟨o',s b o' q e'⟩
theorem J7n {k i n:Nat}(h:k+i=n+1)(l:i<n):k - 1<k∧k - 1+(i+1)=n+1:=by
 have hp:0<k:=Nat.pos_of_ne_zero fun e=>by rw [e,Nat.zero_add] at h;exact Nat.lt_irrefl n (Nat.lt_trans (h▸Nat.lt_succ_self n) l)
 exact ⟨Nat.sub_lt hp Nat.one_pos,(Nat.add_right_comm (k - 1) i 1).trans ((congrArg (· + i) (Nat.sub_add_cancel hp)).trans h)⟩
theorem nmem {b a:Addr}{l:List Addr}(h:b∈l)(n:a∉l):b≠a:=fun q=>n (q▸h)
theorem J9f {elt iter:Expr}{n:Str}{px:Pos}{ifs:List Expr}{scope:Scope}{cl:List (Str×Addr)}{pos:Pos}{cs:List Str}{ys:List X}{own:List Addr}{s1 s2:Shared}{I:Addr}{fp:List Addr}{P:Nat→Value→Prop}{St:Nat→Heap→Prop}
  {E:Value→Shared→Prop} {RR:Value→Addr→Result→Shared→Prop} (f:PyData→Option PyData)
  (hh:A.handled=none) (K:CompOk env scope cl n cs) (F:Frm own env ns xs s1.heap) (C:Cx w own s1.heap) (W:ItW w own s1 s2 ds I fp P St) (hat:AtAll ns xs cs ys) (hno:(ys.map some).all J3k=true) (hsz:ds.length≤1000)
  (ht:∀ C' d,d∈ds→EvI w A (compEnvC scope cl C' env) (cns n cs) (some (.d d)::ys.map some) ifs (f d).isSome)
  (he:∀ C' d z,d∈ds→f d=some z→Ev w A (compEnvC scope cl C' env) (cns n cs) (some (.d d)::ys.map some) elt (.d z))
  (hR:∀ D C' h' tk m',s1.heap.get? D=none→s1.heap.get? C'=none→D≠C'→h'.Ns C' m'→Kps s1.heap h'→(∀ h'',Heap.SameBut C' h' h''→XIn own h'' (.ref D) (PL (ds.filterMap f))∧Kps s1.heap h'')→RR (.ref D) C' (.ok .next) {s2 with heap:=h',toks:=tk}) :
  wpAny (model PW w) A (newList []) (fun acc s₃=>wpAny (model PW w) A (newFunctionEnv scope env.globals cl [] env.qual none .none (some env)) (fun cenv s₄=>
   codeAny (model PW w) A (.compStart (.ListComp elt [⟨.Name n px,iter,ifs,0⟩] scope pos) 0 (.ref I) acc {cenv with scope:=relabel scope env}) (RR acc cenv.locals) s₄) E s₃) E s2:=by
 have hk2:=Kee.kps W.keeps
 refine wpAny_newObj_type (wpAny_newFunctionEnv K.cell (by intro y hy;simp at hy) (fun h₁ hns₁ hsb₁=>?_) K.kind)
 dsimp only at hns₁ hsb₁ ⊢
 generalize hH2:s2.heap.push {cls:=.type "list",dict:=none,data:=.seq ([]:List Value).toArray}=H2 at hns₁ hsb₁ ⊢
 have hCz:H2.objs.size=s2.heap.objs.size+1:=by rw [← hH2,Heap.size_push]
 skip
 obtain ⟨D,hD⟩:∃ D:Nat,D=s2.heap.objs.size:=⟨_,rfl⟩
 obtain ⟨C',hCe⟩:∃ C':Nat,C'=H2.objs.size:=⟨_,rfl⟩
 skip
 rw [← hCe] at hns₁ hsb₁ hCz ⊢
 rw [← hD] at hCz ⊢
 have hDlt:D<C':=by rw [hCz];exact Nat.lt_succ_self _
 have hDC:D≠C':=Nat.ne_of_lt hDlt
 have lt2:∀ {b o},s2.heap.get? b=some o→(b:Nat)<D:=fun {b o} e=>hD▸Heap.lt_size e
 have old:Kps s2.heap h₁:=fun b o e=>by
  have:=lt2 e
  exact hsb₁.extBut b o (Nat.ne_of_lt (Nat.lt_trans this hDlt)) (Heap.get?_push_of_some _ (hH2▸Heap.get?_push_of_some _ e))
 have old1:Kps s1.heap h₁:=hk2.trans old
 have nlt:∀ {b:Nat},D≤b→s2.heap.get? b=none:=fun {b} q=>Heap.get?_none_of_le (hD▸q)
 have D2:s2.heap.get? D=none:=nlt (Nat.le_refl _)
 have C2:s2.heap.get? C'=none:=nlt (Nat.le_of_lt hDlt)
 have Dn:=J0q hk2 D2
 have Cn:=J0q hk2 C2
 have hI:=W.new
 refine o10 W.alive fun oI hoI=>?_
 have ltI:=lt2 hoI
 let own3:=D::C'::I::own
 have mI:I∈own3:=.tail _ (.tail _ (.head _))
 have mC:C'∈own3:=.tail _ (.head _)
 have mD:D∈own3:=.head _
 have hh1:Kps (hideAll s1.heap own) (hideAll h₁ own3):=J5d old1 (List.forall_mem_cons.2 ⟨fun _=>Dn,List.forall_mem_cons.2 ⟨fun _=>Cn,List.forall_mem_cons.2 ⟨fun _=>hI,fun _ hb n=>absurd hb n⟩⟩⟩)
 have hh2:Kps (hideAll s2.heap (I::own)) (hideAll h₁ own3):=J5d old (List.forall_mem_cons.2 ⟨fun _=>D2,List.forall_mem_cons.2 ⟨fun _=>C2,fun _ hb n=>absurd hb n⟩⟩)
 have hacc:h₁.PlainList D #[]:=⟨_,hsb₁.extBut _ _ hDC (Heap.get?_push_of_some _ (hH2▸hD▸Heap.get?_push_size _ rfl))⟩
 have hst₁:St 0 h₁:=(W.walks A hh).frame _ _ _ W.st fun b _ o e=>old b o e
 skip
 refine o31 (id hns₁) fun oC _ _ hoC _=>?_
 skip
 have al1:Alive own3 h₁:=List.forall_mem_cons.2 ⟨hacc.elim fun _ e=>⟨_,e⟩,List.forall_mem_cons.2 ⟨⟨_,hoC⟩,List.forall_mem_cons.2 ⟨⟨_,old _ _ hoI⟩,C.alive.keeps old1⟩⟩⟩
 skip
 refine o22 F.vars fun m cm fa fb fc=>?_
 skip
 have hcl:∀ {k c},cl.lookup k=some c→env.cells.lookup k=some c:=fun {k c} e=>K.cls _ (mem_of_lookup e)
 have cellE:∀ {k c},cl.lookup k=some c→∃ o,s1.heap.get? c=some o:=fun {k c} e=>by refine o11 (fb k c (hcl e)) fun o e _=>?_;exact ⟨o,e⟩
 have cellC:∀ {k c},cl.lookup k=some c→c≠C':=fun {k c} e q=>by refine o10 (cellE e) fun o h=>?_;rw [q,Cn] at h;exfalso;cases h
 have capart:cl.Pairwise fun a b=>a.2≠b.2:=by
  have:∀ {l:List (Str×Addr)},(∀ p∈l,env.cells.lookup p.1=some p.2)→(l.map (·.1)).Nodup→l.Pairwise fun a b=>a.2≠b.2:=by
   intro l
   induction l with
   |nil=>intros;exact .nil
   |cons p l ih=>
    intro h1 h2
    rw [List.map_cons,List.nodup_cons] at h2
    refine .cons (fun q hq e=>h2.1 ?_) (ih (fun q hq=>h1 q (.tail _ hq)) h2.2)
    have e1:=mem_of_lookup (h1 p (.head _))
    have e2:=mem_of_lookup (h1 q (.tail _ hq))
    rw [← e] at e2
    have:=name_of_addr F.apart.1 e1 e2
    rw [this];exact List.mem_map_of_mem (f:=(·.1)) hq
  exact this K.cls K.cln
 let cenv:=compEnvC scope cl C' env
 have frame:∀ {h:Heap} {mm},Kps s1.heap h→Kps (hideAll h₁ own3) (hideAll h own3)→h.Ns C' mm→∀ y,(∀ x,y=some x→∃ v,mm n=some v∧XIn own3 h v x)→Frm own3 cenv (cns n cs) (y::ys.map some) h:=by
  intro h mm hk hkh hn y hy
  refine ⟨⟨K.kind,F.st.2⟩,fun p hp=>?_,?_,⟨by simp [own3,cenv,compEnvC],fun k c e=>⟨?_,cellC e⟩⟩,⟨capart,K.cln⟩,fun p hp q=>?_,mm,cm,hn,fun k c e=>(fb k c (hcl e)).keeps hk,?_⟩
  ·rcases mCn hp with rfl|hp
   ·exact lookup_relabel_local K.loc
   ·refine o11 (mMp hp) fun k hk' e9a=>?_;subst e9a
    exact K.caps k hk'
  ·show (n::(cs.map fun n=>(n,true)).map (·.1)).Nodup
   have:(cs.map fun n=>(n,true)).map (·.1)=cs:=by simp [List.map_map,Function.comp_def]
   rw [this];exact K.nodup
  ·exact .tail _ (.tail _ (.tail _ (F.mine.2 k c (hcl e)).1))
  ·rcases mCn hp with rfl|hp
   ·exfalso;cases q
   ·refine o11 (mMp hp) fun k hk' e9a=>?_;subst e9a
    exact K.csin k hk'
  ·refine ⟨fun z e=>hy z e,?_⟩
   refine hat.vals (f:=fun n b=>if b then cm n else m n) (fun _ _=>rfl) ?_
   exact fc.mono (fun v x r=>r.to hk (hh1.trans hkh)) fun _ _=>rfl
 have W1:=W.walks A hh
 have loop:codeAny (model PW w) A (.compLoop (.ListComp elt [⟨.Name n px,iter,ifs,0⟩] scope pos) 0 (.ref I) (.ref D) cenv) (RR (.ref D) C') {s2 with heap:=h₁,toks:=s2.toks+([]:List (Str×Value)).length}:=by
  let Iv:Nat→Shared→Prop:=fun k s'=>∃ i h tk mm vs,k+i=ds.length+1∧i≤ds.length∧s' = {s2 with heap:=h,toks:=tk}∧St i h∧h.Ns C' mm∧h.PlainList D vs∧RdAll own3 h vs.toList ((ds.take i).filterMap f) ∧
   Kps s1.heap h∧Kps (hideAll h₁ own3) (hideAll h own3)∧Alive own3 h
  refine codeAny_compLoop_tests Iv ?_ (ds.length+1) (xi5 0 h₁ _ _ (#[]) ⟨rfl,Nat.zero_le _,rfl,hst₁,hns₁,hacc,by simp;exact .nil,old1,fun _ _ e=>e,al1⟩)
  intro k s' h9
  refine o57 h9 fun i h tk mm vs hki hile e9a hst hn hpl hrd r9z=>?_;obtain ⟨hk,hkh,hal⟩:=r9z;subst e9a;clear h9
  skip
  have hCf:C'∉fp:=fun hm=>by
   have:=W.lt _ hm;rw [← hD] at this;exact Nat.lt_asymm hDlt this
  have hDf:D∉fp:=fun hm=>by
   have:=W.lt _ hm;rw [← hD] at this;exact Nat.lt_irrefl _ this
  have hCI:C'≠I:=Nat.ne_of_gt (Nat.lt_trans ltI hDlt)
  have hDI:D≠I:=Nat.ne_of_gt ltI
  by_cases hlt:i<ds.length
  ·refine W1.item i _ _ _ hlt hst fun v h3 tk3 hv st3 hb3=>?_
   refine o11 (W.items i v hv) fun d hd rd=>?_
   have hmem:d∈ds:=List.mem_of_getElem? hd
   have hb3':∀ b o,b≠I→h.get? b=some o→h3.get? b=some o:=fun b o nb e=>hb3 b o (by simpa using nb) e
   refine wpAny_assign_Name (wpAny_storeName_local (m:=mm) (lookup_relabel_local K.loc) (hn.at' fun o e=>hb3' _ o hCI e) (fun h4 hn4 hs4=>?_) (by show (Bool.or _ _)=false;simp [cenv,compEnvC,relabel,K.kind]))
   have hs4':∀ b o,b≠C'→h3.get? b=some o→h4.get? b=some o:=fun b o nb e=>(hs4.2 b nb).trans e
   have hk4:Kps s1.heap h4:=(hk.skip hI hb3').skip Cn hs4'
   have hst4:St (i+1) h4:=W1.frame _ _ _ st3 fun b hb o e=>hs4' b o (nmem hb hCf) e
   have hkh4':Kps (hideAll h own3) (hideAll h4 own3):=(J3d mI hb3').trans (J3d mC hs4')
   have hkh4:=hkh.trans hkh4'
   have hpl4:h4.PlainList D vs:=hpl.at fun o e=>hs4' _ o hDC (hb3' _ o hDI e)
   skip
   refine o31 (id hn4) fun oc4 _ _ ec4 _=>?_
   refine o11 (W.lg _ _ st3) fun oi4 ei4 _=>?_
   skip
   have hal4:Alive own3 h4:=(hal.skip hb3' ei4).skip hs4' ec4
   have rd4:Rd own3 h4 v d:=rd.mono (hh2.trans hkh4)
   have F4:Frm own3 cenv (cns n cs) (some (.d d)::ys.map some) h4:=frame hk4 hkh4 hn4 (some (.d d)) fun x e=>by cases e;exact ⟨v,by simp,rd4⟩
   have C4:Cx w own3 h4:=C.to (hh1.trans hkh4) hal4
   have htake:(ds.take (i+1)).filterMap f=(ds.take i).filterMap f++(f d).toList:=by
    have h1:ds.take (i+1)=ds.take i++[d]:=by
     rw [List.take_add_one,hd];rfl
    rw [h1,List.filterMap_append]
    cases q:f d<;>simp [q]
   refine wMo (ht C' d hmem own3 _ F4 C4) (fun ok s5 q=>?_) fun _ _ q=>q.elim
   skip
   refine o01 q fun e9a k5=>?_;subst e9a;clear q
   refine o21 k5 fun h5 tk5 e9a k5=>?_;subst e9a;clear k5
   skip
   have k5:Kps h4 h5:=k5
   have hst5:St (i+1) h5:=W1.frame _ _ _ hst4 fun b hb o e=>k5 b o e
   cases hf:f d with
   |none=>
    simp only [Option.isSome_none,Bool.false_eq_true,if_false]
    refine ⟨k - 1,(J7n hki hlt).1,i+1,h5,tk5,_,vs,(J7n hki hlt).2,hlt,rfl,hst5,hn4.keeps k5,hpl4.at fun o e=>k5 _ o e,?_,hk4.trans k5,hkh4.trans (J0u k5),hal4.keeps k5⟩
    rw [htake,hf]
    simpa using (hrd.mono hkh4').keeps k5
   |some z=>
    simp only [Option.isSome_some,if_true]
    refine wMo (he C' d z hmem hf own3 {s2 with heap:=h5,toks:=tk5} (F4.keeps k5) (C4.keeps k5)) (fun y s6 q=>?_) fun _ _ q=>q.elim
    skip
    refine o01 q fun hy k6=>?_;clear q
    refine o21 k6 fun h6 tk6 e9a k6=>?_;subst e9a;clear k6
    skip
    have k6:Kps h5 h6:=k6
    have hy:Rd own3 h6 y z:=hy
    have hpl6:h6.PlainList D vs:=hpl4.at fun o e=>k6 _ o (k5 _ o e)
    have hvs:vs.size≤sizeLine:=J0l (lTr (by rw [← Array.length_toList,hrd.length];exact List.length_filterMap_le _ _) (lTr (List.length_take_le' _ _) hsz))
    refine wpAny_list_append_plain (hsz:=hvs) hpl6 fun h7 hl7 hs7=>?_
    have hs7':∀ b o,b≠D→h6.get? b=some o→h7.get? b=some o:=fun b o nb e=>(hs7.2 b nb).trans e
    have hkh7:=J3d mD hs7'
    have hk46:Kps h4 h6:=k5.trans k6
    refine ⟨k - 1,(J7n hki hlt).1,i+1,h7,tk6,_,vs.push y,(J7n hki hlt).2,hlt,rfl,W1.frame _ _ _ hst5 (fun b hb o e=>hs7' b o (nmem hb hDf) (k6 _ _ e)),(hn4.keeps hk46).sameBut hs7 (Ne.symm hDC),hl7,?_,
     (hk4.trans hk46).skip Dn hs7',(hkh4.trans (J0u hk46)).trans hkh7,hl7.elim fun _ e=>(hal4.keeps hk46).skip hs7' e⟩
    ·rw [htake,hf,Array.toList_push]
     exact (((hrd.mono hkh4').keeps hk46).mono hkh7).append (.cons (hy.mono hkh7) .nil)
  ·have hin:i=ds.length:=Nat.le_antisymm hile (Nat.le_of_not_lt hlt)
   subst hin
   refine W1.done _ _ _ hst fun h3 tk3 hb3=>?_
   have hb3':∀ b o,b≠I→h.get? b=some o→h3.get? b=some o:=fun b o nb e=>hb3 b o (by simpa using nb) e
   have hpl3:h3.PlainList D vs:=hpl.at fun o e=>hb3' _ o hDI e
   refine hR D C' h3 tk3 mm Dn Cn hDC (hn.at' fun o e=>hb3' _ o hCI e) (hk.skip hI hb3') fun h'' hs=>?_
   have hs':∀ b o,b≠C'→h3.get? b=some o→h''.get? b=some o:=fun b o nb e=>(hs.2 b nb).trans e
   refine ⟨?_,(hk.skip hI hb3').skip Cn hs'⟩
   refine o10 hpl3 fun kk e=>?_;clear hpl3
   have nown:D∉own:=fun hb=>by refine o10 (C.alive D hb) fun o e=>?_;rw [Dn] at e;exfalso;cases e
   refine PL.in nown ⟨kk,hs' _ _ hDC e⟩ ?_
   rw [List.take_length] at hrd
   exact hrd.mono ((J3d mI hb3').trans ((J3d mC hs').trans (J0e (fun _ _ _ e=>e) fun _ hb=>.tail _ (.tail _ (.tail _ hb)))))
 have e:=codeAny_compStart_list (iter:=iter) loop (W1.self 0 _ _ _ hst₁ loop)
 exact e
theorem Z4i {elt iter:Expr}{n:Str}{px:Pos}{ifs:List Expr}{scope:Scope}{cl:List (Str×Addr)}{pos:Pos}{cs:List Str}{ys:List X}(f:PyData→Option PyData)(K:CompOk env scope cl n cs)
  (hh:A.handled=none) (hi:Ev w A env ns xs iter x) (ib:Itb w A x ds) (hat:AtAll ns xs cs ys) (hno:(ys.map some).all J3k=true) (hsz:ds.length≤1000)
  (ht:∀ C' d,d∈ds→EvI w A (compEnvC scope cl C' env) (cns n cs) (some (.d d)::ys.map some) ifs (f d).isSome)
  (he:∀ C' d z,d∈ds→f d=some z→Ev w A (compEnvC scope cl C' env) (cns n cs) (some (.d d)::ys.map some) elt (.d z))
  (hs:∀ x,foldedSetIterable iter env x=pure x):Ev w A env ns xs (.ListComp elt [⟨.Name n px,iter,ifs,0⟩] scope pos) (PL (ds.filterMap f)):=by
 intro own s F C
 rw [eval_ListComp]
 refine wpAny_comprehension_free (use:=none) rfl hs K.clos K.kind K.names (J0 (hi own s F C) fun v s1 hv k1=>?_)
 have F1:=F.keeps (Kee.kps k1)
 have C1:=C.keeps (Kee.kps k1)
 refine wMo (ib own s1 v C1 hv) (fun it s2 q=>?_) fun _ _ q=>q.elim
 skip
 refine o41 q fun I fp P St e9a W=>?_;subst e9a;clear q
 skip
 refine J9f (RR:=fun acc C=>compPost (model PW w) A NoE none (K2e own s (PL (ds.filterMap f))) acc C) f hh K F1 C1 W hat hno hsz ht he fun D C' h' tk m' hD hC hDC hn hk hfin=>⟨m',hn,fun h'' hs''=>?_⟩
 refine o01 (hfin h'' hs'') fun r1 r2=>?_
 exact ⟨r1,Kee.trans k1 (let ⟨_,_,e,_⟩:=W.keeps;⟨h'',tk,by rw [e],r2⟩)⟩
theorem J6e {elt iter:Expr}{n y:Str}{px py:Pos}{ifs:List Expr}{scope:Scope}{cl:List (Str×Addr)}{pos spos:Pos}{cs:List Str}{ys:List X}(f:PyData→Option PyData)(K:CompOk env scope cl n cs)
  (hsw:swapsWith (.ListComp elt [⟨.Name n px,iter,ifs,0⟩] scope pos) (some (.Name y py)) spos.line env=pure true) (p:Put ns xs y false (some (PL (ds.filterMap f))) xs')
  (hh:A.handled=none) (hi:Ev w A env ns xs iter x) (ib:Itb w A x ds) (hat:AtAll ns xs cs ys) (hno:(ys.map some).all J3k=true) (hsz:ds.length≤1000)
  (ht:∀ C' d,d∈ds→EvI w A (compEnvC scope cl C' env) (cns n cs) (some (.d d)::ys.map some) ifs (f d).isSome)
  (he:∀ C' d z,d∈ds→f d=some z→Ev w A (compEnvC scope cl C' env) (cns n cs) (some (.d d)::ys.map some) elt (.d z))
  (hs:∀ x,foldedSetIterable iter env x=pure x):Ex1 w A env ns xs (.Assign [.Name y py] (.ListComp elt [⟨.Name n px,iter,ifs,0⟩] scope pos) spos) .next xs':=by
 intro own s F C
 rw [exec_Assign_Name_used _ _ _ _ hsw]
 refine wBn (wpAny_standAt (wBn ?_))
 show wpAny _ A (do let _ ← comprehension (.ListComp elt [⟨.Name n px,iter,ifs,0⟩] scope pos) scope env _ (newList []) false (eval iter env) (some (assign (.Name y py) env))) _ _ s
 refine wBn (wMo (wpAny_comprehension_free (use:=some (assign (.Name y py) env)) (Q:=fun _ s'=>FlIn own s'.heap .next .next∧Frm own env ns xs' s'.heap∧Chg own env s s') (E:=NoE) rfl hs K.clos K.kind K.names
  (J0 (hi own s F C) fun v s1 hv k1=>?_)) (fun _ s' hq=>wPu (wPu hq)) fun _ _ e=>e)
 have F1:=F.keeps (Kee.kps k1)
 have C1:=C.keeps (Kee.kps k1)
 refine wMo (ib own s1 v C1 hv) (fun it s2 q=>?_) fun _ _ q=>q.elim
 skip
 refine o41 q fun I fp P St e9a W=>?_;subst e9a;clear q
 skip
 refine J9f (RR:=fun acc C=>compPost (model PW w) A NoE (some (assign (.Name y py) env)) (fun _ s'=>FlIn own s'.heap .next .next∧Frm own env ns xs' s'.heap∧Chg own env s s') acc C) f hh K F1 C1 W hat hno hsz ht he fun D C' h' tk m' hD hC hDC hn hk hfin=>?_
 show wpAny _ A (assign (.Name y py) env (.ref D)) _ _ _
 have hCo:C'∉own:=fun hb=>by refine o10 (C1.alive _ hb) fun o e=>?_;rw [hC] at e;cases e
 have hCf:C'∉frs env:=fun hb=>by
  refine o11 (F1.notF _ hb) fun o e _=>?_;rw [hC] at e;cases e
 have r1:XIn (C'::own) h' (.ref D) (PL (ds.filterMap f)):=(hfin (h'.hide C') ⟨Heap.hide_size _ _,fun b nb=>Heap.hide_ne _ nb⟩).1
 have kk:Kps s.heap h':=fun b o e=>hk b o (Kee.kps k1 b o e)
 have hh1:Kps (hideAll s1.heap own) (hideAll h' (C'::own)):=J5b hk hC
 skip
 refine o31 (id hn) fun oC _ _ hoC _=>?_
 skip
 have F2:Frm (C'::own) env ns xs h':=F1.to hk hh1 fun b hb=>.tail _ hb
 refine wpAny_assign_Name (J3j (s:={s2 with heap:=h',toks:=tk}) (x:=PL (ds.filterMap f)) F2 r1 p fun h4 tk4 F4 S4=>?_)
 have hn4:h4.Ns C' m':=hn.at' fun o e=>S4.but C' o hCf e
 refine ⟨m',hn4,fun h'' hs=>?_⟩
 have hs':∀ b o,b≠C'→h4.get? b=some o→h''.get? b=some o:=fun b o nb e=>(hs.2 b nb).trans e
 have hh4:Kps (hideAll h4 (C'::own)) (hideAll h'' own):=by
  intro b o e
  have nb:b∉C'::own:=fun hb=>by rw [hideAll_none _ hb] at e;cases e
  exact hideAll_get _ (hs' b o (fun q=>nb (by simp [q])) (of_hideAll _ e)) fun hb=>nb (.tail _ hb)
 skip
 refine o12 (J7k hn4) fun oN hN nf1 nf2=>?_
 skip
 have leave:∀ v x,XIn (C'::own) h4 v x→XIn own h'' v x:=fun v x r=>r.mst hh4 fun a _ o e k=>hs' a o (by
  rintro rfl
  rw [hN] at e;cases e;exact k.no ⟨nf1,nf2⟩) e
 have frC:∀ b∈frs env,b≠C':=fun b hb q=>hCf (q▸hb)
 refine ⟨trivial,?_,?_⟩
 ·skip
  refine o22 F4.vars fun m cm a b c=>?_
  skip
  refine ⟨F4.st,F4.kinds,F4.nodup,F.mine,F4.apart,F4.has,m,cm,a.at' fun o e=>hs' _ o (frC _ (.head _)) e,fun n c' e=>?_,c.mono leave fun _ _=>rfl⟩
  skip
  refine o11 (b n c' e) fun o e1 e2=>?_
  skip
  exact ⟨o,hs' _ o (frC _ (.tail _ (List.mem_map_of_mem (f:=(·.2)) (mem_of_lookup e)))) e1,e2⟩
 ·refine (Chg.of_keeps k1).trans ⟨(xi2 h'' tk4 (?_)),fun b o nb e=>hs' b o (by rintro rfl;rw [hC] at e;cases e) (S4.but b o nb (hk b o e)),fun v x r=>leave v x (S4.up v x (r.to hk hh1)),hh1.trans (S4.hid.trans hh4),fun al b hb=>?_⟩
  ·refine o21 W.keeps fun _ _ e _=>?_;rw [e]
  ·have al':Alive (C'::own) h':=fun b hb=>by
    rcases mCn hb with rfl|hb
    ·exact ⟨_,hoC⟩
    ·refine o10 (al b hb) fun o e=>?_;exact ⟨o,hk _ _ e⟩
   skip
   refine o10 (S4.alive al' b (.tail _ hb)) fun o e=>?_
   skip
   exact ⟨o,hs' b o (fun q=>hCo (q▸hb)) e⟩
end
structure Ok (p:Prop):Prop where
 h:p
structure VE (w:World)(A:Around)(env:Env)(ns:List (Str×Bool))(xs:List (Option X))(e:Expr)(x:X):Prop where
 h:Ev w A env ns xs e x
structure VT (w:World)(A:Around)(env:Env)(ns:List (Str×Bool))(xs:List (Option X))(e:Expr)(b:Bool):Prop where
 h:EvT w A env ns xs e b
structure VL (w:World)(A:Around)(env:Env)(ns:List (Str×Bool))(xs:List (Option X))(es:List Expr)(ys:List X):Prop where
 h:EvL w A env ns xs es ys
structure VG (w:World)(A:Around)(env:Env)(ns:List (Str×Bool))(xs:List (Option X))(es:List Expr)(ys:List X):Prop where
 h:J6r w A env ns xs es ys
structure VA (op:BoolOp)(w:World)(A:Around)(env:Env)(ns:List (Str×Bool))(xs:List (Option X))(es:List Expr)(b:Bool):Prop where
 h:EvA w op A env ns xs es b
structure VI (w:World)(A:Around)(env:Env)(ns:List (Str×Bool))(xs:List (Option X))(es:List Expr)(b:Bool):Prop where
 h:EvI w A env ns xs es b
structure VQ (w:World)(A:Around)(env:Env)(ns:List (Str×Bool))(xs:List (Option X))(e:Option Expr)(i:Option Int):Prop where
 h:EvP w A env ns xs e i
structure V2 (w:World)(A:Around)(f:Value→Value→Sem Value)(x y z:X):Prop where
 h:Pr w A [x,y] (P2 f) z
structure V1 (w:World)(A:Around)(f:Value→Sem Value)(x z:X):Prop where
 h:Pr w A [x] (P1 f) z
structure VF (w:World)(A:Around)(f:Value)(xs:List X)(z:X):Prop where
 h:Fn w A f xs z
structure VX (w:World)(A:Around)(env:Env)(ns:List (Str×Bool))(xs:List (Option X))(ss:List Stmt)(f:Fl)(xs':List (Option X)):Prop where
 h:Ex w A env ns xs ss f xs'
structure VS (w:World)(A:Around)(env:Env)(ns:List (Str×Bool))(xs:List (Option X))(st:Stmt)(f:Fl)(xs':List (Option X)):Prop where
 h:Ex1 w A env ns xs st f xs'
structure VB (w:World)(A:Around)(x:X)(ds:List PyData):Prop where
 h:Itb w A x ds
structure VU (w:World)(A:Around)(env:Env)(ns:List (Str×Bool))(xs:List (Option X))(t:Expr)(d:PyData)(xs':List (Option X)):Prop where
 h:Tg w A env ns xs t d xs'
structure Gn (env:Env)(n:Str):Prop where
 h:env.kindOf n=some .globalImplicit
section
variable {w:World}{A:Around}{env:Env}{ns:List (Str×Bool)}{xs xs' xs'':List (Option X)}{e l r:Expr}{x y z:X}{pos npos:Pos}{k:Nat}{es:List Expr}{ys:List X}{b c:Bool}{st:Stmt}{ss tt:List Stmt}{f:Fl}{n:Str}{i:Int}{t:Str}{op:CmpOp}{o:Operator}{u:UnaryOp}
theorem Rm.dl {n A}(r:Rm n A):A.depth<recursionLimit:=by have:=r.dp;simp only [recursionLimit];exact Nat.lt_of_le_of_lt (Nat.le_of_add_right_le this) (by decide)
theorem w_int:VE w A env ns xs (.Constant (.int i) k pos) (I i):=⟨Z6y⟩
theorem w_str:VE w A env ns xs (.Constant (.str t) k pos) (S t):=⟨Z6m⟩
theorem w_none:VE w A env ns xs (.Constant .none k pos) N:=⟨Z3s⟩
theorem w_bool:VE w A env ns xs (.Constant (.bool b) k pos) (B b):=⟨Z1f⟩
theorem J2p (hd:Ok ((n == ("__debug__" : Str))=false))(a:At ns xs n b x):VE w A env ns xs (.Name n pos) x:=⟨Z2i a hd.h⟩
theorem Z6f {v}(hk:Gn env n)(hd:Ok ((n == ("__debug__" : Str))=false))(hm:Ok (∀ P,nsIn (KF P) mainGlobals n=some (some v))):VE w A env ns xs (.Name n pos) (.v v):=⟨Z2s hk.h hm.h hd.h⟩
theorem J2s {v}(hk:Gn env n)(hd:Ok ((n == ("__debug__" : Str))=false))(hm:Ok (∀ P,nsIn (KF P) mainGlobals n=some none))(hb:Ok (bootBuiltins n=some v))(hn:Ok ((n == ("__name__" : Str))=false)):VE w A env ns xs (.Name n pos) (.v v):=
 ⟨Z5o hk.h hm.h hb.h (by simpa using hn.h) hd.h⟩
theorem w_bin (hl:VE w A env ns xs l x)(hr:VE w A env ns xs r y)(p:V2 w A (binaryOp o) x y z):VE w A env ns xs (.BinOp l o r pos) z:=⟨K7k hl.h hr.h p.h⟩
theorem w_cmp (hm:Ok (behindInMarks op r=false))(hl:VE w A env ns xs l x)(hr:VE w A env ns xs r y)(p:V2 w A (compareOp op) x y z):VE w A env ns xs (.Compare l [op] [r] pos) z:=⟨Z7x hl.h hr.h p.h hm.h⟩
theorem wt_cmp (hm:Ok (behindInMarks op r=false))(hl:VE w A env ns xs l x)(hr:VE w A env ns xs r y)(p:V2 w A (compareOp op) x y (B b)):VT w A env ns xs (.Compare l [op] [r] pos) b:=⟨Z2p hl.h hr.h p.h hm.h⟩
theorem w_un (hl:VE w A env ns xs l x)(p:V1 w A (unaryOp u) x z):VE w A env ns xs (.UnaryOp u l pos) z:=⟨Z0f hl.h p.h⟩
theorem wl_nil:VL w A env ns xs [] []:=⟨Z1m⟩
theorem wl_cons (he:Ok (nst e=true))(h:VE w A env ns xs e x)(t:VL w A env ns xs es ys):VL w A env ns xs (e::es) (x::ys):=⟨K8p h.h t.h (J8q he.h)⟩
theorem w_tuple {ds}(h:VL w A env ns xs es ys)(q:Ds ys ds)(hsz:Ok (Nat.ble ds.length 1000=true)):VE w A env ns xs (.Tuple es k pos) (T ds):=⟨K7p h.h q (lBt hsz.h)⟩
theorem w_list {ds}(h:VL w A env ns xs es ys)(q:Ds ys ds)(hsz:Ok (Nat.ble ds.length 1000=true)):VE w A env ns xs (.List es pos) (L ds):=⟨Z2d h.h q (lBt hsz.h)⟩
theorem w_sub (hl:VE w A env ns xs l x)(hr:VE w A env ns xs r y)(p:V2 w A (subscriptTail l r) x y z):VE w A env ns xs (.Subscript l r pos) z:=⟨Z7m hl.h hr.h p.h⟩
theorem wq_none:VQ w A env ns xs none none:=⟨trivial⟩
theorem wq_some (h:VE w A env ns xs e (I i)):VQ w A env ns xs (some e) (some i):=⟨h.h⟩
theorem w_slice {lo hi el eu}(h1:VQ w A env ns xs el lo)(h2:VQ w A env ns xs eu hi):VE w A env ns xs (.Slice el eu none pos) (.p (SlP lo hi)):=⟨Z0b h1.h h2.h⟩
theorem wg_cons (hp:Ok ((e::es).all nst=true))(h:VL w A env ns xs (e::es) ys):VG w A env ns xs (e::es) ys:=⟨K5e h.h (K8o hp.h)⟩
theorem w_callf {f:Expr}{a:Addr}(hn:Ok (nAt f=true))(hf:VE w A env ns xs f (.v (.ref a)))(ha:VG w A env ns xs es ys)(hk:Ok (∀ P,J5 (KF P) a=true))(hc:VF w A (.ref a) ys z) :
  VE w A env ns xs (.Call f es [] pos) z:=⟨K3n hf.h ha.h hk.h hc.h hn.h⟩
theorem w_callb {f:Expr}{id:String}(hn:Ok (nAt f=true))(hf:VE w A env ns xs f (.v (.builtin id)))(ha:VG w A env ns xs es ys)(hc:VF w A (.builtin id) ys z) :
  VE w A env ns xs (.Call f es [] pos) z:=⟨K0b hf.h ha.h hc.h hn.h⟩
theorem w_callt {f:Expr}{T:String}(hn:Ok (nAt f=true))(hf:VE w A env ns xs f (.v (.type T)))(ha:VG w A env ns xs es ys)(hc:VF w A (.type T) ys z) :
  VE w A env ns xs (.Call f es [] pos) z:=⟨J9k hf.h ha.h hc.h hn.h⟩
theorem J9n {t:Expr}(ht:VT w A env ns xs t true)(h1:VE w A env ns xs l x):VE w A env ns xs (.IfExp t l r pos) x:=⟨Z7f ht.h (fun q=>h1.h) fun q=>(nomatch q)⟩
theorem K0c {t:Expr}(ht:VT w A env ns xs t false)(h1:VE w A env ns xs r x):VE w A env ns xs (.IfExp t l r pos) x:=⟨Z7f ht.h (fun q=>(nomatch q)) fun q=>h1.h⟩
theorem wa_and_nil:VA .And w A env ns xs [] true:=⟨K0f⟩
theorem wa_or_nil:VA .Or w A env ns xs [] false:=⟨K3o⟩
theorem J1s (h:VT w A env ns xs e b)(t:b=true→VA .And w A env ns xs es c):VA .And w A env ns xs (e::es) (b && c):=⟨Z4q h.h fun q=>(t q).h⟩
theorem J8k (h:VT w A env ns xs e b)(t:b=false→VA .Or w A env ns xs es c):VA .Or w A env ns xs (e::es) (b || c):=⟨Z6i h.h fun q=>(t q).h⟩
theorem J1f {op}(h:VA op w A env ns xs es b):VT w A env ns xs (.BoolOp op es pos) b:=⟨K8e h.h⟩
theorem wt_not (h:VT w A env ns xs e b):VT w A env ns xs (.UnaryOp .Not e pos) (!b):=⟨Z4o h.h⟩
theorem J0v (he:Ok (isTrue e env (eval e env)=(do let v ← eval e env;standAt e.pos;holding [v] (truthy v))))(h:VE w A env ns xs e (B b)):VT w A env ns xs e b:=⟨Z4v h.h he.h⟩
theorem VT.eq (h:VT w A env ns xs e b)(q:b=c):VT w A env ns xs e c:=q▸h
theorem VE.eq (h:VE w A env ns xs e x)(q:x=y):VE w A env ns xs e y:=q▸h
theorem J0c:VX w A env ns xs [] .next xs:=⟨Z5n⟩
theorem J0b (h:VS w A env ns xs st .next xs')(t:VX w A env ns xs' ss f xs''):VX w A env ns xs (st::ss) f xs'':=⟨Z1g h.h t.h⟩
theorem J0i (h:VS w A env ns xs st (.ret x) xs'):VX w A env ns xs (st::ss) (.ret x) xs':=⟨Z8u h.h⟩
theorem J0n (h:VE w A env ns xs e x):VS w A env ns xs (.Return (some e) pos) (.ret x) xs:=⟨K4p h.h⟩
theorem J0h (hs:Ok (swapsWith e (some (.Name n npos)) pos.line env=pure false))(h:VE w A env ns xs e x)(p:Put ns xs n c (some x) xs'):VS w A env ns xs (.Assign [.Name n npos] e pos) .next xs':=⟨K6i h.h p hs.h⟩
theorem V1b (ht:VT w A env ns xs e b)(h1:b=true→VX w A env ns xs ss f xs')(h2:b=false→VX w A env ns xs tt f xs'):VS w A env ns xs (.If e ss tt pos) f xs':=⟨Z2j ht.h (fun q=>(h1 q).h) fun q=>(h2 q).h⟩
theorem J2 (ht:VT w A env ns xs e true)(h1:VX w A env ns xs ss f xs'):VS w A env ns xs (.If e ss tt pos) f xs':=⟨Z2j ht.h (fun q=>h1.h) fun q=>(nomatch q)⟩
theorem J0g (ht:VT w A env ns xs e false)(h1:VX w A env ns xs tt f xs'):VS w A env ns xs (.If e ss tt pos) f xs':=⟨Z2j ht.h (fun q=>(nomatch q)) fun q=>h1.h⟩
theorem Z5i (hd:Ok ((n == ("__debug__" : Str))=false))(a:At ns xs n c x)(h:VE w A env ns xs e y)(p:V2 w A (inplaceOp o) x y z)(q:Put ns xs n c (some z) xs'):VS w A env ns xs (.AugAssign (.Name n npos) o e pos) .next xs':=⟨Z7b a h.h p.h q hd.h⟩
theorem J3o {d}(p:Put ns xs n c (some (.d d)) xs'):VU w A env ns xs (.Name n npos) d xs':=⟨Z2l p⟩
theorem wi_nil:VI w A env ns xs [] true:=⟨Z4k⟩
theorem wi_one {c:Expr}(h:VT w A env ns xs c b):VI w A env ns xs [c] b:=⟨Z4f h.h⟩
theorem J2t {elt iter:Expr}{n:Str}{px:Pos}{ifs:List Expr}{scope:Scope}{cl:List (Str×Addr)}{cs:List Str}{ys:List X}{ds:List PyData}(f:PyData→Option PyData)(K:CompOk env scope cl n cs)
  (hh:A.handled=none) (hi:VE w A env ns xs iter x) (ib:VB w A x ds) (hat:AtAll ns xs cs ys) (hno:Ok ((ys.map some).all J3k=true)) (hsz:ds.length≤1000)
  (ht:∀ C' d,d∈ds→VI w A (compEnvC scope cl C' env) (cns n cs) (some (.d d)::ys.map some) ifs (f d).isSome)
  (he:∀ C' d z,d∈ds→f d=some z→VE w A (compEnvC scope cl C' env) (cns n cs) (some (.d d)::ys.map some) elt (.d z))
  (hs:Ok (∀ x,foldedSetIterable iter env x=pure x)):VE w A env ns xs (.ListComp elt [⟨.Name n px,iter,ifs,0⟩] scope pos) (PL (ds.filterMap f)):=
 ⟨Z4i f K hh hi.h ib.h hat hno.h hsz (fun c d h=>(ht c d h).h) (fun c d z h q=>(he c d z h q).h) hs.h⟩
theorem J7q {elt iter:Expr}{n y:Str}{px py:Pos}{ifs:List Expr}{scope:Scope}{cl:List (Str×Addr)}{spos:Pos}{cs:List Str}{ys:List X}{ds:List PyData}(f:PyData→Option PyData)(K:CompOk env scope cl n cs)
  (hsw:swapsWith (.ListComp elt [⟨.Name n px,iter,ifs,0⟩] scope pos) (some (.Name y py)) spos.line env=pure true) (p:Put ns xs y false (some (PL (ds.filterMap f))) xs')
  (hh:A.handled=none) (hi:VE w A env ns xs iter x) (ib:VB w A x ds) (hat:AtAll ns xs cs ys) (hno:Ok ((ys.map some).all J3k=true)) (hsz:ds.length≤1000)
  (ht:∀ C' d,d∈ds→VI w A (compEnvC scope cl C' env) (cns n cs) (some (.d d)::ys.map some) ifs (f d).isSome)
  (he:∀ C' d z,d∈ds→f d=some z→VE w A (compEnvC scope cl C' env) (cns n cs) (some (.d d)::ys.map some) elt (.d z))
  (hs:Ok (∀ x,foldedSetIterable iter env x=pure x)):VS w A env ns xs (.Assign [.Name y py] (.ListComp elt [⟨.Name n px,iter,ifs,0⟩] scope pos) spos) .next xs':=
 ⟨J6e f K hsw p hh hi.h ib.h hat hno.h hsz (fun c d h=>(ht c d h).h) (fun c d z h q=>(he c d z h q).h) hs.h⟩
theorem J3e {t iter:Expr}{body:List Stmt}{ds:List PyData}(Inv:Nat→List (Option X))(k:Nat)(hh:A.handled=none)(hi:VE w A env ns xs iter x)(ib:VB w A x ds)(h0:Inv 0=xs)(hno:∀ i,i≤k→(Inv i).all J3k=true)
  (step:∀ i d,i<k→ds[i]? = some d→∃ xs1 g,VU w A env ns (Inv i) t d xs1∧(g = .next∨g = .cont)∧VX w A env ns xs1 body g (Inv (i+1)))
  (fin:(k=ds.length∧f = .next∧xs'=Inv k)∨∃ d xs1 z,ds[k]? = some d∧f = .ret z∧VU w A env ns (Inv k) t d xs1∧VX w A env ns xs1 body (.ret z) xs')
  (hs:Ok (∀ x,foldedSetIterable iter env x=pure x)):VS w A env ns xs (.For t iter body [] pos) f xs':=
 ⟨Z6z Inv k hh hi.h ib.h h0 hno (fun i d a b=>let ⟨x1,g,h1,h2,h3⟩:=step i d a b;⟨x1,g,h1.h,h2,h3.h⟩) (fin.imp id fun ⟨d,x1,z,a,b,c,e⟩=>⟨d,x1,z,a,b,c.h,e.h⟩) hs.h⟩
theorem J1g {f:Addr}{fd:FuncData}{body:List Stmt}{j:Nat}(S:FnStat f fd body ns)(hr:A.depth<recursionLimit)
  (h:∀ env L,env=fEnv fd f L→∃ xs',VX w (A.deeper env) env ns (ys.map some++List.replicate j none) body (.ret z) xs')
  (hb:∀ vs:List Value,vs.length=ys.length→bindArgs fd ⟨vs,[]⟩=pure ((ns.map (·.1)).zip vs)) (hj:ys.length+j=ns.length):VF w A (.ref f) ys z:=⟨Z7u S hr hj hb fun L=>let ⟨x,q⟩:=h _ L rfl;⟨x,q.h⟩⟩
section
variable {a b:Int}
theorem v_add:V2 w A (binaryOp .Add) (I a) (I b) (I (a+b)):=⟨Z5c⟩
theorem v_sub:V2 w A (binaryOp .Sub) (I a) (I b) (I (a - b)):=⟨Z7r⟩
theorem v_mul (hm:IntMulOk a b):V2 w A (binaryOp .Mult) (I a) (I b) (I (a * b)):=⟨Z6 hm⟩
theorem v_lt:V2 w A (compareOp .Lt) (I a) (I b) (B (decide (a<b))):=⟨Z9v⟩
theorem v_le:V2 w A (compareOp .LtE) (I a) (I b) (B (decide (a≤b))):=⟨V0w⟩
theorem v_gt:V2 w A (compareOp .Gt) (I a) (I b) (B (decide (a > b))):=⟨Z9u⟩
theorem v_ge:V2 w A (compareOp .GtE) (I a) (I b) (B (decide (a ≥ b))):=⟨V0d⟩
theorem v_eqi:V2 w A (compareOp .Eq) (I a) (I b) (B (a == b)):=⟨Z5f⟩
theorem v_nei:V2 w A (compareOp .NotEq) (I a) (I b) (B (a != b)):=⟨Z8i⟩
theorem v_iadd:V2 w A (inplaceOp .Add) (I a) (I b) (I (a+b)):=⟨Z3f⟩
theorem J6b (hb:b≠0):V2 w A (binaryOp .Mod) (I a) (I b) (I (a.fmod b)):=⟨Z8a hb⟩
theorem Z0n (hb:b≠0)(hp:Builtin.divisionGoesByPylong a b=false):V2 w A (binaryOp .FloorDiv) (I a) (I b) (I (a.fdiv b)):=⟨Z3j hb hp⟩
theorem v_neg:V1 w A (unaryOp .USub) (I a) (I (-a)):=⟨Z7i⟩
theorem v_tgt {a1 a2 c1 c2:Int}(hA:Rm 0 A):V2 w A (compareOp .Gt) (T [.int a1,.int a2]) (T [.int c1,.int c2]) (B (if a1=c1 then decide (a2 > c2) else decide (a1 > c1))):=⟨Z6x hA⟩
end
section
variable {a b:Str}
theorem v_eqs:V2 w A (compareOp .Eq) (S a) (S b) (B (decide (a=b))):=⟨Z6j⟩
theorem v_nes:V2 w A (compareOp .NotEq) (S a) (S b) (B (!decide (a=b))):=⟨Z8e⟩
theorem J2c (h:a.length+b.length≤1000):V2 w A (binaryOp .Add) (S a) (S b) (S (a++b)):=⟨Z1w h⟩
end
theorem v_isN {d}:V2 w A (compareOp .Is) (.d d) N (B (isN d)):=⟨Z6o⟩
theorem v_isnotN {d}:V2 w A (compareOp .IsNot) (.d d) N (B (!isN d)):=⟨K7h⟩
theorem v_isnotB {a b:Bool}:V2 w A (compareOp .IsNot) (B a) (B b) (B (a != b)):=⟨K4q⟩
theorem Z0g {d e}(hx:By x d)(hy:By y e)(hd:nicD d)(he:nicD e)(hA:Rm 0 A):V2 w A (compareOp .Eq) x y (B (Spec.same d e)):=⟨Z9h hx hy hd he hA⟩
theorem Z4z {d e}(hx:By x d)(hy:By y e)(hd:nicD d)(he:nicD e)(hA:Rm 0 A):V2 w A (compareOp .NotEq) x y (B (!Spec.same d e)):=⟨V0s hx hy hd he hA⟩
theorem J7t {l r ds k j d}(h:Ok ((decide (-(2 ^ 63)≤k) && decide (k<2 ^ 63))=true))(hj:Ok (seqIndex? k ds.length=some j))(hd:Ok (ds[j]? = some d))
  (hs:Ok (nsl r=true)):V2 w A (subscriptTail l r) (T ds) (I k) (.d d):=by
 have:=h.h
 simp only [Bool.and_eq_true,decide_eq_true_eq] at this
 exact ⟨Z1t this.1 this.2 hj.h hd.h fun _ _=>J3a hs.h _ _⟩
noncomputable def tgo (k:Int) (ds:List PyData):Option PyData:=bif decide (-(2 ^ 63)≤k) && decide (k<2 ^ 63) then (seqIndex? k ds.length).bind (ds[·]?) else none
theorem v_tget {l r ds k d}(h:Ok (tgo k ds=some d))(hs:Ok (nsl r=true)):V2 w A (subscriptTail l r) (T ds) (I k) (.d d):=by
 have h:=h.h
 unfold tgo at h
 cases q:decide (-(2 ^ 63)≤k) && decide (k<2 ^ 63) with
 |false=>rw [q] at h;cases h
 |true=>
  rw [q] at h
  obtain ⟨j,e1,e2⟩:=Option.bind_eq_some_iff.mp (show (seqIndex? k ds.length).bind (ds[·]?)=some d from h)
  exact J7t ⟨q⟩ ⟨e1⟩ ⟨e2⟩ hs
theorem J1c {l r ds k d}(i:IsL x ds)(h0:0≤k∧k<2 ^ 63)(hd:ds[k.toNat]? = some d)
  (hs:Ok (nsl r=true)):V2 w A (subscriptTail l r) x (I k) (.d d):=⟨Z1p i h0.1 h0.2 hd fun _ _=>J3a hs.h _ _⟩
theorem J3b {l r}{c:Str}{k n}(h0:Ok ((decide (k < -(2 ^ 63:Int)) || decide (k ≥ 2 ^ 63))=false))(hd:(seqIndex? k c.length).bind (c.cps[·]?)=some n)
  (hs:Ok (nsl r=true)):V2 w A (subscriptTail l r) (S c) (I k) (S ⟨#[n]⟩):=⟨Z1o h0.h hd fun _ _=>J3a hs.h _ _⟩
theorem K2g {l ds lo hi el eu p}(i:IsL x ds)(hsz:ds.length≤1000)
  (hs:Ok (∀ a b,∃ ops,subscripted (.Slice el eu none p) false (.ref a) (.ref b)=operate ops (getItem (.ref a) (.ref b)))):V2 w A (subscriptTail l (.Slice el eu none p)) x (.p (SlP lo hi)) (L (pick (lidx lo hi ds.length) ds)):=⟨K7d i hsz hs.h⟩
theorem v_tslice {l ds lo hi el eu p}(hw:Ok (J9s lo hi ds.length=false))(hsz:Ok (Nat.ble (K3t lo hi ds.length).length 1000=true))
  (hs:Ok (∀ a b,∃ ops,subscripted (.Slice el eu none p) false (.ref a) (.ref b)=operate ops (getItem (.ref a) (.ref b)))):V2 w A (subscriptTail l (.Slice el eu none p)) (T ds) (.p (SlP lo hi)) (T (pick (K3t lo hi ds.length) ds)):=⟨J8y hw.h (lBt hsz.h) hs.h⟩
theorem J7u {l}{c:Str}{lo hi el eu p}(hsz:c.length≤1000)
  (hs:Ok (∀ t b,∃ ops,subscripted (.Slice el eu none p) false (.str c t) (.ref b)=operate ops (getItem (.str c t) (.ref b)))):V2 w A (subscriptTail l (.Slice el eu none p)) (S c) (.p (SlP lo hi)) (S (Txt.slice c lo hi)):=⟨K5k hsz hs.h⟩
theorem J0r {ds}(i:IsL x ds):VB w A x ds:=⟨J5e i⟩
end
section
variable {w:World}{A:Around}{env:Env}{ns:List (Str×Bool)}{xs xs':List (Option X)}{x y z:X}{e l r:Expr}{pos npos:Pos}{es:List Expr}{ys:List X}{ds:List PyData}
structure Mt (x:X)(name:Str)(id:String):Prop where
 h:∃ T,PlainAttrs T∧Slot T name id∧typeOf (.builtin id)=pure (.type "method_descriptor")∧∀ own (s:Shared) v,XIn own s.heap v x→s.TypeIs v T∧∀ a,v = .ref a→∃ o,s.heap.get? a=some o∧o.dict=none
theorem K5 {c:Str}{name:Str}{id:String}(slot:Slot "str" name id)(ty:typeOf (.builtin id)=pure (.type "method_descriptor")):Mt (S c) name id:=
 ⟨"str",F.plainAttrs_str,slot,ty,fun own s v hv=>by refine o10 (Rd.inv_str hv) fun t e9a=>?_;subst e9a;exact ⟨typeIs_str _ _ _,fun _ e=>nomatch e⟩⟩
theorem J1y {f:Value}{own s pos}(ha:J6r w A env ns xs es ys)(F:Frm own env ns xs s.heap)(C:Cx w own s.heap){Q:Args→Shared→Prop}{E:Value→Shared→Prop}
  (h:∀ a s',a.kw = []→XAll own s'.heap a.pos ys→Keeps s s'→Q a s'):wpAny (model PW w) A (evalArgs f true (backTo pos (starEach es env)) []) Q E s:=
 wMo (ha.2 f own s F C pos) (fun a s' q=>h a s' q.1 q.2.1 q.2.2) fun _ _ q=>q.elim
theorem K6 {o:Expr}{name:Str}{apos:Pos}{id:String}(hbase:Ok (attributeBase o name env (eval o env)=eval o env))
  (hfew:Ok (((backTo pos (starEach es env)).all (fun x=>!x.1) && (backToKw pos (keywordEach [] env)).all (fun x=>x.1.isSome)
   && decide (es.length+([]:List Keyword).length+(if ([]:List Keyword).isEmpty then 0 else 1)<30))=true))
  (hline:Ok ((apos.endLine == pos.line)=true)) (ho:VE w A env ns xs o x) (ha:VG w A env ns xs es ys) (hm:Mt x name id) (hc:VF w A (.builtin id) (x::ys) z):VE w A env ns xs (.Call (.Attribute o name apos) es [] pos) z:=by
 refine ⟨fun own s F C=>wpAny_Call_method_lateS hbase.h hfew.h hline.h (J0 (ho.h own s F C) fun v s1 hv k1=>?_)⟩
 have F1:=F.keeps (Kee.kps k1)
 have C1:=C.keeps (Kee.kps k1)
 skip
 refine o13 hm.h fun T pa slot ty hT=>?_
 refine o01 (hT own s1 v hv) fun hT hd=>?_
 skip
 refine xi2 T id ⟨pa,slot,ty,hT,hd,Calls.callWith_builtin (ha.h.1 _) (J1y ha.h F1 C1 fun a s2 hk hx k2=>?_)⟩
 rw [hk]
 exact J0 (hc.h own s2 (v::a.pos) (C1.keeps (Kee.kps k2)) (.cons (hv.keeps (Kee.kps k2)) hx)) fun u s3 hu k3=>⟨hu,Kee.trans (Kee.trans k1 k2) k3⟩
theorem vf1 {f:Value}(h:∀ own s a,Cx w own s.heap→XIn own s.heap a x→wpAny (model PW w) A (call f [a]) (K2e own s z) NoE s):VF w A f [x] z:=⟨fn1 h⟩
theorem vf2 {f:Value}(h:∀ own s a b,Cx w own s.heap→XIn own s.heap a x→XIn own s.heap b y→wpAny (model PW w) A (call f [a,b]) (K2e own s z) NoE s):VF w A f [x,y] z:=⟨fn2 h⟩
theorem Z4n {a b:Str}:Mt (S a) "count" "str.count":=K5 F.slot_str_count F.type_str_count
theorem Z3m {a b:Str}:Mt (S a) "index" "str.index":=K5 F.slot_str_index F.type_str_index
theorem Z1k {a b:Str}:Mt (S a) "split" "str.split":=K5 F.slot_str_split F.type_str_split
theorem Z4m {a b:Str}:VF w A (.builtin "str.count") [S a,S b] (I (Txt.count a b)):=vf2 fun own s va vb C ha hb=>by
 obtain ⟨t,rfl⟩:=Rd.inv_str ha;obtain ⟨u,rfl⟩:=Rd.inv_str hb
 exact SC.count ⟨Rd.int,kt⟩
theorem Z3d {a b:Str}{i:Nat}{rest:List Nat}(ho:Builtin.Str.occurrences a b 0 a.length 1=i::rest):VF w A (.builtin "str.index") [S a,S b] (I i):=vf2 fun own s va vb C ha hb=>by
 obtain ⟨t,rfl⟩:=Rd.inv_str ha;obtain ⟨u,rfl⟩:=Rd.inv_str hb
 exact SC.index ho ⟨Rd.int,kt⟩
theorem K6d {own h}:∀ (l:List (Str×Tok)),RdAll own h (strValues l) ((l.map (·.1)).map .str)
 |[]=>.nil
 |(x,t)::l=>.cons Rd.str (K6d l)
theorem Z2b {a b:Str}(hb0:(b.length == 0)=false)(hsz:a.length≤1000)(hsz2:(Builtin.Str.partsBetween a (Builtin.Str.occurrences a b 0 a.length (a.length+1)) b.length).length≤1000):VF w A (.builtin "str.split") [S a,S b] (L ((Txt.split a b).map .str)):=vf2 fun own s va vb C ha hb=>by
 obtain ⟨t,rfl⟩:=Rd.inv_str ha;obtain ⟨u,rfl⟩:=Rd.inv_str hb
 have fin:∀ (l:List (Str×Tok)) (tk:Nat),l.map (·.1)=Txt.split a b→K2e own s (L ((Txt.split a b).map .str)) (.ref s.heap.objs.size) {s with heap:=s.heap.push {cls:=.type "list",data:=.seq (strValues l).toArray},toks:=tk}:=fun l tk hl=>
  ⟨Rd.list (J1j C.alive) (Heap.get?_push_size _ rfl) rfl rfl (hl▸K6d l),_,_,rfl,kps_push _⟩
 cases h1:(decide (a.length<b.length) || decide (Builtin.Str.strKind a<Builtin.Str.strKind b))
 ·cases hf:(Builtin.Str.occurrences a b 0 a.length (a.length+1)).isEmpty
  ·refine call_meets F.slot_str_split (typeIs_str _ _ _) F.entry_str_split (F.args_str_split_2 _ _) (meets_str_split_sep a b t u h1 hb0 hf (J0l hsz) (J0l hsz2)) ?_
   show wants _ _ _ {s with toks:=_,heap:=s.heap.push {cls:=.type "list",data:=.seq (strsFrom s.toks (Builtin.Str.partsBetween a (Builtin.Str.occurrences a b 0 a.length (a.length+1)) b.length)).toArray}}
   rw [strsFrom_eq]
   exact fin (numbered s.toks _) _ ((numbered_texts _ _).trans ((if_neg (ne_true_of_eq_false h1)).trans (if_neg (ne_true_of_eq_false hf))).symm)
  ·exact call_meets F.slot_str_split (typeIs_str _ _ _) F.entry_str_split (F.args_str_split_2 _ _) (meets_str_split_not_found a b t u h1 hb0 hf) (fin [(a,t)] _ ((if_neg (ne_true_of_eq_false h1)).trans (if_pos hf)).symm)
 ·exact call_meets F.slot_str_split (typeIs_str _ _ _) F.entry_str_split (F.args_str_split_2 _ _) (meets_str_split_cannot_occur a b t u h1) (fin [(a,t)] _ (if_pos h1).symm)
theorem K1q (ns:List Int):∀ n,preSum (fun i=>ns.getD i 0) n=(ns.take n).sum
 |0=>rfl
 |n+1=>by
  have ih:=K1q ns n
  show preSum _ n+ns.getD n 0=_
  rw [ih,List.take_add_one,List.sum_append]
  cases h:ns[n]?<;>simp [List.getD,h]
theorem Z2y {ns:List Int}(hh:A.handled=none)(ib:∀ A,Itb w A x (ns.map .int)):VF w A (.builtin "sum") [x] (I ns.sum):=vf1 fun own s v C hv=>by
 refine call_sum_walkAnyS (wMo (ib A.in1 own s v C hv) (fun it s2 q=>?_) fun _ _ q=>q.elim)
 refine o41 q fun I fp P St e9a W=>?_;subst e9a;clear q
 have W1:=(W.walks A.in1 hh).toS
 refine xi8 I fp ([I]) _ _ _ _ (fun i=>ns.getD i 0) ⟨rfl,W1,W.st,W.lt,fun i v hp=>?_,fun s' t' hm=>⟨?_,?_⟩⟩
 ·refine o11 (W.items i v hp) fun d hd rd=>?_
  rw [List.getElem?_map] at hd
  cases q:ns[i]? with
  |none=>rw [q] at hd;exfalso;cases hd
  |some k=>
   rw [q] at hd;cases hd
   refine o10 (Rd.inv_int rd) fun t e9a=>?_;subst e9a
   exact ⟨t,by simp [List.getD,q]⟩
 ·rw [K1q]
  simp only [List.length_map,List.take_length]
  exact Rd.int
 ·refine o21 W.keeps fun h2 t2 e2 k2=>?_
  obtain ⟨h',g',d',tk',os'⟩:=s'
  have e3:g'=s2.gens:=hm.gens
  have e4:d'=s2.drawn:=hm.drawn
  have e5:os'=s2.os:=hm.os
  subst e3 e4 e5
  refine xi2 h' tk' ⟨by rw [e2],fun b o e=>hm.heap b o (fun hb=>?_) (Kee.kps W.keeps b o e)⟩
  obtain rfl:=mSg hb
  rw [W.new] at e;exfalso;cases e
theorem Z8p {a:Int}:VF w A (.builtin "abs") [I a] (I (if a<0 then -a else a)):=vf1 fun own s v C hv=>by
 refine o10 (Rd.inv_int hv) fun t e9a=>?_;subst e9a
 exact call_abs_int fun u tk=>⟨Rd.int,kt⟩
theorem V0l {a b:Int}(hh:A.handled=none):VF w A (.builtin "max") [I a,I b] (I (if b > a then b else a)):=vf2 fun own s va vb C ha hb=>by
 obtain ⟨t,rfl⟩:=Rd.inv_int ha;obtain ⟨u,rfl⟩:=Rd.inv_int hb
 refine max_two_ints hh fun h' tk hk=>⟨?_,_,_,rfl,hk⟩
 split<;>exact Rd.int
theorem K0a {ds}(i:IsL x ds)(hsz:ds.length≤1000):VF w A (.builtin "len") [x] (I ds.length):=vf1 fun own s v C hv=>by
 refine o22 (i.at hv) fun a vs e9a hl hr=>?_;subst e9a
 have:vs.size=ds.length:=by rw [← Array.length_toList,hr.length]
 refine call_len_list hl (by lia) ⟨?_,kt⟩
 rw [this];exact Rd.int
theorem J5c {n:Int}:VF w A (.type "range") [I n] (Rg 0 n 1):=vf1 fun own s v C hv=>by
 refine o10 (Rd.inv_int hv) fun t e9a=>?_;subst e9a
 exact call_range_1 ⟨⟨RgP.st,s.heap.objs.size,_,_,_,rfl,hideAll_get _ (Heap.get?_push_size _ rfl) (J1j C.alive)⟩,_,_,rfl,kps_push _⟩
theorem K2s {a b c:Int}(hc:c≠0)(hp:Builtin.divisionGoesByPylong (b - a) c=false):VF w A (.type "range") [I a,I b,I c] (Rg a b c):=⟨fn3 fun own s va vb vc C ha hb hc'=>by
 obtain ⟨t,rfl⟩:=Rd.inv_int ha;obtain ⟨u,rfl⟩:=Rd.inv_int hb;obtain ⟨k,rfl⟩:=Rd.inv_int hc'
 exact call_range_3 hc ⟨⟨RgP.st,s.heap.objs.size,_,_,_,rfl,hideAll_get _ (Heap.get?_push_size _ rfl) (J1j C.alive)⟩,_,_,rfl,kps_push _⟩ (Or.inl hp)⟩
end
section
variable {w:World}{A:Around}
theorem At.hd {n n':Str}{b:Bool}{x:X}{ns:List (Str×Bool)}{xs:List (Option X)}(h:Ok (n'=n)):At ((n',b)::ns) (some x::xs) n b x:=by obtain ⟨rfl⟩:=h;exact .head
theorem Put.hd {n n':Str}{b:Bool}{x y:Option X}{ns:List (Str×Bool)}{xs:List (Option X)}(h:Ok (n'=n)):Put ((n',b)::ns) (y::xs) n b x (x::xs):=by obtain ⟨rfl⟩:=h;exact .head
theorem Gn.of {env env':Env}{n:Str}(he:env=env')(h:env'.kindOf n=some .globalImplicit):Gn env n:=⟨he▸h⟩
theorem At.g1 {p0:Str×Bool}{n:Str}{b:Bool}{y0:Option X}{x:X}{ns:List (Str×Bool)}{xs:List (Option X)}:At (p0::(n,b)::ns) (y0::some x::xs) n b x:=.tail .head
theorem Put.g1 {p0:Str×Bool}{n:Str}{b:Bool}{y0:Option X}{x y:Option X}{ns:List (Str×Bool)}{xs:List (Option X)}:Put (p0::(n,b)::ns) (y0::y::xs) n b x (y0::x::xs):=.tail .head
theorem At.g2 {p0 p1:Str×Bool}{n:Str}{b:Bool}{y0 y1:Option X}{x:X}{ns:List (Str×Bool)}{xs:List (Option X)}:At (p0::p1::(n,b)::ns) (y0::y1::some x::xs) n b x:=.tail (.tail .head)
theorem Put.g2 {p0 p1:Str×Bool}{n:Str}{b:Bool}{y0 y1:Option X}{x y:Option X}{ns:List (Str×Bool)}{xs:List (Option X)}:Put (p0::p1::(n,b)::ns) (y0::y1::y::xs) n b x (y0::y1::x::xs):=.tail (.tail .head)
theorem At.g3 {p0 p1 p2:Str×Bool}{n:Str}{b:Bool}{y0 y1 y2:Option X}{x:X}{ns:List (Str×Bool)}{xs:List (Option X)}:At (p0::p1::p2::(n,b)::ns) (y0::y1::y2::some x::xs) n b x:=.tail (.tail (.tail .head))
theorem Put.g3 {p0 p1 p2:Str×Bool}{n:Str}{b:Bool}{y0 y1 y2:Option X}{x y:Option X}{ns:List (Str×Bool)}{xs:List (Option X)}:Put (p0::p1::p2::(n,b)::ns) (y0::y1::y2::y::xs) n b x (y0::y1::y2::x::xs):=.tail (.tail (.tail .head))
theorem At.g4 {p0 p1 p2 p3:Str×Bool}{n:Str}{b:Bool}{y0 y1 y2 y3:Option X}{x:X}{ns:List (Str×Bool)}{xs:List (Option X)}:At (p0::p1::p2::p3::(n,b)::ns) (y0::y1::y2::y3::some x::xs) n b x:=.tail (.tail (.tail (.tail .head)))
theorem Put.g4 {p0 p1 p2 p3:Str×Bool}{n:Str}{b:Bool}{y0 y1 y2 y3:Option X}{x y:Option X}{ns:List (Str×Bool)}{xs:List (Option X)}:Put (p0::p1::p2::p3::(n,b)::ns) (y0::y1::y2::y3::y::xs) n b x (y0::y1::y2::y3::x::xs):=.tail (.tail (.tail (.tail .head)))
theorem At.g5 {p0 p1 p2 p3 p4:Str×Bool}{n:Str}{b:Bool}{y0 y1 y2 y3 y4:Option X}{x:X}{ns:List (Str×Bool)}{xs:List (Option X)}:At (p0::p1::p2::p3::p4::(n,b)::ns) (y0::y1::y2::y3::y4::some x::xs) n b x:=.tail (.tail (.tail (.tail (.tail .head))))
theorem Put.g5 {p0 p1 p2 p3 p4:Str×Bool}{n:Str}{b:Bool}{y0 y1 y2 y3 y4:Option X}{x y:Option X}{ns:List (Str×Bool)}{xs:List (Option X)}:Put (p0::p1::p2::p3::p4::(n,b)::ns) (y0::y1::y2::y3::y4::y::xs) n b x (y0::y1::y2::y3::y4::x::xs):=.tail (.tail (.tail (.tail (.tail .head))))
theorem At.g6 {p0 p1 p2 p3 p4 p5:Str×Bool}{n:Str}{b:Bool}{y0 y1 y2 y3 y4 y5:Option X}{x:X}{ns:List (Str×Bool)}{xs:List (Option X)}:At (p0::p1::p2::p3::p4::p5::(n,b)::ns) (y0::y1::y2::y3::y4::y5::some x::xs) n b x:=.tail (.tail (.tail (.tail (.tail (.tail .head)))))
theorem Put.g6 {p0 p1 p2 p3 p4 p5:Str×Bool}{n:Str}{b:Bool}{y0 y1 y2 y3 y4 y5:Option X}{x y:Option X}{ns:List (Str×Bool)}{xs:List (Option X)}:Put (p0::p1::p2::p3::p4::p5::(n,b)::ns) (y0::y1::y2::y3::y4::y5::y::xs) n b x (y0::y1::y2::y3::y4::y5::x::xs):=.tail (.tail (.tail (.tail (.tail (.tail .head)))))
theorem At.g7 {p0 p1 p2 p3 p4 p5 p6:Str×Bool}{n:Str}{b:Bool}{y0 y1 y2 y3 y4 y5 y6:Option X}{x:X}{ns:List (Str×Bool)}{xs:List (Option X)}:At (p0::p1::p2::p3::p4::p5::p6::(n,b)::ns) (y0::y1::y2::y3::y4::y5::y6::some x::xs) n b x:=.tail (.tail (.tail (.tail (.tail (.tail (.tail .head))))))
theorem Put.g7 {p0 p1 p2 p3 p4 p5 p6:Str×Bool}{n:Str}{b:Bool}{y0 y1 y2 y3 y4 y5 y6:Option X}{x y:Option X}{ns:List (Str×Bool)}{xs:List (Option X)}:Put (p0::p1::p2::p3::p4::p5::p6::(n,b)::ns) (y0::y1::y2::y3::y4::y5::y6::y::xs) n b x (y0::y1::y2::y3::y4::y5::y6::x::xs):=.tail (.tail (.tail (.tail (.tail (.tail (.tail .head))))))
theorem At.t8 {p0 p1 p2 p3 p4 p5 p6 p7:Str×Bool}{n:Str}{b:Bool}{y0 y1 y2 y3 y4 y5 y6 y7:Option X}{x:X}{ns:List (Str×Bool)}{xs:List (Option X)}(h:At ns xs n b x):At (p0::p1::p2::p3::p4::p5::p6::p7::ns) (y0::y1::y2::y3::y4::y5::y6::y7::xs) n b x:=.tail (.tail (.tail (.tail (.tail (.tail (.tail (.tail h)))))))
theorem Put.t8 {p0 p1 p2 p3 p4 p5 p6 p7:Str×Bool}{n:Str}{b:Bool}{y0 y1 y2 y3 y4 y5 y6 y7:Option X}{x:Option X}{ns:List (Str×Bool)}{xs xs':List (Option X)}(h:Put ns xs n b x xs'):Put (p0::p1::p2::p3::p4::p5::p6::p7::ns) (y0::y1::y2::y3::y4::y5::y6::y7::xs) n b x (y0::y1::y2::y3::y4::y5::y6::y7::xs'):=.tail (.tail (.tail (.tail (.tail (.tail (.tail (.tail h)))))))
theorem nm_len {env:Env}{ns:List (Str×Bool)}{xs:List (Option X)}{n:Str}{pos:Pos}(e:Ok (Str.ofString "len" = n))(hk:Gn env n):VE w A env ns xs (.Name n pos) (.v (.builtin "len")):=by
 obtain ⟨rfl⟩:=e
 exact J2s hk ⟨by decide +kernel⟩ ⟨fun _=>by with_unfolding_all rfl⟩ ⟨by kernel_rfl⟩ ⟨by decide +kernel⟩
theorem nm_sum {env:Env}{ns:List (Str×Bool)}{xs:List (Option X)}{n:Str}{pos:Pos}(e:Ok (Str.ofString "sum" = n))(hk:Gn env n):VE w A env ns xs (.Name n pos) (.v (.builtin "sum")):=by
 obtain ⟨rfl⟩:=e
 exact J2s hk ⟨by decide +kernel⟩ ⟨fun _=>by with_unfolding_all rfl⟩ ⟨by kernel_rfl⟩ ⟨by decide +kernel⟩
theorem nm_max {env:Env}{ns:List (Str×Bool)}{xs:List (Option X)}{n:Str}{pos:Pos}(e:Ok (Str.ofString "max" = n))(hk:Gn env n):VE w A env ns xs (.Name n pos) (.v (.builtin "max")):=by
 obtain ⟨rfl⟩:=e
 exact J2s hk ⟨by decide +kernel⟩ ⟨fun _=>by with_unfolding_all rfl⟩ ⟨by kernel_rfl⟩ ⟨by decide +kernel⟩
theorem nm_abs {env:Env}{ns:List (Str×Bool)}{xs:List (Option X)}{n:Str}{pos:Pos}(e:Ok (Str.ofString "abs" = n))(hk:Gn env n):VE w A env ns xs (.Name n pos) (.v (.builtin "abs")):=by
 obtain ⟨rfl⟩:=e
 exact J2s hk ⟨by decide +kernel⟩ ⟨fun _=>by with_unfolding_all rfl⟩ ⟨by kernel_rfl⟩ ⟨by decide +kernel⟩
theorem nm_iter {env:Env}{ns:List (Str×Bool)}{xs:List (Option X)}{n:Str}{pos:Pos}(e:Ok (Str.ofString "iter" = n))(hk:Gn env n):VE w A env ns xs (.Name n pos) (.v (.builtin "iter")):=by
 obtain ⟨rfl⟩:=e
 exact J2s hk ⟨by decide +kernel⟩ ⟨fun _=>by with_unfolding_all rfl⟩ ⟨by kernel_rfl⟩ ⟨by decide +kernel⟩
theorem nm_next {env:Env}{ns:List (Str×Bool)}{xs:List (Option X)}{n:Str}{pos:Pos}(e:Ok (Str.ofString "next" = n))(hk:Gn env n):VE w A env ns xs (.Name n pos) (.v (.builtin "next")):=by
 obtain ⟨rfl⟩:=e
 exact J2s hk ⟨by decide +kernel⟩ ⟨fun _=>by with_unfolding_all rfl⟩ ⟨by kernel_rfl⟩ ⟨by decide +kernel⟩
theorem nm_isinstance {env:Env}{ns:List (Str×Bool)}{xs:List (Option X)}{n:Str}{pos:Pos}(e:Ok (Str.ofString "isinstance" = n))(hk:Gn env n):VE w A env ns xs (.Name n pos) (.v (.builtin "isinstance")):=by
 obtain ⟨rfl⟩:=e
 exact J2s hk ⟨by decide +kernel⟩ ⟨fun _=>by with_unfolding_all rfl⟩ ⟨by kernel_rfl⟩ ⟨by decide +kernel⟩
theorem nm_range {env:Env}{ns:List (Str×Bool)}{xs:List (Option X)}{n:Str}{pos:Pos}(e:Ok (Str.ofString "range" = n))(hk:Gn env n):VE w A env ns xs (.Name n pos) (.v (.type "range")):=by
 obtain ⟨rfl⟩:=e
 exact J2s hk ⟨by decide +kernel⟩ ⟨fun _=>by with_unfolding_all rfl⟩ ⟨by kernel_rfl⟩ ⟨by decide +kernel⟩
theorem nm_list {env:Env}{ns:List (Str×Bool)}{xs:List (Option X)}{n:Str}{pos:Pos}(e:Ok (Str.ofString "list" = n))(hk:Gn env n):VE w A env ns xs (.Name n pos) (.v (.type "list")):=by
 obtain ⟨rfl⟩:=e
 exact J2s hk ⟨by decide +kernel⟩ ⟨fun _=>by with_unfolding_all rfl⟩ ⟨by kernel_rfl⟩ ⟨by decide +kernel⟩
theorem nm_tuple {env:Env}{ns:List (Str×Bool)}{xs:List (Option X)}{n:Str}{pos:Pos}(e:Ok (Str.ofString "tuple" = n))(hk:Gn env n):VE w A env ns xs (.Name n pos) (.v (.type "tuple")):=by
 obtain ⟨rfl⟩:=e
 exact J2s hk ⟨by decide +kernel⟩ ⟨fun _=>by with_unfolding_all rfl⟩ ⟨by kernel_rfl⟩ ⟨by decide +kernel⟩
theorem nm_zip {env:Env}{ns:List (Str×Bool)}{xs:List (Option X)}{n:Str}{pos:Pos}(e:Ok (Str.ofString "zip" = n))(hk:Gn env n):VE w A env ns xs (.Name n pos) (.v (.type "zip")):=by
 obtain ⟨rfl⟩:=e
 exact J2s hk ⟨by decide +kernel⟩ ⟨fun _=>by with_unfolding_all rfl⟩ ⟨by kernel_rfl⟩ ⟨by decide +kernel⟩
theorem nm_int {env:Env}{ns:List (Str×Bool)}{xs:List (Option X)}{n:Str}{pos:Pos}(e:Ok (Str.ofString "int" = n))(hk:Gn env n):VE w A env ns xs (.Name n pos) (.v (.type "int")):=by
 obtain ⟨rfl⟩:=e
 exact J2s hk ⟨by decide +kernel⟩ ⟨fun _=>by with_unfolding_all rfl⟩ ⟨by kernel_rfl⟩ ⟨by decide +kernel⟩
theorem nm_type {env:Env}{ns:List (Str×Bool)}{xs:List (Option X)}{n:Str}{pos:Pos}(e:Ok (Str.ofString "type" = n))(hk:Gn env n):VE w A env ns xs (.Name n pos) (.v (.type "type")):=by
 obtain ⟨rfl⟩:=e
 exact J2s hk ⟨by decide +kernel⟩ ⟨fun _=>by with_unfolding_all rfl⟩ ⟨by kernel_rfl⟩ ⟨by decide +kernel⟩
end
set_option compiler.extract_closed false in
set_option hygiene false in
local macro_rules | `(tactic| x_close)=>do
 let r ← `(tactic| (apply Ok.mk;with_reducible rfl))
 let u ← `(tactic| with_unfolding_all rfl)
 let q (b:Bool) (s:String):Lean.MacroM (Lean.TSyntax `tactic):=do
  let ts ← (s.splitOn " ").toArray.mapM fun n=>do
   let i ← `(tactic| apply $(Lean.mkIdent n.toName))
   if b then `(tactic| ($i:tactic;$r:tactic)) else pure i
  `(tactic| first $[| $ts:tactic]*)
 let g ← `(tactic| first|(apply Gn.of;assumption;rfl)|(apply Gn.mk;rfl))
 let a ← q false "At.head At.g1 At.g2 At.g3 At.g4 At.g5 At.g6 At.g7 At.t8"
 let p ← q false "Put.head Put.g1 Put.g2 Put.g3 Put.g4 Put.g5 Put.g6 Put.g7 Put.t8"
 let h ← q true "At.hd Put.hd"
 let n ← q true "nm_len nm_sum nm_max nm_abs nm_iter nm_next nm_isinstance nm_range nm_list nm_tuple nm_zip nm_int nm_type"
 let e ← q false "w_int w_str w_none w_bool"
 let l ← q false "w_bin w_cmp w_un w_tuple w_list w_sub w_slice wl_nil wl_cons Ds.nil Ds.cons wg_nil wg_cons wq_none wq_some wt_isor wt_cmp wt_not v_add v_sub v_eqi v_nei v_lt v_gt v_le v_ge v_neg v_iadd v_eqs v_nes v_isN v_isnotN v_isB v_isnotB v_tget"
 let m ← q false "v_mul v_tgt w_callf w_callb w_callt wi_nil wi_one v_tslice By.d By.l By.pl"
 `(tactic| first
 |((with_reducible repeat first | $a:tactic | $p:tactic);done)
 |$h:tactic|apply At.tail|apply Put.tail
 |(apply Ok.mk;first | $u:tactic|(intros;first | $u:tactic|(constructor;$u:tactic)))
 |$e:tactic
 |($n:tactic;$g:tactic)
 |(apply J2p;exact Ok.mk (by with_unfolding_all rfl);(first|((with_reducible repeat $a:tactic);done)|((repeat first | $h:tactic|apply At.tail);done)))
 |(apply Z6f;$g:tactic;(apply Ok.mk;$u:tactic);(apply Ok.mk;intro;$u:tactic);done)
 |(apply v_mul;apply Z1j;assumption)
 |$l:tactic
 |$m:tactic
 |(apply Rm.less;(apply Rm.deeper;assumption);decide)
 |(apply (id (α:=IntMulOk _ _));assumption))
section
variable {w:World}{A:Around}
noncomputable def J7f (o1 o2 p1 p2 t:Int):Bool:=if o1=p1 then decide (t * o2 > t * p2) else decide (o1 > p1)
theorem Z3g {o1 o2 p1 p2 t:Int}(hA:Rm 1 A)(ht:IntMulOk t o2)(ht':IntMulOk t p2):VF w A (.ref 262) [T [.int o1,.int o2],T [.int p1,.int p2],I t] (B (J7f o1 o2 p1 p2 t)):=by
 refine J1g (j:=0) (ns:=[("one",false),("other",false),("tie",false)]) ⟨fun _=>(xi3 _ _ _ rfl),fun _=>rfl,rfl,⟨rfl,rfl,rfl,rfl,rfl,rfl⟩,by decide,by decide,by decide⟩ hA.dl ?_ (vs3 fun _ _ _=>rfl) (by rfl)
 intro env L he
 refine ⟨_,J0i (J0n ?_)⟩
 repeat' x_close
theorem Z2o {a b:Int}(hA:Rm 1 A):VF w A (.ref 38) [I a,I b] (B (decide (a ≥ b))):=by
 refine J1g (j:=0) (ns:=[("a",false),("b",false)]) ⟨fun _=>(xi3 _ _ _ rfl),fun _=>rfl,rfl,⟨rfl,rfl,rfl,rfl,rfl,rfl⟩,by decide,by decide,by decide⟩ hA.dl ?_ (vs2 fun _ _=>rfl) (by rfl)
 intro env L he
 refine ⟨_,J0i (J0n ?_)⟩
 repeat' x_close
theorem K5m {a b:Int}(hA:Rm 1 A):VF w A (.ref 45) [I a,I b] (B (decide (a > b))):=by
 refine J1g (j:=0) (ns:=[("a",false),("b",false)]) ⟨fun _=>(xi3 _ _ _ rfl),fun _=>rfl,rfl,⟨rfl,rfl,rfl,rfl,rfl,rfl⟩,by decide,by decide,by decide⟩ hA.dl ?_ (vs2 fun _ _=>rfl) (by rfl)
 intro env L he
 refine ⟨_,J0i (J0n ?_)⟩
 repeat' x_close
theorem K1x {d:PyData}(hA:Rm 1 A):VF w A (.ref 52) [.d d,N] (B (isN d)):=by
 refine J1g (j:=0) (ns:=[("a",false),("b",false)]) ⟨fun _=>(xi3 _ _ _ rfl),fun _=>rfl,rfl,⟨rfl,rfl,rfl,rfl,rfl,rfl⟩,by decide,by decide,by decide⟩ hA.dl ?_ (vs2 fun _ _=>rfl) (by rfl)
 intro env L he
 refine ⟨_,J0i (J0n ?_)⟩
 repeat' x_close
theorem J2u {d:PyData}(hA:Rm 1 A):VF w A (.ref 59) [.d d,N] (B (!isN d)):=by
 refine J1g (j:=0) (ns:=[("a",false),("b",false)]) ⟨fun _=>(xi3 _ _ _ rfl),fun _=>rfl,rfl,⟨rfl,rfl,rfl,rfl,rfl,rfl⟩,by decide,by decide,by decide⟩ hA.dl ?_ (vs2 fun _ _=>rfl) (by rfl)
 intro env L he
 refine ⟨_,J0i (J0n ?_)⟩
 repeat' x_close
end
theorem K3q {K:Frag}{h:Heap}{a:Addr}{mg:Str→Option Value}{n:Str}(X:K.In h)(G:h.Ns a mg)(e:nsIn K a n=some none):mg n=none:=by
 skip
 refine o33 G fun o es ep ho hd _ hf=>?_;clear G
 skip
 unfold nsIn at e
 split at e
 ·rename_i c d es' n' sl q
  have:=X _ _ q
  rw [ho] at this
  cases this
  cases hd
  split at e
  ·cases e
  ·rename_i he
   rw [← hf]
   simp only [nsFind,findBy,← Array.find?_toList,he,Option.map_none]
 ·cases e
theorem Gl.nb {w h}(G:Gl w h):NoneBooked h:=by
 refine o11 G.lim fun mc h1 _=>?_
 exact ⟨mc,h1,K3q G.K h1 (by with_unfolding_all rfl)⟩
def SoP (c:Str)(n:Nat)(_:Heap)(v:Value):Prop:=∃ u,v = .str c u∧0<u∧u<n
def SnP (c:Str)(n:Nat)(_:Heap)(v:Value):Prop:=∃ u,v = .str c u∧n≤u
noncomputable abbrev So (c:Str) (n:Nat):X:=.p (SoP c n)
noncomputable abbrev Sn (c:Str) (n:Nat):X:=.p (SnP c n)
theorem Z9r {own h c n u}(h0:0<u)(h1:u<n):XIn own h (.str c u) (So c n):=⟨fun _ _ _ _ q=>q,u,rfl,h0,h1⟩
theorem Z5z {own h c n u}(h1:n≤u):XIn own h (.str c u) (Sn c n):=⟨fun _ _ _ _ q=>q,u,rfl,h1⟩
section
variable {w:World}{A:Around}{env:Env}{ns:List (Str×Bool)}{xs xs':List (Option X)}{x y z:X}{e l r iter:Expr}{pos npos p1 p2:Pos}
theorem wt_isor {a b:Str}{n:Nat}{l2 r2:Expr}(hm:Ok (behindInMarks .Is r=false))(hm':Ok (behindInMarks .Eq r2=false))(hl:VE w A env ns xs l (Sn a n))(hr:VE w A env ns xs r (So b n))(hl2:VE w A env ns xs l2 (Sn a n))(hr2:VE w A env ns xs r2 (So b n)) :
  VT w A env ns xs (.BoolOp .Or [.Compare l [.Is] [r] p1,.Compare l2 [.Eq] [r2] p2] pos) (decide (a=b)):=by
 refine ⟨fun own s F C=>wpAny_isTrue_BoolOp (wpAny_allTrue_Or_cons (wpAny_isTrue_Compare1 (J0 (hl.h own s F C) fun v s1 hv k1=>?_) hm.h))⟩
 have F1:=F.keeps (Kee.kps k1)
 have C1:=C.keeps (Kee.kps k1)
 refine J0 (hr.h own s1 F1 C1) fun u s2 hu k2=>?_
 have F2:=F1.keeps (Kee.kps k2)
 have C2:=C1.keeps (Kee.kps k2)
 refine ab fun Q q9=>?_
 refine o01 hv fun _ r9a=>o11 r9a fun t e9a ht=>?_;subst e9a;clear hv
 refine o01 hu fun _ r9a=>o12 r9a fun t' e9a h0 ht'=>?_;subst e9a;clear hu
 refine q9 ?_
 show wpAny _ _ (do return Value.bool (← isSame (.str a t) (.str b t'))) _ _ s2
 refine wBn ?_
 have rest:wpAny (model PW w) A (allTrue .Or [.Compare l2 [.Eq] [r2] p2] env) (fun v s'=>v=decide (a=b)∧Keeps s s') NoE s2:=by
  refine wpAny_allTrue_Or_cons (wpAny_isTrue_Compare1 (J0 (hl2.h own s2 F2 C2) fun v s3 hv k3=>?_) hm'.h)
  refine J0 (hr2.h own s3 (F2.keeps (Kee.kps k3)) (C2.keeps (Kee.kps k3))) fun u s4 hu k4=>?_
  refine ab fun Q q9=>?_
  refine o01 hv fun _ r9a=>o11 r9a fun t e9a ht=>?_;subst e9a;clear hv
  refine o01 hu fun _ r9a=>o12 r9a fun t' e9a h0 ht'=>?_;subst e9a;clear hu
  refine q9 ?_
  refine PySem.P.eq_str (wpAny_truthy_bool ?_)
  rw [K0m]
  have kk:=Kee.trans (Kee.trans (Kee.trans k1 k2) k3) k4
  cases q:decide (a=b) with
  |true=>exact ⟨rfl,kk⟩
  |false=>exact wpAny_allTrue_Or_nil ⟨rfl,kk⟩
 by_cases hab:a=b
 ·refine wpAny_isSame_str (by simp;exact ⟨Nat.ne_of_gt (Nat.lt_of_lt_of_le (Nat.lt_trans h0 ht') ht),Nat.ne_of_gt h0⟩) C2.glh.nb fun q=>wPu (wpAny_truthy_bool ?_)
  cases q with
  |true=>exact ⟨by simp [hab],Kee.trans k1 k2⟩
  |false=>exact rest
 ·show wpAny _ _ (isSame.created (a == b) t t') _ _ s2
  unfold isSame.created
  have h1:(t == 0 || t' == 0)=false:=by simp;exact ⟨Nat.ne_of_gt (Nat.lt_of_lt_of_le (Nat.lt_trans h0 ht') ht),Nat.ne_of_gt h0⟩
  have h2:(t == t')=false:=by simp;exact Nat.ne_of_gt (Nat.lt_of_lt_of_le ht' ht)
  have h3:(a == b)=false:=by simpa using hab
  rw [h1,h2,h3]
  simp only [Bool.false_eq_true,if_false,Bool.not_false,if_true]
  exact wPu (wPu (wpAny_truthy_bool rest))
theorem K8z {n c x}(p:Put ns xs n c (some x) xs'):TgX w A env ns xs (.Name n npos) x xs':=fun own s v F C hv=>
 wpAny_assign_Name (J3j (x:=x) F hv p fun h' tk F' S=>⟨F',(xi2 _ _ rfl),S⟩)
theorem K6r {tb:Nat}{st:Stmt}{f:Fl}(h:VS w A env ns xs st f xs'):Z8w w tb A env ns xs st f xs':=fun own s _ F C=>h.h own s F C
theorem K1o {tb:Nat}{st:Stmt}{ss:List Stmt}{f:Fl}{xs'':List (Option X)}(h:Z8w w tb A env ns xs st .next xs')(t:ExB w tb A env ns xs' ss f xs''):ExB w tb A env ns xs (st::ss) f xs'':=by
 intro own s ht F C
 refine wpAny_execs_cons (wMo (wpAny_toks_of ht (h own s ht F C)) (fun g s1 q=>?_) fun _ _ q=>q.2)
 refine o03 q fun q0 q1 q2 q3=>?_;clear q
 cases g with
 |next=>exact wMo (t own s1 q0 q2 (q3.sto.cx C)) (fun g s2 q=>⟨q.1,q.2.1,q3.trans q.2.2⟩) fun _ _ q=>q
 |_=>exact q1.elim
theorem K7e {tb:Nat}{st:Stmt}{ss:List Stmt}{z:X}(h:Z8w w tb A env ns xs st (.ret z) xs'):ExB w tb A env ns xs (st::ss) (.ret z) xs':=by
 intro own s ht F C
 refine wpAny_execs_cons (wMo (h own s ht F C) (fun g s1 q=>?_) fun _ _ q=>q)
 cases g with
 |ret v=>exact q
 |_=>exact q.1.elim
noncomputable def J8g (tb:Nat) (c:Str):List X:=c.cps.toList.map fun k=>Sn ⟨#[k]⟩ tb
theorem J3z {h:Heap}{I T x t i}(st:h.IsStrIter I T x t i):∃ o,h.get? I=some o∧∀ vs n,o.data≠.seq vs n:=by
 refine o12 st fun o h1 h2 h3=>?_;clear st;exact ⟨o,h1,fun vs n q=>by rw [h3] at q;cases q⟩
theorem Z6a {tb:Nat}{own:List Addr}{s:Shared}{c:Str}{t:Tok}{n:Str}(hh:A.handled=none):wpAny (model PW w) A (pyIter (.str c t)) (fun it s2=>∃ wr fp St,Dr w A tb own (.Name n npos) s s2 (J8g tb c) it wr fp St) NoE s:=by
 have fin:∀ T,(∀ (s:Shared) (i k:Nat) (Q:Option Value→Shared→Prop) (E:Value→Shared→Prop) it,s.heap.IsStrIter it T c t i→c.cps[i]? = some k→(∀ h',h'.IsStrIter it T c t (i+1)→Heap.SameBut it s.heap h'→Q (some (.str ⟨#[k]⟩ s.toks)) {s with heap:=h',toks:=s.toks+1})→wpAny (model PW w) A (pyNext (.ref it)) Q E s) →
   (∀ (s:Shared) (Q:Option Value→Shared→Prop) (E:Value→Shared→Prop) it,s.heap.IsStrIter it T c t c.cps.size→(∀ h',Heap.ExtBut it s.heap h'→Q none {s with heap:=h'})→wpAny (model PW w) A (pyNext (.ref it)) Q E s) →
   Dr w A tb own (.Name n npos) s {s with heap:=s.heap.push {cls:=.type T,data:=.fields #[.str c t,.int 0 0]}} (J8g tb c) (.ref s.heap.objs.size) [s.heap.objs.size] [s.heap.objs.size] (fun i h=>h.IsStrIter s.heap.objs.size T c t i):=by
  intro T hi hd
  refine ⟨fun i h h' st hk _=>let ⟨o,ho,r⟩:=st;⟨o,hk _ (by simp) o ho,r⟩,fun i x s1 Q E hx htb st al hQ=>?_,fun s1 Q E st hQ=>?_,⟨_,Heap.get?_push_size _ rfl,rfl,rfl⟩,fun b hb=>?_,fun b hb=>?_,(xi2 _ _ ⟨rfl,kps_push _⟩),fun i h st b hb=>?_⟩
  ·rw [J8g,List.getElem?_map] at hx
   cases q:c.cps.toList[i]? with
   |none=>rw [q] at hx;cases hx
   |some k=>
    rw [q] at hx;cases hx
    refine hi s1 i k _ _ _ st (by simpa using q) fun h' st' hs'=>⟨_,rfl,?_⟩
    refine wPu (hQ _ h' _ (Z5z htb) st' fun b o hb e=>(hs'.2 b (by simpa using hb)).trans e)
  ·refine hd s1 _ _ _ (by simpa [J8g] using st) fun h' he=>⟨rfl,hQ h' _ fun b o hb e=>he b o (by simpa using hb) e⟩
  ·obtain rfl:=mSg hb;exact .inl (J0k _)
  ·obtain rfl:=mSg hb;exact J0k _
  ·obtain rfl:=mSg hb;exact J3z st
 cases ha:c.cps.all (· < 128)
 ·exact wpAny_pyIter_wide ha (xi3 _ _ _ (fin _ (fun s i k Q E it st hc hQ=>wpAny_pyNext_wide_item st hc hQ) fun s Q E it st hQ=>wpAny_pyNext_wide_end hh st (by simp) hQ))
 ·exact wpAny_pyIter_ascii ha (xi3 _ _ _ (fin _ (fun s i k Q E it st hc hQ=>wpAny_pyNext_ascii_item st hc hQ) fun s Q E it st hQ=>wpAny_pyNext_ascii_end hh st (by simp) hQ))
end
def FB (w:World)(tb:Nat)(A:Around)(f:Value)(ys:List X)(z:X):Prop:=
 ∀ own s vs,tb≤s.toks→Cx w own s.heap→XAll own s.heap vs ys→wpAny (model PW w) A (call f vs) (K2e own s z) NoE s
section
variable {w:World}{A:Around}
theorem J5h {a:Str}{tb i:Nat}{x:X}(h:(J8g tb a)[i]? = some x):∃ k,a.cps.toList[i]? = some k∧x=Sn ⟨#[k]⟩ tb:=by
 rw [J8g,List.getElem?_map] at h
 cases q:a.cps.toList[i]? with
 |none=>rw [q] at h;cases h
 |some k=>rw [q] at h;cases h;exact ⟨k,rfl,rfl⟩
noncomputable def K2u (tb:Nat) (a:Str) (i:Nat):Option X:=match i with
 |0=>none
 |i+1=>(J8g tb a)[i]?
theorem Z0d {tb:Nat}{a:Str}{i:Nat}:J3k (K2u tb a i)=true:=by
 cases i with
 |zero=>rfl
 |succ i=>
  show J3k ((J8g tb a)[i]?)=true
  cases h:(J8g tb a)[i]? with
  |none=>rfl
  |some x=>refine o11 (J5h h) fun k _ e9a=>?_;subst e9a;rfl
theorem J6o {a:Str}{c tb:Nat}(hA:Rm 1 A):FB w tb A (.ref 66) [S a,So ⟨#[c]⟩ tb] (I ((a.cps.toList.countP (· == c):Nat):Int)):=by
 refine K0q (j:=2) (ns:=[("a",false),("b",false),("count",false),("i",false)]) ⟨fun _=>(xi3 _ _ _ rfl),fun _=>rfl,rfl,⟨rfl,rfl,rfl,rfl,rfl,rfl⟩,by decide,by decide,by decide⟩ hA.dl rfl ((vs2 fun _ _=>rfl)) ?_
 intro L
 generalize he:fEnv _ _ _=env
 let Inv:Nat→List (Option X):=fun i=>[some (S a),some (So ⟨#[c]⟩ tb),some (I (((a.cps.toList.take i).countP (· == c):Nat):Int)),K2u tb a i]
 refine ⟨[some (S a),some (So ⟨#[c]⟩ tb),some (I ((a.cps.toList.countP (· == c):Nat):Int)),K2u tb a (J8g tb a).length],?_⟩
 apply K1o
 ·exact K6r (J0h (Ok.mk (by with_unfolding_all rfl)) w_int (.tail (.tail .head)))
 apply K1o _ (K7e (K6r (J0n (J2p (Ok.mk (by with_unfolding_all rfl)) (.tail (.tail .head))))))
 refine J9y (f:=.next) (ds:=J8g tb a) (xs':=[some (S a),some (So ⟨#[c]⟩ tb),some (I ((a.cps.toList.countP (· == c):Nat):Int)),K2u tb a (J8g tb a).length]) Inv (J8g tb a).length rfl (fun i _=>?_) ?_ ?_ ?_ (fun _=>rfl)
 ·show (true && (true && (true && (J3k (K2u tb a i) && true))))=true
  rw [Z0d];rfl
 ·intro own s htb F C
  refine J0 ((J2p (x:=S a) (Ok.mk (by with_unfolding_all rfl)) .head).h own s F C) fun v s1 hv k=>⟨k,?_⟩
  refine o10 (Rd.inv_str hv) fun t e9a=>?_;subst e9a
  subst he
  exact wMo (Z6a hA.deeper.hd) (fun it s2 q=>by
   refine o30 q fun wr fp St W=>?_;clear q
   exact (xi3 wr fp St (W.back k))) fun _ _ q=>q
 ·intro i x hi hx
  refine o11 (J5h hx) fun k hk e9a=>?_;subst e9a
  refine xi2 _ .next ⟨K8z (.tail (.tail (.tail .head))),.inl rfl,?_⟩
  have hs:List.take (i+1) a.cps.toList=List.take i a.cps.toList++[k]:=by rw [List.take_add_one,hk];rfl
  have hl:K2u tb a (i+1)=some (Sn ⟨#[k]⟩ tb):=hx
  by_cases h:k=c
  ·have e:Inv (i+1) = [some (S a),some (So ⟨#[c]⟩ tb),some (I ((((a.cps.toList.take i).countP (· == c):Nat):Int)+1)),some (Sn ⟨#[k]⟩ tb)]:=by
    show [_,_,_,_]=_
    rw [hl,hs,List.countP_append]
    simp [h]
   rw [e]
   refine VX.h ?_
   apply J0b
   ·apply J2
    ·refine VT.eq ?_ (show decide ((⟨#[k]⟩:Str)=⟨#[c]⟩)=true by simp [h])
     apply wt_isor
     repeat' x_close
    ·apply J0b
     ·apply Z5i
      repeat' x_close
     ·exact J0c
   ·exact J0c
  ·have e:Inv (i+1) = [some (S a),some (So ⟨#[c]⟩ tb),some (I (((a.cps.toList.take i).countP (· == c):Nat):Int)),some (Sn ⟨#[k]⟩ tb)]:=by
    show [_,_,_,_]=_
    rw [hl,hs,List.countP_append]
    simp [h]
   rw [e]
   refine VX.h ?_
   apply J0b
   ·apply J0g
    ·refine VT.eq ?_ (show decide ((⟨#[k]⟩:Str)=⟨#[c]⟩)=false by simp [h])
     apply wt_isor
     repeat' x_close
    ·exact J0c
   ·exact J0c
 ·left
  refine ⟨rfl,rfl,?_,rfl⟩
  have:(J8g tb a).length=a.cps.toList.length:=by simp [J8g]
  show [_,_,_,_] = [_,_,_,_]
  rw [this,List.take_length]
end
section
variable {w:World}{A:Around}{s:Shared}
open Builtin Builtin.SmallTypes in
theorem J7g {e I:Addr}{T:String}{x:Str}{t:Tok}{i c:Nat}{old:Value}{E:Value→Shared→Prop}{Q:Value→Shared→Prop}
  (nx:∀ (A:Around) (s:Shared) (Q:Value→Shared→Prop) (E:Value→Shared→Prop),s.heap.IsStrIter I T x t i→(∀ h',h'.IsStrIter I T x t (i+1)→Heap.SameBut I s.heap h'→Q (.str ⟨#[c]⟩ s.toks) {s with heap:=h',toks:=s.toks+1})→wpAny (model PW w) A (nextOf (.ref I)) Q E s)
  (he:IsEnum s.heap e I i old) (hI:s.heap.IsStrIter I T x t i) (hne:e≠I)
  (hQ:∀ h' k a,h'.IsStrIter I T x t (i+1)→IsEnumOut h' e I ((i:Int)+1) (.str ⟨#[c]⟩ s.toks) a→s.heap.get? a=none→h'.get? a=some {cls:=.type "tuple",data:=.seq #[.int i k,.str ⟨#[c]⟩ s.toks]} →
   (∀ b o,b≠e→b≠I→s.heap.get? b=some o→h'.get? b=some o)→Q (.ref a) {s with heap:=h',toks:=s.toks+1+1}) :
  wpAny (model PW w) A («enumerate.__next__» ⟨[.ref e],[]⟩) (fun fin s'=>∃ v,fin = .done (.ret v)∧Q v s') E s:=by
 obtain ⟨hp,g,d,tk₀,os⟩:=s
 show wpAny _ _ (field (.ref e) 2>>=_) _ _ _
 refine wBn (wpAny_field he rfl (x:=.ref I) rfl ?_)
 refine wBn (nx _ _ _ _ hI fun h₁ hI₁ hs₁=>?_)
 replace hs₁:Heap.SameBut I hp h₁:=hs₁
 have he₁:IsEnum h₁ e I i old:=(hs₁.2 e hne).trans he
 show wpAny _ _ (field (.ref e) 3>>=_) _ _ ⟨h₁,g,d,tk₀+1,os⟩
 refine wBn (wpAny_field he₁ rfl (x:=rawInt i) rfl ?_)
 show wpAny _ _ (field (.ref e) 4>>=_) _ _ ⟨h₁,g,d,tk₀+1,os⟩
 refine wBn (wpAny_field he₁ rfl (x:=.none) rfl ?_)
 show wpAny _ _ (mkInt i>>=_) _ _ ⟨h₁,g,d,tk₀+1,os⟩
 refine wBn (wpAny_mkInt ?_)
 show wpAny _ _ (setField (.ref e) 3 (rawInt ((i:Int)+1))>>=_) _ _ ⟨h₁,g,d,tk₀+1+1,os⟩
 refine wBn (wpAny_setField_rec he₁ (by simp) fun h₂ he₂ hs₂=>?_)
 replace hs₂:Heap.SameBut e h₁ h₂:=hs₂
 replace he₂:IsEnum h₂ e I ((i:Int)+1) old:=he₂
 show wpAny _ _ (setField (.ref e) 4 .none>>=_) _ _ ⟨h₂,g,d,tk₀+1+1,os⟩
 refine wBn (wpAny_setField_rec he₂ (by simp) fun h₃ he₃ hs₃=>?_)
 replace hs₃:Heap.SameBut e h₂ h₃:=hs₃
 replace he₃:IsEnum h₃ e I ((i:Int)+1) old:=he₃
 have nI:∀ {b o},b≠e→h₁.get? b=some o→h₃.get? b=some o:=fun hb e1=>hs₃.extBut _ _ hb (hs₂.extBut _ _ hb e1)
 have hI₃:h₃.IsStrIter I T x t (i+1):=let ⟨o,h1,h2⟩:=hI₁;⟨o,nI (Ne.symm hne) h1,h2⟩
 have k3:∀ b o,b≠e→b≠I→hp.get? b=some o→h₃.get? b=some o:=fun b o n1 n2 e1=>nI n1 (hs₁.extBut _ _ n2 e1)
 have sz3:h₃.objs.size=hp.objs.size:=by rw [hs₃.1,hs₂.1,hs₁.1]
 show wpAny _ _ (newTuple [.int i (tk₀+1),.str ⟨#[c]⟩ tk₀]>>=_) _ _ ⟨h₃,g,d,tk₀+1+1,os⟩
 refine wBn (wpAny_newTuple ?_)
 have he₄:IsEnum (h₃.push {cls:=.type "tuple",data:=.seq #[.int i (tk₀+1),.str ⟨#[c]⟩ tk₀]}) e I ((i:Int)+1) old:=Heap.get?_push_of_some _ he₃
 have ht₄:(h₃.push {cls:=.type "tuple",data:=.seq #[.int i (tk₀+1),.str ⟨#[c]⟩ tk₀]}).get? hp.objs.size=some {cls:=.type "tuple",data:=.seq #[.int i (tk₀+1),.str ⟨#[c]⟩ tk₀]}:=sz3▸Heap.get?_push_size _ rfl
 have k4:∀ b o,b≠e→b≠I→hp.get? b=some o→(h₃.push {cls:=.type "tuple",data:=.seq #[.int i (tk₀+1),.str ⟨#[c]⟩ tk₀]}).get? b=some o:=fun b o n1 n2 e1=>Heap.get?_push_of_some _ (k3 b o n1 n2 e1)
 have hI₄:(h₃.push {cls:=.type "tuple",data:=.seq #[.int i (tk₀+1),.str ⟨#[c]⟩ tk₀]}).IsStrIter I T x t (i+1):=let ⟨o,h1,h2⟩:=hI₃;⟨o,Heap.get?_push_of_some _ h1,h2⟩
 have hel:hp.objs.size≠e:=Nat.ne_of_gt (Heap.lt_size he)
 generalize h₃.push {cls:=.type "tuple",data:=.seq #[.int i (tk₀+1),.str ⟨#[c]⟩ tk₀]}=h₄ at he₄ ht₄ k4 hI₄ ⊢
 show wpAny _ _ (ownedTupleIsFree (.ref e)>>=_) _ _ ⟨h₄,g,d,tk₀+1+1,os⟩
 rw [sz3]
 refine wBn ?_
 unfold ownedTupleIsFree
 refine wBn (wpAny_field he₄ rfl (x:=.none) rfl (wPu ?_))
 simp only [if_true]
 refine wBn (wpAny_rule ?_)
 refine wBn (wpAny_field he₄ rfl (x:=old) rfl ?_)
 refine wBn (wpAny_setField_rec he₄ (by simp) fun h₅ he₅ hs₅=>?_)
 replace hs₅:Heap.SameBut e h₄ h₅:=hs₅
 replace he₅:IsEnum h₅ e I ((i:Int)+1) (.str ⟨#[c]⟩ tk₀):=he₅
 show wpAny _ _ (ownedTupleHandOut (.ref e) (.ref hp.objs.size)>>=_) _ _ ⟨h₅,g,d,tk₀+1+1,os⟩
 refine wBn ?_
 unfold ownedTupleHandOut
 refine wBn (wpAny_setField_rec he₅ (by simp) fun h₆ he₆ hs₆=>?_)
 replace hs₆:Heap.SameBut e h₅ h₆:=hs₆
 replace he₆:IsEnumOut h₆ e I ((i:Int)+1) (.str ⟨#[c]⟩ tk₀) hp.objs.size:=he₆
 refine wpAny_setField_rec he₆ (by simp) fun h₇ he₇ hs₇=>?_
 replace hs₇:Heap.SameBut e h₆ h₇:=hs₇
 replace he₇:IsEnumOut h₇ e I ((i:Int)+1) (.str ⟨#[c]⟩ tk₀) hp.objs.size:=he₇
 have k7:∀ {b o},b≠e→h₄.get? b=some o→h₇.get? b=some o:=fun hb e1=>hs₇.extBut _ _ hb (hs₆.extBut _ _ hb (hs₅.extBut _ _ hb e1))
 refine wBn (wpAny_letGo (wPu ⟨_,rfl,hQ h₇ (tk₀+1) hp.objs.size ?_ he₇ (J0k _) (k7 hel ht₄) fun b o n1 n2 e1=>k7 n1 (k4 b o n1 n2 e1)⟩))
 exact let ⟨o,h1,h2⟩:=hI₄;⟨o,k7 (Ne.symm hne) h1,h2⟩
def EnP (i:Nat)(c:Str)(n:Nat)(h:Heap)(v:Value):Prop:=∃ a k u,v = .ref a∧h.IsTuple a #[.int i k,.str c u]∧n≤u
noncomputable abbrev En (i:Nat) (c:Str) (n:Nat):X:=.p (EnP i c n)
theorem EnP.st {i c n}:∀ h h' v,Kps h h'→EnP i c n h v→EnP i c n h' v:=fun h h' v hk ⟨a,k,u,e,⟨o,q⟩,r⟩=>⟨a,k,u,e,⟨o,hk _ _ q.1,q.2⟩,r⟩
noncomputable def Z0m (tb:Nat) (c:Str):List X:=c.cps.toList.mapIdx fun i k=>En i ⟨#[k]⟩ tb
variable {env:Env}{ns:List (Str×Bool)}{xs xs':List (Option X)}{p1 p2 p3 npos pos:Pos}
theorem Z0y {n m:Str}{b b':Bool}{k:Nat}{i tb:Nat}{c:Str}{xs1:List (Option X)}(hh:A.handled=none)(p:Put ns xs n b (some (I (i:Int))) xs1)(q:Put ns xs1 m b' (some (Sn c tb)) xs'):TgX w A env ns xs (.Tuple [.Name n p1,.Name m p2] k p3) (En i c tb) xs':=fun own s v F C hv=>by
 skip
 refine o01 hv fun _ r9a=>o32 r9a fun a t u e9a ht hu=>?_;subst e9a;clear hv
 skip
 have ht:s.heap.IsTuple a #[.int i t,.str c u]:=let ⟨o,h1,h2⟩:=ht;⟨o,of_hideAll _ h1,h2⟩
 refine wpAny_assign_Tuple hh ht rfl rfl fun h' hs=>?_
 have hk:Kps s.heap h':=fun b o e=>hs b o (Nat.ne_of_lt (Heap.lt_size e)) e
 have F1:=F.keeps hk
 refine wpAny_assignInOrder_more ?_
 refine wpAny_assign_Name (J3j (s:={s with heap:=h'}) (x:=I (i:Int)) F1 Rd.int p fun h2 tk F2 S2=>?_)
 refine wpAny_assignInOrder_more ?_
 refine wpAny_assign_Name (J3j (s:={s with heap:=h2,toks:=tk}) (x:=Sn c tb) F2 (Z5z hu) q fun h3 tk3 F3 S3=>?_)
 refine wpAny_assignInOrder_none ⟨F3,(xi2 _ _ rfl),(Sto.of_kps hk).trans (S2.trans S3)⟩
theorem Z2c {tb:Nat}{own:List Addr}{s:Shared}{c:Str}{t:Tok}(hh:A.handled=none)(ha:c.cps.all (· < 128)=true) :
  wpAny (model PW w) A (call (.type "enumerate") [.str c t]) (fun v s1=>Keeps s s1∧wpAny (model PW w) A (pyIter v) (fun it s2=>∃ wr fp St,∀ elts k pos,Dr w A tb own (.Tuple elts k pos) s s2 (Z0m tb c) it wr fp St) NoE s1) NoE s:=by
 refine call_enumerate_str fun h' he hI hsz hk=>⟨(xi2 h' _ ⟨rfl,hk⟩),wpAny_pyIter_enum he ?_⟩
 have hT:strIterType c="str_ascii_iterator":=by unfold strIterType;rw [ha];rfl
 rw [hT] at hI
 have hne:s.heap.objs.size+1≠s.heap.objs.size:=Nat.succ_ne_self _
 have n0:s.heap.get? s.heap.objs.size=none:=J0k _
 have n1:s.heap.get? (s.heap.objs.size+1)=none:=by
  exact Heap.get?_none_of_le (Nat.le_succ _)
 skip
 obtain ⟨e,hE⟩:∃ e,e=s.heap.objs.size+1:=⟨_,rfl⟩
 obtain ⟨J,hJ⟩:∃ J,J=s.heap.objs.size:=⟨_,rfl⟩
 skip
 rw [← hE,← hJ] at he hne
 rw [← hE] at n1
 rw [← hJ] at hI n0
 refine xi3 ([e,J]) ([e,J]) (fun i h=>(∃ old,IsEnum h e J i old)∧h.IsStrIter J "str_ascii_iterator" c t i) (fun elts k pos=>hE▸?_)
 have hne':e≠J:=hne
 have hlen:(Z0m tb c).length=c.cps.size:=by simp [Z0m]
 refine ⟨fun i h h' st hk _=>?_,fun i x s1 Q E hx htb st al hQ=>?_,fun s1 Q E st hQ=>?_,⟨⟨_,he⟩,hI⟩,fun b hb=>?_,fun b hb=>?_,(xi2 h' _ ⟨rfl,hk⟩),fun i h st b hb=>?_⟩
 ·refine ab fun Q q9=>?_
  obtain ⟨⟨old,h1⟩,o,h2,h3⟩:=st
  refine q9 ?_
  exact ⟨⟨old,hk e (by simp) _ h1⟩,o,hk J (by simp) _ h2,h3⟩
 ·rw [Z0m,List.getElem?_mapIdx] at hx
  cases q:c.cps.toList[i]? with
  |none=>rw [q] at hx;cases hx
  |some k'=>
   rw [q] at hx;cases hx
   obtain ⟨⟨old,h1⟩,h2⟩:=st
   have hT:s1.TypeIs (.ref e) "enumerate":=⟨_,h1,rfl⟩
   unfold pyNext
   refine wBn (wpAny_attempt (wpAny_callSpecial?_slot (name:=Str.ofString "__next__") hT F.slot_enumerate_next
    (wpAny_call_entry F.slot_enumerate_next hT F.entry_enumerate_next (J7g (T:="str_ascii_iterator") (x:=c) (t:=t) (c:=k') (fun A s Q E st hQ=>wpAny_nextOf_ascii_item st (by simpa using q) hQ) h1 h2 hne' fun h4 k4 a g1 g2 g3 g4 g5=>?_) (F.args_enumerate_next_1 _))))
   refine wPu ⟨_,rfl,?_⟩
   refine wpAny_letOwnedTupleGo_enum g2 fun h5 g6 g7=>?_
   have g7:Heap.SameBut e h4 h5:=g7
   have ae:a≠e:=by rintro rfl;rw [h1] at g3;cases g3
   refine hQ (.ref a) h5 _ ⟨EnP.st,a,k4,s1.toks,rfl,⟨_,hideAll_get _ ((g7.2 a ae).trans g4) fun hm=>?_,rfl,_,rfl⟩,htb⟩ ⟨⟨_,by simpa using g6⟩,?_⟩ fun b o hb e1=>?_
   ·refine o10 (al a hm) fun o e2=>?_;rw [g3] at e2;cases e2
   ·refine o11 g1 fun o q1 q2=>?_;clear g1;exact ⟨o,(g7.2 J (Ne.symm hne')).trans q1,q2⟩
   ·simp only [List.mem_cons,List.not_mem_nil,or_false,not_or] at hb
    exact (g7.2 b hb.1).trans (g5 b o hb.1 hb.2 e1)
 ·refine o01 st fun n9a h2=>?_;obtain ⟨old,h1⟩:=n9a;clear st
  rw [hlen] at h1 h2
  refine wpAny_pyNext_enum_endD (Draws.strAscii (prog:=PW) (w:=w) (A:=A.in1) hh J c t) h1 h2 fun h4 g=>⟨rfl,hQ h4 _ fun b o hb e1=>g b o (fun q=>hb (by simp [q])) e1⟩
 ·refine fb2 hb ?_ ?_
  ·exact .inl n1
  ·exact .inl n0
 ·refine fb2 hb ?_ ?_
  ·exact n1
  ·exact n0
 ·refine o01 st fun n9a h2=>?_;obtain ⟨old,h1⟩:=n9a;clear st
  refine fb2 hb ?_ ?_
  ·exact ⟨_,h1,fun vs n q=>by cases q⟩
  ·exact J3z h2
theorem K3z {f:Expr}{T:String}{es:List Expr}{ys:List X}{own:List Addr}{s:Shared}{Q:Value→Shared→Prop}(hn:nAt f=true)(hf:VE w A env ns xs f (.v (.type T)))(ha:VG w A env ns xs es ys)(F:Frm own env ns xs s.heap)(C:Cx w own s.heap)
  (h:∀ s1 vs,Keeps s s1→XAll own s1.heap vs ys→wpAny (model PW w) A (call (.type T) vs) Q NoE s1):wpAny (model PW w) A (eval (.Call f es [] pos) env) Q NoE s:=by
 rw [J0o pos env hn]
 refine wBn (J0 (hf.h own s F C) fun v s1 hv k1=>?_)
 have hv:v = .type T:=hv
 subst hv
 refine PyProof.Rows.callWith_type (ha.h.1 _) (J1y ha.h (F.keeps (Kee.kps k1)) (C.keeps (Kee.kps k1)) fun a s2 hk hx k2=>?_)
 rw [hk]
 exact h s2 a.pos (Kee.trans k1 k2) hx
noncomputable def J2x (tb:Nat) (a:Str) (i:Nat):Option X×Option X:=match i with
 |0=>(none,none)
 |i+1=>(some (I (i:Int)),(J8g tb a)[i]?)
theorem J4i {a:Str}{c tb k:Nat}(hA:Rm 2 A)(hk:a.cps.toList[k]? = some c)(hf:∀ i,i<k→a.cps.toList[i]?≠some c)(ha:a.cps.all (· < 128)=true):FB w tb A (.ref 80) [S a,So ⟨#[c]⟩ tb] (I (k:Int)):=by
 refine K0q (j:=2) (ns:=[("a",false),("b",false),("i",false),("j",false)]) ⟨fun _=>(xi3 _ _ _ rfl),fun _=>rfl,rfl,⟨rfl,rfl,rfl,rfl,rfl,rfl⟩,by decide,by decide,by decide⟩ hA.dl rfl ((vs2 fun _ _=>rfl)) ?_
 intro L
 generalize he:fEnv _ _ _=env
 let Inv:Nat→List (Option X):=fun i=>[some (S a),some (So ⟨#[c]⟩ tb),(J2x tb a i).1,(J2x tb a i).2]
 refine ⟨Inv (k+1),?_⟩
 apply K7e
 have hkl:k<a.cps.toList.length:=(List.getElem?_eq_some_iff.mp hk).1
 have en:∀ {i x},(Z0m tb a)[i]? = some x→∃ k,a.cps.toList[i]? = some k∧x=En i ⟨#[k]⟩ tb:=by
  intro i x h
  rw [Z0m,List.getElem?_mapIdx] at h
  cases q:a.cps.toList[i]? with
  |none=>rw [q] at h;cases h
  |some k=>rw [q] at h;cases h;exact ⟨k,rfl,rfl⟩
 have hl:∀ {i k},a.cps.toList[i]? = some k→J2x tb a (i+1)=(some (I (i:Int)),some (Sn ⟨#[k]⟩ tb)):=by
  intro i k h
  show (some (I (i:Int)),(J8g tb a)[i]?)=_
  rw [J8g,List.getElem?_map,h];rfl
 refine J9y (f:=.ret (I (k:Int))) (ds:=Z0m tb a) Inv k rfl (fun i hi=>?_) ?_ ?_ ?_ (fun _=>rfl)
 ·show (true && (true && (J3k (J2x tb a i).1 && (J3k (J2x tb a i).2 && true))))=true
  cases i with
  |zero=>rfl
  |succ i=>
   obtain ⟨k',hk'⟩:∃ k',a.cps.toList[i]? = some k':=⟨_,List.getElem?_eq_getElem (Nat.lt_trans hi hkl)⟩
   rw [hl hk'];rfl
 ·intro own s htb F C
  subst he
  refine K3z (T:="enumerate") (ys:=[S a]) rfl ?_ ?_ F C fun s1 vs k1 hx=>?_
  ·exact J2s ⟨by with_unfolding_all rfl⟩ ⟨by with_unfolding_all rfl⟩ ⟨fun _=>by with_unfolding_all rfl⟩ ⟨by with_unfolding_all rfl⟩ ⟨by with_unfolding_all rfl⟩
  ·repeat' x_close
  ·refine o11 hx.one fun v e9a hv=>?_;subst e9a
   refine o10 (Rd.inv_str hv) fun t e9a=>?_;subst e9a
   refine wMo (Z2c (tb:=tb) (own:=own) hA.deeper.hd ha) (fun v s2 q=>⟨Kee.trans k1 q.1,wMo q.2 (fun it s3 q=>?_) fun _ _ q=>q⟩) fun _ _ q=>q
   refine o30 q fun wr fp St W=>?_;clear q
   exact xi3 wr fp St ((W _ _ _).back k1)
 ·intro i x hi hx
  refine o11 (en hx) fun k' hk' e9a=>?_;subst e9a
  have hne:k'≠c:=fun q=>hf i hi (q▸hk')
  refine xi2 (Inv (i+1)) .next ⟨?_,.inl rfl,VX.h ?_⟩
  ·show TgX _ _ _ _ _ _ _ [_,_,(J2x tb a (i+1)).1,(J2x tb a (i+1)).2]
   rw [hl hk']
   exact Z0y (by subst he;exact hA.deeper.hd) (.tail (.tail .head)) (.tail (.tail (.tail .head)))
  ·show VX _ _ _ _ [_,_,(J2x tb a (i+1)).1,(J2x tb a (i+1)).2] _ _ [_,_,(J2x tb a (i+1)).1,(J2x tb a (i+1)).2]
   rw [hl hk']
   apply J0b
   ·apply J0g
    ·refine VT.eq ?_ (show decide ((⟨#[k']⟩:Str)=⟨#[c]⟩)=false by simp [hne])
     apply wt_isor
     repeat' x_close
    ·exact J0c
   ·exact J0c
 ·right
  refine xi3 (En k ⟨#[c]⟩ tb) (Inv (k+1)) (I (k:Int)) ⟨by rw [Z0m,List.getElem?_mapIdx,hk];rfl,rfl,?_,VX.h ?_⟩
  ·show TgX _ _ _ _ _ _ _ [_,_,(J2x tb a (k+1)).1,(J2x tb a (k+1)).2]
   rw [hl hk]
   exact Z0y (by subst he;exact hA.deeper.hd) (.tail (.tail .head)) (.tail (.tail (.tail .head)))
  ·show VX _ _ _ _ [_,_,(J2x tb a (k+1)).1,(J2x tb a (k+1)).2] _ _ [_,_,(J2x tb a (k+1)).1,(J2x tb a (k+1)).2]
   rw [hl hk]
   apply J0i
   ·apply J2
    ·refine VT.eq ?_ (show decide ((⟨#[c]⟩:Str)=⟨#[c]⟩)=true by simp)
     apply wt_isor
     repeat' x_close
    ·apply J0i
     apply J0n
     repeat' x_close
end
section
variable {w:World}{A:Around}{env:Env}{ns:List (Str×Bool)}{xs xs':List (Option X)}{p1 p2 p3 npos pos:Pos}{e1 e2:Expr}{x z:X}
theorem K6e {f:Expr}{a:Addr}{c:Str}{own:List Addr}{s:Shared}(hn:nAt f=true)(hf:VE w A env ns xs f (.v (.ref a)))(hk:∀ P,J5 (KF P) a=true)
  (hp:∀ pos,(backTo pos (starEach [e1,e2] env)).any (·.1)=false) (he1:starEach [e1,e2] env=(false,eval e1 env)::starEach [e2] env) (he2:starEach [e2] env=(false,eval e2 env)::starEach [] env)
  (F:Frm own env ns xs s.heap) (C:Cx w own s.heap)
  (h1:∀ s',Keeps s s'→Frm own env ns xs s'.heap→Cx w own s'.heap→s.toks≤s'.toks→wpAny (model PW w) A (eval e1 env) (fun v s1=>XIn own s1.heap v x∧Keeps s' s1∧1≤s1.toks) NoE s')
  (h2:∀ s',Frm own env ns xs s'.heap→Cx w own s'.heap→wpAny (model PW w) A (eval e2 env) (fun v s1=>(∃ u,v = .str c u∧u<s1.toks∧s'.toks≤u)∧Keeps s' s1) NoE s')
  (hc:∀ tb,FB w tb A (.ref a) [x,So c tb] z):wpAny (model PW w) A (eval (.Call f [e1,e2] [] pos) env) (fun v s'=>K2e own s z v s'∧1≤s'.toks) NoE s:=by
 rw [J0o pos env hn]
 refine wBn (wMo (wpAny_toks (hf.h own s F C)) (fun v s1 q=>?_) fun _ _ q=>q.2)
 refine o02 q fun tk1 hv k1=>?_;clear q
 have hv:v = .ref a:=hv
 subst hv
 have F1:=F.keeps (Kee.kps k1)
 have C1:=C.keeps (Kee.kps k1)
 skip
 refine o21 (J1w C1.glh.K (hk _)) fun o fd ho hd=>?_
 skip
 have sp:wpAny (model PW w) A (spliced (backTo pos (starEach [e1,e2] env))) (fun vs s2=>Keeps s1 s2∧XAll own s2.heap vs [x,So c s2.toks]∧1≤s2.toks) NoE s1:=by
  refine spliced_more (wMo (h1 s1 k1 F1 C1 tk1) (fun v1 s2 q=>?_) fun _ _ q=>q) he1
  refine o02 q fun hx k2 ht=>?_;clear q
  refine spliced_more (wMo (h2 s2 (F1.keeps (Kee.kps k2)) (C1.keeps (Kee.kps k2))) (fun v2 s3 q=>?_) fun _ _ q=>q) he2
  refine ab fun Q q9=>?_
  refine o01 q fun n9a k3=>?_;obtain ⟨u,rfl,h3,h4⟩:=n9a;clear q
  refine q9 ?_
  exact spliced_none ⟨Kee.trans k2 k3,.cons (hx.keeps (Kee.kps k3)) (.cons (Z9r (Nat.lt_of_lt_of_le ht h4) h3) .nil),lTr (lTr ht h4) (Nat.le_of_lt h3)⟩
 refine callWith_function (o:=o) (fd:=fd) ?_
 have hp':=hp pos
 cases q:backTo pos (starEach [e1,e2] env) with
 |nil=>exact (K7b q).elim
 |cons p rest=>
  obtain ⟨b,t⟩:=p
  rw [q] at hp' sp
  have hb:b=false:=by simp at hp';exact hp'.1
  subst hb
  refine evalArgs_plain (wMo sp (fun vs s2 q=>?_) fun _ _ q=>q)
  refine o02 q fun k2 hx ht=>?_;clear q
  refine ⟨⟨Kee.kps k2 _ _ ho,hd⟩,?_⟩
  exact wMo (wpAny_toks_of ht (hc s2.toks own s2 vs (Nat.le_refl _) (C1.keeps (Kee.kps k2)) hx)) (fun v s3 q=>⟨⟨q.2.1,Kee.trans (Kee.trans k1 k2) q.2.2⟩,q.1⟩) fun _ _ q=>q.2
theorem K4g {c:Str}{k:Nat}{own:List Addr}{s:Shared}:wpAny (model PW w) A (eval (.Constant (.str c) k pos) env) (fun v s1=>(∃ u,v = .str c u∧u<s1.toks∧s.toks≤u)∧Keeps s s1) NoE s:=
 wpAny_Constant_str ⟨⟨_,rfl,Nat.lt_succ_self _,Nat.le_refl _⟩,kt⟩
theorem K9s {l r:Expr}{c:Str}{k:Int}{n:Nat}{own:List Addr}{s:Shared}(hl:VE w A env ns xs l (S c))(hr:VE w A env ns xs r (I k))(h0:(decide (k < -(2 ^ 63:Int)) || decide (k ≥ 2 ^ 63))=false)(hd:(seqIndex? k c.length).bind (c.cps[·]?)=some n)
  (hs:∀ t u,subscripted r false (.str c t) (.int k u)=operate [.str c t,.int k u] (getItem (.str c t) (.int k u))) (F:Frm own env ns xs s.heap) (C:Cx w own s.heap) :
  wpAny (model PW w) A (eval (.Subscript l r pos) env) (fun v s1=>(∃ u,v = .str ⟨#[n]⟩ u∧u<s1.toks∧s.toks≤u)∧Keeps s s1) NoE s:=by
 refine Subscript_ (wMo (wpAny_toks (hl.h own s F C)) (fun a s1 q=>?_) fun _ _ q=>q.2)
 refine o02 q fun t1 ha k1=>?_;clear q
 refine wMo (wpAny_toks (hr.h own s1 (F.keeps (Kee.kps k1)) (C.keeps (Kee.kps k1)))) (fun b s2 q=>?_) fun _ _ q=>q.2
 refine o02 q fun t2 hb k2=>?_;clear q
 refine o10 (Rd.inv_str ha) fun t e9a=>?_;subst e9a
 refine o10 (Rd.inv_int hb) fun u e9a=>?_;subst e9a
 exact tail_any (typeIs_str s2 c t) J3s (PyProof.Rows.getItem_str h0 hd ⟨⟨_,rfl,Nat.lt_succ_self _,lTr t1 t2⟩,Kee.trans (Kee.trans k1 k2) kt⟩) (hs t u)
noncomputable def J1:Nat→Nat
 |0=>111
 |1=>112
 |_=>113
noncomputable def J0f (n l:Nat):Str:=⟨(List.replicate n 46++[J1 l]).toArray⟩
theorem J1a (n l:Nat):(J0f n l).length=n+1:=by simp [J0f,Str.length]
theorem J4b (n l:Nat):(seqIndex? (-1) (J0f n l).length).bind ((J0f n l).cps[·]?)=some (J1 l):=by
 rw [J1a]
 have:seqIndex? (-1) (n+1)=some n:=by
  unfold seqIndex?
  have h1:((-1:Int)<0):=by decide
  simp only [h1,if_true]
  have h2:(-1:Int)+((n+1:Nat):Int)=n:=by lia
  rw [h2]
  have h3:((0:Int)≤(n:Int)∧(n:Int)<((n+1:Nat):Int)):=⟨Int.ofNat_nonneg _,Int.ofNat_lt.2 (Nat.lt_succ_self _)⟩
  simp [h3];try exact Int.lt_add_one_of_le (Int.le_refl _)
 rw [this]
 simp [J0f]
theorem K4 (n l:Nat)(hl:l≤2):(J0f n l).cps.toList.countP (· == 46)=n:=by
 have:J1 l≠46:=by
  match l,hl with
  |0,_=>decide
  |1,_=>decide
  |2,_=>decide
 simp [J0f,List.countP_append,List.countP_replicate,this]
noncomputable def lrank:Nat→Nat
 |0=>0
 |1=>1
 |_=>2
theorem Z7w {l tb:Nat}(hA:Rm 2 A)(hl:l≤2):FB w tb A (.ref 80) [S (Str.ofString "opqp"),So ⟨#[J1 l]⟩ tb] (I (lrank l:Int)):=by
 have asc:(Str.ofString "opqp").cps.all (· < 128)=true:=by decide +kernel
 have g0:(Str.ofString "opqp").cps.toList = [111,112,113,112]:=by decide +kernel
 have i0:=J4i (w:=w) (A:=A) (a:=Str.ofString "opqp") (c:=111) (tb:=tb) (k:=0) hA (by rw [g0];rfl) (fun i hi=>absurd hi (Nat.not_lt_zero _)) asc
 have i1:=J4i (w:=w) (A:=A) (a:=Str.ofString "opqp") (c:=112) (tb:=tb) (k:=1) hA (by rw [g0];rfl) (fun i hi=>by rw [g0];match i,hi with|0,_=>decide) asc
 have i2:=J4i (w:=w) (A:=A) (a:=Str.ofString "opqp") (c:=113) (tb:=tb) (k:=2) hA (by rw [g0];rfl) (fun i hi=>by rw [g0];match i,hi with|0,_=>decide|1,_=>decide) asc
 clear asc g0
 match l,hl with
 |0,_=>exact i0
 |1,_=>exact i1
 |2,_=>exact i2
theorem J6k {n l:Nat}(hA:Rm 3 A)(hl:l≤2):VF w A (.ref 227) [S (J0f n l)] (T [.int (lrank l),.int n]):=by
 refine J1g (j:=0) (ns:=[("row",false)]) ⟨fun _=>(xi3 _ _ _ rfl),fun _=>rfl,rfl,⟨rfl,rfl,rfl,rfl,rfl,rfl⟩,by decide,by decide,by decide⟩ hA.dl ?_ (vs1 fun _=>rfl) (by rfl)
 intro env L he
 refine ⟨_,J0i (J0n ⟨fun own s F C=>?_⟩)⟩
 have hrow:∀ p,VE w (A.deeper env) env [("row",false)] [some (S (J0f n l))] (.Name (Str.ofString "row") p) (S (J0f n l)):=fun p=>by x_close
 have ix:∀ tb,FB w tb (A.deeper env) (.ref 80) [S (Str.ofString "opqp"),So ⟨#[J1 l]⟩ tb] (I (lrank l:Int)):=fun tb=>Z7w hA.deeper hl
 refine wpAny_Tuple ?_
 refine spliced_more (wMo (K6e (x:=S (Str.ofString "opqp")) (z:=I (lrank l:Int)) (c:=⟨#[J1 l]⟩) (a:=80) rfl (by x_close) (fun _=>rfl) (fun _=>rfl) rfl rfl F C (fun s' k F' C' ht=>?_) (fun s' F' C'=>K9s (hrow _) (by repeat' x_close) (by decide) (J4b n l) (fun _ _=>by with_unfolding_all rfl) F' C') ix) (fun v s1 q=>?_) fun _ _ q=>q) rfl
 ·exact wpAny_Constant_str ⟨Rd.str,kt,Nat.succ_le_succ (Nat.zero_le _)⟩
 refine o01 q fun n9a ht=>?_;obtain ⟨hv,k1⟩:=n9a;clear q
 have F1:=F.keeps (Kee.kps k1)
 have C1:=C.keeps (Kee.kps k1)
 refine spliced_more (wMo (K6e (x:=S (J0f n l)) (z:=I (n:Int)) (c:=Str.ofString ".") (a:=66) rfl (by x_close) (fun _=>rfl) (fun _=>rfl) rfl rfl F1 C1 (fun s' k F' C' ht'=>?_) (fun s' F' C'=>K4g (own:=own)) fun tb=>?_) (fun u s2 q=>?_) fun _ _ q=>q) rfl
 ·exact wMo (wpAny_toks_of (lTr ht ht') ((hrow _).h own s' F' C')) (fun v s2 q=>⟨q.2.1,q.2.2,q.1⟩) fun _ _ q=>q.2
 ·have:=J6o (w:=w) (a:=J0f n l) (c:=46) (tb:=tb) (Rm.less hA.deeper (by decide):Rm 1 (A.deeper env))
  rw [K4 n l hl] at this
  rw [show Str.ofString "." = ⟨#[46]⟩ by decide +kernel]
  exact this
 refine o01 q fun n9a _=>?_;obtain ⟨hu,k2⟩:=n9a;clear q
 have C2:=C1.keeps (Kee.kps k2)
 refine spliced_none ⟨by show 2≤sizeLine;decide,Rd.tuple (J1j C2.alive) (Heap.get?_push_size _ rfl) rfl rfl ?_,Kee.trans (Kee.trans k1 k2) (xi2 _ _ ⟨rfl,kps_push _⟩)⟩
 exact .cons (Rd.keeps (Rd.keeps hv (Kee.kps k2)) (kps_push _)) (.cons (Rd.keeps hu (kps_push _)) .nil)
end
theorem Z1j {t a:Int}(h:t.natAbs≤3):IntMulOk t a:=by
 have h1:∀ m:Fin 4,Builtin.Int.intBits (m.val:Int)≤64:=by decide +kernel
 have h2:∀ m:Fin 3,Builtin.Int.intBits (Int.negSucc m.val)≤64:=by decide +kernel
 cases t with
 |ofNat n=>exact IntMulOk.of_left (h1 ⟨n,Nat.lt_succ_of_le h⟩)
 |negSucc n=>exact IntMulOk.of_left (h2 ⟨n,h⟩)
noncomputable abbrev Bal:=Nat×Nat
noncomputable abbrev bD (b:Bal):PyData:=.tuple [.int b.1,.int b.2]
noncomputable def J0p (t:Int) (a b:Bal):Bool:=J7f a.1 a.2 b.1 b.2 t
structure Ent where
 p:Nat
 g:Bool
 b:Bal
 t:PyData
noncomputable def J1h (g:Bool):Str:=if g then Str.ofString "give" else Str.ofString "ask"
noncomputable def Ent.d (e:Ent):PyData:=.tuple [.int e.p,.str (J1h e.g),bD e.b,e.t]
noncomputable def J7w (es:List Ent) (p:Nat) (t:Int):Bal:=es.foldl (fun h e=>if e.p=p∧J0p t e.b h=true then e.b else h) (0,0)
noncomputable def J1z (es:List Ent) (p:Nat):PyData:=es.foldl (fun a e=>if e.p=p∧e.g=true then .tuple [bD e.b,e.t] else a) .none
section
variable {w:World}{A:Around}{x:X}
theorem J4d {a b:Bal}{t:Int}(hA:Rm 1 A)(ht:t.natAbs≤3):VF w A (.ref 262) [.d (bD a),.d (bD b),I t] (B (J0p t a b)):=Z3g hA (Z1j ht) (Z1j ht)
noncomputable def J6z {α:Type} (f:α→X) (es:List α):Nat→Option X
 |0=>none
 |i+1=>(es[i]?).map f
theorem J4u {α:Type}{f:α→X}{es:List α}{i:Nat}{e:α}(h:es[i]? = some e):J6z f es (i+1)=some (f e):=by
 show (es[i]?).map f=_;rw [h];rfl
theorem J4r {α:Type}{es:List α}{i:Nat}{e:α}(h:es[i]? = some e):es.take (i+1)=es.take i++[e]:=by rw [List.take_add_one,h];rfl
theorem K0n {α:Type}{f:α→PyData}{es:List α}{i:Nat}{d:PyData}(h:(es.map f)[i]? = some d):∃ e,es[i]? = some e∧d=f e:=by
 rw [List.getElem?_map] at h
 cases q:es[i]? with
 |none=>rw [q] at h;cases h
 |some e=>rw [q] at h;cases h;exact ⟨e,rfl,rfl⟩
theorem J7l {es:List Ent}{i:Nat}:J3k (J6z (fun e=>X.d e.d) es i)=true:=by
 cases i with
 |zero=>rfl
 |succ i=>show J3k ((es[i]?).map _)=true;cases es[i]?<;>rfl
theorem J5s {a b:Nat}:((a:Int) == (b:Int))=decide (a=b):=by
 by_cases h:a=b
 ·simp [h]
 ·have:(a:Int)≠b:=mt Int.ofNat.inj h
  simp [h,this]
theorem Z3h {es:List Ent}{p:Nat}{t:Int}(hA:Rm 2 A)(ht:t.natAbs≤3)(hx:IsL x (es.map Ent.d))(hno:J3k (some x)=true):VF w A (.ref 269) [x,I p,I t] (.d (bD (J7w es p t))):=by
 refine J1g (j:=2) (ns:=[("granted",false),("place",false),("tie",false),("high",false),("entry",false)]) ⟨fun _=>(xi3 _ _ _ rfl),fun _=>rfl,rfl,⟨rfl,rfl,rfl,rfl,rfl,rfl⟩,by decide,by decide,by decide⟩ hA.dl ?_ (vs3 fun _ _ _=>rfl) (by rfl)
 intro env L he
 let Inv:Nat→List (Option X):=fun i=>[some x,some (I p),some (I t),some (.d (bD (J7w (es.take i) p t))),J6z (fun e=>X.d e.d) es i]
 refine ⟨Inv es.length,?_⟩
 apply J0b
 ·apply J0h
  ·x_close
  ·show VE _ _ _ _ _ _ (.d (bD (0,0)))
   repeat' x_close
  ·repeat' x_close
 apply J0b
 ·refine J3e (f:=.next) (x:=x) (ds:=es.map Ent.d) Inv es.length (by subst he;exact hA.deeper.hd) ?_ (J0r hx) rfl (fun i hi=>?_) (fun i d hi hd=>?_) (.inl ⟨by simp,rfl,rfl⟩) (Ok.mk fun _=>rfl)
  ·repeat' x_close
  ·show (J3k (some x) && (true && (true && (true && (J3k (J6z (fun e=>X.d e.d) es i) && true)))))=true
   rw [hno,J7l];rfl
  ·refine o11 (K0n hd) fun e he' e9a=>?_;subst e9a
   refine xi2 ([some x,some (I p),some (I t),some (.d (bD (J7w (es.take i) p t))),some (.d e.d)]) .next ⟨J3o (.tail (.tail (.tail (.tail .head)))),.inl rfl,?_⟩
   have hh:J7w (es.take (i+1)) p t=if e.p=p∧J0p t e.b (J7w (es.take i) p t)=true then e.b else J7w (es.take i) p t:=by
    rw [J4r he',J7w,List.foldl_append];rfl
   have hI:Inv (i+1) = [some x,some (I p),some (I t),some (.d (bD (if e.p=p∧J0p t e.b (J7w (es.take i) p t)=true then e.b else J7w (es.take i) p t))),some (.d e.d)]:=by
    show [_,_,_,_,_]=_
    rw [hh,J4u he']
   rw [hI]
   have go:∀ {ee ss xs'},VT w (A.deeper env) env [("granted",false),("place",false),("tie",false),("high",false),("entry",false)] [some x,some (I p),some (I t),some (.d (bD (J7w (es.take i) p t))),some (.d e.d)] ee (decide (e.p=p) && (J0p t e.b (J7w (es.take i) p t) && true)) →
     VX w (A.deeper env) env [("granted",false),("place",false),("tie",false),("high",false),("entry",false)] [some x,some (I p),some (I t),some (.d (bD (J7w (es.take i) p t))),some (.d e.d)] ss .next [some x,some (I p),some (I t),some (.d (bD e.b)),some (.d e.d)] →
     xs' = [some x,some (I p),some (I t),some (.d (bD (if e.p=p∧J0p t e.b (J7w (es.take i) p t)=true then e.b else J7w (es.take i) p t))),some (.d e.d)]→∀ {pos},VX w (A.deeper env) env [("granted",false),("place",false),("tie",false),("high",false),("entry",false)] [some x,some (I p),some (I t),some (.d (bD (J7w (es.take i) p t))),some (.d e.d)] [.If ee ss [] pos] .next xs':=by
    intro ee ss xs' h1 h2 hx pos
    subst hx
    by_cases c1:e.p=p∧J0p t e.b (J7w (es.take i) p t)=true
    ·rw [if_pos c1]
     exact J0b (J2 (h1.eq (by simp [c1])) h2) J0c
    ·rw [if_neg c1]
     exact J0b (J0g (h1.eq (by simp at c1 ⊢;exact c1)) J0c) J0c
   apply go
   ·apply J1f
    apply J1s
    ·rw [← J5s]
     repeat' x_close
    ·intro _
     apply J1s
     ·apply J0v
      ·x_close
      ·repeat' x_close
       exact J4d (Rm.less hA.deeper (by decide)) ht
     ·intro _
      exact wa_and_nil
   ·apply J0b
    ·apply J0h
     repeat' x_close
    ·exact J0c
   ·rfl
 ·apply J0i
  apply J0n
  show VE _ _ _ _ [_,_,_,some (.d (bD (J7w (es.take es.length) p t))),_] _ _
  rw [List.take_length]
  repeat' x_close
end
section
variable {w:World}{A:Around}{x:X}
theorem K4x {l:Expr}{ds:List PyData}{lo hi:Option Int}{el eu:Option Expr}{p:Pos}{idx:List Nat}(hi':K3t lo hi ds.length=idx)(hw:J9s lo hi ds.length=false)(hsz:idx.length≤1000)
  (hs:Ok (∀ a b,∃ ops,subscripted (.Slice el eu none p) false (.ref a) (.ref b)=operate ops (getItem (.ref a) (.ref b)))):V2 w A (subscriptTail l (.Slice el eu none p)) (T ds) (.p (SlP lo hi)) (T (pick idx ds)):=by
 subst hi';exact ⟨J8y hw hsz hs.h⟩
theorem Ok.of {p:Prop}(h:p):Ok p:=⟨h⟩
theorem J5w {a b:Str}:Spec.same (.str a) (.str b)=decide (a=b):=by
 show (a == b)=_
 by_cases h:a=b<;>simp [h]
theorem J7c:Str.ofString "ask"≠Str.ofString "give":=by decide +kernel
theorem K5g {e:Ent}{p:Nat}:Spec.same (.tuple [.int e.p,.str (J1h e.g)]) (.tuple [.int p,.str (Str.ofString "give")])=(decide (e.p=p) && e.g):=by
 have h1:Spec.same (.tuple [.int e.p,.str (J1h e.g)]) (.tuple [.int p,.str (Str.ofString "give")])=(((e.p:Int) == (p:Int)) && (decide (J1h e.g=Str.ofString "give") && true)):=by
  rw [← J5w];rfl
 rw [h1,J5s]
 cases hg:e.g
 ·have:J1h false≠Str.ofString "give":=J7c
  simp [this]
 ·have:J1h true=Str.ofString "give":=rfl
  simp [this]
theorem J7s {g:Bool}:PyData.strOk (J1h g)=true:=by cases g<;>decide +kernel
theorem Z2v {es:List Ent}{p:Nat}(hA:Rm 2 A)(hx:IsL x (es.map Ent.d))(hno:J3k (some x)=true):VF w A (.ref 276) [x,I p] (.d (J1z es p)):=by
 refine J1g (j:=2) (ns:=[("granted",false),("place",false),("last",false),("entry",false)]) ⟨fun _=>(xi3 _ _ _ rfl),fun _=>rfl,rfl,⟨rfl,rfl,rfl,rfl,rfl,rfl⟩,by decide,by decide,by decide⟩ hA.dl ?_ (vs2 fun _ _=>rfl) (by rfl)
 intro env L he
 let Inv:Nat→List (Option X):=fun i=>[some x,some (I p),some (.d (J1z (es.take i) p)),J6z (fun e=>X.d e.d) es i]
 refine ⟨Inv es.length,?_⟩
 apply J0b
 ·apply J0h
  ·x_close
  ·show VE _ _ _ _ _ _ (.d .none)
   repeat' x_close
  ·repeat' x_close
 apply J0b
 ·refine J3e (f:=.next) (x:=x) (ds:=es.map Ent.d) Inv es.length (by subst he;exact hA.deeper.hd) ?_ (J0r hx) rfl (fun i hi=>?_) (fun i d hi hd=>?_) (.inl ⟨by simp,rfl,rfl⟩) (Ok.mk fun _=>rfl)
  ·repeat' x_close
  ·show (J3k (some x) && (true && (true && (J3k (J6z (fun e=>X.d e.d) es i) && true))))=true
   rw [hno,J7l];rfl
  ·refine o11 (K0n hd) fun e he' e9a=>?_;subst e9a
   refine xi2 ([some x,some (I p),some (.d (J1z (es.take i) p)),some (.d e.d)]) .next ⟨J3o (.tail (.tail (.tail .head))),.inl rfl,?_⟩
   have hh:J1z (es.take (i+1)) p=if e.p=p∧e.g=true then .tuple [bD e.b,e.t] else J1z (es.take i) p:=by
    rw [J4r he',J1z,List.foldl_append];rfl
   have hI:Inv (i+1) = [some x,some (I p),some (.d (if e.p=p∧e.g=true then .tuple [bD e.b,e.t] else J1z (es.take i) p)),some (.d e.d)]:=by
    show [_,_,_,_]=_
    rw [hh,J4u he']
   rw [hI]
   have go:∀ {ee ss xs'},VT w (A.deeper env) env [("granted",false),("place",false),("last",false),("entry",false)] [some x,some (I p),some (.d (J1z (es.take i) p)),some (.d e.d)] ee (decide (e.p=p) && e.g) →
     VX w (A.deeper env) env [("granted",false),("place",false),("last",false),("entry",false)] [some x,some (I p),some (.d (J1z (es.take i) p)),some (.d e.d)] ss .next [some x,some (I p),some (T [bD e.b,e.t]),some (.d e.d)] →
     xs' = [some x,some (I p),some (.d (if e.p=p∧e.g=true then .tuple [bD e.b,e.t] else J1z (es.take i) p)),some (.d e.d)]→∀ {pos},VX w (A.deeper env) env [("granted",false),("place",false),("last",false),("entry",false)] [some x,some (I p),some (.d (J1z (es.take i) p)),some (.d e.d)] [.If ee ss [] pos] .next xs':=by
    intro ee ss xs' h1 h2 hx pos
    subst hx
    by_cases c1:e.p=p∧e.g=true
    ·rw [if_pos c1]
     exact J0b (J2 (h1.eq (by simp [c1])) h2) J0c
    ·rw [if_neg c1]
     exact J0b (J0g (h1.eq (by simp at c1 ⊢;exact c1)) J0c) J0c
   apply go
   ·rw [← K5g]
    apply wt_cmp
    ·x_close
    ·show VE _ _ _ _ _ _ (T [.int e.p,.str (J1h e.g)])
     apply w_sub
     ·x_close
     ·repeat' x_close
     ·exact v_tslice (lo:=none) (hi:=some 2) (ds:=[.int e.p,.str (J1h e.g),bD e.b,e.t]) (Ok.mk rfl) (Ok.mk rfl) (Ok.mk fun _ _=>⟨_,by with_unfolding_all rfl⟩)
    ·repeat' x_close
    ·refine Z0g .d .d ⟨?_,?_⟩ ⟨?_,?_⟩ (Rm.less hA.deeper (by decide))
     ·show (true && (PyData.strOk _ && true))=true
      rw [J7s];rfl
     ·exact lBt rfl
     ·show (true && (PyData.strOk _ && true))=true
      rw [show PyData.strOk (Str.ofString "give")=true by decide +kernel];rfl
     ·exact lBt rfl
   ·apply J0b
    ·apply J0h
     ·x_close
     ·show VE _ _ _ _ _ _ (T [bD e.b,e.t])
      apply w_sub
      ·x_close
      ·repeat' x_close
      ·exact K4x (lo:=some 2) (hi:=none) (idx:=[2,3]) (ds:=[.int e.p,.str (J1h e.g),bD e.b,e.t]) (by show K3t (some 2) none 4 = [2,3];decide +kernel) (by show J9s (some 2) none 4=false;decide +kernel) (by decide) (Ok.mk fun _ _=>⟨_,by with_unfolding_all rfl⟩)
     ·repeat' x_close
    ·exact J0c
   ·rfl
 ·apply J0i
  apply J0n
  show VE _ _ _ _ [_,_,some (.d (J1z (es.take es.length) p)),_] _ _
  rw [List.take_length]
  repeat' x_close
noncomputable def K6f (n:Nat):Str:=⟨(List.replicate n 46).toArray⟩
theorem J9h (n:Nat):(List.replicate n (#[46]:Array Nat)).foldl (·++·) #[]=(List.replicate n 46).toArray:=by
 have:∀ (m:Nat) (a:Array Nat),(List.replicate m (#[46]:Array Nat)).foldl (·++·) a=a++(List.replicate m 46).toArray:=by
  intro m
  induction m with
  |zero=>intro a;simp
  |succ m ih=>
   intro a
   rw [List.replicate_succ,List.foldl_cons,ih,List.replicate_succ]
   apply Array.ext'
   simp
 rw [this];simp
theorem Z7t {n:Nat}(hn:n≤100):V2 w A (binaryOp .Mult) (S (Str.ofString ".")) (I n) (S (K6f n)):=by
 refine ⟨pr2 fun own s a b C ha hb=>?_⟩
 obtain ⟨t,rfl⟩:=Rd.inv_str ha;obtain ⟨u,rfl⟩:=Rd.inv_int hb
 have e1:(Str.ofString ".").length=1:=by decide +kernel
 have e2:Str.ofString "." = ⟨#[46]⟩:=by decide +kernel
 refine PySem.P.mul_str ?_ (fun _ _=>?_) (fun _ _=>?_) ?_
 ·have h1:¬ ((n:Int) < -(2 ^ 63)):=Int.not_lt.2 (Int.le_trans (by decide) (Int.ofNat_nonneg _))
  have h2:¬ ((n:Int) ≥ 2 ^ 63):=Int.not_le.2 (Int.ofNat_lt.2 (Nat.lt_of_le_of_lt hn (by decide)))
  simp only [h1,h2,decide_false,Bool.or_self]
 ·rw [e1]
  have:(n:Int)≤100:=Int.ofNat_le.2 hn
  intro h
  have hp:(0:Int)<n∨n=0:=by lia
  rcases hp with hp|hp
  ·have:(1:Int) * n≤2 ^ 63 - 1:=by lia
   have:=(Int.le_ediv_iff_mul_le hp).mpr this
   lia
  ·subst hp;simp at *
 ·rw [e1]
  have:¬ (1 * (n:Int).toNat > sizeLine):=by have:sizeLine=2 ^ 24:=rfl;lia
  exact decide_eq_false this
 ·split
  ·have:n=0:=by lia
   subst this
   refine ⟨by decide,Rd.str,kt⟩
  ·split
   ·rename_i h1 h2
    rw [e1] at h2
    have:n=1:=by simp at h2;exact Int.ofNat.inj h2
    subst this
    refine ⟨?_,Kee.refl⟩
    rw [show S (K6f 1)=S (Str.ofString ".") from by rw [e2];rfl]
    exact Rd.str
   ·refine ⟨?_,?_,kt⟩
    ·rw [e2]
     show ((List.replicate (n:Int).toNat (#[46]:Array Nat)).foldl (·++·) #[]).size≤sizeLine
     rw [J9h]
     simp only [List.size_toArray,List.length_replicate,Int.toNat_natCast]
     exact J0l (lTr hn (by decide))
    ·have:(⟨(List.replicate (n:Int).toNat (Str.ofString ".").cps).foldl (·++·) #[]⟩:Str)=K6f n:=by
      rw [e2];show Str.mk _=_;rw [Int.toNat_natCast,J9h];rfl
     rw [this];exact Rd.str
theorem K4o {l:Nat}(hl:l≤2):(seqIndex? (l:Int) (Str.ofString "opq").length).bind ((Str.ofString "opq").cps[·]?)=some (J1 l):=by
 match l,hl with
 |0,_=>decide +kernel
 |1,_=>decide +kernel
 |2,_=>decide +kernel
theorem K2r (n:Nat):(K6f n).length=n:=by simp [K6f,Str.length]
theorem K1u {n l:Nat}:K6f n++(⟨#[J1 l]⟩:Str)=J0f n l:=by
 show Str.mk _=Str.mk _
 congr 1
 apply Array.ext'
 simp [K6f]
theorem J4o {b:Bal}(hA:Rm 1 A)(hn:b.1≤100)(hl:b.2≤2):VF w A (.ref 248) [.d (bD b)] (S (J0f b.1 b.2)):=by
 refine J1g (j:=0) (ns:=[("ballot",false)]) ⟨fun _=>(xi3 _ _ _ rfl),fun _=>rfl,rfl,⟨rfl,rfl,rfl,rfl,rfl,rfl⟩,by decide,by decide,by decide⟩ hA.dl ?_ (vs1 fun _=>rfl) (by rfl)
 intro env L he
 refine ⟨_,J0i (J0n ?_)⟩
 rw [← K1u]
 apply w_bin
 ·apply w_bin
  ·x_close
  ·repeat' x_close
  ·exact Z7t hn
 ·apply w_sub
  ·x_close
  ·repeat' x_close
  ·refine J3b (Ok.mk ?_) (K4o hl) (Ok.mk rfl)
   have h1:¬ ((b.2:Int) < -(2 ^ 63)):=Int.not_lt.2 (Int.le_trans (by decide) (Int.ofNat_nonneg _))
   have h2:¬ ((b.2:Int) ≥ 2 ^ 63):=Int.not_le.2 (Int.ofNat_lt.2 (Nat.lt_of_le_of_lt hl (by decide)))
   simp only [h1,h2,decide_false,Bool.or_self]
 ·refine J2c ?_
  rw [K2r]
  have:(Str.mk #[J1 b.2]).length=1:=rfl
  exact Nat.lt_of_le_of_lt hn (by decide)
end
section
variable {w:World}{A:Around}{x:X}
noncomputable def J2a (n:Nat) (f:Nat→Bool):Bool:=(List.range n).all f
theorem J3q {n:Nat}{f:Nat→Bool}(h:J2a n f=true){i:Nat}(hi:i<n):f i=true:=List.all_eq_true.mp h i (List.mem_range.mpr hi)
theorem Z4u {n l:Nat}(hn:n≤40)(hl:l≤2):Txt.count (J0f n l) (Str.ofString ".")=n:=by
 have:J2a 41 (fun n=>J2a 3 fun l=>Txt.count (J0f n l) (Str.ofString ".") == n)=true:=by decide +kernel
 exact eq_of_beq (J3q (J3q this (Nat.lt_succ_of_le hn)) (Nat.lt_succ_of_le hl))
theorem Z5q {l:Nat}(hl:l≤2):Builtin.Str.occurrences (Str.ofString "opq") ⟨#[J1 l]⟩ 0 (Str.ofString "opq").length 1 = [l]:=by
 match l,hl with
 |0,_=>decide +kernel
 |1,_=>decide +kernel
 |2,_=>decide +kernel
theorem K4y {n l:Nat}(hA:Rm 1 A)(hn:n≤40)(hl:l≤2):VF w A (.ref 255) [S (J0f n l)] (.d (bD (n,l))):=by
 refine J1g (j:=0) (ns:=[("row",false)]) ⟨fun _=>(xi3 _ _ _ rfl),fun _=>rfl,rfl,⟨rfl,rfl,rfl,rfl,rfl,rfl⟩,by decide,by decide,by decide⟩ hA.dl ?_ (vs1 fun _=>rfl) (by rfl)
 intro env L he
 refine ⟨_,J0i (J0n ?_)⟩
 show VE _ _ _ _ _ _ (T [.int n,.int l])
 apply w_tuple
 ·apply wl_cons
  ·x_close
  ·apply K6 (z:=I n) (id:="str.count")
   ·x_close
   ·x_close
   ·x_close
   ·x_close
   ·apply wg_cons
    ·x_close
    ·repeat' x_close
   ·exact Z4n (b:=Str.ofString ".")
   ·have:=Z4m (w:=w) (A:=A.deeper env) (a:=J0f n l) (b:=Str.ofString ".")
    rw [Z4u hn hl] at this;exact this
  ·apply wl_cons
   ·x_close
   ·apply K6 (z:=I l) (id:="str.index")
    ·x_close
    ·x_close
    ·x_close
    ·x_close
    ·apply wg_cons
     ·x_close
     ·apply wl_cons
      ·x_close
      ·apply w_sub
       ·x_close
       ·repeat' x_close
       ·exact J3b (Ok.mk (by decide)) (J4b n l) (Ok.mk rfl)
      ·exact wl_nil
    ·exact Z3m (b:=Str.ofString "opq")
    ·exact Z3d (Z5q hl)
   ·exact wl_nil
 ·repeat' x_close
 ·x_close
noncomputable def nC (p len:Nat):Nat:=(Builtin.Range.rangeSize p len 4).toNat
noncomputable def K0g (ns:List Int) (p:Nat):List Int:=(List.range (nC p ns.length)).map fun i=>ns.getD (p+i * 4) 0
noncomputable def J6c (ns:List Int) (p:Nat) (first:Int):Int:=first+(K0g ns p).sum
structure NcOk (p len:Nat):Prop where
 h1:Builtin.Range.small p len 4=true
 h2:Builtin.Range.rangeSize p len 4=(nC p len:Int)
 h3:Builtin.divisionGoesByPylong ((len:Int) - p) 4=false
 h4:nC p len≤16
 h5:∀ i,i<nC p len→p+i * 4<len
theorem V1a {p len:Nat}(hp:p≤3)(hl:len≤63):NcOk p len:=by
 have:J2a 4 (fun p=>J2a 64 fun len=>Builtin.Range.small p len 4 && (Builtin.Range.rangeSize p len 4 == (nC p len:Int)) && !Builtin.divisionGoesByPylong ((len:Int) - p) 4 && Nat.ble (nC p len) 16 && J2a (nC p len) fun i=>Nat.blt (p+i * 4) len)=true:=by decide +kernel
 have h:=J3q (J3q this (Nat.lt_succ_of_le hp)) (Nat.lt_succ_of_le hl)
 simp only [Bool.and_eq_true,Bool.not_eq_true',beq_iff_eq] at h
 refine o01 h fun n9a h5=>?_;obtain ⟨⟨⟨h1,h2⟩,h3⟩,h4⟩:=n9a;clear h
 exact ⟨h1,h2,h3,lBt h4,fun i hi=>lBt (J3q h5 hi)⟩
noncomputable def Z3q (ns:List Int):PyData→Option PyData
 |.int k=>(ns.map PyData.int)[k.toNat]?
 |_=>none
theorem Z0w {α β:Type}{g:α→Option β}{h:α→β}:∀ {l:List α},(∀ a∈l,g a=some (h a))→l.filterMap g=l.map h
 |[],_=>rfl
 |a::l,H=>by rw [List.filterMap_cons,H a (.head _),List.map_cons,Z0w fun b hb=>H b (.tail _ hb)]
theorem K9q {ns:List Int}{p:Nat}(h:∀ i,i<nC p ns.length→p+i * 4<ns.length):(rgD p 4 (nC p ns.length)).filterMap (Z3q ns)=(K0g ns p).map .int:=by
 unfold rgD K0g
 rw [List.filterMap_map,List.map_map]
 refine Z0w fun i hi=>?_
 have:=h i (List.mem_range.mp hi)
 show (ns.map PyData.int)[((p:Int)+(i:Int) * 4).toNat]? = some (PyData.int (ns.getD (p+i * 4) 0))
 have e:((p:Int)+(i:Int) * 4).toNat=p+i * 4:=rfl
 rw [e,List.getElem?_map,List.getD_eq_getElem?_getD,List.getElem?_eq_getElem this]
 rfl
end
section
variable {w:World}{A:Around}{x:X}
theorem Z3x {ns:List Int}{p:Nat}{f:Int}(hA:Rm 2 A)(hx:IsL x (ns.map .int))(hno:J3k (some x)=true)(hp:p≤3)(hl:ns.length≤63):VF w A (.ref 215) [x,I p,I f] (I (J6c ns p f)):=by
 refine J1g (j:=0) (ns:=[("script",true),("place",false),("first",false)]) ⟨fun _=>(xi3 _ _ _ rfl),fun _=>rfl,rfl,⟨rfl,rfl,rfl,rfl,rfl,rfl⟩,by decide,by decide,by decide⟩ hA.dl ?_ (vs3 fun _ _ _=>rfl) (by rfl)
 intro env L he
 refine ⟨_,J0i (J0n ?_)⟩
 have hN:=V1a hp hl
 show VE _ _ _ _ _ _ (I (f+(K0g ns p).sum))
 apply w_bin
 ·repeat' x_close
 ·apply w_callb (z:=I (K0g ns p).sum) (id:="sum") (ys:=[PL ((K0g ns p).map .int)])
  ·x_close
  ·apply J2s
   ·exact Gn.mk (by subst he;rfl)
   ·exact Ok.mk (by decide)
   ·exact Ok.mk (fun _=>by with_unfolding_all rfl)
   ·exact Ok.mk (by kernel_rfl)
   ·exact Ok.mk (by decide)
  ·apply wg_cons
   ·x_close
   ·apply wl_cons
    ·x_close
    ·rw [← K9q hN.h5]
     refine J2t (cl:=[("script",L+1)]) (cs:=["script"]) (ys:=[x]) (x:=Rg p ns.length 4) (Z3q ns) ?_ (by subst he;exact hA.deeper.hd) ?_ ⟨J4c hN.h1 hN.h2⟩ (.cons .head .nil) (Ok.mk (by show (J3k (some x) && true)=true;rw [hno];rfl)) (by have:=hN.h4;simp [rgD];exact lTr this (by decide)) (fun C' d hd=>?_) (fun C' d z hd hz=>?_) (Ok.mk fun _=>rfl)
     ·subst he
      exact ⟨rfl,by decide,rfl,by decide,by decide,fun n hn=>by obtain rfl:=mSg hn;rfl,fun q hq=>by obtain rfl:=mSg hq;rfl,(by show [Str.ofString "script"].Nodup;decide),fun n hn=>⟨L+1,by obtain rfl:=mSg hn;rfl⟩,by decide⟩
     ·apply w_callt
      ·x_close
      ·x_close
      ·apply wg_cons
       ·x_close
       ·apply wl_cons
        ·x_close
        ·repeat' x_close
        ·apply wl_cons
         ·x_close
         ·apply w_callb (z:=I (ns.length:Int)) (id:="len") (ys:=[x])
          ·x_close
          ·x_close
          ·repeat' x_close
          ·have:=K0a (w:=w) (A:=A.deeper env) hx (by simp;exact lTr hl (by decide))
           simpa using this
         ·repeat' x_close
      ·exact K2s (by decide) hN.h3
     ·refine o11 (mMp hd) fun i hi e9a=>?_;subst e9a
      have:=hN.h5 i (List.mem_range.mp hi)
      have e:(Z3q ns (.int ((p:Int)+(i:Int) * 4))).isSome=true:=by
       show ((ns.map PyData.int)[((p:Int)+(i:Int) * 4).toNat]?).isSome=true
       have e:((p:Int)+(i:Int) * 4).toNat=p+i * 4:=rfl
       rw [e,List.getElem?_map,List.getElem?_eq_getElem this];rfl
      rw [e];exact wi_nil
     ·refine o11 (mMp hd) fun i hi e9a=>?_;subst e9a
      apply w_sub
      ·x_close
      ·x_close
      ·have:=hN.h5 i (List.mem_range.mp hi)
       exact J1c hx (⟨Int.ofNat_nonneg _,Int.ofNat_lt.2 (Nat.lt_of_lt_of_le this (lTr hl (by decide)))⟩) hz (Ok.mk rfl)
    ·exact wl_nil
  ·exact ⟨(Z2y (ns:=K0g ns p) (by subst he;exact hA.deeper.hd) fun A=>J5e .p).h⟩
 ·x_close
end
noncomputable def wD:Option Int→PyData
 |none=>.none
 |some v=>.int v
noncomputable def J1v:Option (Bal×Int)→PyData
 |none=>.none
 |some (b,v)=>.tuple [.str (J0f b.1 b.2),.int v]
noncomputable def J0m:Option (Bal×Int)→PyData
 |none=>.none
 |some (b,v)=>.tuple [bD b,.int v]
noncomputable def J4g (w0 w1:Int) (hi b:Bal):Int:=if hi.1≠b.1 then w0 else (if w1<0 then -w1 else w1)
noncomputable def J4z (p:Nat) (b:Bal) (wish:Option Int) (hi:Bal) (last:Option (Bal×Int)) (w0 w1:Int):PyData:=
 if J0p w1 hi b then
  match wish with
  |none=>.tuple [.str (Str.ofString "sender"),.int (450+10 * J4g w0 w1 hi b+p),.str (J0f (hi.1+1) hi.2),.str ⟨#[J1 b.2]⟩]
  |some _=>.tuple [.str (Str.ofString "data"),.int (550+10 * J4g w0 w1 hi b+p),.str (J0f (hi.1+1) hi.2)]
 else
  match wish with
  |none=>.tuple [.str (Str.ofString "yes"),J1v last,.int (if hi=b then 0 else -(J4g w0 w1 hi b))]
  |some v=>.tuple [.str (Str.ofString "yes"),J1v (some (b,v)),.int (if hi=b then 0 else -(J4g w0 w1 hi b))]
theorem Z8z {o:Option (Bal×Int)}:isN (J0m o)=o.isNone:=by cases o<;>rfl
theorem K1z {b:Bal}:nicD (bD b):=⟨rfl,lBt rfl⟩
theorem J9t {a b:Bal}:Spec.same (bD a) (bD b)=decide (a=b):=by
 have:Spec.same (bD a) (bD b)=(((a.1:Int) == (b.1:Int)) && (((a.2:Int) == (b.2:Int)) && true)):=rfl
 rw [this,J5s,J5s]
 obtain ⟨a1,a2⟩:=a;obtain ⟨b1,b2⟩:=b
 by_cases h1:a1=b1<;>by_cases h2:a2=b2<;>simp [h1,h2]
theorem J3p {a b:Nat}:((a:Int) != (b:Int))=decide (a≠b):=by
 show (!((a:Int) == (b:Int)))=_
 rw [J5s];by_cases h:a=b<;>simp [h]
theorem K1a {n l:Nat}:(Str.ofString ".")++J0f n l=J0f (n+1) l:=by
 rw [show Str.ofString "." = ⟨#[46]⟩ by decide +kernel]
 show Str.mk _=Str.mk _
 congr 1
 apply Array.ext'
 simp [J0f,List.replicate_succ]
section
variable {w:World}{A:Around}{x:X}
theorem Z3 {a:Int}:IntMulOk 10 a:=IntMulOk.of_left (by decide)
theorem Z5p {p:Nat}{b hi:Bal}{wish:Option Int}{last:Option (Bal×Int)}{w0 w1:Int}(hA:Rm 2 A)(hb:b.1≤100∧b.2≤2)(hh:hi.1≤100∧hi.2≤2)(hl:∀ q∈last,q.1.1≤100∧q.1.2≤2)(hw:w1.natAbs≤3) :
  VF w A (.ref 283) [I p,.d (bD b),.d (wD wish),.d (bD hi),.d (J0m last),T [.int w0,.int w1]] (.d (J4z p b wish hi last w0 w1)):=by
 refine J1g (j:=2) (ns:=[("place",false),("ballot",false),("wish",false),("high",false),("last",false),("ways",false),("size",false),("verdict",false)]) ⟨fun _=>(xi3 _ _ _ rfl),fun _=>rfl,rfl,⟨rfl,rfl,rfl,rfl,rfl,rfl⟩,by decide,by decide,by decide⟩ hA.dl ?_ (vs6 fun _ _ _ _ _ _=>rfl) (by rfl)
 intro env L he
 have hA':Rm 1 (A.deeper env):=hA.deeper
 generalize hAA:A.deeper env=A' at hA'
 let sz:=J4g w0 w1 hi b
 let base:List (Option X):=[some (I p),some (.d (bD b)),some (.d (wD wish)),some (.d (bD hi)),some (.d (J0m last)),some (T [.int w0,.int w1]),some (I sz)]
 by_cases hov:J0p w1 hi b=true
 ·refine ⟨base++[none],?_⟩
  apply J0b (xs':=base++[none])
  ·apply J0h
   ·x_close
   ·by_cases c:hi.1≠b.1
    ·show VE _ _ _ _ _ _ (I sz)
     apply J9n
     ·refine VT.eq ?_ (show decide (hi.1≠b.1)=true by simp [c])
      rw [← J3p]
      repeat' x_close
     ·rw [show sz=w0 by simp [sz,J4g,c]]
      repeat' x_close
    ·show VE _ _ _ _ _ _ (I sz)
     apply K0c
     ·refine VT.eq ?_ (show decide (hi.1≠b.1)=false by simp [c])
      rw [← J3p]
      repeat' x_close
     ·rw [show sz=(if w1<0 then -w1 else w1) by simp [sz,J4g,c]]
      apply w_callb (id:="abs") (ys:=[I w1])
      ·x_close
      ·x_close
      ·repeat' x_close
      ·exact Z8p
   ·repeat' x_close
  apply J0i
  apply J2
  ·refine VT.eq ?_ hov
   apply J0v
   ·x_close
   ·apply w_callf (a:=262) (ys:=[.d (bD hi),.d (bD b),I w1])
    ·x_close
    ·x_close
    ·repeat' x_close
    ·x_close
    ·exact J4d hA' hw
  ·rcases wish with _|v
   ·rw [show J4z p b none hi last w0 w1 = .tuple [.str (Str.ofString "sender"),.int (450+10 * sz+p),.str (J0f (hi.1+1) hi.2),.str ⟨#[J1 b.2]⟩] by simp [J4z,hov,sz]]
    apply J0i
    apply J2
    ·refine VT.eq ?_ (show isN (wD none)=true from rfl)
     repeat' x_close
    ·apply J0i
     apply J0n
     apply w_tuple
     ·apply wl_cons
      ·x_close
      ·x_close
      ·apply wl_cons
       ·x_close
       ·apply w_bin
        ·apply w_bin
         ·x_close
         ·apply w_bin
          ·x_close
          ·repeat' x_close
          ·exact v_mul Z3
         ·x_close
        ·repeat' x_close
        ·x_close
       ·apply wl_cons
        ·x_close
        ·refine VE.eq ?_ (congrArg S (K1a (n:=hi.1) (l:=hi.2)))
         apply w_bin
         ·x_close
         ·apply w_callf (a:=248) (ys:=[.d (bD hi)])
          ·x_close
          ·x_close
          ·repeat' x_close
          ·x_close
          ·exact J4o hA' hh.1 hh.2
         ·refine J2c ?_
          rw [J1a,show (Str.ofString ".").length=1 by decide +kernel]
          have:=hh.1;lia
        ·apply wl_cons
         ·x_close
         ·apply w_sub
          ·x_close
          ·repeat' x_close
          ·refine J3b (Ok.mk ?_) (K4o hb.2) (Ok.mk rfl)
           have h1:¬ ((b.2:Int) < -(2 ^ 63)):=by have:=hb.2;exact Int.not_lt.2 (Int.le_trans (by decide) (Int.ofNat_nonneg _))
           have h2:¬ ((b.2:Int) ≥ 2 ^ 63):=by have:=hb.2;exact Int.not_le.2 (Int.ofNat_lt.2 (Nat.lt_of_le_of_lt hb.2 (by decide)))
           simp only [h1,h2,decide_false,Bool.or_self]
         ·exact wl_nil
     ·repeat' x_close
     ·x_close
   ·rw [show J4z p b (some v) hi last w0 w1 = .tuple [.str (Str.ofString "data"),.int (550+10 * sz+p),.str (J0f (hi.1+1) hi.2)] by simp [J4z,hov,sz]]
    apply J0b
    ·apply J0g
     ·refine VT.eq ?_ (show isN (wD (some v))=false from rfl)
      repeat' x_close
     ·exact J0c
    ·apply J0i
     apply J0n
     apply w_tuple
     ·apply wl_cons
      ·x_close
      ·x_close
      ·apply wl_cons
       ·x_close
       ·apply w_bin
        ·apply w_bin
         ·x_close
         ·apply w_bin
          ·x_close
          ·repeat' x_close
          ·exact v_mul Z3
         ·x_close
        ·repeat' x_close
        ·x_close
       ·apply wl_cons
        ·x_close
        ·refine VE.eq ?_ (congrArg S (K1a (n:=hi.1) (l:=hi.2)))
         apply w_bin
         ·x_close
         ·apply w_callf (a:=248) (ys:=[.d (bD hi)])
          ·x_close
          ·x_close
          ·repeat' x_close
          ·x_close
          ·exact J4o hA' hh.1 hh.2
         ·refine J2c ?_
          rw [J1a,show (Str.ofString ".").length=1 by decide +kernel]
          have:=hh.1;lia
        ·exact wl_nil
     ·repeat' x_close
     ·x_close
 ·have hov':J0p w1 hi b=false:=by simpa using hov
  let vd:Int:=if hi=b then 0 else -sz
  refine ⟨base++[some (I vd)],?_⟩
  apply J0b (xs':=base++[none])
  ·apply J0h
   ·x_close
   ·by_cases c:hi.1≠b.1
    ·show VE _ _ _ _ _ _ (I sz)
     apply J9n
     ·refine VT.eq ?_ (show decide (hi.1≠b.1)=true by simp [c])
      rw [← J3p]
      repeat' x_close
     ·rw [show sz=w0 by simp [sz,J4g,c]]
      repeat' x_close
    ·show VE _ _ _ _ _ _ (I sz)
     apply K0c
     ·refine VT.eq ?_ (show decide (hi.1≠b.1)=false by simp [c])
      rw [← J3p]
      repeat' x_close
     ·rw [show sz=(if w1<0 then -w1 else w1) by simp [sz,J4g,c]]
      apply w_callb (id:="abs") (ys:=[I w1])
      ·x_close
      ·x_close
      ·repeat' x_close
      ·exact Z8p
   ·repeat' x_close
  apply J0b (xs':=base++[none])
  ·apply J0g
   ·refine VT.eq ?_ hov'
    apply J0v
    ·x_close
    ·apply w_callf (a:=262) (ys:=[.d (bD hi),.d (bD b),I w1])
     ·x_close
     ·x_close
     ·repeat' x_close
     ·x_close
     ·exact J4d hA' hw
   ·exact J0c
  apply J0b (xs':=base++[some (I vd)])
  ·apply J0h
   ·x_close
   ·show VE _ _ _ _ _ _ (I vd)
    by_cases c:hi=b
    ·apply J9n
     ·refine VT.eq ?_ (show decide (hi=b)=true by simp [c])
      rw [← J9t]
      apply wt_cmp
      ·x_close
      ·repeat' x_close
      ·repeat' x_close
      ·exact Z0g .d .d K1z K1z (Rm.less hA' (by decide))
     ·rw [show vd=0 by simp [vd,c]]
      x_close
    ·apply K0c
     ·refine VT.eq ?_ (show decide (hi=b)=false by simp [c])
      rw [← J9t]
      apply wt_cmp
      ·x_close
      ·repeat' x_close
      ·repeat' x_close
      ·exact Z0g .d .d K1z K1z (Rm.less hA' (by decide))
     ·rw [show vd = -sz by simp [vd,c]]
      repeat' x_close
   ·repeat' x_close
  rcases wish with _|v
  ·rw [show J4z p b none hi last w0 w1 = .tuple [.str (Str.ofString "yes"),J1v last,.int vd] by simp [J4z,hov',sz,vd]]
   apply J0i
   apply J2
   ·refine VT.eq ?_ (show isN (wD none)=true from rfl)
    repeat' x_close
   ·apply J0i
    apply J0n
    apply w_tuple
    ·apply wl_cons
     ·x_close
     ·x_close
     ·apply wl_cons
      ·x_close
      ·refine show VE w A' env _ _ _ (.d (J1v last)) from ?_
       rcases last with _|⟨lb,lv⟩
       ·apply J9n
        ·refine VT.eq ?_ (show isN (J0m none)=true from rfl)
         repeat' x_close
        ·exact w_none
       ·apply K0c
        ·refine VT.eq ?_ (show isN (J0m (some (lb,lv)))=false from rfl)
         repeat' x_close
        ·have hq:=hl (lb,lv) rfl
         show VE _ _ _ _ _ _ (T [.str (J0f lb.1 lb.2),.int lv])
         apply w_tuple
         ·apply wl_cons
          ·x_close
          ·apply w_callf (a:=248) (ys:=[.d (bD lb)])
           ·x_close
           ·x_close
           ·repeat' x_close
           ·x_close
           ·exact J4o hA' hq.1 hq.2
          ·repeat' x_close
         ·repeat' x_close
         ·x_close
      ·apply wl_cons
       ·x_close
       ·repeat' x_close
       ·exact wl_nil
    ·repeat' x_close
    ·x_close
  ·rw [show J4z p b (some v) hi last w0 w1 = .tuple [.str (Str.ofString "yes"),.tuple [.str (J0f b.1 b.2),.int v],.int vd] by simp [J4z,hov',sz,vd,J1v]]
   apply J0b
   ·apply J0g
    ·refine VT.eq ?_ (show isN (wD (some v))=false from rfl)
     repeat' x_close
    ·exact J0c
   ·apply J0i
    apply J0n
    apply w_tuple
    ·apply wl_cons
     ·x_close
     ·x_close
     ·apply wl_cons
      ·x_close
      ·apply w_tuple
       ·apply wl_cons
        ·x_close
        ·apply w_callf (a:=248) (ys:=[.d (bD b)])
         ·x_close
         ·x_close
         ·repeat' x_close
         ·x_close
         ·exact J4o hA' hb.1 hb.2
        ·repeat' x_close
       ·repeat' x_close
       ·x_close
      ·apply wl_cons
       ·x_close
       ·repeat' x_close
       ·exact wl_nil
    ·repeat' x_close
    ·x_close
end
noncomputable abbrev K3v (h:Bal×Int):PyData:=.tuple [bD h.1,.int h.2]
noncomputable def J3t (t:Int) (h:Bal×Int):Option (Bal×Int)→Bal×Int
 |some q=>if J0p t q.1 h.1=true then q else h
 |none=>h
noncomputable def J6a (es:List Ent) (qf:Ent→Option (Bal×Int)) (v t:Int):Bal×Int:=es.foldl (fun h e=>J3t t h (qf e)) ((0,0),v)
noncomputable def onV (es:List Ent) (qf:Ent→Option (Bal×Int)) (p:Nat) (b:Bal) (wish:Option Int) (v t:Int):List PyData:=
 if es.all (fun e=>e.p == p) then [] else match wish with
  |some _=>[.tuple [bD (b.1+1,b.2),.none]]
  |none=>[.tuple [bD b,.int (J6a es qf v t).2]]
def J1i (d:PyData):Prop:=nic d=true∧d.depth≤8
theorem Z1u {e:Ent}(h:J1i e.t):nic e.d=true:=by
 show (true && (PyData.strOk _ && (nic (bD e.b) && (nic e.t && true))))=true
 rw [J7s,h.1];rfl
theorem K4t {e:Ent}(h:J1i e.t):e.d.depth≤9:=
 Nat.succ_le_succ (Nat.max_le.2 ⟨Nat.zero_le _,Nat.max_le.2 ⟨Nat.zero_le _,Nat.max_le.2 ⟨show (1:Nat)≤8 by decide,Nat.max_le.2 ⟨lTr h.2 (by decide),Nat.zero_le _⟩⟩⟩⟩)
theorem K2n:∀ {es:List Ent},(∀ e∈es,J1i e.t)→J0z (es.map Ent.d)=true∧PyData.depthAll (es.map Ent.d)≤9
 |[],_=>⟨rfl,Nat.zero_le _⟩
 |e::es,h=>by
  refine o01 (K2n (es:=es) fun e' he=>h e' (.tail _ he)) fun h1 h2=>?_
  have h3:=Z1u (h e (.head _))
  have h4:=K4t (h e (.head _))
  refine ⟨?_,?_⟩
  ·show (nic e.d && J0z (es.map Ent.d))=true
   rw [h3,h1];rfl
  ·show max e.d.depth (PyData.depthAll (es.map Ent.d))≤9
   exact Nat.max_le.2 ⟨h4,h2⟩
theorem J5q {es:List Ent}(h:∀ e∈es,J1i e.t):nicD (.list (es.map Ent.d)):=by
 refine o01 (K2n h) fun h1 h2=>?_
 exact ⟨h1,by show PyData.depthAll _+1≤64;exact Nat.lt_of_le_of_lt h2 (by decide)⟩
noncomputable def K6n (p:Nat) (d:PyData):Option PyData:=match d with
 |.tuple (.int q::_)=>if q=(p:Int) then none else some d
 |_=>none
theorem J5g {p:Nat}:∀ {es:List Ent},(es.map Ent.d).filterMap (K6n p)=(es.filter fun e=>!(e.p == p)).map Ent.d
 |[]=>rfl
 |e::es=>by
  have ih:=J5g (p:=p) (es:=es)
  rw [List.map_cons,List.filterMap_cons,List.filter_cons]
  have:K6n p e.d=if e.p=p then none else some e.d:=by
   show (if (e.p:Int)=(p:Int) then none else some e.d)=_
   by_cases h:e.p=p
   ·simp [h]
   ·have:¬ ((e.p:Int)=(p:Int)):=mt Int.ofNat.inj h
    rw [if_neg this,if_neg h]
  rw [this]
  by_cases h:e.p=p
  ·simp [h,ih]
  ·simp [h,ih]
theorem J6x {es:List Ent}{p:Nat}:Spec.same (.list ((es.filter fun e=>!(e.p == p)).map Ent.d)) (.list [])=es.all fun e=>e.p == p:=by
 have h:∀ (l:List PyData),Spec.same (.list l) (.list [])=l.isEmpty:=by intro l;cases l<;>rfl
 rw [h]
 induction es with
 |nil=>rfl
 |cons e es ih=>
  rw [List.filter_cons,List.all_cons]
  by_cases c:e.p=p
  ·simp [c] at ih ⊢;exact ih
  ·simp [c]
section
variable {w:World}{A:Around}{x:X}
theorem K0z {A:Around}{env:Env}{ns:List (Str×Bool)}{xs:List (Option X)}{es:List Expr}{ys:List X}{pos:Pos}{ds:List PyData}(h:VL w A env ns xs es ys)(q:Ds ys ds)(hsz:Ok (Nat.ble ds.length 1000=true)):VE w A env ns xs (.List es pos) (PL ds):=by
 refine ⟨fun own s F C=>List_ (wMo (h.h own s F C pos) (fun vs s1 z=>?_) fun _ _ z=>z.elim)⟩
 refine o01 z fun hv kk=>?_;clear z
 have C1:=C.keeps (Kee.kps kk)
 have hl:vs.length≤sizeLine:=(q.rd hv).length▸J0l (lBt hsz.h)
 refine wpAny_newList ⟨?_,Kee.trans kk (xi2 _ _ ⟨rfl,kps_push _⟩)⟩ hl
 exact PL.in (J1j C1.alive) ⟨_,Heap.get?_push_size _ rfl⟩ (by rw [List.toList_toArray];exact (q.rd hv).keeps (kps_push _))
theorem K6t {es:List Ent}{qf:Ent→Option (Bal×Int)}{p:Nat}{b:Bal}{wish:Option Int}{v t:Int}(hA:Rm 2 A)(ht:t.natAbs≤3)(hx:IsL x (es.map Ent.d))(hno:J3k (some x)=true)(hsz:es.length≤1000)
  (hs:∀ e∈es,J1i e.t) (hq:wish=none→∀ e∈es,e.t=J0m (qf e)) :
  VF w A (.ref 288) [x,I p,.d (bD b),.d (wD wish),I v,I t] (PL (onV es qf p b wish v t)):=by
 refine J1g (j:=2) (ns:=[("same",false),("place",true),("ballot",false),("wish",false),("value",false),("tie",false),("entry",false),("top",false)]) ⟨fun _=>(xi3 _ _ _ rfl),fun _=>rfl,rfl,⟨rfl,rfl,rfl,rfl,rfl,rfl⟩,by decide,by decide,by decide⟩ hA.dl ?_ (vs6 fun _ _ _ _ _ _=>rfl) (by rfl)
 intro env L he
 have hA':Rm 1 (A.deeper env):=hA.deeper
 have hh:(A.deeper env).handled=none:=hA'.hd
 let xs0:List (Option X):=[some x,some (I p),some (.d (bD b)),some (.d (wD wish)),some (I v),some (I t),none,none]
 by_cases hall:es.all (fun e=>e.p == p)=true
 ·rw [show onV es qf p b wish v t = [] by simp [onV,hall]]
  refine ⟨xs0,?_⟩
  apply J0i
  apply J2
  ·refine VT.eq ?_ hall
   rw [← J6x]
   apply wt_cmp
   ·x_close
   ·refine VE.eq (x:=PL ((es.map Ent.d).filterMap (K6n p))) ?_ (congrArg PL J5g)
    refine J2t (cl:=[("place",L+1)]) (cs:=["place"]) (ys:=[I p]) (x:=x) (K6n p) ?_ hh ?_ (J0r hx) (.cons (.tail .head) .nil) (Ok.mk rfl) (by simpa using hsz) (fun C' d hd=>?_) (fun C' d z hd hz=>?_) (Ok.mk fun _=>rfl)
    ·subst he
     exact ⟨rfl,by decide,rfl,by decide,by decide,fun n hn=>by obtain rfl:=mSg hn;rfl,fun q hq=>by obtain rfl:=mSg hq;rfl,(by show [Str.ofString "place"].Nodup;decide),fun n hn=>⟨L+1,by obtain rfl:=mSg hn;rfl⟩,by decide⟩
    ·x_close
    ·refine o11 (mMp hd) fun e _ e9a=>?_;subst e9a
     have e1:(K6n p e.d).isSome=decide (e.p≠p):=by
      show ((if (e.p:Int)=(p:Int) then none else some e.d):Option PyData).isSome=_
      by_cases c:e.p=p
      ·simp [c]
      ·have:¬ ((e.p:Int)=(p:Int)):=mt Int.ofNat.inj c
       rw [if_neg this];simp [c]
     rw [e1,← J3p]
     apply wi_one
     apply wt_cmp
     ·x_close
     ·show VE _ _ _ [("entry",false),("place",true)] [some (.d e.d),some (I p)] _ _
      repeat' x_close
     ·show VE _ _ _ [("entry",false),("place",true)] [some (.d e.d),some (I p)] _ _
      repeat' x_close
     ·x_close
    ·refine o11 (mMp hd) fun e _ e9a=>?_;subst e9a
     have e1:z=e.d:=by
      have:((if (e.p:Int)=(p:Int) then none else some e.d):Option PyData)=some z:=hz
      split at this
      ·cases this
      ·cases this;rfl
     subst e1
     show VE _ _ _ [("entry",false),("place",true)] [some (.d e.d),some (I p)] _ _
     x_close
   ·x_close
    ·exact wl_nil
    ·exact .nil
    ·x_close
   ·refine Z0g .pl .d (J5q fun e he=>hs e (List.mem_filter.mp he).1) ⟨rfl,lBt rfl⟩ (Rm.less hA' (by decide))
  ·apply J0i
   apply J0n
   apply K0z
   ·exact wl_nil
   ·exact .nil
   ·x_close
 ·have hall':es.all (fun e=>e.p == p)=false:=by simpa using hall
  rcases wish with _|wv
  ·have hq:=hq rfl
   rw [show onV es qf p b none v t = [.tuple [bD b,.int (J6a es qf v t).2]] by simp [onV,hall']]
   let Inv:Nat→List (Option X):=fun i=>[some x,some (I p),some (.d (bD b)),some (.d (wD none)),some (I v),some (I t),J6z (fun e=>X.d e.d) es i,some (.d (K3v (J6a (es.take i) qf v t)))]
   refine ⟨Inv es.length,?_⟩
   apply J0b (xs':=xs0)
   ·apply J0g
    ·refine VT.eq ?_ hall'
     rw [← J6x]
     apply wt_cmp
     ·x_close
     ·refine VE.eq (x:=PL ((es.map Ent.d).filterMap (K6n p))) ?_ (congrArg PL J5g)
      refine J2t (cl:=[("place",L+1)]) (cs:=["place"]) (ys:=[I p]) (x:=x) (K6n p) ?_ hh ?_ (J0r hx) (.cons (.tail .head) .nil) (Ok.mk rfl) (by simpa using hsz) (fun C' d hd=>?_) (fun C' d z hd hz=>?_) (Ok.mk fun _=>rfl)
      ·subst he
       exact ⟨rfl,by decide,rfl,by decide,by decide,fun n hn=>by obtain rfl:=mSg hn;rfl,fun q hq=>by obtain rfl:=mSg hq;rfl,(by show [Str.ofString "place"].Nodup;decide),fun n hn=>⟨L+1,by obtain rfl:=mSg hn;rfl⟩,by decide⟩
      ·x_close
      ·refine o11 (mMp hd) fun e _ e9a=>?_;subst e9a
       have e1:(K6n p e.d).isSome=decide (e.p≠p):=by
        show ((if (e.p:Int)=(p:Int) then none else some e.d):Option PyData).isSome=_
        by_cases c:e.p=p
        ·simp [c]
        ·have:¬ ((e.p:Int)=(p:Int)):=mt Int.ofNat.inj c
         rw [if_neg this];simp [c]
       rw [e1,← J3p]
       apply wi_one
       apply wt_cmp
       ·x_close
       ·show VE _ _ _ [("entry",false),("place",true)] [some (.d e.d),some (I p)] _ _
        repeat' x_close
       ·show VE _ _ _ [("entry",false),("place",true)] [some (.d e.d),some (I p)] _ _
        repeat' x_close
       ·x_close
      ·refine o11 (mMp hd) fun e _ e9a=>?_;subst e9a
       have e1:z=e.d:=by
        have:((if (e.p:Int)=(p:Int) then none else some e.d):Option PyData)=some z:=hz
        split at this
        ·cases this
        ·cases this;rfl
       subst e1
       show VE _ _ _ [("entry",false),("place",true)] [some (.d e.d),some (I p)] _ _
       x_close
     ·x_close
      ·exact wl_nil
      ·exact .nil
      ·x_close
     ·refine Z0g .pl .d (J5q fun e he=>hs e (List.mem_filter.mp he).1) ⟨rfl,lBt rfl⟩ (Rm.less hA' (by decide))
    ·exact J0c
   apply J0b (xs':=xs0)
   ·apply J0g
    ·refine VT.eq ?_ (show (!isN (wD none))=false from rfl)
     repeat' x_close
    ·exact J0c
   apply J0b (xs':=Inv 0)
   ·apply J0h
    ·x_close
    ·show VE _ _ _ _ _ _ (.d (K3v ((0,0),v)))
     repeat' x_close
    ·repeat' x_close
   apply J0b (xs':=Inv es.length)
   ·refine J3e (f:=.next) (x:=x) (ds:=es.map Ent.d) Inv es.length hh ?_ (J0r hx) rfl (fun i hi=>?_) (fun i d hi hd=>?_) (.inl ⟨by simp,rfl,rfl⟩) (Ok.mk fun _=>rfl)
    ·repeat' x_close
    ·show (J3k (some x) && (true && (true && (true && (true && (true && (J3k (J6z (fun e=>X.d e.d) es i) && true)))))))=true
     rw [hno,J7l];rfl
    ·refine o11 (K0n hd) fun e he' e9a=>?_;subst e9a
     have hqe:=hq e (List.mem_of_getElem? he')
     generalize hh0:J6a (es.take i) qf v t=h0
     have hI0:Inv i = [some x,some (I p),some (.d (bD b)),some (.d (wD none)),some (I v),some (I t),J6z (fun e=>X.d e.d) es i,some (.d (K3v h0))]:=by rw [← hh0]
     have hI:Inv (i+1) = [some x,some (I p),some (.d (bD b)),some (.d (wD none)),some (I v),some (I t),some (.d e.d),some (.d (K3v (J3t t h0 (qf e))))]:=by
      show [_,_,_,_,_,_,_,_]=_
      rw [J4u he',J4r he',J6a,List.foldl_append,← hh0];rfl
     rw [hI,hI0]
     refine xi2 ([some x,some (I p),some (.d (bD b)),some (.d (wD none)),some (I v),some (I t),some (.d e.d),some (.d (K3v h0))]) .next ⟨J3o (.tail (.tail (.tail (.tail (.tail (.tail .head)))))),.inl rfl,?_⟩
     obtain ⟨ep,eg,eb,et⟩:=e
     have hqe:et=J0m (qf ⟨ep,eg,eb,et⟩):=hqe
     generalize qf ⟨ep,eg,eb,et⟩=qq at hqe ⊢
     subst hqe
     rcases qq with _|⟨qb,qv⟩
     ·apply J0b
      ·apply J0g
       ·refine VT.eq ?_ (show (!isN (J0m none) && (J0p t (0,0) (0,0) && true))=false from rfl)
        apply J1f
        apply J1s
        ·repeat' x_close
        ·intro q
         exact absurd q (by decide)
       ·exact J0c
      ·exact J0c
     ·have go:∀ {ee ss xs'},VT w (A.deeper env) env [("same",false),("place",true),("ballot",false),("wish",false),("value",false),("tie",false),("entry",false),("top",false)] [some x,some (I p),some (.d (bD b)),some (.d (wD none)),some (I v),some (I t),some (.d (Ent.d ⟨ep,eg,eb,J0m (some (qb,qv))⟩)),some (.d (K3v h0))] ee (!isN (J0m (some (qb,qv))) && (J0p t qb h0.1 && true)) →
        VX w (A.deeper env) env [("same",false),("place",true),("ballot",false),("wish",false),("value",false),("tie",false),("entry",false),("top",false)] [some x,some (I p),some (.d (bD b)),some (.d (wD none)),some (I v),some (I t),some (.d (Ent.d ⟨ep,eg,eb,J0m (some (qb,qv))⟩)),some (.d (K3v h0))] ss .next [some x,some (I p),some (.d (bD b)),some (.d (wD none)),some (I v),some (I t),some (.d (Ent.d ⟨ep,eg,eb,J0m (some (qb,qv))⟩)),some (.d (K3v (qb,qv)))] →
        xs' = [some x,some (I p),some (.d (bD b)),some (.d (wD none)),some (I v),some (I t),some (.d (Ent.d ⟨ep,eg,eb,J0m (some (qb,qv))⟩)),some (.d (K3v (J3t t h0 (some (qb,qv)))))]→∀ {pos},VX w (A.deeper env) env [("same",false),("place",true),("ballot",false),("wish",false),("value",false),("tie",false),("entry",false),("top",false)] [some x,some (I p),some (.d (bD b)),some (.d (wD none)),some (I v),some (I t),some (.d (Ent.d ⟨ep,eg,eb,J0m (some (qb,qv))⟩)),some (.d (K3v h0))] [.If ee ss [] pos] .next xs':=by
       intro ee ss xs' h1 h2 hx pos
       subst hx
       show VX _ _ _ _ _ _ _ [_,_,_,_,_,_,_,some (.d (K3v (if J0p t qb h0.1=true then (qb,qv) else h0)))]
       by_cases c1:J0p t qb h0.1=true
       ·rw [if_pos c1]
        exact J0b (J2 (h1.eq (by simp [c1,Z8z])) h2) J0c
       ·rw [if_neg c1]
        exact J0b (J0g (h1.eq (by simp [c1])) J0c) J0c
      apply go
      ·apply J1f
       apply J1s
       ·repeat' x_close
       ·intro _
        apply J1s
        ·apply J0v
         ·x_close
         ·apply w_callf (a:=262) (ys:=[.d (bD qb),.d (bD h0.1),I t])
          ·x_close
          ·x_close
          ·repeat' x_close
          ·x_close
          ·exact J4d hA' ht
        ·intro _
         exact wa_and_nil
      ·apply J0b
       ·apply J0h
        ·x_close
        ·show VE _ _ _ _ _ _ (.d (J0m (some (qb,qv))))
         repeat' x_close
        ·repeat' x_close
       ·exact J0c
      ·rfl
   ·apply J0i
    apply J0n
    show VE _ _ _ _ [_,_,_,_,_,_,_,some (.d (K3v (J6a (es.take es.length) qf v t)))] _ _
    rw [List.take_length]
    apply K0z (ds:=[.tuple [bD b,.int (J6a es qf v t).2]]) (ys:=[T [bD b,.int (J6a es qf v t).2]])
    ·repeat' x_close
    ·repeat' x_close
    ·x_close
  ·rw [show onV es qf p b (some wv) v t = [.tuple [bD (b.1+1,b.2),.none]] by simp [onV,hall']]
   refine ⟨xs0,?_⟩
   apply J0b (xs':=xs0)
   ·apply J0g
    ·refine VT.eq ?_ hall'
     rw [← J6x]
     apply wt_cmp
     ·x_close
     ·refine VE.eq (x:=PL ((es.map Ent.d).filterMap (K6n p))) ?_ (congrArg PL J5g)
      refine J2t (cl:=[("place",L+1)]) (cs:=["place"]) (ys:=[I p]) (x:=x) (K6n p) ?_ hh ?_ (J0r hx) (.cons (.tail .head) .nil) (Ok.mk rfl) (by simpa using hsz) (fun C' d hd=>?_) (fun C' d z hd hz=>?_) (Ok.mk fun _=>rfl)
      ·subst he
       exact ⟨rfl,by decide,rfl,by decide,by decide,fun n hn=>by obtain rfl:=mSg hn;rfl,fun q hq=>by obtain rfl:=mSg hq;rfl,(by show [Str.ofString "place"].Nodup;decide),fun n hn=>⟨L+1,by obtain rfl:=mSg hn;rfl⟩,by decide⟩
      ·x_close
      ·refine o11 (mMp hd) fun e _ e9a=>?_;subst e9a
       have e1:(K6n p e.d).isSome=decide (e.p≠p):=by
        show ((if (e.p:Int)=(p:Int) then none else some e.d):Option PyData).isSome=_
        by_cases c:e.p=p
        ·simp [c]
        ·have:¬ ((e.p:Int)=(p:Int)):=mt Int.ofNat.inj c
         rw [if_neg this];simp [c]
       rw [e1,← J3p]
       apply wi_one
       apply wt_cmp
       ·x_close
       ·show VE _ _ _ [("entry",false),("place",true)] [some (.d e.d),some (I p)] _ _
        repeat' x_close
       ·show VE _ _ _ [("entry",false),("place",true)] [some (.d e.d),some (I p)] _ _
        repeat' x_close
       ·x_close
      ·refine o11 (mMp hd) fun e _ e9a=>?_;subst e9a
       have e1:z=e.d:=by
        have:((if (e.p:Int)=(p:Int) then none else some e.d):Option PyData)=some z:=hz
        split at this
        ·cases this
        ·cases this;rfl
       subst e1
       show VE _ _ _ [("entry",false),("place",true)] [some (.d e.d),some (I p)] _ _
       x_close
     ·x_close
      ·exact wl_nil
      ·exact .nil
      ·x_close
     ·refine Z0g .pl .d (J5q fun e he=>hs e (List.mem_filter.mp he).1) ⟨rfl,lBt rfl⟩ (Rm.less hA' (by decide))
    ·exact J0c
   apply J0i
   apply J2
   ·refine VT.eq ?_ (show (!isN (wD (some wv)))=true from rfl)
    repeat' x_close
   ·apply J0i
    apply J0n
    apply K0z (ds:=[.tuple [bD (b.1+1,b.2),.none]]) (ys:=[T [bD (b.1+1,b.2),.none]])
    ·show VL _ _ _ _ _ _ [T [.tuple [.int ((b.1:Int)+1),.int b.2],.none]]
     repeat' x_close
    ·repeat' x_close
    ·x_close
end
noncomputable abbrev K1d (w0 w1:Int):PyData:=.list [.tuple [.int 1,.int w0],.tuple [.int 0,.int w1]]
def JP (w0 w1:Int)(h:Heap)(v:Value):Prop:=∃ a ox es n l as,v = .ref a∧InstAt h a ox 119 (some (dictOf es n))∧getL "comp_select_list" es=some (some l)∧handedIn l=true∧shadowIn (some (dictOf es n)) "compare" = some false∧Reads h l (K1d w0 w1) as
theorem InstAt.kps {h h':Heap}{a C:Addr}{ox:Obj}{od:Option Obj}(hk:Kps h h')(I:InstAt h a ox C od):InstAt h' a ox C od:=by
 refine ⟨hk _ _ I.at_,I.cls,I.no,?_⟩
 have:=I.dict
 cases hd:ox.dict with
 |none=>cases od<;>simp_all
 |some d=>cases od with
  |none=>simp_all
  |some o=>rw [hd] at this;exact hk _ _ this
theorem JP.st {w0 w1}:∀ h h' v,Kps h h'→JP w0 w1 h v→JP w0 w1 h' v:=fun h h' v hk ⟨a,ox,es,n,l,as,e,I,q,hl,hs,r⟩=>⟨a,ox,es,n,l,as,e,InstAt.kps hk I,q,hl,hs,Reads.keeps hk r⟩
noncomputable abbrev J (w0 w1:Int):X:=.p (JP w0 w1)
section
variable {w:World}{A:Around}{env:Env}{ns:List (Str×Bool)}{xs:List (Option X)}{e:Expr}{pos:Pos}{x:X}
theorem K3m {k:Int}{ds:List PyData}{d:PyData}(hA:Rm 1 A)(hx:IsL x ds)(hk:0≤k∧k<2 ^ 63)(hd:ds[k.toNat]? = some d):VF w A (.ref 73) [x,I k] (.d d):=by
 refine J1g (j:=0) (ns:=[("a",false),("b",false)]) ⟨fun _=>(xi3 _ _ _ rfl),fun _=>rfl,rfl,⟨rfl,rfl,rfl,rfl,rfl,rfl⟩,by decide,by decide,by decide⟩ hA.dl ?_ (vs2 fun _ _=>rfl) (by rfl)
 intro env L he
 refine ⟨_,J0i (J0n ?_)⟩
 apply w_sub
 ·x_close
 ·x_close
 ·exact J1c hx hk hd (Ok.mk rfl)
theorem J9d {w0 w1:Int}(hb:Ok (attributeBase e "comp_select_list" env (eval e env)=eval e env))(h:VE w A env ns xs e (J w0 w1)):VE w A env ns xs (.Attribute e "comp_select_list" pos) (.d (K1d w0 w1)):=by
 refine ⟨fun own s F C=>?_⟩
 rw [arm_eval_Attribute,hb.h]
 refine wBn (J0 (h.h own s F C) fun v s1 hv k1=>?_)
 skip
 refine o01 hv fun _ r9a=>o65 r9a fun a ox es n l as e9a I q hl hsh r=>?_;subst e9a;clear hv
 skip
 have I':InstAt s1.heap a ox 119 (some (dictOf es n)):=InstAt.kps (fun _ _ e=>of_hideAll _ e) I
 have K:=(C.keeps (Kee.kps k1)).glh.K
 refine wBn (wpAny_standAt ?_)
 refine wBn (wpAny_holding (get_value K I' (plainGet_of (name:="comp_select_list") (by with_unfolding_all rfl)).1 (findObj_own (by with_unfolding_all rfl) (attr:=none) (by with_unfolding_all rfl) (by with_unfolding_all rfl) q) hl ?_))
 refine wBn (wpAny_letTemporaryGo (wPu ⟨⟨as,r⟩,Kee.trans k1 kt⟩))
theorem J2m {n m:Str}{c c':Bool}{d d':PyData}{p1 p2 p3:Pos}{k:Nat}{xs1 xs':List (Option X)}(hh:A.handled=none)(p:Put ns xs n c (some (.d d)) xs1)(q:Put ns xs1 m c' (some (.d d')) xs'):VU w A env ns xs (.Tuple [.Name n p1,.Name m p2] k p3) (.tuple [d,d']) xs':=⟨Z3r hh p q⟩
theorem J9c {i:Nat}{a b c:List (Option X)}(ha:a.all J3k=true)(hb:b.all J3k=true)(hc:c.all J3k=true):(if i=0 then a else if i=1 then b else c).all J3k=true:=by
 split
 ·exact ha
 ·split
  ·exact hb
  ·exact hc
noncomputable def K0w (w0 w1:Int) (a b:Nat×Nat):Int:=
 if a.2<b.2 then -w0 else if b.2<a.2 then w0 else if a.1<b.1 then -w1 else if b.1<a.1 then w1 else 0
theorem J2k {a b:Nat}:decide ((a:Int)<(b:Int))=decide (a<b):=by
 by_cases h:a<b
 ·simp [h]
 ·simp [h]
theorem J4n {a b:Nat}:decide ((a:Int) > (b:Int))=decide (b<a):=J2k
theorem K3r {w0 w1:Int}{a b:Nat×Nat}(hA:Rm 1 A):VF w A (.ref 116) [J w0 w1,T [.int a.1,.int a.2],T [.int b.1,.int b.2]] (I (K0w w0 w1 a b)):=by
 refine J1g (j:=4) (ns:=[("self",false),("left",false),("right",false),("index",false),("direction",false),("l",false),("r",false)]) ⟨fun _=>(xi3 _ _ _ rfl),fun _=>rfl,rfl,⟨rfl,rfl,rfl,rfl,rfl,rfl⟩,by decide,by decide,by decide⟩ hA.dl ?_ (vs3 fun _ _ _=>rfl) (by rfl)
 intro env L he
 have hA':Rm 0 (A.deeper env):=hA.deeper
 have hh:(A.deeper env).handled=none:=hA'.hd
 let x0:List (Option X):=[some (J w0 w1),some (T [.int a.1,.int a.2]),some (T [.int b.1,.int b.2]),none,none,none,none]
 let x1:List (Option X):=[some (J w0 w1),some (T [.int a.1,.int a.2]),some (T [.int b.1,.int b.2]),some (I 1),some (I w0),some (I a.2),some (I b.2)]
 let x2:List (Option X):=[some (J w0 w1),some (T [.int a.1,.int a.2]),some (T [.int b.1,.int b.2]),some (I 0),some (I w1),some (I a.1),some (I b.1)]
 have sels:∀ {q:Nat} {dd:PyData},(([.tuple [.int 1,.int w0],.tuple [.int 0,.int w1]]:List PyData))[q]? = some dd→(q=0∧dd = .tuple [.int 1,.int w0])∨(q=1∧dd = .tuple [.int 0,.int w1]):=by
  intro q dd h
  match q with
  |0=>cases h;exact .inl ⟨rfl,rfl⟩
  |1=>cases h;exact .inr ⟨rfl,rfl⟩
  |q+2=>cases h
 by_cases c1:a.2<b.2
 ·rw [show K0w w0 w1 a b = -w0 by simp [K0w,c1]]
  refine ⟨x1,?_⟩
  apply J0i
  refine J3e (x:=.d (K1d w0 w1)) (ds:=[.tuple [.int 1,.int w0],.tuple [.int 0,.int w1]]) (fun i=>if i=0 then x0 else if i=1 then x1 else x2) 0 hh ?_ (J0r .d) rfl (fun i _=>J9c rfl rfl rfl) (fun i d hi hd=>?_) ?_ (Ok.mk fun _=>rfl)
  ·apply J9d
   ·x_close
   ·x_close
  ·exact absurd hi (Nat.not_lt_zero _)
  ·refine .inr (xi3 (.tuple [.int 1,.int w0]) ([some (J w0 w1),some (T [.int a.1,.int a.2]),some (T [.int b.1,.int b.2]),some (I 1),some (I w0),none,none]) (I (-w0)) ⟨rfl,rfl,J2m hh (.tail (.tail (.tail .head))) (.tail (.tail (.tail (.tail .head)))),?_⟩)
   apply J0b (xs':=[some (J w0 w1),some (T [.int a.1,.int a.2]),some (T [.int b.1,.int b.2]),some (I 1),some (I w0),some (I a.2),none])
   ·apply J0h
    repeat' x_close
   apply J0b (xs':=x1)
   ·apply J0h
    repeat' x_close
   apply J0i
   apply J2
   ·refine VT.eq ?_ (show decide (a.2<b.2)=true by simp;exact c1)
    rw [← J2k]
    repeat' x_close
   ·apply J0i
    apply J0n
    repeat' x_close
 by_cases c2:b.2<a.2
 ·rw [show K0w w0 w1 a b=w0 by simp [K0w,c1,c2]]
  refine ⟨x1,?_⟩
  apply J0i
  refine J3e (x:=.d (K1d w0 w1)) (ds:=[.tuple [.int 1,.int w0],.tuple [.int 0,.int w1]]) (fun i=>if i=0 then x0 else if i=1 then x1 else x2) 0 hh ?_ (J0r .d) rfl (fun i _=>J9c rfl rfl rfl) (fun i d hi hd=>?_) ?_ (Ok.mk fun _=>rfl)
  ·apply J9d
   ·x_close
   ·x_close
  ·exact absurd hi (Nat.not_lt_zero _)
  ·refine .inr (xi3 (.tuple [.int 1,.int w0]) ([some (J w0 w1),some (T [.int a.1,.int a.2]),some (T [.int b.1,.int b.2]),some (I 1),some (I w0),none,none]) (I (w0)) ⟨rfl,rfl,J2m hh (.tail (.tail (.tail .head))) (.tail (.tail (.tail (.tail .head)))),?_⟩)
   apply J0b (xs':=[some (J w0 w1),some (T [.int a.1,.int a.2]),some (T [.int b.1,.int b.2]),some (I 1),some (I w0),some (I a.2),none])
   ·apply J0h
    repeat' x_close
   apply J0b (xs':=x1)
   ·apply J0h
    repeat' x_close
   apply J0b (xs':=x1)
   ·apply J0g
    ·refine VT.eq ?_ (show decide (a.2<b.2)=false by simp;exact Nat.le_of_lt c2)
     rw [← J2k]
     repeat' x_close
    ·exact J0c
   apply J0i
   apply J2
   ·refine VT.eq ?_ (show decide (b.2<a.2)=true by simp;exact c2)
    rw [← J4n]
    repeat' x_close
   ·apply J0i
    apply J0n
    repeat' x_close
 by_cases c3:a.1<b.1
 ·rw [show K0w w0 w1 a b = -w1 by simp [K0w,c1,c2,c3]]
  refine ⟨x2,?_⟩
  apply J0i
  refine J3e (x:=.d (K1d w0 w1)) (ds:=[.tuple [.int 1,.int w0],.tuple [.int 0,.int w1]]) (fun i=>if i=0 then x0 else if i=1 then x1 else x2) 1 hh ?_ (J0r .d) rfl (fun i _=>J9c rfl rfl rfl) (fun i d hi hd=>?_) ?_ (Ok.mk fun _=>rfl)
  ·apply J9d
   ·x_close
   ·x_close
  ·obtain rfl:i=0:=Nat.lt_one_iff.1 hi
   cases hd
   refine xi2 ([some (J w0 w1),some (T [.int a.1,.int a.2]),some (T [.int b.1,.int b.2]),some (I 1),some (I w0),none,none]) .next ⟨J2m hh (.tail (.tail (.tail .head))) (.tail (.tail (.tail (.tail .head)))),.inl rfl,?_⟩
   show VX _ _ _ _ _ _ _ x1
   apply J0b (xs':=[some (J w0 w1),some (T [.int a.1,.int a.2]),some (T [.int b.1,.int b.2]),some (I 1),some (I w0),some (I a.2),none])
   ·apply J0h
    repeat' x_close
   apply J0b (xs':=x1)
   ·apply J0h
    repeat' x_close
   apply J0b (xs':=x1)
   ·apply J0g
    ·refine VT.eq ?_ (show decide (a.2<b.2)=false by simp;exact Nat.le_of_not_lt c1)
     rw [← J2k]
     repeat' x_close
    ·exact J0c
   apply J0b (xs':=x1)
   ·apply J0g
    ·refine VT.eq ?_ (show decide (b.2<a.2)=false by simp;exact Nat.le_of_not_lt c2)
     rw [← J4n]
     repeat' x_close
    ·exact J0c
   exact J0c
  ·refine .inr (xi3 (.tuple [.int 0,.int w1]) ([some (J w0 w1),some (T [.int a.1,.int a.2]),some (T [.int b.1,.int b.2]),some (I 0),some (I w1),some (I a.2),some (I b.2)]) (I (-w1)) ⟨rfl,rfl,J2m hh (.tail (.tail (.tail .head))) (.tail (.tail (.tail (.tail .head)))),?_⟩)
   apply J0b (xs':=[some (J w0 w1),some (T [.int a.1,.int a.2]),some (T [.int b.1,.int b.2]),some (I 0),some (I w1),some (I a.1),some (I b.2)])
   ·apply J0h
    repeat' x_close
   apply J0b (xs':=x2)
   ·apply J0h
    repeat' x_close
   apply J0i
   apply J2
   ·refine VT.eq ?_ (show decide (a.1<b.1)=true by simp;exact c3)
    rw [← J2k]
    repeat' x_close
   ·apply J0i
    apply J0n
    repeat' x_close
 by_cases c4:b.1<a.1
 ·rw [show K0w w0 w1 a b=w1 by simp [K0w,c1,c2,c3,c4]]
  refine ⟨x2,?_⟩
  apply J0i
  refine J3e (x:=.d (K1d w0 w1)) (ds:=[.tuple [.int 1,.int w0],.tuple [.int 0,.int w1]]) (fun i=>if i=0 then x0 else if i=1 then x1 else x2) 1 hh ?_ (J0r .d) rfl (fun i _=>J9c rfl rfl rfl) (fun i d hi hd=>?_) ?_ (Ok.mk fun _=>rfl)
  ·apply J9d
   ·x_close
   ·x_close
  ·obtain rfl:i=0:=Nat.lt_one_iff.1 hi
   cases hd
   refine xi2 ([some (J w0 w1),some (T [.int a.1,.int a.2]),some (T [.int b.1,.int b.2]),some (I 1),some (I w0),none,none]) .next ⟨J2m hh (.tail (.tail (.tail .head))) (.tail (.tail (.tail (.tail .head)))),.inl rfl,?_⟩
   show VX _ _ _ _ _ _ _ x1
   apply J0b (xs':=[some (J w0 w1),some (T [.int a.1,.int a.2]),some (T [.int b.1,.int b.2]),some (I 1),some (I w0),some (I a.2),none])
   ·apply J0h
    repeat' x_close
   apply J0b (xs':=x1)
   ·apply J0h
    repeat' x_close
   apply J0b (xs':=x1)
   ·apply J0g
    ·refine VT.eq ?_ (show decide (a.2<b.2)=false by simp;exact Nat.le_of_not_lt c1)
     rw [← J2k]
     repeat' x_close
    ·exact J0c
   apply J0b (xs':=x1)
   ·apply J0g
    ·refine VT.eq ?_ (show decide (b.2<a.2)=false by simp;exact Nat.le_of_not_lt c2)
     rw [← J4n]
     repeat' x_close
    ·exact J0c
   exact J0c
  ·refine .inr (xi3 (.tuple [.int 0,.int w1]) ([some (J w0 w1),some (T [.int a.1,.int a.2]),some (T [.int b.1,.int b.2]),some (I 0),some (I w1),some (I a.2),some (I b.2)]) (I (w1)) ⟨rfl,rfl,J2m hh (.tail (.tail (.tail .head))) (.tail (.tail (.tail (.tail .head)))),?_⟩)
   apply J0b (xs':=[some (J w0 w1),some (T [.int a.1,.int a.2]),some (T [.int b.1,.int b.2]),some (I 0),some (I w1),some (I a.1),some (I b.2)])
   ·apply J0h
    repeat' x_close
   apply J0b (xs':=x2)
   ·apply J0h
    repeat' x_close
   apply J0b (xs':=x2)
   ·apply J0g
    ·refine VT.eq ?_ (show decide (a.1<b.1)=false by simp;exact Nat.le_of_lt c4)
     rw [← J2k]
     repeat' x_close
    ·exact J0c
   apply J0i
   apply J2
   ·refine VT.eq ?_ (show decide (b.1<a.1)=true by simp;exact c4)
    rw [← J4n]
    repeat' x_close
   ·apply J0i
    apply J0n
    repeat' x_close
 ·rw [show K0w w0 w1 a b=0 by simp [K0w,c1,c2,c3,c4]]
  refine ⟨x2,?_⟩
  apply J0b (xs':=x2)
  ·refine J3e (x:=.d (K1d w0 w1)) (ds:=[.tuple [.int 1,.int w0],.tuple [.int 0,.int w1]]) (fun i=>if i=0 then x0 else if i=1 then x1 else x2) 2 hh ?_ (J0r .d) rfl (fun i _=>J9c rfl rfl rfl) (fun i d hi hd=>?_) ?_ (Ok.mk fun _=>rfl)
   ·apply J9d
    ·x_close
    ·x_close
   ·rcases sels hd with ⟨rfl,rfl⟩|⟨rfl,rfl⟩
    ·refine xi2 ([some (J w0 w1),some (T [.int a.1,.int a.2]),some (T [.int b.1,.int b.2]),some (I 1),some (I w0),none,none]) .next ⟨J2m hh (.tail (.tail (.tail .head))) (.tail (.tail (.tail (.tail .head)))),.inl rfl,?_⟩
     show VX _ _ _ _ _ _ _ x1
     apply J0b (xs':=[some (J w0 w1),some (T [.int a.1,.int a.2]),some (T [.int b.1,.int b.2]),some (I 1),some (I w0),some (I a.2),none])
     ·apply J0h
      repeat' x_close
     apply J0b (xs':=x1)
     ·apply J0h
      repeat' x_close
     apply J0b (xs':=x1)
     ·apply J0g
      ·refine VT.eq ?_ (show decide (a.2<b.2)=false by simp;exact Nat.le_of_not_lt c1)
       rw [← J2k]
       repeat' x_close
      ·exact J0c
     apply J0b (xs':=x1)
     ·apply J0g
      ·refine VT.eq ?_ (show decide (b.2<a.2)=false by simp;exact Nat.le_of_not_lt c2)
       rw [← J4n]
       repeat' x_close
      ·exact J0c
     exact J0c
    ·refine xi2 ([some (J w0 w1),some (T [.int a.1,.int a.2]),some (T [.int b.1,.int b.2]),some (I 0),some (I w1),some (I a.2),some (I b.2)]) .next ⟨J2m hh (.tail (.tail (.tail .head))) (.tail (.tail (.tail (.tail .head)))),.inl rfl,?_⟩
     show VX _ _ _ _ _ _ _ x2
     apply J0b (xs':=[some (J w0 w1),some (T [.int a.1,.int a.2]),some (T [.int b.1,.int b.2]),some (I 0),some (I w1),some (I a.1),some (I b.2)])
     ·apply J0h
      repeat' x_close
     apply J0b (xs':=x2)
     ·apply J0h
      repeat' x_close
     apply J0b (xs':=x2)
     ·apply J0g
      ·refine VT.eq ?_ (show decide (a.1<b.1)=false by simp;exact Nat.le_of_not_lt c3)
       rw [← J2k]
       repeat' x_close
      ·exact J0c
     apply J0b (xs':=x2)
     ·apply J0g
      ·refine VT.eq ?_ (show decide (b.1<a.1)=false by simp;exact Nat.le_of_not_lt c4)
       rw [← J4n]
       repeat' x_close
      ·exact J0c
     exact J0c
   ·exact .inl ⟨rfl,rfl,rfl⟩
  apply J0i
  apply J0n
  repeat' x_close
theorem K6v {w0 w1:Int}{a b:Nat×Nat}{o:Expr}{es:List Expr}{apos:Pos}(hbase:Ok (attributeBase o "compare" env (eval o env)=eval o env))
  (hfew:Ok (((backTo pos (starEach es env)).all (fun x=>!x.1) && (backToKw pos (keywordEach [] env)).all (fun x=>x.1.isSome)
   && decide (es.length+([]:List Keyword).length+(if ([]:List Keyword).isEmpty then 0 else 1)<30))=true))
  (hline:Ok ((apos.endLine == pos.line)=true)) (hA:Rm 1 A) (ho:VE w A env ns xs o (J w0 w1)) (ha:VG w A env ns xs es [T [.int a.1,.int a.2],T [.int b.1,.int b.2]]):VE w A env ns xs (.Call (.Attribute o "compare" apos) es [] pos) (I (K0w w0 w1 a b)):=by
 refine ⟨fun own s F C=>?_⟩
 rw [arm_eval_Call,hbase.h]
 refine wBn (J0 (ho.h own s F C) fun v s1 hv k1=>?_)
 have F1:=F.keeps (Kee.kps k1)
 have C1:=C.keeps (Kee.kps k1)
 have hv':=hv
 refine ab fun Q q9=>?_
 refine o01 hv' fun _ r9a=>o65 r9a fun a' ox es' n l as e9a I q hl hsh r=>?_;subst e9a;clear hv'
 refine q9 ?_
 have I':InstAt s1.heap a' ox 119 (some (dictOf es' n)):=InstAt.kps (fun _ _ e=>of_hideAll _ e) I
 have K:=C1.glh.K
 refine wBn (wpAny_standAt ?_)
 have hform:methodCallForm (es.length+([]:List Keyword).length) (backTo pos (starEach es env)) (backToKw pos (keywordEach [] env))=true:=hfew.h
 have hpos:methodCallPos true o env apos pos=pure pos:=by unfold methodCallPos;simp [hline.h]
 unfold methodCall
 rw [hform]
 refine wBn (wpAny_holding (method_fn (f:=116) K I' (by with_unfolding_all rfl) (by with_unfolding_all rfl) (by with_unfolding_all rfl) (by with_unfolding_all rfl) hsh ?_))
 refine wBn (wpAny_of_eq hpos ?_)
 refine ab fun Q q9=>?_
 obtain ⟨oc,od,osl,hl'⟩:∃ oc od osl,∃ fd,(KF w.params).lookup 116=some ⟨oc,od,.func fd,osl⟩:=(xi4 _ _ _ _ rfl)
 obtain ⟨fd,hl'⟩:=hl'
 refine q9 ?_
 have ho':=K _ _ hl'
 refine callWith_function (o:=⟨oc,od,.func fd,osl⟩) (fd:=fd) (J1y ha.h F1 C1 fun x s2 hk hx k2=>?_)
 rw [hk]
 refine ⟨⟨Kee.kps k2 _ _ ho',rfl⟩,?_⟩
 exact J0 ((K3r (w0:=w0) (w1:=w1) hA).h own s2 (.ref a'::x.pos) (C1.keeps (Kee.kps k2)) (.cons (hv.keeps (Kee.kps k2)) hx)) fun u s3 hu k3=>⟨hu,Kee.trans (Kee.trans k1 k2) k3⟩
end
section
open PySem.Builtin PySem.Builtin.Re
theorem V0n:PlainAttrs "re.Pattern":=
 ⟨⟨"object.__getattribute__",by rw [typeLookup_type,builtinLookup_eq_fast];kernel_rfl,by decide +kernel⟩,by rw [typeLookup_type,builtinLookup_eq_fast];kernel_rfl⟩
theorem K5q:Slot "re.Pattern" "sub" "re.Pattern.sub":=
 .of (owner:="re.Pattern") (n:="sub") (by rw [typeLookup_type,builtinLookup_eq_fast];kernel_rfl) (by decide +kernel) (by decide +kernel) (by decide +kernel)
  (by first|exact .inl (by decide +kernel)|exact .inr (by decide +kernel)) (by rw [isSubtype_type];kernel_rfl)
theorem Z2r:typeOf (.builtin "re.Pattern.sub")=pure (.type "method_descriptor"):=by show builtinType _=_;rw [builtinType_eq_fast];kernel_rfl
theorem K9d:entryFor table "re.Pattern.sub" = some Builtin.«re.Pattern.sub»:=entryFor_of_tree (by kernel_rfl)
theorem Z3p (a b c:Value):argsOk "re.Pattern.sub" ⟨[a,b,c],[]⟩:=by
 unfold argsOk;rfl
theorem J1x:plainId "re.Pattern.sub.loop" = true:=by decide +kernel
theorem J4h:entryFor table "re.Pattern.sub.loop" = some Builtin.«re.Pattern.sub.loop»:=entryFor_of_fast (by kernel_rfl)
noncomputable def drv:Nat→Sre.M→Sre.M
 |0,m=>m
 |n+1,m=>if (m.runFor 4).outcome.isSome then m.runFor 4 else drv n (m.runFor 4)
section
variable {M:Model}{A:Around}{E:Value→Shared→Prop}{s:Shared}
theorem K1i {Q:Sre.M→Shared→Prop}:∀ (k turns:Nat) (m:Sre.M),k<turns→(drv (k+1) m).outcome.isSome=true→Q (drv (k+1) m) s→wpAny M A (reDrive turns m) Q E s
 |k,0,m,hk,_,_=>absurd hk (Nat.not_lt_zero _)
 |k,turns+1,m,hk,ho,hq=>by
  show wpAny M A (if (m.runFor reTurnSteps).outcome.isSome=true then pure (m.runFor reTurnSteps) else do rule "sre.turn";reDrive turns (m.runFor reTurnSteps)) Q E s
  have e:reTurnSteps=4:=rfl
  rw [e]
  unfold drv at ho hq
  by_cases c:(m.runFor 4).outcome.isSome=true
  ·rw [if_pos c] at ho hq ⊢;exact wPu hq
  ·rw [if_neg c] at ho hq ⊢
   match k,hk with
   |0,_=>exact absurd ho c
   |k+1,hk=>exact wBn (wpAny_rule (K1i k turns _ (Nat.lt_of_succ_lt_succ hk) ho hq))
noncomputable def Z9 (o:Option Sre.Outcome):Option Bool:=match o with
 |some .matched=>some true
 |some .failed=>some false
 |_=>none
theorem Z6c {Q:Option Sre.M→Shared→Prop}{m:Sre.M}{b:Bool}(h:Z9 (drv 500 m).outcome=some b)(hq:Q (if b then some (drv 500 m) else none) s):wpAny M A (reRunToEnd m) Q E s:=by
 unfold reRunToEnd
 have hs:(drv 500 m).outcome.isSome=true:=by
  cases q:(drv 500 m).outcome with
  |none=>rw [q] at h;cases h
  |some _=>rfl
 refine wBn (K1i 499 (2 ^ 64) m (by decide) hs ?_)
 refine wBn (wpAny_forIn_list _ (fun _ _ s'=>s'=s) _ (fun x rest b s' e=>?_) (fun b s' e=>?_) _ _ rfl)
 ·subst e
  by_cases c:(drv (499+1) m).seen.has x=true
  ·rw [if_pos c];exact wBn (wpAny_rule (wPu rfl))
  ·rw [if_neg c];exact wPu rfl
 ·subst e
  cases q:(drv 500 m).outcome with
  |none=>rw [q] at h;cases h
  |some o=>
   rw [q] at h
   cases o with
   |matched=>cases h;exact wPu hq
   |failed=>cases h;exact wPu hq
   |stuck w=>cases h
end
structure IsPat (h:Heap)(p:Addr)(code:Array Nat)(P:Addr):Prop where
 h:∃ o fs c oc items n,h.get? p=some o∧o.cls = .type "re.Pattern"∧o.dict=none∧o.data = .fields fs∧reRawNat (fs.getD 2 .none)=0∧reRawNat (fs.getD 6 .none)=0∧fs.getD 5 .none = .ref c∧h.get? c=some oc∧oc.data = .seq items n∧(items.map reRawOf).map (·.toNat)=code∧p≠P∧c≠P
theorem J9e {M:Model}{A:Around}{E:Value→Shared→Prop}{s:Shared}{p P:Addr}{code:Array Nat}{text:Str}{t:Tok}{Q:ReTarget→Shared→Prop}(h:IsPat s.heap p code P)
  (hq:Q {pattern:=.ref p,string:=.str text t,code:=code,text:=text.cps,kind:=0,groups:=0,pos:=0,lim:=text.cps.size} s):wpAny M A (reWholeTarget (.ref p) (.str text t)) Q E s:=by
 refine ab fun Q q9=>?_
 refine o66 h.h fun o fs c oc items n h1 h2 h3 h4 h5 h6 r9z=>?_;obtain ⟨h7,h8,h9,h10,h11,h12⟩:=r9z
 refine q9 ?_
 subst h10
 unfold reWholeTarget reTextOf asStr?
 refine wBn (wpAny_fieldsOf h1 h4 ?_)
 refine wBn (wBn (wPu (wPu ?_)))
 simp only [h6,h5,h7]
 rw [if_neg (by decide),if_neg (by decide)]
 have nc:∀ {Q:Unit→Shared→Prop},Q () s→wpAny M A (reNoCollectionInside (.str text t) 0) Q E s:=fun {Q} h=>by
  unfold reNoCollectionInside
  rw [if_neg (by decide)]
  exact wPu h
 refine wBn (nc ?_)
 unfold reRawItems
 refine wBn (wBn (wpAny_seqItems h8 h9 (wPu ?_)))
 exact wPu hq
noncomputable def Z7h (code text:Array Nat) (start:Nat) (must:Bool):Option (Option (Nat×Nat)):=
 match Z9 (drv 500 (Sre.forSearch code text 0 start text.size must)).outcome with
 |some true=>some (some ((drv 500 (Sre.forSearch code text 0 start text.size must)).start,(drv 500 (Sre.forSearch code text 0 start text.size must)).handed))
 |some false=>some none
 |none=>none
noncomputable def Z4x (code text:Array Nat) (repl:Str):Nat→Nat→Nat→Bool→List Str→Option (List Str)
 |0,_,_,_,_=>none
 |f+1,done,start,must,acc=>match Z7h code text start must with
  |none=>none
  |some (some (b,e))=>Z4x code text repl f e e (e == b) ((if done<b then acc++[⟨text.extract done b⟩] else acc)++[repl])
  |some none=>some (if done<text.size then acc++[⟨text.extract done text.size⟩] else acc)
theorem K2j {code text:Array Nat}{repl:Str}:∀ {f done start must acc out},Z4x code text repl f done start must acc=some out→acc.length≤out.length
 |0,_,_,_,_,_,h=>by cases h
 |f+1,done,start,must,acc,out,h=>by
  unfold Z4x at h
  split at h
  ·cases h
  ·have:=K2j h
   simp only [List.length_append,List.length_cons,List.length_nil] at this
   split at this<;>simp at this<;>lia
  ·cases h
   split<;>simp
theorem K0v {text:Str}{a b:Nat}(h:text.length≤900):(Str.mk (text.cps.extract a b)).length≤sizeLine:=by
 have:(text.cps.extract a b).size≤text.cps.size:=by rw [Array.size_extract];exact lTr (Nat.sub_le _ _) (Nat.min_le_right _ _)
 exact J0l (lTr this (lTr h (by decide)))
theorem J3f (l:List (Str×Tok))(x:Str)(t:Tok):(strValues l).toArray.push (.str x t)=(strValues (l++[(x,t)])).toArray:=by
 simp [strValues]
theorem K2l {p P:Addr}{code:Array Nat}{text repl:Str}{t u:Tok}(htx:text.length≤900):∀ (f done start:Nat) (must:Bool) (acc out:List Str) (k:Int),Z4x code text.cps repl f done start must acc=some out→out.length≤900→JoinOk ⟨#[]⟩ out=true →
  Meets (Builtin.«re.Pattern.sub.loop» ⟨[.ref p,.str text t,.str repl u,rawInt 0,rawInt 0,rawInt k,rawInt done,rawInt start,.bool must,.ref P,.bool false],[]⟩)
   (fun _ R s=>IsPat s.heap p code P∧(∃ l n,l.map (·.1)=acc∧s.heap.get? P=some {cls:=.type "list",data:=.seq (strValues l).toArray n}) ∧
    ∀ h' tk tok,(∀ b o,b≠P→s.heap.get? b=some o→h'.get? b=some o)→R (.ok (.ret (.str (Txt.join ⟨#[]⟩ out) tok))) {s with heap:=h',toks:=tk})
 |0,_,_,_,_,_,_,h,_,_=>by cases h
 |f+1,done,start,must,acc,out,k,h,hl,hj=>by
  intro prog w A R s ⟨hp,⟨l,n,hla,hP⟩,hR⟩
  obtain ⟨hp0,g,d,tk,os⟩:=s
  have lit:∀ {Q:Unit→Shared→Prop} {E:Value→Shared→Prop} {A:Around} {s:Shared},Q () s→wpAny (model prog w) A (reLiteralCannotBeTurned (.str repl u)) Q E s:=fun {Q E A s} h=>by
   unfold reLiteralCannotBeTurned asStr?
   exact wBn (wPu (wPu h))
  have tsz:text.cps.size=text.length:=rfl
  unfold Z4x at h
  unfold Z7h at h
  obtain ⟨ob,hob⟩:∃ ob,Z9 (drv 500 (Sre.forSearch code text.cps 0 start text.cps.size must)).outcome=ob:=⟨_,rfl⟩
  rw [hob] at h
  unfold Builtin.«re.Pattern.sub.loop»
  refine wBn (J9e hp (J3r (show ((0:Int) == 0)=true from rfl) (wBn (lit (wBn (aq fun Q3 h3=>J5k (show ¬ (((0:Int) != 0 && decide (k ≥ 0))=true) by simp) ?_))))))
  cases ob with
  |none=>cases h
  |some b=>
   refine Z6c (m:=Sre.forSearch code text.cps 0 start text.cps.size must) hob ?_
   cases b with
   |true=>
    simp only [if_true] at h
    generalize drv 500 (Sre.forSearch code text.cps 0 start text.cps.size must)=m at h ⊢
    refine h3 (some m) _ ?_
    have hlen:=K2j h
    simp only [List.length_append,List.length_cons,List.length_nil] at hlen
    have tail:∀ (h1:Heap) (tk1:Nat) (l':List (Str×Tok)) (n':Nat),(∀ b o,b≠P→hp0.get? b=some o→h1.get? b=some o)→h1.get? P=some {cls:=.type "list",data:=.seq (strValues l').toArray n'} →
      l'.map (·.1)=(if done<m.start then acc++[⟨text.cps.extract done m.start⟩] else acc) →
      wpAny (model prog w) A.in1 (do
       updateSeq P fun x=>x.push (.str repl u)
       again (Code.builtin "re.Pattern.sub.loop" {pos:=[.ref p,.str text t,.str repl u,rawInt 0,rawInt 0,rawInt (k+1),rawInt m.handed,rawInt m.handed,.bool (m.handed == m.start),.ref P,.bool false]}))
       (fun fin s'=>match fin with | .done f=>R (.ok f) s' | .again c'=>c'.quiet=true∧codeAny (model prog w) A c' R s') (fun e s'=>R (.error e) s') {heap:=h1,gens:=g,drawn:=d,toks:=tk1,os:=os}:=by
     intro h1 tk1 l' n' hk1 hP1 hl1
     have hz:l'.length≤900:=by
      have:=congrArg List.length hl1
      rw [List.length_map] at this
      rw [this];exact lTr (Nat.le_of_lt hlen) hl
     have hz1:(strValues l').toArray.size≤sizeLine:=by simp [strValues];exact J0l (lTr hz (by decide))
     refine wBn (wpAny_updateSeq (s:={heap:=h1,gens:=g,drawn:=d,toks:=tk1,os:=os}) hP1 rfl ?_ hz1 (by rw [Array.size_push];exact Nat.succ_le_succ hz1))
     have hP2:=Heap.get?_update_self (Obj.mapSeq fun x=>x.push (Value.str repl u)) hP1 rfl
     obtain ⟨n2,hP2⟩:∃ n2,(h1.update P (Obj.mapSeq fun x=>x.push (Value.str repl u))).get? P=some {cls:=.type "list",data:=.seq (strValues (l'++[(repl,u)])).toArray n2}:=⟨_,by rw [← J3f];exact hP2⟩
     refine wPu ⟨plainId_quiet J1x _,codeAny_builtin J4h ?_⟩
     rw [Around.under_plainId J1x _]
     refine K2l htx f m.handed m.handed _ _ out (k+1) h hl hj prog w A R _ ⟨?_,(xi2 (l'++[(repl,u)]) n2 ⟨by rw [List.map_append,hl1];rfl,hP2⟩),fun h' tk' tok hk'=>hR h' tk' tok fun b o hb e=>hk' b o hb ((Heap.get?_update_other _ _ (Ne.symm hb)).trans (hk1 b o hb e))⟩
     ·refine o66 hp.h fun o fs c oc items n3 q1 q2 q3 q4 q5 q6 r9z=>?_;obtain ⟨q7,q8,q9,q10,q11,q12⟩:=r9z
      exact ⟨o,fs,c,oc,items,n3,(Heap.get?_update_other _ _ (Ne.symm q11)).trans (hk1 _ _ q11 q1),q2,q3,q4,q5,q6,q7,(Heap.get?_update_other _ _ (Ne.symm q12)).trans (hk1 _ _ q12 q8),q9,q10,q11,q12⟩
    by_cases c:done<m.start
    ·refine J3r c ?_
     have hz:l.length≤900:=by
      have:=congrArg List.length hla
      rw [List.length_map] at this
      rw [this]
      rw [if_pos c] at hlen
      simp at hlen;exact lTr (Nat.le_of_succ_le (Nat.le_of_succ_le hlen)) hl
     have hz1:(strValues l).toArray.size≤sizeLine:=by simp [strValues];exact J0l (lTr hz (by decide))
     unfold reSlice
     rw [if_pos (show ((0:Nat) == 0)=true from rfl)]
     refine wBn (wpAny_mkStr (hx:=K0v htx) ?_)
     refine wBn (wpAny_updateSeq hP rfl ?_ hz1 (by rw [Array.size_push];exact Nat.succ_le_succ hz1))
     have hP2:=Heap.get?_update_self (Obj.mapSeq fun x=>x.push (Value.str ⟨text.cps.extract done m.start⟩ tk)) hP rfl
     refine J3r (show ((0:Int) == 0)=true from rfl) (wBn (wPu (J3r (show (Value.str repl u != Value.none)=true from rfl) ?_)))
     refine tail _ _ (l++[(⟨text.cps.extract done m.start⟩,tk)]) _ (fun b o hb e=>(Heap.get?_update_other _ _ (Ne.symm hb)).trans e) (by rw [← J3f];exact hP2) ?_
     rw [if_pos c,List.map_append,hla];rfl
    ·refine J5k c ?_
     refine J3r (show ((0:Int) == 0)=true from rfl) (wBn (wPu (J3r (show (Value.str repl u != Value.none)=true from rfl) ?_)))
     exact tail _ _ l n (fun b o hb e=>e) hP (by rw [if_neg c];exact hla)
   |false=>
    have h:=Option.some.inj h
    refine h3 none _ ?_
    have tail:∀ (h1:Heap) (tk1:Nat) (l':List (Str×Tok)) (n':Nat),(∀ b o,b≠P→hp0.get? b=some o→h1.get? b=some o)→h1.get? P=some {cls:=.type "list",data:=.seq (strValues l').toArray n'}→l'.map (·.1)=out →
      wpAny (model prog w) A.in1 (do
       let joiner ← reSlice text.cps 0 0 0
       let __do_lift ← seqItems? (Value.ref P)
       if (__do_lift.getD #[]).isEmpty=true then do
        let t ← pure joiner
        ret t
       else do
        let t ← call (.builtin "str.join") [joiner,.ref P]
        ret t)
       (fun fin s'=>match fin with | .done f=>R (.ok f) s' | .again c'=>c'.quiet=true∧codeAny (model prog w) A c' R s') (fun e s'=>R (.error e) s') {heap:=h1,gens:=g,drawn:=d,toks:=tk1,os:=os}:=by
     intro h1 tk1 l' n' hk1 hP1 hl1
     unfold reSlice
     rw [if_pos (show ((0:Nat) == 0)=true from rfl)]
     refine wBn (wpAny_mkStr (hx:=K0v htx) ?_)
     have e0:text.cps.extract 0 0 = #[]:=by simp
     refine wBn (wpAny_seqItems hP1 rfl ?_)
     rw [e0]
     by_cases c:l' = []
     ·subst c
      have:out = []:=by rw [← hl1];rfl
      subst this
      rw [if_pos (show (Option.getD (some (strValues []).toArray) #[]).isEmpty=true from rfl)]
      refine wBn (wPu ?_)
      have ej:Txt.join ⟨#[]⟩ []=⟨#[]⟩:=by decide +kernel
      rw [ej] at hR
      exact wPu (hR h1 _ _ hk1)
     ·have ne:¬ ((Option.getD (some (strValues l').toArray) #[]).isEmpty=true):=by
       cases l' with
       |nil=>exact absurd rfl c
       |cons a l=>simp [strValues]
      rw [if_neg ne]
      refine wBn (SC.join (l:=l') ⟨_,hP1,rfl,_,rfl⟩ hl1 hj fun t' k'=>?_)
      exact wPu (hR h1 _ _ hk1)
    by_cases c:done<text.cps.size
    ·rw [if_pos c] at h;refine J3r c ?_
     have hz:l.length≤900:=by
      have:=congrArg List.length hla
      rw [List.length_map] at this
      rw [this]
      have:=congrArg List.length h
      simp at this;exact Nat.le_of_succ_le (lTr (Nat.le_of_eq this) hl)
     have hz1:(strValues l).toArray.size≤sizeLine:=by simp [strValues];exact J0l (lTr hz (by decide))
     have eS:∀ {Q:Value→Shared→Prop} {E:Value→Shared→Prop} {A:Around} {s:Shared},Q (.str ⟨text.cps.extract done text.cps.size⟩ s.toks) {s with toks:=s.toks+1}→wpAny (model prog w) A (reSlice text.cps 0 done text.cps.size) Q E s:=fun {Q E A s} hq=>by
      unfold reSlice
      rw [if_pos (show ((0:Nat) == 0)=true from rfl)]
      exact wpAny_mkStr (hx:=K0v htx) hq
     refine wBn (eS ?_)
     refine wBn (wpAny_updateSeq hP rfl ?_ hz1 (by rw [Array.size_push];exact Nat.succ_le_succ hz1))
     have hP2:=Heap.get?_update_self (Obj.mapSeq fun x=>x.push (Value.str ⟨text.cps.extract done text.cps.size⟩ tk)) hP rfl
     refine tail _ _ (l++[(⟨text.cps.extract done text.cps.size⟩,tk)]) _ (fun b o hb e=>(Heap.get?_update_other _ _ (Ne.symm hb)).trans e) (by rw [← J3f];exact hP2) ?_
     rw [List.map_append,hla,← h];rfl
    ·rw [if_neg c] at h;refine J5k c ?_
     exact tail _ _ l n (fun b o hb e=>e) hP (hla.trans h)
end
section
open PySem.Builtin PySem.Builtin.Re
theorem K3g:typeLookup (.type "str") "__call__" = pure none:=by rw [typeLookup_type,builtinLookup_eq_fast];kernel_rfl
theorem K8k (a b:Value):reNamed "re.Pattern.sub" "sub" ["repl","string","count"] 2 [a,b] []=pure [some a,some b,none]:=by rfl
noncomputable def Z2g (code:Array Nat) (text repl:Str):Option (List Str):=Z4x code text.cps repl (text.length+3) 0 0 false []
section
variable {w:World}{A:Around}
theorem Z5k {p:Addr}{code:Array Nat}{text repl:Str}{out:List Str}(hp:∀ P,∃ cls dict fs sl c oc items n,(KF P).lookup p=some ⟨cls,dict,.fields fs,sl⟩∧cls = .type "re.Pattern"∧dict=none∧reRawNat (fs.getD 2 .none)=0∧reRawNat (fs.getD 6 .none)=0∧fs.getD 5 .none = .ref c∧(KF P).lookup c=some oc∧oc.data = .seq items n∧(items.map reRawOf).map (·.toNat)=code)
  (hr:repl.cps.contains 92=false) (htx:text.length≤900) (h:Z2g code text repl=some out) (hl:out.length≤900) (hj:JoinOk ⟨#[]⟩ out=true) :
  VF w A (.builtin "re.Pattern.sub") [.v (.ref p),S repl,S text] (S (Txt.join ⟨#[]⟩ out)):=by
 refine ⟨fn3 fun own s va vb vc C ha hb hc=>?_⟩
 have ha:va = .ref p:=ha
 subst ha
 refine o10 (Rd.inv_str hb) fun u e9a=>?_;subst e9a
 refine o10 (Rd.inv_str hc) fun t e9a=>?_;subst e9a
 refine o60 (hp w.params) fun cls dict fs sl c oc r9a=>o24 r9a fun items n q1 e9a e9b q4 r9z=>?_;obtain ⟨q5,q6,q7,q8,q9⟩:=r9z;subst e9a;subst e9b
 have K:=C.glh.K
 have o1:=K _ _ q1
 have o2:=K _ _ q7
 have hT:s.TypeIs (.ref p) "re.Pattern":=⟨_,o1,rfl⟩
 refine call_meets (S:=fun A R s'=>s'=s∧∀ h' tk tok,Kps s.heap h'→R (.ok (.ret (.str (Txt.join ⟨#[]⟩ out) tok))) {s with heap:=h',toks:=tk}) K5q hT K9d (Z3p _ _ _) ?_ ⟨rfl,fun h' tk tok hk=>⟨Rd.str,_,_,rfl,hk⟩⟩
 intro prog w' A' R s' ⟨e,hR⟩
 subst e
 have hpat:∀ P,s'.heap.get? P=none→∀ {h':Heap},Kps s'.heap h'→IsPat h' p code P:=fun P hP h' hk=>
  ⟨_,fs,c,oc,items,n,hk _ _ o1,rfl,rfl,rfl,q4,q5,q6,hk _ _ o2,q8,q9,(by rintro rfl;rw [o1] at hP;cases hP),(by rintro rfl;rw [o2] at hP;cases hP)⟩
 show wpAny _ _ (reSubstitute "re.Pattern.sub" "sub" false ⟨[.ref p,.str repl u,.str text t],[]⟩) _ _ _
 unfold reSubstitute
 refine wBn (wpAny_of_eq (K8k _ _) ?_)
 refine wBn (wPu ?_)
 refine wBn (wpAny_specialOf (name:=Str.ofString "__call__") (typeIs_str _ repl u) K3g ?_)
 dsimp only
 rw [if_neg (show ¬ ((none:Option Value).isSome=true) by decide)]
 refine wBn (show wpAny _ _ (asStr? (.str repl u)) _ _ _ from wPu ?_)
 refine wBn (wPu ?_)
 rw [if_neg (show ¬ ((none:Option Value).isSome=true) by decide),hr,if_pos (show (!false)=true from rfl)]
 refine wBn (wPu ?_)
 have P0:s'.heap.get? s'.heap.objs.size=none:=J0k _
 refine wBn (wpAny_holding (J9e (hpat _ P0 Kps.rfl') ?_))
 dsimp only
 rw [if_neg (by decide)]
 refine wBn (wpAny_newObj_type ?_)
 refine wPu ⟨plainId_quiet J1x _,codeAny_builtin J4h ?_⟩
 rw [Around.under_plainId J1x _]
 refine K2l htx (text.length+3) 0 0 false [] out 0 h hl hj prog w' A' R _ ⟨hpat _ P0 (kps_push _),(xi2 ([]) 0 ⟨rfl,Heap.get?_push_size _ rfl⟩),fun h' tk tok hk=>hR h' tk tok fun b o e=>hk b o (by rintro rfl;rw [P0] at e;cases e) (kps_push _ _ _ e)⟩
noncomputable def K7v:Array Nat:=#[14,4,0,1,1,6,1,16,46,1]
noncomputable def K9w:Array Nat:=#[14,9,4,1,2,16,10,16,13,0,7,7,16,13,16,10,15,18,5,16,10,15,13,11,16,13,5,5,0,16,10,1,15,2,0,1]
noncomputable def K1j (t:Str):Option Str:=match Z2g K9w t (Str.ofString "\r\n") with
 |some o=>if Nat.ble t.length 900 && Nat.ble o.length 900 && JoinOk ⟨#[]⟩ o && Nat.ble (Txt.join ⟨#[]⟩ o).length 900 then
   match Z2g K7v (Txt.join ⟨#[]⟩ o) (Str.ofString "..") with
   |some q=>if Nat.ble q.length 900 && JoinOk ⟨#[]⟩ q then some (Txt.join ⟨#[]⟩ q) else none
   |none=>none
  else none
 |none=>none
theorem pat1:∀ P,∃ cls dict fs sl c oc items n,(KF P).lookup 135=some ⟨cls,dict,.fields fs,sl⟩∧cls = .type "re.Pattern"∧dict=none∧reRawNat (fs.getD 2 .none)=0∧reRawNat (fs.getD 6 .none)=0∧fs.getD 5 .none = .ref c∧(KF P).lookup c=some oc∧oc.data = .seq items n∧(items.map reRawOf).map (·.toNat)=K7v:=
 fun P=>(xi8 _ _ _ _ 134 _ _ _ ⟨rfl,rfl,rfl,rfl,rfl,rfl,rfl,rfl,by decide +kernel⟩)
theorem pat2:∀ P,∃ cls dict fs sl c oc items n,(KF P).lookup 140=some ⟨cls,dict,.fields fs,sl⟩∧cls = .type "re.Pattern"∧dict=none∧reRawNat (fs.getD 2 .none)=0∧reRawNat (fs.getD 6 .none)=0∧fs.getD 5 .none = .ref c∧(KF P).lookup c=some oc∧oc.data = .seq items n∧(items.map reRawOf).map (·.toNat)=K9w:=
 fun P=>(xi8 _ _ _ _ 139 _ _ _ ⟨rfl,rfl,rfl,rfl,rfl,rfl,rfl,rfl,by decide +kernel⟩)
theorem m_re {p:Addr}(hp:∀ P,∃ cls dict fs sl,(KF P).lookup p=some ⟨cls,dict,.fields fs,sl⟩∧cls = .type "re.Pattern"∧dict=none){own:List Addr}{s:Shared}(C:Cx w own s.heap):s.TypeIs (.ref p) "re.Pattern"∧∀ a,Value.ref p = .ref a→∃ o,s.heap.get? a=some o∧o.dict=none:=by
 skip
 refine o42 (hp w.params) fun cls dict fs sl q1 e9a e9b=>?_;subst e9a;subst e9b
 skip
 have o1:=C.glh.K _ _ q1
 exact ⟨⟨_,o1,rfl⟩,fun a e=>by cases e;exact ⟨_,o1,rfl⟩⟩
theorem K6g {env:Env}{ns:List (Str×Bool)}{xs:List (Option X)}{o:Expr}{es:List Expr}{apos pos:Pos}{p:Addr}{x y z:X}(hbase:Ok (attributeBase o "sub" env (eval o env)=eval o env))
  (hfew:Ok (((backTo pos (starEach es env)).all (fun x=>!x.1) && (backToKw pos (keywordEach [] env)).all (fun x=>x.1.isSome)
   && decide (es.length+([]:List Keyword).length+(if ([]:List Keyword).isEmpty then 0 else 1)<30))=true))
  (hline:Ok ((apos.endLine == pos.line)=true)) (ho:VE w A env ns xs o (.v (.ref p))) (hp:∀ P,∃ cls dict fs sl,(KF P).lookup p=some ⟨cls,dict,.fields fs,sl⟩∧cls = .type "re.Pattern"∧dict=none) (ha:VG w A env ns xs es [x,y]) (hc:VF w A (.builtin "re.Pattern.sub") [.v (.ref p),x,y] z) :
  VE w A env ns xs (.Call (.Attribute o "sub" apos) es [] pos) z:=by
 refine ⟨fun own s F C=>wpAny_Call_method_lateS hbase.h hfew.h hline.h (J0 (ho.h own s F C) fun v s1 hv k1=>?_)⟩
 have hv:v = .ref p:=hv
 subst hv
 have F1:=F.keeps (Kee.kps k1)
 have C1:=C.keeps (Kee.kps k1)
 refine o01 (m_re hp C1) fun hT hd=>?_
 refine xi2 ("re.Pattern") ("re.Pattern.sub") ⟨V0n,K5q,Z2r,hT,hd,Calls.callWith_builtin (ha.h.1 _) (J1y ha.h F1 C1 fun a s2 hk hx k2=>?_)⟩
 rw [hk]
 exact J0 (hc.h own s2 (.ref p::a.pos) (C1.keeps (Kee.kps k2)) (.cons (show Value.ref p = .ref p from rfl) hx)) fun u s3 hu k3=>⟨hu,Kee.trans (Kee.trans k1 k2) k3⟩
theorem Z8g {env:Env}{ns:List (Str×Bool)}{xs:List (Option X)}{n:Str}{pos:Pos}{c:Str}{t:Tok}(h:VE w A env ns xs (.Name n pos) (.v (.str c t))):VE w A env ns xs (.Name n pos) (S c):=
 ⟨fun own s F C=>J0 (h.h own s F C) fun v s1 hv k=>by have hv:v = .str c t:=hv;subst hv;exact ⟨Rd.str,k⟩⟩
theorem K7n {t r:Str}(hA:Rm 1 A)(h:K1j t=some r):VF w A (.ref 210) [S t] (S r):=by
 refine J1g (j:=0) (ns:=[("data",false)]) ⟨fun _=>(xi3 _ _ _ rfl),fun _=>rfl,rfl,⟨rfl,rfl,rfl,rfl,rfl,rfl⟩,by decide,by decide,by decide⟩ hA.dl ?_ (vs1 fun _=>rfl) (by rfl)
 intro env L he
 unfold K1j at h
 split at h
 ·rename_i o ho
  split at h
  ·rename_i c1
   split at h
   ·rename_i q hq
    split at h
    ·rename_i c2
     cases h
     simp only [Bool.and_eq_true] at c1 c2
     refine ab fun Q q9=>?_
     refine o01 c1 fun n9a a4=>?_;obtain ⟨⟨a1,a2⟩,a3⟩:=n9a;clear c1
     refine q9 ?_
     refine ⟨_,J0i (J0n ?_)⟩
     apply K6g (p:=135) (x:=S (Str.ofString "..")) (y:=S (Txt.join ⟨#[]⟩ o))
     ·x_close
     ·x_close
     ·x_close
     ·x_close
     ·exact fun _=>(xi4 _ _ _ _ ⟨rfl,rfl,rfl⟩)
     ·apply wg_cons
      ·x_close
      ·apply wl_cons
       ·x_close
       ·x_close
       ·apply wl_cons
        ·x_close
        ·apply K6g (p:=140) (x:=S (Str.ofString "\r\n")) (y:=S t)
         ·x_close
         ·x_close
         ·x_close
         ·x_close
         ·exact fun _=>(xi4 _ _ _ _ ⟨rfl,rfl,rfl⟩)
         ·apply wg_cons
          ·x_close
          ·apply wl_cons
           ·x_close
           ·apply Z8g
            x_close
           ·repeat' x_close
         ·exact Z5k pat2 (by decide +kernel) (lBt a1) ho (lBt a2) a3
        ·exact wl_nil
     ·exact Z5k pat1 (by decide +kernel) (lBt a4) hq (lBt c2.1) c2.2
    ·cases h
   ·cases h
  ·cases h
 ·cases h
end
end
noncomputable def e3 (j:Int):Str:=if j=0 then Str.ofString "\n" else if j=1 then Str.ofString "\r" else Str.ofString "\r\n"
noncomputable def eI (turn:Int) (k:Nat):Str:=e3 (((k:Int)+turn).fmod 3)
noncomputable def eR (r k:Nat):Str:=e3 (((k+r) % 3:Nat):Int)
noncomputable def vt:Str:=Str.ofString "o\x0b."
noncomputable def Z1r (row e0 e1 e2:Str):Str:=row++e0++vt++e1++e1++e2++Str.ofString "."
noncomputable def K3u (row:Str) (turn:Int):Str:=if turn.fmod 2=0 then Z1r row (eI turn 0) (eI turn 1) (eI turn 2)++eI turn 0 else Z1r row (eI turn 0) (eI turn 1) (eI turn 2)
noncomputable def Z4e (row:Str) (r:Nat):Str:=if r % 2=0 then Z1r row (eR r 0) (eR r 1) (eR r 2)++eR r 0 else Z1r row (eR r 0) (eR r 1) (eR r 2)
noncomputable def K5y:Str:=Str.ofString "\r\n"
noncomputable def J3y (even:Bool):List Str:=[vt,Str.ofString "",Str.ofString "",Str.ofString ".."]++(if even then [Str.ofString ""] else [])
noncomputable def J0x (n l r:Nat):Bool:=match K1j (Z4e (J0f n l) r) with
 |some u=>decide (Txt.split u K5y=J0f (n+1) l::J3y (r % 2 == 0)) && Nat.ble u.length 1000 && Nat.ble (Builtin.Str.partsBetween u (Builtin.Str.occurrences u K5y 0 u.length (u.length+1)) K5y.length).length 1000
 |none=>false
noncomputable def eqL:List Nat→List Nat→Bool
 |[],[]=>true
 |a::as,b::bs=>Nat.beq a b && eqL as bs
 |_,_=>false
theorem Z5y (as:List Nat):∀ bs,eqL as bs=true→as=bs:=by
 induction as with
 |nil=>intro bs h;cases bs with|nil=>rfl|cons _ _=>cases h
 |cons a as ih=>
  intro bs h
  cases bs with
  |nil=>cases h
  |cons b bs=>
   have h:=Bool.and_eq_true_iff.mp h
   rw [Nat.eq_of_beq_eq_true h.1,ih bs h.2]
noncomputable def eqS (a b:Str):Bool:=eqL a.cps.toList b.cps.toList
theorem Z1 {a b:Str}(h:eqS a b=true):a=b:=congrArg Str.mk (Array.toList_inj.1 (Z5y _ _ h))
noncomputable def V0p:List Str→List Str→Bool
 |[],[]=>true
 |a::as,b::bs=>eqS a b && V0p as bs
 |_,_=>false
theorem Z3l (as:List Str):∀ bs,V0p as bs=true→as=bs:=by
 induction as with
 |nil=>intro bs h;cases bs with|nil=>rfl|cons _ _=>cases h
 |cons a as ih=>
  intro bs h
  cases bs with
  |nil=>cases h
  |cons b bs=>
   have h:=Bool.and_eq_true_iff.mp h
   rw [Z1 h.1,ih bs h.2]
noncomputable def Z9m (n l:Nat) (b:Bool):Str:=J0f n l++K5y++vt++K5y++K5y++K5y++Str.ofString "."++(if b then K5y else Str.ofString "")
noncomputable def okA (n l r:Nat):Bool:=match Z2g K9w (Z4e (J0f n l) r) (Str.ofString "\r\n") with
 |some o=>(Nat.ble (Z4e (J0f n l) r).length 900 && Nat.ble o.length 900 && JoinOk ⟨#[]⟩ o) && eqS (Txt.join ⟨#[]⟩ o) (Z9m n l (r % 2 == 0))
 |none=>false
noncomputable def finO (n l:Nat) (b:Bool) (u:Str):Bool:=V0p (Txt.split u K5y) (J0f (n+1) l::J3y b) && (Nat.ble u.length 1000 && Nat.ble (Builtin.Str.partsBetween u (Builtin.Str.occurrences u K5y 0 u.length (u.length+1)) K5y.length).length 1000)
noncomputable def okB (n l:Nat) (b:Bool):Bool:=Nat.ble (Z9m n l b).length 900 && match Z2g K7v (Z9m n l b) (Str.ofString "..") with
 |some q=>(Nat.ble q.length 900 && JoinOk ⟨#[]⟩ q) && finO n l b (Txt.join ⟨#[]⟩ q)
 |none=>false
theorem V0g {n l r:Nat}(a:okA n l r=true)(b:okB n l (r % 2 == 0)=true):J0x n l r=true:=by
 unfold okA at a;unfold okB at b;unfold J0x K1j
 have b:=Bool.and_eq_true_iff.mp b
 cases e:Z2g K9w (Z4e (J0f n l) r) (Str.ofString "\r\n") with
 |none=>rw [e] at a;cases a
 |some o=>
  rw [e] at a
  have a:=Bool.and_eq_true_iff.mp a
  have ej:=Z1 a.2
  rw [← ej] at b
  cases e2:Z2g K7v (Txt.join ⟨#[]⟩ o) (Str.ofString "..") with
  |none=>rw [e2] at b;cases b.2
  |some q=>
   rw [e2] at b
   have c:=Bool.and_eq_true_iff.mp b.2
   dsimp only
   rw [if_pos (Bool.and_eq_true_iff.mpr ⟨a.1,b.1⟩),e2]
   dsimp only
   rw [if_pos c.1]
   have d:=Bool.and_eq_true_iff.mp c.2
   dsimp only
   rw [decide_eq_true (Z3l _ _ d.1),Bool.true_and]
   exact d.2
theorem J1p {n:Nat}(h:J2a 2 (fun l=>okB n (l+1) true && (okB n (l+1) false && J2a 6 fun r=>okA n (l+1) r))=true):J2a 2 (fun l=>J2a 6 fun r=>J0x n (l+1) r)=true:=by
 refine List.all_eq_true.mpr fun l hl=>List.all_eq_true.mpr fun r hr=>?_
 have q:=Bool.and_eq_true_iff.mp (List.all_eq_true.mp h l hl)
 have p:=Bool.and_eq_true_iff.mp q.2
 refine V0g (List.all_eq_true.mp p.2 r hr) ?_
 cases r % 2 == 0 with
 |true=>exact q.1
 |false=>exact p.1
theorem Z6g (turn:Int):∃ r:Nat,r<6∧(∀ k:Nat,((k:Int)+turn).fmod 3=(((k+r) % 3:Nat):Int))∧(turn.fmod 2=((r % 2:Nat):Int)):=by
 obtain ⟨r,hr⟩:=Int.eq_ofNat_of_zero_le (Int.emod_nonneg turn (by decide:(6:Int)≠0))
 refine ⟨r,Int.ofNat_lt.1 (hr▸Int.emod_lt_of_pos turn (by decide:(0:Int)<6)),fun k=>?_,?_⟩
 ·rw [Int.fmod_eq_emod_of_nonneg _ (by decide),Int.add_emod,← Int.emod_emod_of_dvd turn (by decide:(3:Int) ∣ 6),hr,← Int.add_emod];rfl
 ·rw [Int.fmod_eq_emod_of_nonneg _ (by decide),← Int.emod_emod_of_dvd turn (by decide:(2:Int) ∣ 6),hr];rfl
theorem J3v (a b:Str):(a++b).length=a.length+b.length:=by show (a.cps++b.cps).size=_;simp [Str.length]
theorem K4j (j:Int):(e3 j).length≤2:=by
 unfold e3
 split
 ·decide +kernel
 ·split<;>decide +kernel
theorem Z6w:vt.length=3:=by decide +kernel
theorem K0h:(Str.ofString ".").length=1:=by decide +kernel
theorem Z7n {row:Str}{turn:Int}{r:Nat}(h:∀ k:Nat,((k:Int)+turn).fmod 3=(((k+r) % 3:Nat):Int))(h2:turn.fmod 2=((r % 2:Nat):Int)):K3u row turn=Z4e row r:=by
 have e:∀ k,eI turn k=eR r k:=fun k=>by unfold eI eR;rw [h k]
 unfold K3u Z4e
 rw [e,e,e,h2]
 have:(((r % 2:Nat):Int)=0)↔r % 2=0:=by omega
 simp only [this]
theorem Z9k:J2a 2 (fun l=>J2a 6 fun r=>J0x 1 (l+1) r)=true:=J1p (by decide +kernel)
theorem V0i:J2a 2 (fun l=>J2a 6 fun r=>J0x 2 (l+1) r)=true:=J1p (by decide +kernel)
theorem Z9t:J2a 2 (fun l=>J2a 6 fun r=>J0x 3 (l+1) r)=true:=J1p (by decide +kernel)
theorem Z9q:J2a 2 (fun l=>J2a 6 fun r=>J0x 4 (l+1) r)=true:=J1p (by decide +kernel)
theorem Z9w:J2a 2 (fun l=>J2a 6 fun r=>J0x 5 (l+1) r)=true:=J1p (by decide +kernel)
theorem Z9e:J2a 2 (fun l=>J2a 6 fun r=>J0x 6 (l+1) r)=true:=J1p (by decide +kernel)
theorem V0o:J2a 2 (fun l=>J2a 6 fun r=>J0x 7 (l+1) r)=true:=J1p (by decide +kernel)
theorem V0b:J2a 2 (fun l=>J2a 6 fun r=>J0x 8 (l+1) r)=true:=J1p (by decide +kernel)
theorem V0x:J2a 2 (fun l=>J2a 6 fun r=>J0x 9 (l+1) r)=true:=J1p (by decide +kernel)
theorem Z7p:J2a 2 (fun l=>J2a 6 fun r=>J0x 10 (l+1) r)=true:=J1p (by decide +kernel)
theorem Z8t:J2a 2 (fun l=>J2a 6 fun r=>J0x 11 (l+1) r)=true:=J1p (by decide +kernel)
theorem Z7e:J2a 2 (fun l=>J2a 6 fun r=>J0x 12 (l+1) r)=true:=J1p (by decide +kernel)
theorem Z5l:J2a 2 (fun l=>J2a 6 fun r=>J0x 13 (l+1) r)=true:=J1p (by decide +kernel)
theorem Z5h:J2a 2 (fun l=>J2a 6 fun r=>J0x 14 (l+1) r)=true:=J1p (by decide +kernel)
theorem Z7a:J2a 2 (fun l=>J2a 6 fun r=>J0x 15 (l+1) r)=true:=J1p (by decide +kernel)
theorem Z5v:J2a 2 (fun l=>J2a 6 fun r=>J0x 16 (l+1) r)=true:=J1p (by decide +kernel)
theorem Z8m:J2a 2 (fun l=>J2a 6 fun r=>J0x 17 (l+1) r)=true:=J1p (by decide +kernel)
theorem Z9s:∀ n,n<17→J2a 2 (fun l=>J2a 6 fun r=>J0x (n+1) (l+1) r)=true
 |0,_=>Z9k
 |1,_=>V0i
 |2,_=>Z9t
 |3,_=>Z9q
 |4,_=>Z9w
 |5,_=>Z9e
 |6,_=>V0o
 |7,_=>V0b
 |8,_=>V0x
 |9,_=>Z7p
 |10,_=>Z8t
 |11,_=>Z7e
 |12,_=>Z5l
 |13,_=>Z5h
 |14,_=>Z7a
 |15,_=>Z5v
 |16,_=>Z8m
 |n+17,h=>absurd h (Nat.not_lt.mpr (Nat.le_add_left ..))
theorem K7l {n l r:Nat}(hn:1≤n∧n≤17)(hl:1≤l∧l≤2)(hr:r<6):J0x n l r=true:=by
 have h:=J3q (J3q (Z9s (n - 1) (Nat.lt_of_le_of_lt (Nat.sub_le_sub_right hn.2 1) (by decide))) (i:=l - 1) (Nat.lt_of_le_of_lt (Nat.sub_le_sub_right hl.2 1) (by decide))) hr
 rwa [Nat.sub_add_cancel hn.1,Nat.sub_add_cancel hl.1] at h
section
variable {w:World}{A:Around}
theorem K8v {env:Env}{ns:List (Str×Bool)}{xs:List (Option X)}{x:X}{ds:List PyData}{d:PyData}{k:Int}{l:Expr}{kk:Nat}{p pos:Pos}{own:List Addr}{s:Shared}(hx:IsL x ds)(hl:VE w A env ns xs l x)(hk:0≤k∧k<2 ^ 63)(hd:ds[k.toNat]? = some d)
  (hs:∀ a u,subscripted (.Constant (.int k) kk p) false (.ref a) (.int k u)=operate [.ref a,.int k u] (getItem (.ref a) (.int k u))) (F:Frm own env ns xs s.heap) (C:Cx w own s.heap) :
  wpAny (model PW w) A (eval (.Subscript l (.Constant (.int k) kk p) pos) env) (fun v s1=>XIn own s1.heap v (.d d)∧Keeps s s1∧1≤s1.toks) NoE s:=by
 refine Subscript_ (J0 (hl.h own s F C) fun a s1 ha k1=>?_)
 refine wpAny_Constant_int ?_
 skip
 refine o22 (hx.at ha) fun c vs e9a hL hr=>?_;subst e9a
 refine o11 (hr.get hd) fun v hv rv=>?_
 skip
 exact tail_any (s:={s1 with toks:=s1.toks+1}) hL.typeIs slot_list_getitem.lookup (wpAny_getItem_list hL hk.1 hk.2 (by simpa using hv) ⟨rv,Kee.trans k1 kt,Nat.succ_le_succ (Nat.zero_le _)⟩) (hs c _)
theorem Z8h {x y:X}{ds es:List PyData}(hx:IsL x ds)(hy:IsL y es)(hsz:ds.length+es.length≤1000):V2 w A (binaryOp .Add) x y (L (ds++es)):=by
 refine ⟨pr2 fun own s a b C ha hb=>?_⟩
 refine ab fun Q q9=>?_
 refine o22 (hx.at ha) fun a vs e9a hl hr=>?_;subst e9a
 refine o22 (hy.at hb) fun b us e9a hl2 hr2=>?_;subst e9a
 refine o12 (id hl) fun n9a ho hc r9a=>o10 r9a fun n hd=>?_;obtain ⟨cls,dd,data,sl⟩:=n9a
 refine o12 (id hl2) fun n9a ho2 hc2 r9a=>o10 r9a fun n2 hd2=>?_;obtain ⟨cls2,dd2,data2,sl2⟩:=n9a
 refine q9 ?_
 simp only at hc hd hc2 hd2
 subst hc hd hc2 hd2
 have e1:vs.size=ds.length:=by rw [← Array.length_toList,hr.length]
 have e2:us.size=es.length:=by rw [← Array.length_toList,hr2.length]
 refine concat_meets ⟨_,ho,rfl⟩ ⟨_,ho2,rfl⟩ noFill_list_add seq_list_add PySem.F.slot_list_add PySem.F.entry_list_add (PySem.F.args_list_add_2 _ _) (list_addW a b vs us n n2 dd dd2 sl sl2 (by rw [e1,e2];exact J0l hsz)) ⟨ho,ho2,?_⟩
 refine ⟨Rd.list (J1j C.alive) (Heap.get?_push_size _ rfl) rfl rfl ?_,_,_,rfl,kps_push _⟩
 rw [Array.toList_append]
 exact (hr.append hr2).keeps (kps_push _)
noncomputable def V0v (turn:Int):PyData→Option PyData
 |.int k=>some (.str (e3 ((k+turn).fmod 3)))
 |_=>none
theorem Z4w {turn:Int}:(rgD 0 1 3).filterMap (V0v turn) = [.str (eI turn 0),.str (eI turn 1),.str (eI turn 2)]:=by
 unfold rgD eI
 simp [List.range_succ,V0v]
theorem Z9j (a:Int):a.fmod 3=0∨a.fmod 3=1∨a.fmod 3=2:=by
 rw [Int.fmod_eq_emod_of_nonneg _ (by decide)];lia
theorem K5v {n l:Nat}{turn:Int}(hA:Rm 3 A)(hn:1≤n∧n≤17)(hl:1≤l∧l≤2):VF w A (.ref 220) [S (J0f n l),I turn] (S (J0f (n+1) l)):=by
 refine J1g (j:=4) (ns:=[("row",false),("turn",true),("ends",false),("text",false),("rest",false),("rows",false)]) ⟨fun _=>(xi3 _ _ _ rfl),fun _=>rfl,rfl,⟨rfl,rfl,rfl,rfl,rfl,rfl⟩,by decide,by decide,by decide⟩ hA.dl ?_ (vs2 fun _ _=>rfl) (by rfl)
 intro env L0 he
 have hA':Rm 2 (A.deeper env):=hA.deeper
 have hh:(A.deeper env).handled=none:=hA'.hd
 refine o12 (Z6g turn) fun r hr hk h2=>?_
 have ok:=K7l hn hl hr
 have etx:K3u (J0f n l) turn=Z4e (J0f n l) r:=Z7n hk h2
 unfold J0x at ok
 rw [← etx] at ok
 split at ok
 case h_2=>cases ok
 rename_i u hu
 simp only [Bool.and_eq_true,decide_eq_true_eq] at ok
 refine o01 ok fun n9a hu2=>?_;obtain ⟨hsp,hu1⟩:=n9a;clear ok
 let ev:Bool:=r % 2 == 0
 let EL:X:=PL [.str (eI turn 0),.str (eI turn 1),.str (eI turn 2)]
 let t0:Str:=Z1r (J0f n l) (eI turn 0) (eI turn 1) (eI turn 2)
 let rst:Bool→X:=fun b=>L ((J3y b).map .str)
 let rws:X:=Mine.L ((J0f (n+1) l::J3y ev).map .str)
 refine ⟨[some (S (J0f n l)),some (I turn),some EL,some (S (K3u (J0f n l) turn)),some (rst ev),some rws],?_⟩
 apply J0b (xs':=[some (S (J0f n l)),some (I turn),some EL,none,none,none])
 ·refine show VS _ _ _ _ _ _ .next [some (S (J0f n l)),some (I turn),some (PL [.str (eI turn 0),.str (eI turn 1),.str (eI turn 2)]),none,none,none] from ?_
  rw [← Z4w]
  refine J7q (cl:=[("turn",L0+1)]) (cs:=["turn"]) (ys:=[I turn]) (x:=Rg 0 3 1) (V0v turn) ?_ (by subst he;rfl) (.tail (.tail .head)) hh ?_ ⟨J4c (n:=3) (by decide +kernel) (by decide +kernel)⟩ (.cons (.tail .head) .nil) (Ok.mk rfl) (by decide) (fun C' d hd=>?_) (fun C' d z hd hz=>?_) (Ok.mk fun _=>rfl)
  ·subst he
   exact ⟨rfl,by decide,rfl,by decide,by decide,fun n hn=>by obtain rfl:=mSg hn;rfl,fun q hq=>by obtain rfl:=mSg hq;rfl,(by show [Str.ofString "turn"].Nodup;decide),fun n hn=>⟨_,by obtain rfl:=mSg hn;rfl⟩,by decide⟩
  ·apply w_callt
   ·x_close
   ·x_close
   ·repeat' x_close
   ·exact J5c
  ·refine o11 (mMp hd) fun i hi e9a=>?_;subst e9a
   exact wi_nil
  ·refine o11 (mMp hd) fun i hi e9a=>?_;subst e9a
   cases hz
   show VE _ _ _ [("k",false),("turn",true)] [some (I ((0:Int)+(i:Int) * 1)),some (I turn)] _ _
   have ei:(0:Int)+(i:Int) * 1=(i:Int):=(Int.zero_add _).trans (Int.mul_one _)
   rw [ei]
   have sub:∀ {l r:Expr} {pos:Pos} {env:Env} {ns:List (Str×Bool)} {xs:List (Option X)},VE w (A.deeper env) env ns xs l (T [.str (Str.ofString "\n"),.str (Str.ofString "\r"),.str (Str.ofString "\r\n")])→VE w (A.deeper env) env ns xs r (I (((i:Int)+turn).fmod 3))→True:=fun _ _=>trivial
   rcases Z9j ((i:Int)+turn) with q|q|q<;>rw [q]
   ·show VE _ _ _ _ _ _ (S (Str.ofString "\n"))
    apply w_sub
    ·repeat' x_close
    ·refine VE.eq ?_ (congrArg I q)
     apply w_bin
     ·repeat' x_close
     ·x_close
     ·exact J6b (by decide)
    ·repeat' x_close
   ·show VE _ _ _ _ _ _ (S (Str.ofString "\r"))
    apply w_sub
    ·repeat' x_close
    ·refine VE.eq ?_ (congrArg I q)
     apply w_bin
     ·repeat' x_close
     ·x_close
     ·exact J6b (by decide)
    ·repeat' x_close
   ·show VE _ _ _ _ _ _ (S (Str.ofString "\r\n"))
    apply w_sub
    ·repeat' x_close
    ·refine VE.eq ?_ (congrArg I q)
     apply w_bin
     ·repeat' x_close
     ·x_close
     ·exact J6b (by decide)
    ·repeat' x_close
 have l0:=K4j (((0:Nat):Int)+turn |>.fmod 3)
 have l1:=K4j (((1:Nat):Int)+turn |>.fmod 3)
 have l2:=K4j (((2:Nat):Int)+turn |>.fmod 3)
 have m0:(eI turn 0).length≤2:=l0
 have m1:(eI turn 1).length≤2:=l1
 have m2:(eI turn 2).length≤2:=l2
 have mv:(Str.ofString "o\x0b.").length=3:=by decide +kernel
 clear l0 l1 l2
 have hn2:=hn.2
 apply J0b (xs':=[some (S (J0f n l)),some (I turn),some EL,some (S t0),none,none])
 ·apply J0h
  ·x_close
  ·show VE _ _ _ _ _ _ (S (J0f n l++eI turn 0++Str.ofString "o\x0b."++eI turn 1++eI turn 1++eI turn 2++Str.ofString "."))
   apply w_bin
   ·apply w_bin
    ·apply w_bin
     ·apply w_bin
      ·apply w_bin
       ·apply w_bin
        ·x_close
        ·apply w_sub
         ·x_close
         ·x_close
         ·exact J1c .p (by decide) rfl (Ok.mk rfl)
        ·exact J2c (by simp only [J3v,J1a];exact lTr (Nat.add_le_add (Nat.succ_le_succ hn.2) m0) (by decide))
       ·x_close
       ·exact J2c (by simp only [J3v,J1a,mv];exact lTr (Nat.add_le_add_right (Nat.add_le_add (Nat.succ_le_succ hn.2) m0) _) (by decide))
      ·apply w_sub
       ·x_close
       ·x_close
       ·exact J1c .p (by decide) rfl (Ok.mk rfl)
      ·exact J2c (by simp only [J3v,J1a,mv];lia)
     ·apply w_sub
      ·x_close
      ·x_close
      ·exact J1c .p (by decide) rfl (Ok.mk rfl)
     ·exact J2c (by simp only [J3v,J1a,mv];lia)
    ·apply w_sub
     ·x_close
     ·x_close
     ·exact J1c .p (by decide) rfl (Ok.mk rfl)
    ·exact J2c (by simp only [J3v,J1a,mv];lia)
   ·x_close
   ·exact J2c (by simp only [J3v,J1a,mv,K0h];lia)
  ·repeat' x_close
 apply J0b (xs':=[some (S (J0f n l)),some (I turn),some EL,some (S t0),some (L [.str (Str.ofString "o\x0b."),.str (Str.ofString ""),.str (Str.ofString ""),.str (Str.ofString "..")]),none])
 ·apply J0h
  ·x_close
  ·repeat' x_close
  ·repeat' x_close
 apply J0b (xs':=[some (S (J0f n l)),some (I turn),some EL,some (S (K3u (J0f n l) turn)),some (rst ev),none])
 ·by_cases c:turn.fmod 2=0
  ·have hev:ev=true:=by show (r % 2 == 0)=true;rw [h2] at c;simp;exact Int.ofNat.inj c
   rw [hev,show K3u (J0f n l) turn=t0++eI turn 0 by unfold K3u;rw [if_pos c]]
   apply J2
   ·refine VT.eq ?_ (show (turn.fmod 2 == 0)=true by simp [c])
    apply wt_cmp
    ·x_close
    ·apply w_bin
     ·x_close
     ·x_close
     ·exact J6b (by decide)
    ·x_close
    ·x_close
   ·apply J0b (xs':=[some (S (J0f n l)),some (I turn),some EL,some (S (t0++eI turn 0)),some (Mine.L [.str (Str.ofString "o\x0b."),.str (Str.ofString ""),.str (Str.ofString ""),.str (Str.ofString "..")]),none])
    ·apply J0h
     ·x_close
     ·apply w_bin
      ·x_close
      ·apply w_sub
       ·x_close
       ·x_close
       ·exact J1c .p (by decide) rfl (Ok.mk rfl)
      ·have:t0.length≤100:=by
        show (Z1r _ _ _ _).length≤100
        unfold Z1r
        simp only [J3v,J1a,Z6w,K0h];lia
       exact J2c (lTr (Nat.add_le_add this m0) (by decide))
     ·repeat' x_close
    ·apply J0b
     ·apply J0h
      ·x_close
      ·show VE _ _ _ _ _ _ (Mine.L ([.str (Str.ofString "o\x0b."),.str (Str.ofString ""),.str (Str.ofString ""),.str (Str.ofString "..")]++[.str (Str.ofString "")]))
       apply w_bin
       ·x_close
       ·repeat' x_close
       ·exact Z8h .d .d (by decide)
      ·repeat' x_close
     ·exact J0c
  ·have hev:ev=false:=by show (r % 2 == 0)=false;rw [h2] at c;simp;lia
   rw [hev,show K3u (J0f n l) turn=t0 by unfold K3u;rw [if_neg c]]
   apply J0g
   ·refine VT.eq ?_ (show (turn.fmod 2 == 0)=false by simp [c])
    apply wt_cmp
    ·x_close
    ·apply w_bin
     ·x_close
     ·x_close
     ·exact J6b (by decide)
    ·x_close
    ·x_close
   ·exact J0c
 apply J0b (xs':=[some (S (J0f n l)),some (I turn),some EL,some (S (K3u (J0f n l) turn)),some (rst ev),some rws])
 ·apply J0h
  ·x_close
  ·show VE _ _ _ _ _ _ (Mine.L ((J0f (n+1) l::J3y ev).map .str))
   rw [← hsp]
   apply K6 (x:=S u) (ys:=[S (Str.ofString "\r\n")]) (id:="str.split")
   ·x_close
   ·x_close
   ·x_close
   ·apply w_callf (a:=210) (ys:=[S (K3u (J0f n l) turn)])
    ·x_close
    ·x_close
    ·repeat' x_close
    ·x_close
    ·exact K7n (Rm.less hA' (by decide)) hu
   ·apply wg_cons
    ·x_close
    ·repeat' x_close
   ·exact Z1k (b:=u)
   ·exact Z2b (by decide +kernel) (lBt hu1) (lBt hu2)
  ·repeat' x_close
 have cnt:∀ {p1 p2 p3 p4 p5 p6:Pos} {k k2:Nat} {xs:List (Option X)},xs = [some (S (J0f n l)),some (I turn),some EL,some (S (K3u (J0f n l) turn)),some (rst ev),some rws]→VE w (A.deeper env) env [("row",false),("turn",true),("ends",false),("text",false),("rest",false),("rows",false)] xs (.Call (.Name (Str.ofString "countOf") p1) [.Subscript (.Name (Str.ofString "rows") p2) (.Constant (.int 1) k p3) p4,.Constant (.str (Str.ofString ".")) k2 p5] [] p6) (I 1):=by
  intro p1 p2 p3 p4 p5 p6 k k2 xs hxs
  subst hxs
  refine ⟨fun own s F C=>wMo (K6e (x:=S vt) (z:=I 1) (c:=Str.ofString ".") (a:=66) rfl (by x_close) (fun _=>rfl) (fun _=>rfl) rfl rfl F C (fun s' k F' C' ht=>K8v (ds:=(J0f (n+1) l::J3y ev).map .str) .d (by x_close) (by decide) rfl (fun _ _=>by with_unfolding_all rfl) F' C') (fun s' F' C'=>K4g (own:=own)) fun tb=>?_) (fun v s1 q=>q.1) fun _ _ q=>q⟩
  have:=J6o (w:=w) (a:=vt) (c:=46) (tb:=tb) (Rm.less hA' (by decide):Rm 1 (A.deeper env))
  rw [show vt.cps.toList.countP (· == 46)=1 by decide +kernel] at this
  rw [show Str.ofString "." = ⟨#[46]⟩ by decide +kernel]
  exact this
 apply J0i
 apply J0n
 apply J9n
 ·refine VT.eq (b:=Spec.same (.list ((J3y ev).map .str)) (.list ((J3y ev).map .str)) && (((1:Int) == 1) && true)) ?_ (by rw [Spec.same_self];rfl)
  apply J1f
  apply J1s
  ·apply wt_cmp
   ·x_close
   ·show VE _ _ _ _ _ _ (Mine.L ((J3y ev).map .str))
    have e1:pick (lidx (some 1) none ((J0f (n+1) l::J3y ev).map PyData.str).length) ((J0f (n+1) l::J3y ev).map PyData.str)=(J3y ev).map PyData.str:=by
     cases ev
     ·rw [show lidx (some 1) none ((J0f (n+1) l::J3y false).map PyData.str).length = [1,2,3,4] by show lidx (some 1) none 5 = [1,2,3,4];decide +kernel];rfl
     ·rw [show lidx (some 1) none ((J0f (n+1) l::J3y true).map PyData.str).length = [1,2,3,4,5] by show lidx (some 1) none 6 = [1,2,3,4,5];decide +kernel];rfl
    rw [← e1]
    apply w_sub
    ·x_close
    ·repeat' x_close
    ·refine K2g .d ?_ (Ok.mk fun _ _=>⟨_,by with_unfolding_all rfl⟩)
     cases ev<;>exact lBt rfl
   ·x_close
   ·have nn:nicD (.list ((J3y ev).map PyData.str)):=by
     cases ev
     ·exact ⟨by decide +kernel,lBt rfl⟩
     ·exact ⟨by decide +kernel,lBt rfl⟩
    exact Z0g .d .d nn nn (Rm.less hA' (by decide))
  ·intro _
   apply J1s
   ·apply wt_cmp
    ·x_close
    ·exact cnt rfl
    ·x_close
    ·x_close
   ·intro _
    exact wa_and_nil
 ·apply w_sub
  ·x_close
  ·x_close
  ·exact J1c .d (by decide) rfl (Ok.mk rfl)
end
theorem Z1n {tb:Nat}{w:World}{A:Around}{f:Addr}{fd:FuncData}{body:List Stmt}{ns:List (Str×Bool)}{ys0 ys:List X}{z:X}{j:Nat}(S:FnStat f fd body ns)(hr:A.depth<recursionLimit)
  (hj:ys.length+j=ns.length) (hb:∀ own s vs A,Cx w own s.heap→XAll own s.heap vs ys0→wpAny (model PW w) A (bindArgs fd ⟨vs,[]⟩) (fun b s'=>s'=s∧∃ us,b=(ns.map (·.1)).zip us∧XAll own s.heap us ys) (fun _ _=>False) s)
  (h:∀ L,∃ xs',∀ own s,tb≤s.toks→Frm own (fEnv fd f L) ns (ys.map some++List.replicate j none) s.heap→Cx w own s.heap→wpAny (model PW w) (A.deeper (fEnv fd f L)) (execs body (fEnv fd f L)) (fun g s'=>FlIn own s'.heap g (.ret z)∧Frm own (fEnv fd f L) ns xs' s'.heap∧Chg own (fEnv fd f L) s s') (fun _ _=>False) s)
  (own:List Addr) (s:Shared) (vs:List Value) (htb:tb≤s.toks) (C:Cx w own s.heap) (hv:XAll own s.heap vs ys0):wpAny (model PW w) A (call (.ref f) vs) (fun v s'=>XIn own s'.heap v z∧Keeps s s') (fun _ _=>False) s:=by
 refine wpAny_call (K1r (ys0:=ys0) S hr hj (fun A=>hb own s vs A C hv) htb C fun L s1 F1 C1 k1 hn ht _=>?_)
 refine o10 (h L) fun xs' h=>?_
 refine wMo (h _ _ ht F1 C1) (fun g s2 q=>?_) fun _ _ q=>q.elim
 cases g with
 |ret v=>
  refine ⟨XIn.unhide q.1 fun b hb=>List.mem_append_right _ hb,?_⟩
  exact Kee.of (J3l (Kee.sm k1) q.2.2.same) fun b o e=>q.2.2.sto.but b o (fun hb=>by rw [hn b hb] at e;cases e) (Kee.kps k1 b o e)
 |_=>exact q.1.elim
section
variable {w:World}{A:Around}{env:Env}{ns:List (Str×Bool)}{xs xs':List (Option X)}{pos:Pos}{x y z:X}
theorem J6l {body:List Stmt}{orelse:List Stmt}{h₀:ExceptHandler}{hs:List ExceptHandler}(h:VX w A env ns xs body (.ret x) xs'):VS w A env ns xs (.Try body (h₀::hs) orelse [] pos) (.ret x) xs':=
 ⟨fun own s F C=>wpAny_Try_except (wMo (h.h own s F C) (fun g s1 q=>by
  refine o01 q fun q1 q2=>?_;clear q
  cases g with
  |ret v=>exact ⟨q1,q2⟩
  |_=>exact q1.elim) fun _ _ q=>q.elim)⟩
theorem J5t {body:List Stmt}{h₀:ExceptHandler}{hs:List ExceptHandler}(h:VX w A env ns xs body .next xs'):VS w A env ns xs (.Try body (h₀::hs) [] [] pos) .next xs':=
 ⟨fun own s F C=>wpAny_Try_except (wMo (h.h own s F C) (fun g s1 q=>by
  refine o01 q fun q1 q2=>?_;clear q
  cases g with
  |next=>exact wpAny_execs_nil ⟨q1,q2⟩
  |_=>exact q1.elim) fun _ _ q=>q.elim)⟩
theorem J2v {a:Int}:VF w A (.builtin "isinstance") [I a,.v (.type "int")] (B true):=vf2 fun own s va vb C ha hb=>by
 refine o10 (Rd.inv_int ha) fun t e9a=>?_;subst e9a
 have hb:vb = .type "int":=hb
 subst hb
 exact IsiPair.int_int ⟨Rd.bool,Kee.refl⟩
theorem K6m {ds:List PyData}(hsz:ds.length≤1000):VF w A (.builtin "len") [T ds] (I ds.length):=vf1 fun own s v C hv=>by
 refine o22 (J3m hv) fun a vs e9a hl hr=>?_;subst e9a
 have:vs.size=ds.length:=by rw [← Array.length_toList,hr.length]
 refine len_tuple hl (by lia) ⟨?_,kt⟩
 rw [this];exact Rd.int
theorem J7b {K:Frag}{s:Shared}{fd:FuncData}{args:Args}{binds:List (Str×Value)}{Q:List (Str×Value)→Shared→Prop}(X:K.In s.heap)(e:∀ S,peek K S (bindArgs fd args)=some binds)(q:Q binds s):wpAny (model PW w) A (bindArgs fd args) Q (fun _ _=>False) s:=kp_binds X e _ _ _ _ q
theorem K5a {f:Addr}{fd:FuncData}{body:List Stmt}{ys0 ys:List X}{ns:List (Str×Bool)}{j:Nat}(S:FnStat f fd body ns)(hr:A.depth<recursionLimit)
  (hb:∀ own s vs A,Cx w own s.heap→XAll own s.heap vs ys0→wpAny (model PW w) A (bindArgs fd ⟨vs,[]⟩) (fun b s'=>s'=s∧∃ us,b=(ns.map (·.1)).zip us∧XAll own s.heap us ys) (fun _ _=>False) s)
  (h:∀ env L,env=fEnv fd f L→∃ xs',VX w (A.deeper env) env ns (ys.map some++List.replicate j none) body (.ret z) xs')
  (hj:ys.length+j=ns.length):VF w A (.ref f) ys0 z:=⟨fun own s vs C hv=>
 Z1n (tb:=0) S hr hj hb (fun L=>let ⟨x,q⟩:=h _ L rfl;⟨x,fun own s _ F C=>q.h own s F C⟩) own s vs (Nat.zero_le _) C hv⟩
theorem K0u {k:Int}(hA:Rm 1 A)(hlen:∀ A,VF w A (.builtin "len") [x] (I k)):VF w A (.ref 95) [x] (I k):=by
 refine K5a (j:=3) (ys:=[x,I 0]) (ns:=[("obj",false),("default",false),("msg",false),("hint",false),("val",false)]) ⟨fun _=>(xi3 _ _ _ rfl),fun _=>rfl,rfl,⟨rfl,rfl,rfl,rfl,rfl,rfl⟩,by decide,by decide,by decide⟩ hA.dl ?_ ?_ (by rfl)
 ·intro own s vs A C hv
  refine XAll.e1 hv fun v r=>?_
  refine J7b (binds:=[("obj",v),("default",.int 0 353)]) C.glh.K ?_ ?_
  ·intro S;rfl
  ·exact ⟨rfl,[v,.int 0 353],rfl,.cons r (.cons Rd.int .nil)⟩
 intro env L he
 refine ⟨[some x,some (I 0),none,none,none],?_⟩
 apply J0b (xs':=[some x,some (I 0),none,none,none])
 ·apply J0g
  ·refine VT.eq (b:=!true) ?_ rfl
   apply wt_not
   apply J0v
   ·x_close
   ·apply w_callb (id:="isinstance") (ys:=[I 0,.v (.type "int")])
    ·x_close
    ·x_close
    ·apply wg_cons
     ·x_close
     ·repeat' x_close
    ·exact J2v
  ·exact J0c
 ·apply J0i
  apply J6l
  apply J0i
  apply J0n
  apply w_callb (id:="len") (ys:=[x])
  ·x_close
  ·x_close
  ·repeat' x_close
  ·exact hlen _
end
noncomputable def adrs:List (Option X)→List Addr
 |[]=>[]
 |none::xs=>adrs xs
 |some x::xs=>x.adr++adrs xs
structure FrM (own:List Addr)(env:Env)(ns:List (Str×Bool))(xs:List (Option X))(h:Heap):Prop where
 f:Frm own env ns xs h
 mine:∀ a∈adrs xs,a∈own∧a∉frs env
 nd:(adrs xs).Nodup
theorem FrM.keeps {own env ns xs h h'}(F:FrM own env ns xs h)(hk:Kps h h'):FrM own env ns xs h':=⟨F.f.keeps hk,F.mine,F.nd⟩
structure ChM (env:Env)(xs xs':List (Option X))(own own':List Addr)(s s':Shared):Prop where
 same:∃ h' tk,s' = {s with heap:=h',toks:=tk}
 sub:∀ b∈own,b∈own'
 hid:Kps (hideAll s.heap own) (hideAll s'.heap own')
 but:∀ b o,b∉adrs xs→b∉frs env→s.heap.get? b=some o→s'.heap.get? b=some o
 new:∀ b∈adrs xs',b∈adrs xs∨s.heap.get? b=none
 live:∀ b o,s.heap.get? b=some o→∃ o',s'.heap.get? b=some o'
theorem ChM.refl {env xs own s}:ChM env xs xs own own s s:=⟨(xi2 _ _ rfl),fun _ q=>q,fun _ _ e=>e,fun _ _ _ _ e=>e,fun _ q=>.inl q,fun _ o e=>⟨o,e⟩⟩
theorem ChM.trans {env xs xs' xs'' own own' own'' s s' s''}(a:ChM env xs xs' own own' s s')(b:ChM env xs' xs'' own' own'' s' s''):ChM env xs xs'' own own'' s s'':=by
 refine o20 a.same fun h t e9a=>?_;subst e9a
 refine o20 b.same fun h' t' e9a=>?_;subst e9a
 refine ⟨(xi2 h' t' rfl),fun x q=>b.sub x (a.sub x q),Kps.trans a.hid b.hid,fun x o n1 n2 e=>b.but x o (fun q=>?_) n2 (a.but x o n1 n2 e),fun x q=>?_,fun x o e=>let ⟨o',e'⟩:=a.live x o e;b.live x o' e'⟩
 ·rcases a.new x q with q|q
  ·exact n1 q
  ·rw [q] at e;cases e
 ·rcases b.new x q with q|q
  ·exact a.new x q
  ·cases e:s.heap.get? x with
   |none=>exact .inr rfl
   |some o=>refine o10 (a.live x o e) fun o' e'=>?_;rw [q] at e';cases e'
theorem ChM.of_chg {env ns xs xs' own s s'}(k:Chg own env s s')(F:Frm own env ns xs' s'.heap)(ha:adrs xs'=adrs xs):ChM env xs xs' own own s s':=by
 refine ⟨k.same,fun _ q=>q,k.sto.hid,fun b o _ n e=>k.sto.but b o n e,fun b q=>.inl (ha▸q),fun b o e=>?_⟩
 by_cases m:b∈frs env
 ·refine o11 (F.notF b m) fun o e _=>?_;exact ⟨o,e⟩
 ·exact ⟨o,k.sto.but b o m e⟩
theorem ChM.of_keeps {env xs own s s'}(k:Keeps s s'):ChM env xs xs own own s s':=by
 have kk:=Kee.kps k
 refine o21 k fun h t e9a _=>?_;subst e9a;clear k
 exact ⟨(xi2 _ _ rfl),fun _ q=>q,J0u kk,fun b o _ _ e=>kk b o e,fun b q=>.inl q,fun b o e=>⟨o,kk b o e⟩⟩
structure MX (w:World)(A:Around)(env:Env)(ns:List (Str×Bool))(xs:List (Option X))(ss:List Stmt)(R:Fl→List (Option X)→Prop):Prop where
 h:∀ own s,FrM own env ns xs s.heap→Cx w own s.heap→wpAny (model PW w) A (execs ss env) (fun g s'=>∃ own' f xs',R f xs'∧FlIn own' s'.heap g f∧FrM own' env ns xs' s'.heap∧Cx w own' s'.heap∧ChM env xs xs' own own' s s') (fun _ _=>False) s
structure M1 (w:World)(A:Around)(env:Env)(ns:List (Str×Bool))(xs:List (Option X))(st:Stmt)(R:Fl→List (Option X)→Prop):Prop where
 h:∀ own s,FrM own env ns xs s.heap→Cx w own s.heap→wpAny (model PW w) A (exec st env) (fun g s'=>∃ own' f xs',R f xs'∧FlIn own' s'.heap g f∧FrM own' env ns xs' s'.heap∧Cx w own' s'.heap∧ChM env xs xs' own own' s s') (fun _ _=>False) s
section
variable {w:World}{A:Around}{env:Env}{ns:List (Str×Bool)}{xs xs':List (Option X)}{st:Stmt}{ss:List Stmt}{R R':Fl→List (Option X)→Prop}{f:Fl}
theorem K2d (h:R .next xs):MX w A env ns xs [] R:=⟨fun own s F C=>wpAny_execs_nil (xi3 own .next xs ⟨h,trivial,F,C,.refl⟩)⟩
theorem J5r (h:M1 w A env ns xs st R')(t:∀ xs',R' .next xs'→MX w A env ns xs' ss R)(q:∀ f xs',f≠.next→R' f xs'→R f xs'):MX w A env ns xs (st::ss) R:=by
 refine ⟨fun own s F C=>?_⟩
 refine wpAny_execs_cons (wMo (h.h own s F C) (fun g s1 z=>?_) fun _ _ q=>q)
 skip
 refine o34 z fun own' f xs' r z1 z2 z3 z4=>?_;clear z
 skip
 cases g with
 |next=>
  cases f with
  |next=>
   refine wMo ((t xs' r).h own' s1 z2 z3) (fun g s2 z=>?_) fun _ _ q=>q
   skip
   refine o34 z fun o2 f2 x2 a b c d e=>?_;clear z
   skip
   exact xi3 o2 f2 x2 ⟨a,b,c,d,z4.trans e⟩
  |_=>exact z1.elim
 |_=>
  have:f≠.next:=by rintro rfl;exact z1.elim
  exact xi3 own' f xs' ⟨q f xs' this r,z1,z2,z3,z4⟩
theorem K8d (h:VS w A env ns xs st f xs')(ha:adrs xs'=adrs xs)(r:R f xs'):M1 w A env ns xs st R:=by
 refine ⟨fun own s F C=>wMo (h.h own s F.f C) (fun g s1 z=>?_) fun _ _ q=>q⟩
 refine o02 z fun z1 z2 z3=>?_;clear z
 exact xi3 own f xs' ⟨r,z1,⟨z2,by rw [ha];exact F.mine,by rw [ha];exact F.nd⟩,z3.sto.cx C,.of_chg z3 z2 ha⟩
theorem M1.mono (h:M1 w A env ns xs st R')(q:∀ f xs',R' f xs'→R f xs'):M1 w A env ns xs st R:=
 ⟨fun own s F C=>wMo (h.h own s F C) (fun g s1 ⟨o,f,x,r,z⟩=>⟨o,f,x,q _ _ r,z⟩) fun _ _ q=>q⟩
theorem MX.mono (h:MX w A env ns xs ss R')(q:∀ f xs',R' f xs'→R f xs'):MX w A env ns xs ss R:=
 ⟨fun own s F C=>wMo (h.h own s F C) (fun g s1 ⟨o,f,x,r,z⟩=>⟨o,f,x,q _ _ r,z⟩) fun _ _ q=>q⟩
end
theorem XIn.but {own own':List Addr}{h h':Heap}{a:Addr}{v x}(r:XIn own h v x)(hk:∀ b o,b≠a→h.get? b=some o→h'.get? b=some o)(na:a∉x.adr)(hid:Kps (hideAll h own) (hideAll h' own')):XIn own' h' v x:=r.mst hid fun b m o e _=>hk b o (fun q=>na (q▸m)) e
inductive Upd:List (Str×Bool)→List (Option X)→Str→Bool→X→X→List (Option X)→Prop
 |hd {n b ns x x' xs}:Upd ((n,b)::ns) (some x::xs) n b x x' (some x'::xs)
 |tail {p ns y xs n b x x' xs'}:Upd ns xs n b x x' xs'→Upd (p::ns) (y::xs) n b x x' (y::xs')
theorem Upd.at {ns xs n b x x' xs'}(u:Upd ns xs n b x x' xs'):At ns xs n b x:=by induction u with|hd=>exact .head|tail _ ih=>exact .tail ih
theorem Upd.adrs {ns xs n b x x' xs'}(u:Upd ns xs n b x x' xs')(ha:x'.adr=x.adr):adrs xs'=Mine.adrs xs:=by
 induction u with
 |hd=>simp [Mine.adrs,ha]
 |@tail p ns y xs n b x x' xs' _ ih=>cases y with|none=>exact ih ha|some y=>simp [Mine.adrs,ih ha]
theorem Upd.mem {ns xs n b x x' xs'}(u:Upd ns xs n b x x' xs'){a}(ha:a∈x.adr):a∈Mine.adrs xs:=by
 induction u with
 |hd=>exact List.mem_append_left _ ha
 |@tail p ns y xs n b x x' xs' _ ih=>cases y with|none=>exact ih ha|some y=>exact List.mem_append_right _ (ih ha)
theorem Vals.but {own own':List Addr}{h h':Heap}{a:Addr}(hk:∀ b o,b≠a→h.get? b=some o→h'.get? b=some o)(hid:Kps (hideAll h own) (hideAll h' own')){f}:∀ {ns xs},a∉adrs xs→Vals own h f ns xs→Vals own' h' f ns xs
 |[],[],_,_=>trivial
 |p::ns,none::xs,na,V=>⟨fun y e=>(by cases e),Vals.but hk hid na V.2⟩
 |p::ns,some x::xs,na,V=>⟨fun y e=>by
   cases e
   refine o11 (V.1 _ rfl) fun v h1 h2=>?_
   exact ⟨v,h1,h2.but hk (fun q=>na (List.mem_append_left _ q)) hid⟩,Vals.but hk hid (fun q=>na (List.mem_append_right _ q)) V.2⟩
theorem Upd.vals {own own':List Addr}{h h':Heap}{a:Addr}(hk:∀ b o,b≠a→h.get? b=some o→h'.get? b=some o)(hid:Kps (hideAll h own) (hideAll h' own')){f ns xs n b x x' xs'}(u:Upd ns xs n b x x' xs')
  (ha:a∈x.adr) (hx:∀ v,XIn own h v x→XIn own' h' v x') (nd:(Mine.adrs xs).Nodup) (V:Vals own h f ns xs):Vals own' h' f ns xs':=by
 induction u with
 |@hd n b ns x x' xs=>
  refine ⟨fun y e=>?_,V.2.but hk hid fun q=>(List.nodup_append.mp nd).2.2 a ha a q rfl⟩
  cases e
  refine o11 (V.1 _ rfl) fun v h1 h2=>?_
  exact ⟨v,h1,hx v h2⟩
 |@tail p ns y xs n b x x' xs' u ih=>
  cases y with
  |none=>exact ⟨fun y e=>(by cases e),ih ha hx nd V.2⟩
  |some y=>
   refine ⟨fun z e=>?_,ih ha hx (List.nodup_append.mp nd).2.1 V.2⟩
   cases e
   refine o11 (V.1 _ rfl) fun v h1 h2=>?_
   exact ⟨v,h1,h2.but hk (fun q=>(List.nodup_append.mp nd).2.2 a q a (u.mem ha) rfl) hid⟩
theorem FrM.chg {own env ns xs h h' n b x x' xs' a}(F:FrM own env ns xs h)(u:Upd ns xs n b x x' xs')(had:x'.adr=x.adr)(ha:a∈x.adr)(hk:∀ b o,b≠a→h.get? b=some o→h'.get? b=some o)
  (hx:∀ v,XIn own h v x→XIn own h' v x'):FrM own env ns xs' h'∧Kps (hideAll h own) (hideAll h' own):=by
 have am:=F.mine a (u.mem ha)
 have hid:Kps (hideAll h own) (hideAll h' own):=J0e (fun b o nb e=>hk b o (fun q=>nb (q▸am.1)) e) fun _ q=>q
 refine ⟨⟨⟨F.f.st,F.f.kinds,F.f.nodup,F.f.mine,F.f.apart,F.f.has,?_⟩,by rw [u.adrs had];exact F.mine,by rw [u.adrs had];exact F.nd⟩,hid⟩
 skip
 refine o22 F.f.vars fun m cm p q V=>?_
 skip
 refine xi2 m cm ⟨p.at fun o e=>hk _ o (fun q=>am.2 (q▸.head _)) e,fun n c e=>?_,u.vals hk hid ha hx F.nd V⟩
 refine o11 (q n c e) fun o e1 e2=>?_
 exact ⟨o,hk _ o (fun q=>am.2 (q▸.tail _ (List.mem_map_of_mem (f:=(·.2)) (mem_of_lookup e)))) e1,e2⟩
section
variable {w:World}{A:Around}{env:Env}{ns:List (Str×Bool)}{xs xs':List (Option X)}{x y z x':X}{e l r:Expr}{pos npos:Pos}{es:List Expr}{ys:List X}{ds:List PyData}{a:Addr}{n:Str}{c:Bool}
theorem K4v {name:Str}{id:String}(slot:Slot "list" name id)(ty:typeOf (.builtin id)=pure (.type "method_descriptor")):Mt (.l a ds) name id:=
 ⟨"list",F.plainAttrs_list,slot,ty,fun own s v hv=>by
  refine o01 hv fun e9a r9a=>o11 r9a fun vs p _=>?_;subst e9a;clear hv
  have p':=p
  refine o10 p' fun n e=>?_;clear p'
  exact ⟨p.isList.typeIs,fun b q=>by cases q;exact ⟨_,e,rfl⟩⟩⟩
structure MF (w:World)(A:Around)(f:Value)(a:Addr)(x:X)(ys:List X)(z:X)(x':X):Prop where
 h:∀ own s v vs,Cx w own s.heap→a∈own→XIn own s.heap v x→XAll own s.heap vs ys→wpAny (model PW w) A (call f (v::vs)) (fun u s'=>XIn own s'.heap u z∧(∃ h' tk,s' = {s with heap:=h',toks:=tk})∧(∀ b o,b≠a→s.heap.get? b=some o→s'.heap.get? b=some o)∧(∃ o,s'.heap.get? a=some o)∧∀ v,XIn own s.heap v x→XIn own s'.heap v x') (fun _ _=>False) s
theorem J1b {d:PyData}(hsz:ds.length≤1000):MF w A (.builtin "list.append") a (.l a ds) [.d d] N (.l a (ds++[d])):=by
 refine ⟨fun own s v vs C ha hv hy=>?_⟩
 refine XAll.e1 hy fun u hu=>?_
 refine o01 hv fun e9a r9a=>o11 r9a fun us p q=>?_;subst e9a;clear hv
 have hl:us.size≤sizeLine:=by
  have:=q.length
  rw [Array.length_toList] at this
  rw [sizeLine_eq];exact lTr (Nat.le_of_eq this) (lTr hsz (by decide))
 refine wpAny_list_append_plain (hsz:=hl) p fun h' hl' hs'=>?_
 have hid:Kps (hideAll s.heap own) (hideAll h' own):=J0e (fun b o nb e=>(hs'.2 b fun q=>nb (q▸ha)).trans e) fun _ q=>q
 refine ⟨Rd.none,(xi2 _ _ rfl),fun b o nb e=>(hs'.2 b nb).trans e,(let ⟨n,e⟩:=hl';⟨_,e⟩),fun v hv=>⟨hv.1,_,hl',?_⟩⟩
 rw [Array.toList_push]
 exact (q.mono hid).append (.cons (Rd.mono hid hu) .nil)
theorem J4p {name:Str}{apos pos2:Pos}{id:String}{R:Fl→List (Option X)→Prop}(u:Upd ns xs n c x x' xs')(had:x'.adr=x.adr)(ham:a∈x.adr)
  (hbase:Ok (attributeBase (.Name n npos) name env (eval (.Name n npos) env)=eval (.Name n npos) env))
  (hfew:Ok (((backTo pos (starEach es env)).all (fun x=>!x.1) && (backToKw pos (keywordEach [] env)).all (fun x=>x.1.isSome)
   && decide (es.length+([]:List Keyword).length+(if ([]:List Keyword).isEmpty then 0 else 1)<30))=true))
  (hline:Ok ((apos.endLine == pos.line)=true)) (ha:VG w A env ns xs es ys) (hm:Mt x name id) (hc:MF w A (.builtin id) a x ys z x')
  (r:R .next xs') (hn:VE w A env ns xs (.Name n npos) x) (hi:interactive env=false) (hs:swapsWith (.Call (.Attribute (.Name n npos) name apos) es [] pos) none pos2.line env=pure false) :
  M1 w A env ns xs (.Expr (.Call (.Attribute (.Name n npos) name apos) es [] pos) pos2) R:=by
 refine ⟨fun own s F C=>wpAny_Expr_any (hi:=hi) (hs:=hs) (wpAny_Call_method_lateS hbase.h hfew.h hline.h (J0 (hn.h own s F.f C) fun v s1 hv k1=>?_))⟩
 have F1:=F.keeps (Kee.kps k1)
 have C1:=C.keeps (Kee.kps k1)
 skip
 refine o13 hm.h fun T pa slot ty hT=>?_
 refine o01 (hT own s1 v hv) fun hT hd=>?_
 skip
 refine xi2 T id ⟨pa,slot,ty,hT,hd,Calls.callWith_builtin (ha.h.1 _) (J1y ha.h F1.f C1 fun b s2 hk hx k2=>?_)⟩
 rw [hk]
 have F2:=F1.keeps (Kee.kps k2)
 have C2:=C1.keeps (Kee.kps k2)
 refine wMo (hc.h own s2 v b.pos C2 (F2.mine a (u.mem ham)).1 (hv.keeps (Kee.kps k2)) hx) (fun t s3 q=>?_) fun _ _ q=>q.elim
 refine ab fun Q q9=>?_
 refine o04 q fun _ n9a q2 q3 q4=>?_;obtain ⟨h3,tk3,rfl⟩:=n9a;clear q
 refine o01 (F2.chg u had ham q2 q4) fun F3 hid=>?_
 refine q9 ?_
 refine xi3 own .next xs' ⟨r,trivial,F3,⟨C2.gl.keeps hid,fun b hb=>?_⟩,(ChM.of_keeps (Kee.trans k1 k2)).trans ⟨(xi2 h3 tk3 rfl),fun _ q=>q,hid,fun b o n _ e=>q2 b o (fun q=>n (q▸u.mem ham)) e,fun b q=>.inl (u.adrs had▸q),fun b o e=>?_⟩⟩
 rotate_left
 ·by_cases e':b=a
  ·rw [e'];exact q3
  ·exact ⟨o,q2 b o e' e⟩
 by_cases e:b=a
 ·rw [e];exact q3
 ·refine o10 (C2.alive b hb) fun o e'=>?_;exact ⟨o,q2 b o e e'⟩
end
noncomputable abbrev lstO (vs:List Value):Obj:={cls:=.type "list",data:=.seq vs.toArray}
section
variable {w:World}{A:Around}{env:Env}{ns:List (Str×Bool)}{xs:List (Option X)}{xs':Addr→List (Option X)}{e:Expr}{pos npos lpos:Pos}{es:List Expr}{ys:List X}{ds:List PyData}{n:Str}{c:Bool}{R:Fl→List (Option X)→Prop}
end
noncomputable def adrX (ys:List X):List Addr:=ys.flatMap X.adr
structure MV (w:World)(A:Around)(f:Value)(ys:List X)(z:X)(ys':List X):Prop where
 h:∀ own s vs,Cx w own s.heap→(∀ a∈adrX ys,a∈own)→(adrX ys).Nodup→XAll own s.heap vs ys→wpAny (model PW w) A (call f vs) (fun u s'=>XIn own s'.heap u z∧(∃ h' tk,s' = {s with heap:=h',toks:=tk}) ∧
  (∀ b o,b∉adrX ys→s.heap.get? b=some o→s'.heap.get? b=some o)∧(∀ b o,s.heap.get? b=some o→∃ o',s'.heap.get? b=some o')∧XAll own s'.heap vs ys') (fun _ _=>False) s
theorem J2z (ys:List X)(j:Nat):adrs (ys.map some++List.replicate j none)=adrX ys:=by
 induction ys with
 |nil=>induction j with
  |zero=>rfl
  |succ j ih=>simpa [List.replicate_succ,adrs] using ih
 |cons y ys ih=>simp only [List.map_cons,List.cons_append,adrs,ih];simp [adrX]
inductive Aft (ns:List (Str×Bool))(xs:List (Option X)):List X→List X→Prop
 |nil:Aft ns xs [] []
 |same {y ys ys'}:y.adr = []→Aft ns xs ys ys'→Aft ns xs (y::ys) (y::ys')
 |l {a ds ds' n c ys ys'}:At ns xs n c (.l a ds')→Aft ns xs ys ys'→Aft ns xs (.l a ds::ys) (.l a ds'::ys')
theorem Aft.all {own own':List Addr}{h h':Heap}{f ns xs ys ys'}(a:Aft ns xs ys ys')(V:Vals own' h' f ns xs)(hid:Kps (hideAll h own) (hideAll h' own')):∀ {vs},XAll own h vs ys→XAll own' h' vs ys':=by
 induction a with
 |nil=>intro vs r;cases r;exact .nil
 |@same y ys ys' e _ ih=>
  intro vs r
  cases r with
  |cons r rs=>
   refine .cons ?_ (ih rs)
   cases y with
   |d d=>exact Rd.mono hid r
   |p P=>exact ⟨r.1,r.1 _ _ _ hid r.2⟩
   |v u=>exact r
   |_=>cases e
 |l t _ ih=>
  intro vs r
  cases r with
  |cons r rs=>
   refine .cons ?_ (ih rs)
   refine o11 (t.val V) fun v _ hv=>?_
   exact ⟨r.1,hv.2⟩
theorem K5o {w:World}{A:Around}{f:Addr}{fd:FuncData}{body:List Stmt}{ns:List (Str×Bool)}{ys ys':List X}{z:X}{j:Nat}(S:FnStat f fd body ns)(hr:A.depth<recursionLimit)
  (h:∀ env L,env=fEnv fd f L→MX w (A.deeper env) env ns (ys.map some++List.replicate j none) body (fun f xs'=>(f = .ret z∨f = .next∧z=N)∧Aft ns xs' ys ys'))
  (hb:∀ vs:List Value,vs.length=ys.length→bindArgs fd ⟨vs,[]⟩=pure ((ns.map (·.1)).zip vs)) (hj:ys.length+j=ns.length):MV w A (.ref f) ys z ys':=by
 refine ⟨fun own s vs C hin hnd hv=>?_⟩
 refine wpAny_call (K1r (tb:=0) (ys0:=ys) S hr hj (fun A=>by rw [hb vs hv.length];exact wPu ⟨rfl,vs,rfl,hv⟩) (Nat.zero_le _) C fun L s1 F1 C1 k1 hn _ hh=>?_)
 have hk1:=Kee.kps k1
 have FM:FrM (frs (fEnv fd f L)++own) (fEnv fd f L) ns (ys.map some++List.replicate j none) s1.heap:=by
  refine ⟨F1,fun a ha=>?_,?_⟩
  ·rw [J2z] at ha
   refine ⟨List.mem_append_right _ (hin a ha),fun hm=>?_⟩
   refine o10 (C.alive a (hin a ha)) fun o e=>?_
   rw [hn a hm] at e;cases e
  ·rw [J2z];exact hnd
 refine wMo ((h _ _ rfl).h _ _ FM C1) (fun g s2 q=>?_) fun _ _ q=>q.elim
 skip
 refine o34 q fun own' f' xs' n9a q1 q2 q3 q4=>?_;obtain ⟨ff,af⟩:=n9a;clear q
 skip
 have up:∀ b∈own,b∈own':=fun b hb=>q4.sub b (List.mem_append_right _ hb)
 have fin:∀ v,XIn own' s2.heap v z→(XIn own s2.heap v z∧(∃ h' tk,s2 = {s with heap:=h',toks:=tk}) ∧
 (∀ b o,b∉adrX ys→s.heap.get? b=some o→s2.heap.get? b=some o)∧(∀ b o,s.heap.get? b=some o→∃ o',s2.heap.get? b=some o')∧XAll own s2.heap vs ys'):=by
  intro v q1
  refine ⟨XIn.unhide q1 up,J3l (Kee.sm k1) q4.same,fun b o nb e=>q4.but b o (by rw [J2z];exact nb) (fun hb=>by rw [hn b hb] at e;cases e) (hk1 b o e),fun b o e=>q4.live b o (hk1 b o e),?_⟩
  refine o22 q2.f.vars fun m cm _ _ V=>?_
  exact (af.all V q4.hid (hv.map fun v x r=>r.to hk1 hh)).unhide up
 rcases ff with rfl|⟨rfl,rfl⟩
 ·cases g with
  |ret v=>exact fin v q1
  |_=>exact q1.elim
 ·cases g with
  |next=>exact fin _ Rd.none
  |_=>exact q1.elim
section
variable {w:World}{A:Around}{E:Value→Shared→Prop}{s:Shared}
theorem J7x {l:Addr}{items:Array Value}{k:Int}{t:Tok}{v:Value}{Q:Unit→Shared→Prop}(hl:s.heap.PlainList l items)
  (h0:0≤k) (hfit:k<2 ^ 63) (hn:k<items.size)
  (hQ:∀ h',h'.PlainList l (items.setIfInBounds k.toNat v)→Heap.SameBut l s.heap h'→Q () {s with heap:=h'}) :
  wpAny (model PW w) A (setItem (.ref l) (.int k t) v) Q E s:=by
 obtain ⟨n,ho⟩:=id hl
 have hl':=hl.isList
 unfold setItem
 try with_reducible refine wpAny_holding ?_
 first|refine wBn (wPu ?_)|skip
 refine wBn (wpAny_sequenceKey hl'.typeIs (by decide) ?_)
 refine wBn (wpAny_callSpecial?_slot (name:=Str.ofString "__setitem__") hl'.typeIs slot_list_setitem
  (wpAny_call_entry slot_list_setitem hl'.typeIs entry_list_setitem ?_ (args_list_setitem _ _ _)))
 show wpAny _ _ (Builtin.List.listSubscript? (.int k t)>>=_) _ _ s
 refine wBn (wpAny_listSubscript_int (fitsIndex_of h0 hfit) ?_)
 clear hfit
 obtain ⟨j,rfl⟩:=Int.eq_ofNat_of_zero_le h0
 have hj:j<items.size:=Int.ofNat_lt.1 hn
 have hx':items[j]? = some items[j]:=Array.getElem?_eq_getElem hj
 show wpAny _ _ ((seqItemAt l j>>=fun r=>pure (r.map (j,·)))>>=_) _ _ s
 refine wBn (wBn (wpAny_seqItemAt ho rfl (wPu ?_)))
 rw [hx']
 show wpAny _ _ (setSeqItemAt l j v>>=_) _ _ s
 have e:Obj.mapSeq (·.setIfInBounds j v) {cls:=.type "list",data:=.seq items n} = {cls:=.type "list",data:=.seq (items.setIfInBounds j v) (if (items.setIfInBounds j v).size == items.size then n else n+1)}:=rfl
 have hfin:(s.heap.update l (Obj.mapSeq (·.setIfInBounds j v))).PlainList l (items.setIfInBounds j v):=
  ⟨_,by rw [Heap.get?_update_self _ ho (by rw [e];rfl),e]⟩
 refine wBn (wpAny_setSeqItemAt ho rfl ?_)
 first
  |exact wBn (wPu (wPu ⟨.none,rfl,wPu (hQ _ hfin (Heap.SameBut.update ..))⟩))
  |exact wPu ⟨.none,rfl,wPu (hQ _ hfin (Heap.SameBut.update ..))⟩
end
theorem RdAll.set {own h vs ds}(r:RdAll own h vs ds):∀ {i v d},Rd own h v d→RdAll own h (vs.set i v) (ds.set i d):=by
 induction r with
 |nil=>intro i v d _;exact .nil
 |cons p _ ih=>intro i v d q;cases i with
  |zero=>exact .cons q (by assumption)
  |succ i=>exact .cons p (ih q)
section
variable {w:World}{A:Around}{env:Env}{ns:List (Str×Bool)}{xs xs':List (Option X)}{e ie:Expr}{pos npos spos:Pos}{ds:List PyData}{a:Addr}{n:Str}{c:Bool}{R:Fl→List (Option X)→Prop}
theorem K2o {i:Nat}{d:PyData}(u:Upd ns xs n c (.l a ds) (.l a (ds.set i d)) xs')(he:VE w A env ns xs e (.d d))(hn:VE w A env ns xs (.Name n npos) (.l a ds))(hi:VE w A env ns xs ie (I i))
  (lt:i<ds.length) (hsz:ds.length≤1000) (r:R .next xs') (hs:swapsWith e (some (.Subscript (.Name n npos) ie spos)) pos.line env=pure false):M1 w A env ns xs (.Assign [.Subscript (.Name n npos) ie spos] e pos) R:=by
 refine ⟨fun own s F C=>wpAny_Assign_Subscript (J0 (he.h own s F.f C) fun v s1 hv k1=>J0 (hn.h own s1 (F.f.keeps (Kee.kps k1)) (C.keeps (Kee.kps k1))) fun l s2 hl k2=>?_) hs⟩
 have k12:=Kee.trans k1 k2
 refine J0 (hi.h own s2 (F.f.keeps (Kee.kps k12)) (C.keeps (Kee.kps k12))) fun iv s3 hiv k3=>?_
 have k:=Kee.trans k12 k3
 have F3:=F.keeps (Kee.kps k)
 have C3:=C.keeps (Kee.kps k)
 refine o10 (Rd.inv_int hiv) fun t e9a=>?_;subst e9a
 have hl:=hl.keeps (Kee.kps k3)
 have hv:=hv.keeps (Kee.kps (Kee.trans k2 k3))
 refine o01 hl fun e9a r9a=>o11 r9a fun vs p q=>?_;subst e9a;clear hl
 have sz:vs.size=ds.length:=by rw [← Array.length_toList,q.length]
 have am:=F3.mine a (u.mem (.head _))
 refine J7x p (Int.ofNat_nonneg _) (by lia) (by lia) fun h' p' hsb=>?_
 have q2:∀ b o,b≠a→s3.heap.get? b=some o→h'.get? b=some o:=fun b o nb e=>(hsb.2 b nb).trans e
 have hid0:Kps (hideAll s3.heap own) (hideAll h' own):=J0e (fun b o nb e=>q2 b o (fun q=>nb (q▸am.1)) e) fun _ q=>q
 have q3:∃ o,h'.get? a=some o:=let ⟨n,e⟩:=p';⟨_,e⟩
 obtain ⟨F4,hid⟩:=F3.chg u rfl (.head _) q2 fun v0 h0=>⟨h0.1,_,p',by
  rw [Array.toList_setIfInBounds]
  exact RdAll.mono hid0 (q.set hv)⟩
 have live:∀ b o,s3.heap.get? b=some o→∃ o',h'.get? b=some o':=fun b o e=>by
  by_cases e':b=a
  ·rw [e'];exact q3
  ·exact ⟨o,q2 b o e' e⟩
 exact xi3 own .next xs' ⟨r,trivial,F4,⟨C3.gl.keeps hid,fun b hb=>let ⟨o,e⟩:=C3.alive b hb;live b o e⟩,(ChM.of_keeps k).trans ⟨(xi2 h' _ rfl),fun _ q=>q,hid,fun b o n _ e=>q2 b o (fun q=>n (q▸u.mem (.head _))) e,fun b q=>.inl (u.adrs rfl▸q),live⟩⟩
end
theorem J6n {w:World}{A:Around}{a:Addr}{ds:List PyData}{i:Nat}{d:PyData}(hA:Rm 1 A)(lt:i<ds.length)(hsz:ds.length≤1000) :
  MV w A (.ref 87) [.l a ds,I i,.d d] N [.l a (ds.set i d),I i,.d d]:=by
 refine K5o (j:=0) (ns:=[("a",false),("b",false),("c",false)]) ⟨fun _=>(xi3 _ _ _ rfl),fun _=>rfl,rfl,⟨rfl,rfl,rfl,rfl,rfl,rfl⟩,by decide,by decide,by decide⟩ hA.dl ?_ (vs3 fun _ _ _=>rfl) (by rfl)
 intro env L he
 refine J5r (R':=fun f xs'=>f = .next∧xs' = [some (.l a (ds.set i d)),some (I i),some (.d d)]) (K2o (i:=i) (d:=d) Upd.hd ?_ ?_ ?_ lt hsz ⟨rfl,rfl⟩ (by rfl)) ?_ ?_
 ·repeat' x_close
 ·repeat' x_close
 ·repeat' x_close
 ·rintro xs' ⟨_,rfl⟩
  exact K2d ⟨.inr ⟨rfl,rfl⟩,.l At.head (.same rfl (.same rfl .nil))⟩
 ·rintro f xs' h ⟨q,_⟩;exact absurd q h
structure Slt (F S:List Addr)(s s':Shared):Prop where
 same:∃ h' tk,s' = {s with heap:=h',toks:=tk}
 but:∀ b o,b∉F→b∉S→s.heap.get? b=some o→s'.heap.get? b=some o
 slt:∀ b o,b∉S→s.heap.get? b=some o→∃ sl,s'.heap.get? b=some {o with slots:=sl}
 live:∀ b o,s.heap.get? b=some o→∃ o',s'.heap.get? b=some o'
theorem Slt.refl {F S s}:Slt F S s s:=⟨(xi2 _ _ rfl),fun _ _ _ _ e=>e,fun _ o _ e=>⟨o.slots,e⟩,fun _ o e=>⟨o,e⟩⟩
theorem Slt.trans {F S s s' s''}(a:Slt F S s s')(b:Slt F S s' s''):Slt F S s s'':=by
 refine o20 a.same fun h t e9a=>?_;subst e9a
 refine o20 b.same fun h' t' e9a=>?_;subst e9a
 refine ⟨(xi2 h' t' rfl),fun x o n1 n2 e=>b.but x o n1 n2 (a.but x o n1 n2 e),fun x o n e=>?_,fun x o e=>let ⟨o',e'⟩:=a.live x o e;b.live x o' e'⟩
 refine o10 (a.slt x o n e) fun sl e1=>?_
 refine o10 (b.slt x _ n e1) fun sl' e2=>?_
 exact ⟨sl',e2⟩
theorem Slt.of_keeps {F S s s'}(k:Keeps s s'):Slt F S s s':=by
 have kk:=Kee.kps k
 refine o21 k fun h t e9a _=>?_;subst e9a;clear k
 exact ⟨(xi2 _ _ rfl),fun b o _ _ e=>kk b o e,fun b o _ e=>⟨o.slots,kk b o e⟩,fun b o e=>⟨o,kk b o e⟩⟩
theorem Slt.more {F F' S S' s s'}(a:Slt F S s s')(hF:∀ b∈F,b∈F')(hS:∀ b∈S,b∈S'):Slt F' S' s s':=
 ⟨a.same,fun b o n1 n2 e=>a.but b o (fun q=>n1 (hF b q)) (fun q=>n2 (hS b q)) e,fun b o n e=>a.slt b o (fun q=>n (hS b q)) e,a.live⟩
theorem Slt.hid {F S s s' own}(a:Slt F S s s')(hF:∀ b∈F,b∈own)(hS:∀ b∈S,b∈own):Kps (hideAll s.heap own) (hideAll s'.heap own):=
 J0e (fun b o nb e=>a.but b o (fun q=>nb (hF b q)) (fun q=>nb (hS b q)) e) fun _ q=>q
theorem Slt.cx {F S s s' own w}(a:Slt F S s s')(hF:∀ b∈F,b∈own)(hS:∀ b∈S,b∈own)(C:Cx w own s.heap):Cx w own s'.heap:=
 ⟨C.gl.keeps (a.hid hF hS),fun b hb=>let ⟨o,e⟩:=C.alive b hb;a.live b o e⟩
theorem XIn.on {own own':List Addr}{h h':Heap}{p:Addr→Prop}{v x}(r:XIn own h v x)(hk:∀ b o,p b→h.get? b=some o→h'.get? b=some o)(na:∀ a∈x.adr,p a)(hid:Kps (hideAll h own) (hideAll h' own')):XIn own' h' v x:=r.mst hid fun a m o e _=>hk a o (na a m) e
theorem IsCell.slt {h h':Heap}{c:Addr}{v}(i:h.IsCell c v)(hf:∀ o,h.get? c=some o→∃ sl,h'.get? c=some {o with slots:=sl}):h'.IsCell c v:=by
 refine o11 i fun o e hd=>?_;clear i
 refine o10 (hf o e) fun sl e'=>?_
 exact ⟨_,e',hd⟩
theorem Ns.slt {h h':Heap}{a:Addr}{m}(i:h.Ns a m)(hf:∀ o,h.get? a=some o→∃ sl,h'.get? a=some {o with slots:=sl}):h'.Ns a m:=by
 skip
 refine o32 i fun o es ep ho hd r=>?_;clear i
 refine o10 (hf o ho) fun sl e'=>?_
 skip
 exact xi3 _ es ep ⟨e',hd,r⟩
theorem Frm.on {own:List Addr}{env ns xs xs'}{h h':Heap}(F:Frm own env ns xs h)(hf:∀ b o,b∈frs env→h.get? b=some o→∃ sl,h'.get? b=some {o with slots:=sl})
  (hv:∀ f,Vals own h f ns xs→Vals own h' f ns xs'):Frm own env ns xs' h':=by
 refine ⟨F.st,F.kinds,F.nodup,F.mine,F.apart,F.has,?_⟩
 skip
 refine o22 F.vars fun m cm p q V=>?_
 skip
 exact xi2 m cm ⟨Ns.slt p fun o e=>hf _ o (.head _) e,fun n c e=>IsCell.slt (q n c e) fun o e'=>hf _ o (.tail _ (List.mem_map_of_mem (f:=(·.2)) (mem_of_lookup e))) e',hv _ V⟩
inductive Rp (zs:List X):List (Option X)→List (Option X)→List Addr→List Addr→Prop
 |nil:Rp zs [] [] [] []
 |none {xs xs' as ks}:Rp zs xs xs' as ks→Rp zs (none::xs) (none::xs') as ks
 |keep {x xs xs' as ks}:Rp zs xs xs' as ks→Rp zs (some x::xs) (some x::xs') as (x.adr++ks)
 |put {a ds ds' xs xs' as ks} : .l a ds'∈zs→Rp zs xs xs' as ks→Rp zs (some (.l a ds)::xs) (some (.l a ds')::xs') (a::as) ks
theorem Rp.perm {zs xs xs' as ks}(r:Rp zs xs xs' as ks):(adrs xs).Perm (as++ks):=by
 induction r with
 |nil=>exact .refl _
 |none _ ih=>exact ih
 |@keep x xs xs' as ks _ ih=>
  show (x.adr++adrs xs).Perm (as++(x.adr++ks))
  refine (ih.append_left x.adr).trans ?_
  rw [← List.append_assoc,← List.append_assoc]
  exact (List.perm_append_comm (l₁:=x.adr) (l₂:=as)).append_right ks
 |put _ _ ih=>exact ih.cons _
theorem Rp.same {zs xs xs' as ks}(r:Rp zs xs xs' as ks):adrs xs'=adrs xs:=by
 induction r with
 |nil=>rfl
 |none _ ih=>exact ih
 |keep _ ih=>simp [adrs,ih]
 |put _ _ ih=>simp [adrs,X.adr,ih]
theorem XAll.mem {own h vs zs}(r:XAll own h vs zs){z}(m:z∈zs):∃ v,v∈vs∧XIn own h v z:=by
 induction r with
 |nil=>cases m
 |cons a _ ih=>
  rcases mCn m with rfl|m
  ·exact ⟨_,.head _,a⟩
  ·refine o11 (ih m) fun v q r=>?_;exact ⟨v,.tail _ q,r⟩
theorem Rp.vals {own:List Addr}{h h':Heap}{p:Addr→Prop}{zs vs f}(hk:∀ b o,p b→h.get? b=some o→h'.get? b=some o)(hid:Kps (hideAll h own) (hideAll h' own))(hz:XAll own h' vs zs) :
  ∀ {ns xs xs' as ks},Rp zs xs xs' as ks→(∀ a∈ks,p a)→Vals own h f ns xs→Vals own h' f ns xs'
 |[],_,_,_,_,.nil,_,V=>trivial
 |_::_,_,_,_,_,.nil,_,V=>V.elim
 |[],_,_,_,_,.none _,_,V=>V.elim
 |[],_,_,_,_,.keep _,_,V=>V.elim
 |[],_,_,_,_,.put _ _,_,V=>V.elim
 |_::ns,_,_,_,_,.none r,hp,V=>⟨fun y e=>(by cases e),r.vals hk hid hz hp V.2⟩
 |_::ns,_,_,_,_,.keep r,hp,V=>⟨fun y e=>(by
   cases e
   refine o11 (V.1 _ rfl) fun v h1 h2=>?_
   exact ⟨v,h1,h2.on hk (fun a ha=>hp a (List.mem_append_left _ ha)) hid⟩),r.vals hk hid hz (fun a ha=>hp a (List.mem_append_right _ ha)) V.2⟩
 |_::ns,_,_,_,_,.put m r,hp,V=>⟨fun y e=>(by
   cases e
   refine o11 (V.1 _ rfl) fun v h1 h2=>?_
   refine o11 (hz.mem m) fun u _ hu=>?_
   exact ⟨v,h1,h2.1,hu.2⟩),r.vals hk hid hz hp V.2⟩
structure MW (w:World)(A:Around)(f:Value)(F:List Addr)(ys:List X)(z:X)(ys':List X):Prop where
 h:∀ own s vs,Cx w own s.heap→(∀ a∈F,a∈own∧∃ o,s.heap.get? a=some o∧∀ vs,o.data≠.fields vs)→(∀ a∈adrX ys,a∈own∧a∉F)→(adrX ys).Nodup→XAll own s.heap vs ys →
  wpAny (model PW w) A (call f vs) (fun u s'=>XIn own s'.heap u z∧Slt F (adrX ys) s s'∧XAll own s'.heap vs ys') (fun _ _=>False) s
theorem MW.of_mv {w A f F ys z ys'}(h:MV w A f ys z ys'):MW w A f F ys z ys':=⟨fun own s vs C hF ha nd hv=>wMo (h.h own s vs C (fun a q=>(ha a q).1) nd hv) (fun u s' q=>by
 refine o04 q fun q1 n9a q3 q4 q5=>?_;obtain ⟨h',tk,rfl⟩:=n9a;clear q
 exact ⟨q1,⟨(xi2 h' tk rfl),fun b o _ n e=>q3 b o n e,fun b o n e=>⟨o.slots,q3 b o n e⟩,q4⟩,q5⟩) fun _ _ q=>q⟩
structure ME (w:World)(A:Around)(env:Env)(ns:List (Str×Bool))(xs:List (Option X))(e:Expr)(z:X)(xs':List (Option X)):Prop where
 h:∀ own s,FrM own env ns xs s.heap→Cx w own s.heap→wpAny (model PW w) A (eval e env) (fun v s'=>XIn own s'.heap v z∧FrM own env ns xs' s'.heap∧Cx w own s'.heap∧ChM env xs xs' own own s s') (fun _ _=>False) s
structure MT (w:World)(A:Around)(env:Env)(ns:List (Str×Bool))(xs:List (Option X))(e:Expr)(b:Bool)(xs':List (Option X)):Prop where
 h:∀ own s,FrM own env ns xs s.heap→Cx w own s.heap→wpAny (model PW w) A (isTrue e env (eval e env)) (fun v s'=>v=b∧FrM own env ns xs' s'.heap∧Cx w own s'.heap∧ChM env xs xs' own own s s') (fun _ _=>False) s
section
variable {w:World}{A:Around}{env:Env}{ns:List (Str×Bool)}{xs xs' xs'':List (Option X)}{x y z:X}{e l r:Expr}{pos npos:Pos}{es:List Expr}{ys ys':List X}{a:Addr}{n:Str}{c b:Bool}{R:Fl→List (Option X)→Prop}
theorem ME.of (h:VE w A env ns xs e z):ME w A env ns xs e z xs:=⟨fun own s F C=>J0 (h.h own s F.f C) fun v s1 hv k=>⟨hv,F.keeps (Kee.kps k),C.keeps (Kee.kps k),.of_keeps k⟩⟩
theorem MT.of (h:VT w A env ns xs e b):MT w A env ns xs e b xs:=⟨fun own s F C=>J0s (h.h own s F.f C) fun s1 k=>⟨rfl,F.keeps (Kee.kps k),C.keeps (Kee.kps k),.of_keeps k⟩⟩
theorem FrM.slt {own F}{S as ks zs:_}{s s':Shared}{vs}(Fm:FrM own env ns xs s.heap)(q:Slt F S s s')(hF:∀ b∈F,b∈frs env)(hFo:∀ b∈F,b∈own)(rp:Rp zs xs xs' as ks)(hS:∀ b∈S,b∈as)(hz:XAll own s'.heap vs zs) :
  FrM own env ns xs' s'.heap∧ChM env xs xs' own own s s':=by
 have hp:=rp.perm
 have Sm:∀ b∈S,b∈adrs xs:=fun b hb=>hp.symm.subset (List.mem_append_left _ (hS b hb))
 have So:∀ b∈S,b∈own:=fun b hb=>(Fm.mine b (Sm b hb)).1
 have hid:=q.hid hFo So
 have nd:(as++ks).Nodup:=hp.nodup_iff.mp Fm.nd
 have kd:∀ b∈ks,b∉F∧b∉S:=fun b hb=>⟨fun m=>(Fm.mine b (hp.symm.subset (List.mem_append_right _ hb))).2 (hF b m),fun m=>(List.nodup_append.mp nd).2.2 b (hS b m) b hb rfl⟩
 refine ⟨⟨Fm.f.on (fun b o hb e=>q.slt b o (fun m=>(Fm.mine b (Sm b m)).2 hb) e) fun f V=>rp.vals (p:=fun b=>b∉F∧b∉S) (fun b o hb e=>q.but b o hb.1 hb.2 e) hid hz kd V,by rw [rp.same];exact Fm.mine,by rw [rp.same];exact Fm.nd⟩,?_⟩
 exact ⟨q.same,fun _ m=>m,hid,fun b o n1 n2 e=>q.but b o (fun m=>n2 (hF b m)) (fun m=>n1 (Sm b m)) e,fun b m=>.inl (rp.same▸m),q.live⟩
theorem J7m {f:Expr}{g:Addr}{F as ks:List Addr}(hn:Ok (nAt f=true))(hf:VE w A env ns xs f (.v (.ref g)))(ha:VG w A env ns xs es ys)(hk:Ok (∀ P,J5 (KF P) g=true))(hc:MW w A (.ref g) F ys z ys')
  (rp:Rp ys' xs xs' as ks) (has:∀ b∈adrX ys,b∈as) (hnd:as.Nodup→(adrX ys).Nodup) (hF:∀ b∈F,b∈frs env):ME w A env ns xs (.Call f es [] pos) z xs':=by
 refine ⟨fun own s Fm C=>?_⟩
 rw [J0o pos env hn.h]
 refine wBn (J0 (hf.h own s Fm.f C) fun v s1 hv k1=>?_)
 have hv:v = .ref g:=hv
 subst hv
 have F1:=Fm.keeps (Kee.kps k1)
 have C1:=C.keeps (Kee.kps k1)
 skip
 refine o21 (J1w C1.glh.K (hk.h _)) fun o fd ho hd=>?_
 skip
 refine callWith_function (o:=o) (fd:=fd) (wMo (ha.h.2 _ own s1 F1.f C1 pos) (fun x s2 z=>?_) fun _ _ z=>z.elim)
 refine o02 z fun z1 z2 k2=>?_;clear z
 rw [z1]
 refine ⟨⟨Kee.kps k2 _ _ ho,hd⟩,?_⟩
 have F2:=F1.keeps (Kee.kps k2)
 have C2:=C1.keeps (Kee.kps k2)
 have hp:=rp.perm
 have Sm:∀ b∈adrX ys,b∈adrs xs:=fun b hb=>hp.symm.subset (List.mem_append_left _ (has b hb))
 have frsOwn:∀ b∈frs env,b∈own:=fun b hb=>by
  rcases mCn hb with rfl|hb
  ·exact F2.f.mine.1
  ·refine o11 (mMp hb) fun p hp e9a=>?_;subst e9a
   exact (F2.f.mine.2 p.1 p.2 (lookup_of_mem_nodup F2.f.apart.2 hp)).1
 have ndA:(adrX ys).Nodup:=hnd (List.nodup_append.mp (hp.nodup_iff.mp F2.nd)).1
 refine wMo (hc.h own s2 x.pos C2 (fun b hb=>⟨frsOwn b (hF b hb),let ⟨o,e,q⟩:=F2.f.notF b (hF b hb);⟨o,e,q.2⟩⟩) (fun b hb=>⟨(F2.mine b (Sm b hb)).1,fun m=>(F2.mine b (Sm b hb)).2 (hF b m)⟩) ndA z2) (fun u s3 q=>?_) fun _ _ q=>q.elim
 skip
 refine o02 q fun q1 q2 q3=>?_;clear q
 refine o01 (F2.slt q2 hF (fun b hb=>frsOwn b (hF b hb)) rp has q3) fun F3 ch=>?_
 skip
 exact ⟨q1,F3,q2.cx (fun b hb=>frsOwn b (hF b hb)) (fun b hb=>(F2.mine b (Sm b hb)).1) C2,(ChM.of_keeps (Kee.trans k1 k2)).trans ch⟩
end
section
noncomputable def Z8v (K:Frag) (C:Addr) (id:String):Bool:=match K.lookup C with
 |some ⟨_,_,.cls cd,sl⟩=>!cd.hasDel && (sl.toList[4]?).join == some (.builtin id) && !cd.mro.isEmpty && cd.mro.contains (.ref C)
 |_=>false
structure Mk (M:Model)(h:Heap)(C:Addr)(id:String):Prop where
 obj:∃ oc od cd sl,h.get? C=some ⟨oc,od,.cls cd,sl⟩∧cd.hasDel=false∧cd.mro.isEmpty=false
 made:Looks M h (Bind.madeBy (.ref C)) (some id)
 base:Looks M h (Bind.staticBase (.ref C)) (.ref C)
 self:Looks M h (isSubtype (.ref C) (.ref C)) true
theorem K3 {K:Frag}{M:Model}{h:Heap}(X:K.In h){C:Addr}{id:String}(e:Z8v K C id=true):Mk M h C id:=by
 unfold Z8v at e
 split at e
 ·rename_i oc od cd sl ho
  simp only [Bool.and_eq_true,Bool.not_eq_true',beq_iff_eq] at e
  refine o01 e fun n9a e5=>?_;obtain ⟨⟨e2,e3⟩,e4⟩:=n9a;clear e
  have hc:clsIn K C=some cd:=by unfold clsIn;rw [ho]
  have hm:Looks M h (mroOf (.ref C)) cd.mro:=(looks_clsIn X hc).andThen .now
  obtain ⟨c,l,hl⟩:∃ c l,cd.mro=c::l:=by cases q:cd.mro with|nil=>rw [q] at e4;cases e4|cons c l=>exact xi2 c l rfl
  have made:Looks M h (Bind.madeBy (.ref C)) (some id):=by
   intro A Q E s k q
   unfold Bind.madeBy
   refine wBn (hm A _ E s k ?_)
   rw [hl,List.forIn_cons]
   refine wBn (wBn (wBn (wBn (wpAny_loadPart (k _ _ (X _ _ ho)) (wPu ?_)))))
   dsimp only
   rw [← Array.getElem?_toList,e3]
   exact wPu (wPu (wPu q))
  refine ⟨(xi4 oc od cd sl ⟨X _ _ ho,e2,e4⟩),made,?_,looks_mroIn X ?_⟩
  ·intro A Q E s k q
   unfold Bind.staticBase
   refine wBn (hm A _ E s k ?_)
   rw [hl,List.forIn_cons]
   exact wBn (wBn (wBn (made A _ E s k (wPu (wPu (wPu q))))))
  ·unfold mroIn;rw [hc,Option.bind_some,if_neg (by rw [e4];decide),e5]
 ·cases e
theorem Z1x:builtinKind "OSError.__new__" = some .builtinFn:=by decide +kernel
theorem K8c:splitId "OSError.__new__" = some ("OSError","__new__"):=by decide +kernel
theorem K8w:entryFor table "OSError.__new__" = some Builtin.«OSError.__new__»:=entryFor_of_tree (by kernel_rfl)
theorem K9y:Manifest.canonical "OSError.__new__" = "OSError.__new__":=by decide +kernel
theorem Z5u:Manifest.signature? "OSError.__new__" = some ⟨.constructor,"*","OSError",.cls,[⟨"args",.varPos,false⟩]⟩:=by kernel_rfl
structure ExCls (K:Frag)(C f:Addr):Prop where
 mka:Z8v K C "OSError.__new__" = true
 init:findIn K (.ref C) "__init__" = some (some (.ref f))
 fn:typeIn K (.ref f)=some (.type "function")
 typ:instIn K (.ref C) (.type "type")=some true
 os:subIn K (.ref C) (.type "OSError")=some true
 call:specialIn K (.ref C) "__call__" = some (some (.builtin "type.__call__"))
 cls:(clsIn K C).isSome=true
theorem Z5g (P:Params):ExCls (KF P) 189 186:=⟨rfl,rfl,rfl,rfl,rfl,rfl,rfl⟩
theorem Z5e (P:Params):ExCls (KF P) 201 167:=⟨rfl,rfl,rfl,rfl,rfl,rfl,rfl⟩
section
variable {prog:Program}{w:World}{A:Around}{E:Value→Shared→Prop}{h:Heap}{g:Array GenState}{d:Drawn}{t:Nat}{os:OsState}{K:Frag}{C f:Addr}{rest:List Value}
theorem K7z {Q:Unit→Shared→Prop}(Y:ExCls K C f)(X:K.In h)(hq:Q () ⟨h,g,d,t,os⟩):wpAny (model prog w) A (checkBuiltinCall "OSError.__new__" ⟨.ref C::rest,[]⟩) Q E ⟨h,g,d,t,os⟩:=by
 refine ab fun Q q9=>?_
 obtain ⟨⟨oc,od,cdx,sl,hC,e2,e4⟩,made,base,self⟩:=K3 (M:=model prog w) X Y.mka
 refine q9 ?_
 have typ:=looks_instIn (M:=model prog w) X Y.typ
 have osb:=looks_subIn (M:=model prog w) X Y.os
 obtain ⟨cd,hcd⟩:=Option.isSome_iff_exists.mp Y.cls
 have nm:Looks (model prog w) h (typeNameWhole (.ref C)) cd.name.toString:=(looks_clsIn X hcd).andThen .now
 simp only [checkBuiltinCall,Z1x,K8c,Z5u]
 repeat (first|simp only [bne_self_eq_false,Bool.false_eq_true,if_false]|lk)
 ·refine J5k (by simp;intro _;decide) ?_
  exact wPu hq
noncomputable abbrev J6f:Obj:={cls:=.type "tuple",data:=.seq #[]}
noncomputable abbrev J4x (C t:Addr):Obj:={cls:=.ref C,data:=.fields (#[.ref t,.none,.none,.none,.bool false,.none]++Builtin.OSError.osNothingGiven)}
theorem K9k (Y:ExCls K C f)(X:K.In h):Looks (model prog w) h (Builtin.OSError.osReadsInInit (.ref C)) true:=by
 obtain ⟨obj,made,base,self⟩:=K3 (M:=model prog w) X Y.mka
 have L1:=looks_findIn (M:=model prog w) X Y.init
 unfold Builtin.OSError.osReadsInInit
 refine L1.andThen ?_
 dsimp only
 refine made.andThen ?_
 exact Looks.of_pure (by simp [K9y])
theorem Z5r {R:Result→Shared→Prop}(Y:ExCls K C f)(X:K.In h)
  (hq:R (.ok (.ret (.ref (h.objs.size+1)))) ⟨(h.push J6f).push (J4x C h.objs.size),g,d,t,os⟩) :
  codeAny (model prog w) A (.call (.builtin "OSError.__new__") ⟨.ref C::rest,[]⟩) R ⟨h,g,d,t,os⟩:=by
 refine codeAny_call_builtin_code (Code.quiet_builtin _ (by decide +kernel)) (K7z Y X ?_)
 refine codeAny_builtin K8w ?_
 refine ab fun Q q9=>?_
 obtain ⟨⟨oc,od,cdx,sl,hC,e2,e4⟩,made,base,self⟩:=K3 (M:=model prog w) X Y.mka
 refine q9 ?_
 have typ:=looks_instIn (M:=model prog w) X Y.typ
 have osb:=looks_subIn (M:=model prog w) X Y.os
 have rd:=K9k (prog:=prog) (w:=w) Y X
 unfold Builtin.«OSError.__new__»
 repeat lk
 refine nd_load (Heap.get?_push_of_some _ (Heap.get?_push_of_some _ hC)) (nd_pure ?_)
 dsimp only
 rw [e2]
 refine wPu ?_
 refine J5k (by decide) ?_
 refine wPu (wPu ?_)
 show R _ _
 rw [Heap.size_push]
 exact hq
theorem Z3n {R:Result→Shared→Prop}(Y:ExCls K C f)(X:K.In h)
  (hq:codeAny (model prog w) (A.under (.builtin "type.__call__" ⟨.ref C::rest,[]⟩)) (.call (.ref f) ⟨.ref (h.objs.size+1)::rest,[]⟩) (InitBack (h.objs.size+1) R) ⟨(h.push J6f).push (J4x C h.objs.size),g,d,t,os⟩) :
  codeAny (model prog w) A (.call (.ref C) ⟨rest,[]⟩) R ⟨h,g,d,t,os⟩:=by
 refine ab fun Q q9=>?_
 obtain ⟨⟨oc,od,cd,sl,hC,e2,e4⟩,made,base,self⟩:=K3 (M:=model prog w) X Y.mka
 refine q9 ?_
 have typ:=looks_instIn (M:=model prog w) X Y.typ
 have call:=looks_specialIn (M:=model prog w) X Y.call
 have hi:=looks_findIn (M:=model prog w) X Y.init
 have hb:∀ self,Looks (model prog w) h (bindSpecial (.ref f) self) (.ref f,[self]):=fun self=>bind_fn X self Y.fn
 refine codeAny_of_tree ?_
 show wpAny _ _ (callAny (.ref C) _) _ _ _
 refine nd_load hC ?_
 show wpAny _ _ (callAny.viaDunder (.ref C) _) _ _ _
 unfold callAny.viaDunder
 refine wBn (call.at ?_)
 dsimp only
 rw [tc_bind]
 refine wBn (wPu (wBn (wPu ?_)))
 refine wPu (a:=Fin.again (.call (.builtin "type.__call__") ⟨.ref C::rest,[]⟩)) (And.intro rfl ?_)
 refine codeAny_call_builtin_at (Code.quiet_builtin _ (by decide +kernel)) entry_typeCall (check_slot tc_kind tc_split typ (tc_args _ _ _) ?_)
 unfold Builtin.«type.__call__»
 have hm:Looks (model prog w) h (mroOf (.ref C)) cd.mro:=((Looks.ld (part:=none) hC).andThen .now).andThen .now
 repeat (first|simp only [e4,Bool.false_eq_true,if_false]|with_reducible refine wpAny_call ?_|lk)
 refine Z5r Y X ?_
 have k:∀ b o,h.get? b=some o→((h.push J6f).push (J4x C h.objs.size)).get? b=some o:=fun b o e=>Heap.get?_push_of_some _ (Heap.get?_push_of_some _ e)
 have hx:((h.push J6f).push (J4x C h.objs.size)).get? (h.objs.size+1)=some (J4x C h.objs.size):=by heap_get
 have t1:Looks (model prog w) ((h.push J6f).push (J4x C h.objs.size)) (typeOf (.ref (h.objs.size+1))) (.ref C):=(Looks.ld hx).andThen .now
 have s1:=self.keeps k
 have i1:=hi.keeps k
 have b1:=(hb (.ref (h.objs.size+1))).keeps k
 unfold isInstance callSpecial? specialOf
 repeat (first|with_reducible refine wpAny_call ?_|lk)
 refine codeAny_mono hq fun r s' z=>?_
 rcases r with e|(v|_|_|_)<;>first|exact z|exact z.elim|skip
 refine o01 z fun e9a z=>?_;subst e9a;clear z
 exact wPu (wPu z)
end
open Builtin Builtin.ObjectAttr
theorem Args.fi:True:=trivial
structure ExAt (K:Frag)(C:Addr):Prop where
 ga:findIn K (.ref C) "__getattribute__" = some (some (.builtin "BaseException.__getattribute__"))
 hook:findIn K (.ref C) "__getattr__" = some none
 sa:findIn K (.ref C) "__setattr__" = some (some (.builtin "object.__setattr__"))
 args:findIn K (.ref C) "args" = some (some (.builtin "BaseException.args"))
 obj:subIn K (.ref C) (.type "object")=some true
 bas:subIn K (.ref C) (.type "BaseException")=some true
 self:mroIn K C (.ref C)=some true
 cls:∃ cd,clsIn K C=some cd∧cd.hasDict=true∧cd.mro.isEmpty=false∧∀ self,refuseLoop self "__setattr__" cd.mro=pure ()
theorem Z8f (self:Value):refuseLoop self "__setattr__" [.type "OSError",.type "Exception",.type "BaseException",.type "object"]=pure ():=by kernel_rfl
theorem J8p (P:Params):ExAt (KF P) 189:=⟨rfl,rfl,rfl,rfl,rfl,rfl,rfl,⟨_,rfl,rfl,rfl,fun self=>by
 show refuseLoop self "__setattr__" [.ref _,.ref _,.ref _,.type "OSError",.type "Exception",.type "BaseException",.type "object"]=pure ()
 rw [refuseLoop_ref,refuseLoop_ref,refuseLoop_ref];exact Z8f self⟩⟩
theorem K2z (P:Params):ExAt (KF P) 201:=⟨rfl,rfl,rfl,rfl,rfl,rfl,rfl,⟨_,rfl,rfl,rfl,fun self=>by
 show refuseLoop self "__setattr__" [.ref _,.ref _,.ref _,.type "OSError",.type "Exception",.type "BaseException",.type "object"]=pure ()
 rw [refuseLoop_ref,refuseLoop_ref,refuseLoop_ref];exact Z8f self⟩⟩
section
variable {prog:Program}{w:World}{A:Around}{E:Value→Shared→Prop}{h:Heap}{g:Array GenState}{d:Drawn}{t:Nat}{os:OsState}{K:Frag}{C x:Addr}{o:Obj}{mA:Str→Option Value}{name:Str}{v:Value}
theorem Z0o {tk:Tok}{r:Option Value}{R:Result→Shared→Prop}(Z:ExAt K C)(X:K.In h)(hx:h.get? x=some o)(hc:o.cls = .ref C)(ht:takerIn K C name=some r)
  (hq:∀ b,wpAny (model prog w) A.in1 (match r with|some a=>setByDescriptor a (.ref x) v|none=>storeInOwnDict (.ref x) (.ref C) (.str name tk) name v b)
   (fun fin s'=>match fin with | .done f=>R (.ok f) s' | .again c'=>c'.quiet=true∧codeAny (model prog w) A c' R s') (fun e s'=>R (.error e) s') ⟨h,g,d,t,os⟩) :
  codeAny (model prog w) A (.call (.builtin "object.__setattr__") ⟨[.ref x,.str name tk,v],[]⟩) R ⟨h,g,d,t,os⟩:=by
 have SF:=PySem.F.store_object
 skip
 refine o13 Z.cls fun cd hcd hh ne ho=>?_
 skip
 have ty:Looks (model prog w) h (typeOf (.ref x)) (.ref C):=hc▸(Looks.ld hx).andThen .now
 have sub:Looks (model prog w) h (isInstance (.ref x) (.type "object")) true:=ty.andThen (looks_subIn X Z.obj)
 refine codeAny_call_builtin SF.slot.plain SF.entry (@check_slot (model prog w) _ _ ⟨h,g,d,t,os⟩ "object.__setattr__" "object" "__setattr__" (.ref x) [.str name tk,v] [] _ SF.kind SF.split sub (SF.args (.ref x) (.str name tk) v) ?_)
 refine o11 (Option.bind_eq_some_iff.mp ht) fun attr ha hr=>?_
 have hm:Looks (model prog w) h (mroOf (.ref C)) cd.mro:=(looks_clsIn X hcd).andThen .now
 have L3:Looks (model prog w) h (storeTaker? attr) r:=by
  cases attr with
  |none=>cases hr;exact .now
  |some a=>
   refine o11 (Option.map_eq_some_iff.mp hr) fun b hb e9a=>?_;subst e9a
   refine (looks_takesIn X hb).andThen ?_
   cases b<;>exact .now
 rw [osa_eq,refuse_eq]
 refine wBn (wBn (ty.at (wBn (hm.at ?_))))
 rw [ho]
 refine wPu (wBn (ty.at (wBn ((looks_findIn X ha).at (wBn (L3.at ?_))))))
 exact hq _
theorem J6p {Q:Unit→Shared→Prop}(Z:ExAt K C)(X:K.In h)(hx:h.get? x=some o)(hc:o.cls = .ref C)
  (hq:codeAny (model prog w) A (.call (.builtin "object.__setattr__") ⟨[.ref x,.str name t,v],[]⟩) (fun r s'=>match r with | .ok (.ret _)=>Q () s' | .ok _=>False | .error e=>E e s') ⟨h,g,d,t+1,os⟩) :
  wpAny (model prog w) A (setAttr (.ref x) name v) Q E ⟨h,g,d,t,os⟩:=by
 have ty:Looks (model prog w) h (typeOf (.ref x)) (.ref C):=hc▸(Looks.ld hx).andThen .now
 refine wBn (wpAny_mkText (wBn (wBn (wBn (ty _ _ _ _ (fun _ _ e=>e) (looks_findIn X Z.sa _ _ _ _ (fun _ _ e=>e) (wpAny_holding ?_)))))))
 rw [PySem.F.store_object.slot.bind]
 refine wBn (wPu (wBn (wpAny_call (codeAny_mono hq fun r s' z=>?_))))
 rcases r with e|(v|_|_|_)<;>first|exact z|exact wPu (wPu z)
theorem K8g {Q:Unit→Shared→Prop}{ns:List Str}(Z:ExAt K C)(X:K.In h)(I:h.Inst x C mA)(ht:takerIn K C name=some none)
  (hq:∀ h' tk',h'.Inst x C (fun y=>if y=name then some v else mA y) →
   (∀ b o,b≠x→(∀ o₀ dx,h.get? x=some o₀→o₀.dict=some dx→b≠dx)→h.get? b=some o→h'.get? b=some o) →
   (∀ o₀,h.get? x=some o₀→∃ o₁,h'.get? x=some o₁∧o₁.cls=o₀.cls∧o₁.data=o₀.data∧o₁.slots=o₀.slots∧(∀ dx,o₀.dict=some dx→o₁.dict=some dx)∧(o₀.dict=none→∃ dx,o₁.dict=some dx∧h.get? dx=none))→Q () ⟨h',g,d,tk',os⟩) (hw:Within mA ns) (hsz:ns.length≤100) :
  wpAny (model prog w) A (setAttr (.ref x) name v) Q E ⟨h,g,d,t,os⟩:=by
 refine o13 I fun o hx hc hnc hd=>?_;clear I
 refine J6p Z X hx hc (Z0o Z X hx hc ht fun b=>?_)
 refine o13 Z.cls fun cd hcd hh ne ho=>?_
 have Lc:=looks_clsIn (M:=model prog w) X hcd
 have sl:sizeLine ≥ 1000:=by rw [sizeLine_eq];exact by decide
 dsimp only
 unfold storeInOwnDict ownStreamTells
 refine wBn (wPu (wBn ?_))
 unfold ownDictForStores instanceDict
 refine wBn (wpAny_loadPart hx ?_)
 rw [hc]
 refine wBn (Lc.at ?_)
 rw [hh]
 rcases hd with ⟨hdn,hmA⟩|⟨dx,hdx,hne,hns⟩
 ·rw [hdn]
  have hx₁:(h.push {cls:=.type "dict",data:=.dict #[]}).get? x=some o:=Heap.get?_push_of_some _ hx
  have hxs:x≠h.objs.size:=Nat.ne_of_lt (Heap.lt_size hx)
  have tail:∀ (m:Sem Unit),m=pure ()→wpAny (model prog w) A.in1 (m>>=fun _=>alloc {cls:=.type "dict",data:=.dict #[]}>>=fun d=>update x (fun o=>{o with dict:=some d})>>=fun _=>dictMade (.ref C) x d)
    (fun r s'=>wpAny (model prog w) A.in1 (match r with|some d=>storeInDict d (.str name t) name v|none=>noDictFor (.ref x) (.ref C) name b)
     (fun fin s'=>match fin with | .done f=>(match (Except.ok f:Result) with | .ok (.ret _)=>Q () s' | .ok _=>False | .error e=>E e s') | .again c'=>c'.quiet=true∧codeAny (model prog w) A c' (fun r s'=>match r with | .ok (.ret _)=>Q () s' | .ok _=>False | .error e=>E e s') s') (fun e s'=>E e s') s') (fun e s'=>E e s') ⟨h,g,d,t+1,os⟩:=by
   rintro m rfl
   refine wBn (wPu (wBn (wpAny_alloc' ?_)))
   refine wBn (wpAny_update' hx₁ ?_)
   refine wPu ?_
   have hgd:((h.push {cls:=.type "dict",data:=.dict #[]}).update x fun o=>{cls:=o.cls,dict:=some h.objs.size,data:=o.data,slots:=o.slots}).get? h.objs.size
     = some {cls:=.type "dict",data:=.dict #[]}:=
    (Heap.get?_update_ne _ _ _ _ hxs.symm).trans (Heap.get?_push_at rfl rfl)
   have hnd:((h.push {cls:=.type "dict",data:=.dict #[]}).update x fun o=>{cls:=o.cls,dict:=some h.objs.size,data:=o.data,slots:=o.slots}).Ns h.objs.size (fun _=>none):=
    (xi3 _ (#[]) _ ⟨hgd,rfl,fun e he=>absurd he (by simp),fun _=>rfl⟩)
   unfold storeInDict newKeyGuard
   refine wBn (wPu (wBn (wpAny_nsSet1 (Heap.Ns1.of_empty hnd) fun h' hn' hs=>?_)))
   refine o32 (hn'.count (Within.cons name v Within.nil)) fun oD esD epD hoD hdD hcD=>?_
   refine wBn (wpAny_lookBehind hoD (by rw [hdD];exact pastItsLine_dict (lTr hcD (by rw [List.length_cons,List.length_nil,sizeLine_eq];exact by decide))) ?_)
   refine wPu ?_
   have hx':h'.get? x=some {cls:=o.cls,dict:=some h.objs.size,data:=o.data,slots:=o.slots}:=by
    refine (hs.2 x hxs).trans (Heap.get?_update_self _ hx₁ ?_)
    have hfr:=(Heap.get?_some_iff.mp hx).2
    obtain ⟨oc,od,odt,osl⟩:=o
    cases odt<;>first|rfl|exact hfr
   refine hq h' _ ⟨{cls:=o.cls,dict:=some h.objs.size,data:=o.data,slots:=o.slots},hx',hc,hnc,.inr ⟨h.objs.size,rfl,hxs.symm,?_⟩⟩ (fun b ob hbx _ hb=>?_)
    (fun o₀ h₀=>by
     obtain rfl:o=o₀:=Option.some.inj (hx.symm.trans h₀)
     exact ⟨_,hx',rfl,rfl,rfl,fun dx e=>(by rw [hdn] at e;cases e),fun _=>⟨_,rfl,Heap.get?_none_of_le (Nat.le_refl _)⟩⟩)
   ·skip
    refine o34 hn' fun o' es ep e1 e2 e3 eu e4=>?_;clear hn'
    skip
    exact xi3 o' es ep ⟨e1,e2,e3,eu,fun y=>by rw [e4 y];by_cases hy:y=name<;>simp [hy,hmA]⟩
   ·exact (hs.2 b (Nat.ne_of_lt (Heap.lt_size hb))).trans ((Heap.get?_update_ne _ _ _ _ hbx).trans (Heap.get?_push_of_some _ hb))
  obtain ⟨oc,odd,odt,osl⟩:=o
  cases odt<;>first|exact (hnc _ rfl).elim|exact tail _ rfl
 ·rw [hdx]
  refine wPu ?_
  show wpAny _ _ (storeInDict dx (.str name t) name v) _ _ _
  unfold storeInDict newKeyGuard
  refine wBn (wPu (wBn (wpAny_nsSet1 hns fun h' hn' hs=>?_)))
  refine o32 (hn'.count (Within.cons name v hw)) fun oD esD epD hoD hdD hcD=>?_
  refine wBn (wpAny_lookBehind hoD (by rw [hdD];exact pastItsLine_dict (lTr hcD (by rw [List.length_cons];exact Nat.lt_of_le_of_lt hsz (by decide)))) ?_)
  refine wPu ?_
  refine hq h' _ ⟨o,(hs.2 x hne.symm).trans hx,hc,hnc,.inr ⟨dx,hdx,hne,hn'⟩⟩ (fun b ob _ hbd hb=>?_)
   (fun o₀ h₀=>⟨o₀,(hs.2 x hne.symm).trans h₀,rfl,rfl,rfl,fun _ e=>e,fun e=>by obtain rfl:o=o₀:=Option.some.inj (hx.symm.trans h₀);rw [hdx] at e;cases e⟩)
  exact (hs.2 b (hbd o dx hx hdx)).trans hb
end
end
section
open Builtin Builtin.ObjectAttr Builtin.Getset_descriptor Builtin.BaseException
theorem K7o:entryFor table "getset_descriptor.__set__" = some Builtin.«getset_descriptor.__set__»:=entryFor_of_tree (by kernel_rfl)
theorem Z0a (a b c:Value):argsOk "getset_descriptor.__set__" ⟨[a,b,c],[]⟩:=by unfold argsOk;kernel_rfl
theorem K3p:entryFor table "BaseException.args#set" = some Builtin.«BaseException.args#set»:=entryFor_of_tree (by kernel_rfl)
theorem K9o:descrOwnerAndName "BaseException.args" = ("BaseException","args"):=by decide +kernel
theorem K9l:"BaseException.args"++"#set" = "BaseException.args#set":=by decide +kernel
theorem Z8y (P:Params):takerIn (KF P) 189 "args" = some (some (.builtin "BaseException.args")):=rfl
theorem Z9x (P:Params):takerIn (KF P) 201 "args" = some (some (.builtin "BaseException.args")):=rfl
section
variable {prog:Program}{w:World}{A:Around}{E:Value→Shared→Prop}{h:Heap}{g:Array GenState}{d:Drawn}{t:Nat}{os:OsState}{K:Frag}{C x:Addr}{o:Obj}{mA:Str→Option Value}{name:Str}{v:Value}
theorem Z1l {Q:Unit→Shared→Prop}{tp:Addr}{items fs:Array Value}{t0:Addr}(Z:ExAt K C)(X:K.In h)(hx:h.get? x=some o)(hc:o.cls = .ref C)(hd:o.data = .fields fs)(h0:fs[0]? = some (.ref t0))
  (ht:takerIn K C "args" = some (some (.builtin "BaseException.args"))) (htp:h.IsTuple tp items)
  (hq:∀ tk,Q () ⟨h.update x (Obj.mapFields (·.setIfInBounds 0 (.ref tp))),g,d,tk,os⟩):wpAny (model prog w) A (setAttr (.ref x) "args" (.ref tp)) Q E ⟨h,g,d,t,os⟩:=by
 refine J6p Z X hx hc (Z0o Z X hx hc ht fun b=>?_)
 have ty:Looks (model prog w) h (typeOf (.ref x)) (.ref C):=hc▸(Looks.ld hx).andThen .now
 have bas:Looks (model prog w) h (isInstance (.ref x) (.type "BaseException")) true:=ty.andThen (looks_subIn X Z.bas)
 have f5:=F.typeOf_bexc_args
 have f7:=F.slot_gs_set.lookup
 dsimp only
 unfold setByDescriptor
 refine wBn (wpAny_rule (wBn (wpAny_holding ?_)))
 unfold callSpecial? specialOf
 rw [f5]
 refine wBn (wBn (wPu ?_))
 rw [f7]
 refine wPu (wpAny_holding ?_)
 rw [F.slot_gs_set.bind]
 refine wBn (wPu (wBn ?_))
 refine wpAny_call (codeAny_call_builtin F.slot_gs_set.plain K7o (F.slot_gs_set.check _ _ _ _ _ _ _ _ (show Shared.TypeIs ⟨h,g,d,t+1,os⟩ (.builtin "BaseException.args") "getset_descriptor" from F.typeOf_bexc_args) (Z0a _ _ _) ?_))
 have e1:descrNameAndClass (.builtin "BaseException.args")=pure (("args" : Str),Value.type "BaseException"):=by
  unfold descrNameAndClass
  dsimp only
  rw [K9o]
 show wpAny _ _ (descrStoreThrough "getset" (.builtin "BaseException.args") (.ref x) (some (.ref tp))) _ _ _
 unfold descrStoreThrough descrCheckInstance
 rw [e1]
 refine wBn (wBn (wPu (wBn (bas.at (wPu (wBn (wPu ?_)))))))
 dsimp only
 rw [K9l]
 refine wPu ⟨Code.quiet_builtin _ (by decide +kernel),codeAny_builtin K3p ?_⟩
 unfold Builtin.«BaseException.args#set»
 dsimp only
 refine wBn (call_tuple_same htp ?_)
 unfold bexcPut
 refine wBn (wBn (wpAny_field hx hd h0 (wBn (wpAny_setField hx hd (Array.getElem?_eq_some_iff.mp h0).1 ?_))))
 dsimp only
 unfold letGo
 refine wBn (wpAny_holding (wpAny_point (wPu ?_)))
 refine wPu (wPu (wPu ?_))
 exact hq _
theorem Z3w (self:Value):bindSpecial (.builtin "BaseException.__getattribute__") self=pure (.builtin "BaseException.__getattribute__",[self]):=F.attr_Exception.ga.bind self
theorem Z4s:builtinKind "BaseException.__getattribute__" = some .slot:=by decide +kernel
theorem Z0:splitId "BaseException.__getattribute__" = some ("BaseException","__getattribute__"):=by decide +kernel
theorem V0e:(Value.builtin "BaseException.__getattribute__" == Value.builtin "object.__getattribute__")=false:=by decide +kernel
theorem Z8 {Q:Value→Shared→Prop}{dx:Addr}{m:Str→Option Value}(Z:ExAt K C)(X:K.In h)(hx:h.get? x=some o)(hc:o.cls = .ref C)(hnc:∀ c,o.data≠.cls c)(hdx:o.dict=some dx)(hn:h.Ns dx m)
  (hf:findIn K (.ref C) name=some none) (hm:m name=some v) (hh:handedIn v=true) (hq:Q v ⟨h,g,d,t+1,os⟩):wpAny (model prog w) A (getAttr (.ref x) name true) Q E ⟨h,g,d,t,os⟩:=by
 have ty:Looks (model prog w) h (typeOf (.ref x)) (.ref C):=hc▸(Looks.ld hx).andThen .now
 have bas:Looks (model prog w) h (isInstance (.ref x) (.type "BaseException")) true:=ty.andThen (looks_subIn X Z.bas)
 have L1:=looks_findIn (M:=model prog w) X Z.ga
 have L2:=looks_findIn (M:=model prog w) X Z.hook
 have L3:=looks_findIn (M:=model prog w) X hf
 obtain ⟨cd,hcd,hh',ne,ho⟩:=Z.cls
 have Lc:=looks_clsIn (M:=model prog w) X hcd
 unfold getAttr getAttrBy
 refine wBn (wpAny_mkText (wpAny_holding (wBn (ty.at (wBn (L1.at ?_))))))
 show wpAny _ _ (if (onTheHeap (.ref C) && Value.builtin "BaseException.__getattribute__" == Value.builtin "object.__getattribute__")=true then _ else _) _ _ _
 rw [V0e,if_neg (by simp)]
 unfold getAttrByItsOwn hookBefore
 refine wBn (L2.at (wBn ?_))
 refine wpAny_attempt ?_
 refine wpAny_holding ?_
 show wpAny _ _ (boundAndCalled _ _ _) _ _ _
 unfold boundAndCalled
 rw [Z3w]
 refine wBn (wPu ?_)
 refine wpAny_call (codeAny_call_builtin F.attr_Exception.ga.plain F.entry_bexc_ga (@check_slot (model prog w) _ _ ⟨h,g,d,t+1,os⟩ "BaseException.__getattribute__" "BaseException" "__getattribute__" (.ref x) [.str name t] [] _ Z4s Z0 bas (F.args_bexc_ga (.ref x) (.str name t)) ?_))
 unfold Builtin.«object.__getattribute__»
 refine wBn (wPu (wBn (wPu (wBn (ty.at (wBn ?_))))))
 unfold find
 refine wBn (L3.at (wBn (wPu (wBn (wPu ?_)))))
 unfold ownThenClass inOwnDict ObjectAttr.ownDict loadHead
 refine wBn (wBn (wBn (wpAny_loadPart hx ?_)))
 have tail:wpAny (model prog w) A.in1 (instanceDict x false) (fun r s'=>r=some dx∧s'=⟨h,g,d,t+1,os⟩) (fun _ _=>False) ⟨h,g,d,t+1,os⟩:=by
  unfold instanceDict
  refine wBn (wpAny_loadPart hx ?_)
  rw [hc]
  refine wBn (Lc.at ?_)
  rw [hh',hdx]
  exact wPu ⟨rfl,rfl⟩
 have tail2:wpAny (model prog w) A.in1 (match o.data with | .cls c=>pure (some c.ns)|_=>instanceDict x false) (fun r s'=>r=some dx∧s'=⟨h,g,d,t+1,os⟩) (fun _ _=>False) ⟨h,g,d,t+1,os⟩:=by
  obtain ⟨oc,odd,odt,osl⟩:=o
  cases odt<;>first|exact (hnc _ rfl).elim|exact tail
 refine wMo tail2 (fun r s' z=>?_) fun _ _ z=>z.elim
 obtain ⟨rfl,rfl⟩:=z
 refine wpAny_nsGet hn ?_
 rw [hm]
 refine wBn (wpAny_rule (wPu (wPu ?_)))
 dsimp only
 rw [handedOut_of hh]
 exact wPu hq
end
end
structure ExV (own hs:List Addr)(h:Heap)(a:Addr)(C:Value)(tb:Value)(at_:List (Str×PyData)):Prop where
 ob:∃ o fs,h.get? a=some o∧o.cls=C∧o.data = .fields fs∧1<fs.size∧((∃ T,C = .type T)∨∃ t,fs[0]? = some (.ref t))∧fs[1]? = some tb ∧
  ((o.dict=none∧at_ = [])∨((∃ T,C = .type T)∧at_ = [])∨∃ D m,o.dict=some D∧D∈hs∧D≠a∧h.Ns1 D m∧Within m (at_.map (·.1))∧∀ p∈at_,∃ v as,m p.1=some v∧Reads (hideAll h (hs++own)) v p.2 as)
 mem:a∈hs
 apart:∀ b∈hs,b∉own
 live:∀ b∈hs,∃ o,h.get? b=some o
theorem ExV.upd {own hs hs' h h' a C tb tb' at_}(x:ExV own hs h a C tb at_)(hk:∀ b o,b∉hs→b∉own→h.get? b=some o→h'.get? b=some o)(sub:∀ b∈hs,b∈hs')(new:∀ b∈hs',b∈hs∨h.get? b=none)(ap:∀ b∈hs',b∉own)
  (ho:∀ o fs,h.get? a=some o→o.data = .fields fs→1<fs.size→((∃ T,C = .type T)∨∃ t,fs[0]? = some (.ref t))→fs[1]? = some tb→∃ o' fs',h'.get? a=some o'∧o'.cls=o.cls∧o'.dict=o.dict∧o'.data = .fields fs'∧1<fs'.size∧((∃ T,C = .type T)∨∃ t,fs'[0]? = some (.ref t))∧fs'[1]? = some tb')
  (hD:∀ D o es n,D∈hs→D≠a→h.get? D=some o→o.data = .dict es n→h'.get? D=some o) (lv:∀ b∈hs',∃ o,h'.get? b=some o):ExV own hs' h' a C tb' at_:=by
 refine ab fun Q q9=>?_
 obtain ⟨⟨o,fs,h1,h2,h3,h4,h5,h6,h7⟩,mem,apart,live⟩:=x
 refine o26 (ho o fs h1 h3 h4 h5 h6) fun o' fs' q1 q2 q3 q4 q5 q6 q7=>?_
 refine q9 ?_
 refine ⟨(xi2 o' fs' ⟨q1,q2.trans h2,q4,q5,q6,q7,?_⟩),sub _ mem,ap,lv⟩
 rcases h7 with ⟨h7,h8⟩|h7|⟨D,m,d1,d2,d3,d4,d5,d6⟩
 ·exact .inl ⟨q3.trans h7,h8⟩
 ·exact .inr (.inl h7)
 ·refine .inr (.inr (xi2 D m ⟨q3.trans d1,sub _ d2,d3,?_,d5,fun p hp=>?_⟩))
  ·skip
   refine o32 d4 fun oD es ep e1 e2 e3=>?_;clear d4
   skip
   exact xi3 oD es ep ⟨hD D oD es ep d2 d3 e1 e2,e2,e3⟩
  ·skip
   refine o21 (d6 p hp) fun v as r1 r2=>?_
   skip
   refine xi2 v as ⟨r1,Reads.keeps (fun b ob e=>?_) r2⟩
   have e1:=of_hideAll _ e
   have nb:b∉hs++own:=fun hb=>by rw [hideAll_none _ hb] at e;cases e
   have n1:b∉hs:=fun q=>nb (List.mem_append_left _ q)
   have n2:b∉own:=fun q=>nb (List.mem_append_right _ q)
   refine hideAll_get _ (hk b ob n1 n2 e1) fun hm=>?_
   rcases mAp hm with hm|hm
   ·rcases new b hm with q|q
    ·exact n1 q
    ·rw [q] at e1;cases e1
   ·exact n2 hm
abbrev ExS (own hs:List Addr)(h:Heap)(a C:Addr)(tb:Value)(at_:List (Str×PyData)):Prop:=ExV own hs h a (.ref C) tb at_
structure TbAt (hs:List Addr)(h:Heap)(T a:Addr)(fl:Value):Prop where
 mem:T∈hs
 ne:T≠a
 ob:∃ o ts,h.get? T=some o∧o.data = .fields ts∧ts[3]? = some fl
noncomputable def FrOk (own:List Addr) (h:Heap):List Env→Prop
 |[]=>True
 |env::rest=>env.scope.kind≠.module∧(∃ L o,env.frame=some L∧L∈own∧h.get? L=some o∧∀ vs,o.data≠.fields vs)∧FrOk own h rest
noncomputable abbrev frL (l:List Env):List Addr:=l.filterMap (·.frame)
theorem FrOk.own {own h}:∀ {l},FrOk own h l→∀ b∈frL l,b∈own∧∃ o,h.get? b=some o∧∀ vs,o.data≠.fields vs
 |[],_,b,hb=>by simp [frL] at hb
 |env::rest,⟨_,⟨L,o,hf,hm,ho,hd⟩,hr⟩,b,hb=>by
  rw [frL,List.filterMap_cons,hf] at hb
  rcases mCn hb with rfl|hb
  ·exact ⟨hm,o,ho,hd⟩
  ·exact hr.own b hb
theorem FrOk.fun {own h}{base:Heap}:∀ {l},FrOk own h l→(∀ b∈frL l,base.get? b=none)→h.FunFrames base l
 |[],_,_=>trivial
 |env::rest,⟨k,⟨L,o,hf,hm,ho,hd⟩,hr⟩,hb=>⟨k,⟨L,o,hf,hb L (by rw [frL,List.filterMap_cons,hf];exact .head _),ho,hd⟩,hr.fun fun b q=>hb b (by rw [frL,List.filterMap_cons,hf];exact .tail _ q)⟩
theorem FrOk.to {own own' h h'}(ho:∀ b∈own,b∈own')(hk:∀ b o,b∈own→h.get? b=some o→(∀ vs,o.data≠.fields vs)→∃ o',h'.get? b=some o'∧o'.data=o.data):∀ {l},FrOk own h l→FrOk own' h' l
 |[],_=>trivial
 |env::rest,⟨k,⟨L,o,hf,hm,h1,hd⟩,hr⟩=>by
  refine o11 (hk L o hm h1 hd) fun o' e1 e2=>?_
  exact ⟨k,(xi2 L o' ⟨hf,ho _ hm,e1,fun vs=>e2▸hd vs⟩),hr.to ho hk⟩
theorem FrOk.slt {own F S s s' l}(x:FrOk own s.heap l)(k:Slt F S s s')(hS:∀ b∈S,b∉own):FrOk own s'.heap l:=
 x.to (fun _ q=>q) fun b o hb e _=>let ⟨sl,e'⟩:=k.slt b o (fun q=>hS b q hb) e;⟨_,e',rfl⟩
section
variable {M:Model}{A:Around}{E:Value→Shared→Prop}{s:Shared}{own hs:List Addr}{a L:Addr}{C:Value}{tb:Value}{at_:List (Str×PyData)}{env:Env}{outer:List Env}
theorem K2k {hn:Bool}{hd:Value}{Q:Unit→Shared→Prop}(hfr:A.frames=some (env::outer))(hf:env.frame=some L)(hl:FrOk own s.heap (env::outer))(al:Alive own s.heap)(x:ExV own hs s.heap a C tb at_)
  (hq:∀ h' T,ExV own (T::hs) h' a C (.ref T) at_→TbAt (T::hs) h' T a (rawInt L)→Slt (frL (env::outer)) hs s {s with heap:=h'}→s.heap.get? T=none→Q () {s with heap:=h'}) :
  wpAny M A (do let f ← frameOf env;let pl ← entryPlaceOf L hn;let b ← EntryCells.newEntry hd f .none (rawInt L) .none pl;setField (.ref a) 1 b) Q E s:=by
 have fo:=hl.own
 refine wBn (wpAny_frameOf_fun (base:=hideAll s.heap (frL (env::outer))) hfr (hl.fun fun b hb=>hideAll_none _ hb) hf fun h₁ hs₁=>?_)
 refine wBn (wpAny_entryPlaceOf fun pl hpl=>?_)
 unfold EntryCells.newEntry newFields
 refine wBn (wpAny_newObj_type ?_ (hpl.sizeOk5 _ _ _ _ _))
 skip
 refine o26 x.ob fun oe fs e1 e2 e3 e4 e5 e6 e7=>?_
 skip
 have aF:a∉frL (env::outer):=fun m=>x.apart a x.mem (fo a m).1
 have he₁:h₁.get? a=some oe:=(hs₁.2.1 a aF).trans e1
 have hTn:s.heap.get? h₁.objs.size=none:=by
  cases q:s.heap.get? h₁.objs.size with
  |none=>rfl
  |some o=>refine o10 (hs₁.2.2 _ o q) fun sl q'=>?_;exact absurd (Heap.lt_size q') (Nat.lt_irrefl _)
 have hTa:h₁.objs.size≠a:=Nat.ne_of_gt (Heap.lt_size he₁)
 refine wpAny_setField (Heap.get?_push_of_some _ he₁) e3 e4 ?_
 have keep:∀ b o,b≠a→h₁.get? b=some o →
   ((h₁.push {cls:=.type "traceback",dict:=none,data:=.fields ([hd,.ref L,.none,rawInt L,.none]++(if pl.isEmpty then List.replicate 6 Value.none else pl)).toArray}).update a (Obj.mapFields (·.setIfInBounds 1 (Value.ref h₁.objs.size)))).get? b=some o:=
  fun b o hbe hb=>by
   rw [Heap.get?_update_other _ _ (Ne.symm hbe)]
   exact Heap.get?_push_of_some _ hb
 have hd₃:=Obj.data_mapFields e3 (·.setIfInBounds 1 (Value.ref h₁.objs.size))
 have he₃:=Heap.get?_update_self (Obj.mapFields (·.setIfInBounds 1 (Value.ref h₁.objs.size))) (Heap.get?_push_of_some (h:=h₁) {cls:=.type "traceback",dict:=none,data:=.fields ([hd,.ref L,.none,rawInt L,.none]++(if pl.isEmpty then List.replicate 6 Value.none else pl)).toArray} he₁) (Obj.isFreed_of_fields hd₃)
 have hT₃:=(Heap.get?_update_other (h₁.push {cls:=.type "traceback",dict:=none,data:=.fields ([hd,.ref L,.none,rawInt L,.none]++(if pl.isEmpty then List.replicate 6 Value.none else pl)).toArray})
  (Obj.mapFields (·.setIfInBounds 1 (Value.ref h₁.objs.size))) (Ne.symm hTa)).trans (Heap.get?_push_size h₁ rfl)
 refine hq _ h₁.objs.size ?_ ?_ ?_ hTn
 ·refine x.upd (fun b o n1 n2 e=>keep b o (fun q=>n1 (q▸x.mem)) ((hs₁.2.1 b fun m=>n2 (fo b m).1).trans e)) (fun b q=>.tail _ q) (fun b q=>?_) (fun b q=>?_) (fun o fs' p1 p2 p3 p4 p5=>?_) (fun D o es n p1 p2 p3 _=>keep D o p2 ((hs₁.2.1 D fun m=>x.apart D p1 (fo D m).1).trans p3)) (fun b hb=>?_)
  ·rcases mCn q with rfl|q
   ·exact .inr hTn
   ·exact .inl q
  ·rcases mCn q with rfl|q
   ·intro m;refine o10 (al _ m) fun o e=>?_;rw [hTn] at e;cases e
   ·exact x.apart b q
  ·obtain rfl:oe=o:=Option.some.inj (e1.symm.trans p1)
   rw [e3] at p2;cases p2
   refine xi2 _ _ ⟨he₃,Obj.cls_mapFields _ _,?_,hd₃,by simpa using e4,?_,?_⟩
   ·obtain ⟨_,_,dd,_⟩:=oe;cases dd<;>rfl
   ·exact e5.imp id fun ⟨t,ht⟩=>⟨t,by rw [Array.getElem?_setIfInBounds_ne (by decide)];exact ht⟩
   ·simp [e4]
  ·rcases mCn hb with rfl|hb
   ·exact ⟨_,hT₃⟩
   ·by_cases q:b=a
    ·rw [q];exact ⟨_,he₃⟩
    ·refine ab fun Q q9=>?_
     refine o10 (x.live b hb) fun o e=>?_
     refine q9 ?_
     exact ⟨o,keep b o q ((hs₁.2.1 b fun m=>x.apart b hb (fo b m).1).trans e)⟩
 ·exact ⟨.head _,hTa,_,_,hT₃,rfl,by first|(simp;done)|(rcases hpl with rfl|⟨_,_,_,_,_,_,_,rfl⟩<;>simp)⟩
 ·refine ⟨(xi2 _ _ rfl),fun b o n1 n2 e=>keep b o (fun q=>n2 (q▸x.mem)) ((hs₁.2.1 b n1).trans e),fun b o n e=>?_,fun b o e=>?_⟩
  ·refine ab fun Q q9=>?_
   refine o10 (hs₁.2.2 b o e) fun sl e'=>?_
   refine q9 ?_
   exact ⟨sl,keep b _ (fun q=>n (q▸x.mem)) e'⟩
  ·by_cases q:b=a
   ·rw [q];exact ⟨_,he₃⟩
   ·refine ab fun Q q9=>?_
    refine o10 (hs₁.2.2 b o e) fun sl e'=>?_
    refine q9 ?_
    exact ⟨_,keep b _ q e'⟩
theorem K4n {T:Addr}{fl v:Value}{Q:Unit→Shared→Prop}(x:ExV own hs s.heap a C tb at_)(t:TbAt hs s.heap T a fl)
  (hq:∀ h',ExV own hs h' a C tb at_→TbAt hs h' T a v→(∀ F,Slt F hs s {s with heap:=h'})→Q () {s with heap:=h'}):wpAny M A (setField (.ref T) 3 v) Q E s:=by
 refine o22 t.ob fun oT ts t1 t2 t3=>?_
 have hsz:3<ts.size:=(Array.getElem?_eq_some_iff.mp t3).1
 have hd₃:=Obj.data_mapFields t2 (·.setIfInBounds 3 v)
 have h3:=Heap.get?_update_self (Obj.mapFields (·.setIfInBounds 3 v)) t1 (Obj.isFreed_of_fields hd₃)
 have keep:∀ b o,b≠T→s.heap.get? b=some o→(s.heap.update T (Obj.mapFields (·.setIfInBounds 3 v))).get? b=some o:=fun b o n e=>by rw [Heap.get?_update_other _ _ (Ne.symm n)];exact e
 refine wpAny_setField t1 t2 hsz (hq _ ?_ ?_ ?_)
 ·refine x.upd (fun b o n1 _ e=>keep b o (fun q=>n1 (q▸t.mem)) e) (fun _ q=>q) (fun _ q=>.inl q) x.apart (fun o fs p1 p2 p3 p4 p5=>(xi2 o fs ⟨keep a o (Ne.symm t.ne) p1,rfl,rfl,p2,p3,p4,p5⟩)) (fun D o es n _ _ e e2=>keep D o (fun q=>?_) e) fun b hb=>?_
  ·subst q
   obtain rfl:oT=o:=Option.some.inj (t1.symm.trans e)
   rw [t2] at e2;cases e2
  ·by_cases q:b=T
   ·rw [q];exact ⟨_,h3⟩
   ·refine o10 (x.live b hb) fun o e=>?_;exact ⟨o,keep b o q e⟩
 ·exact ⟨t.mem,t.ne,_,_,h3,hd₃,by simp [hsz]⟩
 ·intro F
  refine ⟨(xi2 _ _ rfl),fun b o _ n e=>keep b o (fun q=>n (q▸t.mem)) e,fun b o n e=>⟨o.slots,keep b o (fun q=>n (q▸t.mem)) e⟩,fun b o e=>?_⟩
  by_cases q:b=T
  ·rw [q];exact ⟨_,h3⟩
  ·exact ⟨o,keep b o q e⟩
theorem J9v {Q:Unit→Shared→Prop}(hfr:A.frames=some (env::outer))(hf:env.frame=some L)(hl:FrOk own s.heap (env::outer))(al:Alive own s.heap)(x:ExV own hs s.heap a C tb at_)
  (ht:tb = .none∨∃ T,tb = .ref T∧TbAt hs s.heap T a .none)
  (hq:∀ h' T,ExV own (T::hs) h' a C (.ref T) at_→TbAt (T::hs) h' T a (rawInt L)→Slt (frL (env::outer)) hs s {s with heap:=h'}→s.heap.get? T=none→Q () {s with heap:=h'}) :
  wpAny M A (noteFrame (.ref a) env) Q E s:=by
 skip
 refine o26 x.ob fun oe fs e1 e2 e3 e4 e5 e6 e7=>?_
 skip
 unfold noteFrame
 simp only [hf]
 refine wBn (wpAny_field e1 e3 e6 ?_)
 rcases ht with rfl|⟨T,rfl,t⟩
 ·rw [if_neg (by decide)]
  exact K2k hfr hf hl al x hq
 ·rw [if_pos (show (Value.ref T != Value.none)=true from by simp)]
  skip
  refine o22 t.ob fun oT ts t1 t2 t3=>?_
  skip
  refine wBn (wpAny_field t1 t2 t3 ?_)
  rw [if_neg (show ¬ ((Value.none == rawInt L)=true) from by simp [rawInt])]
  refine wBn (K4n x t fun h1 x1 _ k1=>?_)
  have k1':=k1 (frL (env::outer))
  refine K2k hfr hf (hl.slt k1' x.apart) (fun b hb=>let ⟨o,e⟩:=al b hb;k1'.live b o e) x1 fun h' T' x' t' k' n'=>hq h' T' x' t' (k1'.trans k') ?_
  exact K1w k1'.live n'
theorem J3c {T:Addr}{fl:Value}{Q:Unit→Shared→Prop}(x:ExV own hs s.heap a C (.ref T) at_)(t:TbAt hs s.heap T a fl)
  (hq:∀ h',ExV own hs h' a C (.ref T) at_→TbAt hs h' T a .none→(∀ F,Slt F hs s {s with heap:=h'})→Q () {s with heap:=h'}):wpAny M A (setFlight (.ref a) none) Q E s:=by
 skip
 refine o26 x.ob fun oe fs e1 e2 e3 e4 e5 e6 e7=>?_
 skip
 unfold setFlight
 refine wBn (wpAny_field e1 e3 e6 ?_)
 rw [if_pos (show (Value.ref T != Value.none)=true from by simp)]
 exact K4n x t hq
end
theorem Z0r {w:World}{A:Around}{f:Addr}{fd:FuncData}{body:List Stmt}{ns:List (Str×Bool)}{ys0 ys:List X}{j:Nat}{own:List Addr}{s:Shared}{vs:List Value}{R:Result→Shared→Prop}(S:FnStat f fd body ns)(hr:A.depth<recursionLimit)
  (hj:ys.length+j=ns.length) (hb:∀ A,wpAny (model PW w) A (bindArgs fd ⟨vs,[]⟩) (fun b s'=>s'=s∧∃ us,b=(ns.map (·.1)).zip us∧XAll own s.heap us ys) (fun _ _=>False) s) (C:Cx w own s.heap)
  (k:∀ L s1,Frm (frs (fEnv fd f L)++own) (fEnv fd f L) ns (ys.map some++List.replicate j none) s1.heap→Cx w (frs (fEnv fd f L)++own) s1.heap→Keeps s s1→(∀ b∈frs (fEnv fd f L),s.heap.get? b=none) →
   wpAny (model PW w) (A.deeper (fEnv fd f L)) (execs body (fEnv fd f L)) (fun g s'=>R (.ok (.ret (match g with | .ret v=>v|_=>.none))) s')
    (fun e s'=>wpAny (model PW w) (A.deeper (fEnv fd f L)) (leaving (fEnv fd f L) e) (fun _ s''=>R (.error e) s'') (fun e' s''=>R (.error e') s'') s') s1) :
  codeAny (model PW w) A (.call (.ref f) ⟨vs,[]⟩) R s:=
 K1r (tb:=0) (ys0:=ys0) S hr hj hb (Nat.zero_le _) C fun L s1 F1 C1 k1 hn _ _=>k L s1 F1 C1 k1 hn
theorem K2v {w:World}{A:Around}{f:Addr}{fd:FuncData}{body:List Stmt}{ns:List (Str×Bool)}{ys:List X}{j:Nat}{own:List Addr}{s:Shared}{vs:List Value}{R:Result→Shared→Prop}(S:FnStat f fd body ns)(hr:A.depth<recursionLimit)
  (hj:ys.length+j=ns.length) (hb:bindArgs fd ⟨vs,[]⟩=pure ((ns.map (·.1)).zip vs)) (C:Cx w own s.heap) (hv:XAll own s.heap vs ys)
  (k:∀ L s1,Frm (frs (fEnv fd f L)++own) (fEnv fd f L) ns (ys.map some++List.replicate j none) s1.heap→Cx w (frs (fEnv fd f L)++own) s1.heap→Keeps s s1→(∀ b∈frs (fEnv fd f L),s.heap.get? b=none) →
   wpAny (model PW w) (A.deeper (fEnv fd f L)) (execs body (fEnv fd f L)) (fun g s'=>R (.ok (.ret (match g with | .ret v=>v|_=>.none))) s')
    (fun e s'=>wpAny (model PW w) (A.deeper (fEnv fd f L)) (leaving (fEnv fd f L) e) (fun _ s''=>R (.error e) s'') (fun e' s''=>R (.error e') s'') s') s1) :
  codeAny (model PW w) A (.call (.ref f) ⟨vs,[]⟩) R s:=
 Z0r (ys0:=ys) S hr hj (fun A=>by rw [hb];exact wPu ⟨rfl,vs,rfl,hv⟩) C k
theorem Frm.hs {own own' hs:List Addr}{env ns xs}{h h':Heap}(F:Frm own env ns xs h)(hk:∀ b o,b∉hs→h.get? b=some o→h'.get? b=some o)(fr:∀ b∈frs env,b∉hs)(ha:adrs xs = [])(sub:∀ b∈own,b∈own')
  (hid:Kps (hideAll h own) (hideAll h' own')):Frm own' env ns xs h':=by
 refine ⟨F.st,F.kinds,F.nodup,⟨sub _ F.mine.1,fun n c e=>⟨sub _ (F.mine.2 n c e).1,(F.mine.2 n c e).2⟩⟩,F.apart,F.has,?_⟩
 refine o22 F.vars fun m cm p q V=>?_
 refine xi2 m cm ⟨p.at fun o e=>hk _ o (fr _ (.head _)) e,fun n c e=>?_,?_⟩
 ·refine o11 (q n c e) fun o e1 e2=>?_
  exact ⟨o,hk _ o (fr _ (.tail _ (List.mem_map_of_mem (f:=(·.2)) (mem_of_lookup e)))) e1,e2⟩
 ·clear p q fr
  have go:∀ {ns xs f},adrs xs = []→Vals own h f ns xs→Vals own' h' f ns xs:=by
   intro ns
   induction ns with
   |nil=>intro xs f _ V;cases xs<;>first|trivial|exact V.elim
   |cons p ns ih=>
    intro xs f ha V
    cases xs with
    |nil=>exact V.elim
    |cons x xs=>
     cases x with
     |none=>exact ⟨fun y e=>(by cases e),ih ha V.2⟩
     |some x=>
      have ha':=List.append_eq_nil_iff.mp ha
      refine ⟨fun y e=>?_,ih ha'.2 V.2⟩
      cases e
      refine o11 (V.1 _ rfl) fun v h1 h2=>?_
      exact ⟨v,h1,h2.on (p:=fun b=>b∉hs) hk (fun b hb=>by rw [ha'.1] at hb;cases hb) hid⟩
  exact go ha V
structure MI (w:World)(A:Around)(env:Env)(ns:List (Str×Bool))(xs:List (Option X))(a C:Addr)(ss:List Stmt)(at0 at1:List (Str×PyData)):Prop where
 h:∀ ow hs s,Frm (hs++ow) env ns xs s.heap→Cx w (hs++ow) s.heap→(∀ b∈frs env,b∈ow)→ExS ow hs s.heap a C .none at0→wpAny (model PW w) A (execs ss env) (fun g s'=>g = .next∧∃ hs',Cx w (hs'++ow) s'.heap∧ExS ow hs' s'.heap a C .none at1 ∧
  (∀ b∈hs,b∈hs')∧(∀ b∈hs',b∈hs∨s.heap.get? b=none)∧Slt [] hs s s') (fun _ _=>False) s
theorem ExV.keeps {own hs h h' a C tb at_}(x:ExV own hs h a C tb at_)(k:Kps h h'):ExV own hs h' a C tb at_:=
 x.upd (fun b o _ _ e=>k b o e) (fun _ q=>q) (fun _ q=>.inl q) x.apart (fun o fs e1 e2 e3 e4 e5=>(xi2 o fs ⟨k _ _ e1,rfl,rfl,e2,e3,e4,e5⟩)) (fun D o _ _ _ _ e _=>k _ _ e) fun b hb=>let ⟨o,e⟩:=x.live b hb;⟨o,k _ _ e⟩
theorem ExV.inst {own hs h a C tb at_}(x:ExV own hs h a (.ref C) tb at_):∃ m,h.Inst a C m∧Within m (at_.map (·.1))∧∀ p∈at_,∃ v as,m p.1=some v∧Reads (hideAll h (hs++own)) v p.2 as:=by
 refine o26 x.ob fun o fs h1 h2 h3 h4 h5 h6 h7=>?_
 rcases h7 with ⟨h7,h8⟩|⟨⟨T,q⟩,_⟩|⟨D,m,d1,d2,d3,d4,d5,d6⟩
 rotate_left
 ·exfalso;cases q
 rotate_left
 ·subst h8
  exact ⟨fun _=>none,⟨o,h1,h2,(fun c q=>by rw [h3] at q;cases q),.inl ⟨h7,fun _=>rfl⟩⟩,Within.nil,fun p hp=>nomatch hp⟩
 ·exact ⟨m,⟨o,h1,h2,(fun c q=>by rw [h3] at q;cases q),.inr ⟨D,d1,d3,d4⟩⟩,d5,d6⟩
section
variable {w:World}{A:Around}{env:Env}{ns:List (Str×Bool)}{xs:List (Option X)}{a C:Addr}{at0 at1:List (Str×PyData)}{ss:List Stmt}{e:Expr}{npos apos pos:Pos}
theorem K1l {h h':Heap}{hs hs' ow:List Addr}(hk:∀ b o,b∉hs→h.get? b=some o→h'.get? b=some o)(new:∀ b∈hs',b∈hs∨h.get? b=none):Kps (hideAll h (hs++ow)) (hideAll h' (hs'++ow)):=by
 intro b o e
 have e1:=of_hideAll _ e
 have nb:b∉hs++ow:=fun hb=>by rw [hideAll_none _ hb] at e;cases e
 refine hideAll_get _ (hk b o (fun q=>nb (List.mem_append_left _ q)) e1) fun hm=>?_
 rcases mAp hm with hm|hm
 ·rcases new b hm with q|q
  ·exact nb (List.mem_append_left _ q)
  ·rw [q] at e1;cases e1
 ·exact nb (List.mem_append_right _ hm)
theorem J4e {name:Str}{d:PyData}(Z:∀ P,ExAt (KF P) C)(ht:∀ P,takerIn (KF P) C name=some none)(hn:VE w A env ns xs (.Name "self" npos) (.v (.ref a)))(he:VE w A env ns xs e (.d d))(ha:adrs xs = [])
  (nm:name∉at0.map (·.1)) (hsz:at0.length≤50) (t:MI w A env ns xs a C ss ((name,d)::at0) at1) (hs:swapsWith e (some (.Attribute (.Name "self" npos) name apos)) pos.line env=pure false) :
  MI w A env ns xs a C (.Assign [.Attribute (.Name "self" npos) name apos] e pos::ss) at0 at1:=by
 refine ⟨fun ow hs0 s F Cc fo x=>?_⟩
 refine wpAny_execs_cons (plainObj_wpAny_Assign_Attribute (J0 (he.h _ s F Cc) fun v s1 hv k1=>J0 (hn.h _ s1 (F.keeps (Kee.kps k1)) (Cc.keeps (Kee.kps k1))) fun u s2 hu k2=>?_) hs)
 obtain rfl:u = .ref a:=hu
 have k:=Kee.trans k1 k2
 have kk:=Kee.kps k
 have F2:=F.keeps kk
 have C2:=Cc.keeps kk
 have x2:=x.keeps kk
 refine o10 (hv.keeps (Kee.kps k2)) fun as hv2=>?_
 refine o12 x2.inst fun m I wi rd=>?_
 obtain ⟨hp,g,dr,tk,os⟩:=s2
 refine K8g (Z w.params) C2.glh.K I (ht w.params) (fun h' tk' I' hk hsame=>?_) wi (by simpa using (show at0.length≤100 by lia))
 refine o26 x2.ob fun o fs h1 h2 h3 h4 h5 h6 h7=>?_
 refine o15 (hsame o h1) fun o₁ o1 o2 o3 o4 o5 o6=>?_
 refine o13 I' fun o₂ q1 q2 q3 q4=>?_;clear I'
 obtain rfl:o₁=o₂:=Option.some.inj (o1.symm.trans q1)
 have nofr:∀ b∈frs env,b∉hs0:=fun b hb hm=>x2.apart b hm (fo b hb)
 obtain ⟨D,hD,hDn,hDx,hDm⟩:∃ D,o₁.dict=some D∧(D∈hs0∨hp.get? D=none)∧D≠a∧h'.Ns1 D fun y=>if y=name then some v else m y:=by
  rcases q4 with ⟨q4,q5⟩|⟨D,q4,q5,q6⟩
  ·have:=q5 name;simp at this
  ·refine ⟨D,q4,?_,q5,q6⟩
   rcases h7 with ⟨h7,h8⟩|⟨⟨T,q⟩,_⟩|⟨D',m',d1,d2,d3,d4,d5,d6⟩
   rotate_left
   ·exfalso;cases q
   rotate_left
   ·refine o11 (o6 h7) fun dx e1 e2=>?_
    rw [q4] at e1;cases e1;exact .inr e2
   ·have:=o5 _ d1;rw [q4] at this;cases this;exact .inl d2
 have hkk:∀ b ob,b∉hs0→hp.get? b=some ob→h'.get? b=some ob:=fun b ob n e=>by
  refine hk b ob (fun q=>n (q▸x2.mem)) (fun o₀ dx e1 e2 q=>?_) e
  obtain rfl:o=o₀:=Option.some.inj (h1.symm.trans e1)
  subst q
  rcases hDn with hm|hm
  ·have:=o5 _ e2;rw [hD] at this;cases this;exact n hm
  ·have:=o5 _ e2;rw [hD] at this;cases this;rw [hm] at e;exfalso;cases e
 have new:∀ b∈D::hs0,b∈hs0∨hp.get? b=none:=fun b hb=>by
  rcases mCn hb with rfl|hb
  ·exact hDn
  ·exact .inl hb
 have hid:=K1l (ow:=ow) hkk new
 have apD:∀ b∈D::hs0,b∉ow:=fun b hb=>by
  rcases mCn hb with rfl|hb
  ·rcases hDn with hm|hm
   ·exact x2.apart _ hm
   ·intro q;refine o10 (C2.alive _ (List.mem_append_right _ q)) fun o e=>?_;rw [hm] at e;exfalso;cases e
  ·exact x2.apart _ hb
 have sl:Slt [] hs0 ⟨hp,g,dr,tk,os⟩ ⟨h',g,dr,tk',os⟩:=⟨(xi2 _ _ rfl),fun b ob _ n e=>hkk b ob n e,fun b ob n e=>⟨ob.slots,hkk b ob n e⟩,fun b ob e=>by
  by_cases q:b=a
  ·rw [q];exact ⟨_,o1⟩
  ·by_cases q':b=D
   ·rw [q'];refine o31 hDm fun oD _ _ e _=>?_;clear hDm;exact ⟨_,e⟩
   ·refine ⟨ob,hk b ob q (fun o₀ dx e1 e2 q2=>?_) e⟩
    obtain rfl:o=o₀:=Option.some.inj (h1.symm.trans e1)
    have:=o5 _ e2;rw [hD] at this;cases this;exact q' q2⟩
 have sub:∀ b∈hs0++ow,b∈(D::hs0)++ow:=fun b hb=>List.mem_cons_of_mem _ hb
 have C3:Cx w ((D::hs0)++ow) h':=⟨C2.gl.keeps hid,fun b hb=>by
  rcases mCn hb with rfl|hb
  ·refine o31 hDm fun oD _ _ e _=>?_;clear hDm;exact ⟨_,e⟩
  ·refine o10 (C2.alive b hb) fun o e=>?_;exact sl.live b o e⟩
 have F3:=F2.hs hkk nofr ha sub hid
 have x3:ExS ow (D::hs0) h' a C .none ((name,d)::at0):=by
  refine ⟨(xi2 o₁ fs ⟨q1,q2,o3.trans h3,h4,h5,h6,.inr (.inr (xi2 D _ ⟨hD,.head _,hDx,hDm,Within.cons name v wi,fun p hp=>?_⟩))⟩),.tail _ x2.mem,apD,fun b hb=>C3.alive b (List.mem_append_left _ hb)⟩
  rcases mCn hp with rfl|hp
  ·exact xi2 v as ⟨by simp,Reads.keeps hid hv2⟩
  ·refine o21 (rd p hp) fun v' as' r1 r2=>?_
   have pn:p.1≠name:=fun q=>nm (by rw [← q];exact List.mem_map_of_mem (f:=(·.1)) hp)
   exact xi2 v' as' ⟨(if_neg pn).trans r1,Reads.keeps hid r2⟩
 refine wMo (t.h ow (D::hs0) ⟨h',g,dr,tk',os⟩ F3 C3 fo x3) (fun gg s4 z=>?_) fun _ _ z=>z
 refine o01 z fun z1 r9a=>o14 r9a fun hs' z2 z3 z4 z5 z6=>?_;clear z
 refine ⟨z1,hs',z2,z3,fun b q=>z4 b (.tail _ q),fun b q=>?_,?_⟩
 ·have none0:hp.get? b=none→s.heap.get? b=none:=fun e=>by
   exact J0q kk e
  rcases z5 b q with q|q
  ·rcases mCn q with rfl|q
   ·rcases hDn with r|r
    ·exact .inl r
    ·exact .inr (none0 r)
   ·exact .inl q
  ·refine .inr (none0 ?_)
   cases q':hp.get? b with
   |none=>rfl
   |some o=>refine o10 (sl.live b o q') fun o' e'=>?_;rw [q] at e';exfalso;cases e'
 ·have notD:∀ b o,s.heap.get? b=some o→b∉hs0→b∉D::hs0:=fun b o e n q=>by
   rcases mCn q with rfl|q
   ·rcases hDn with r|r
    ·exact n r
    ·have:=kk b o e;rw [r] at this;exfalso;cases this
   ·exact n q
  refine ⟨?_,fun b o n1 n2 e=>z6.but b o n1 (notD b o e n2) (hkk b o n2 (kk b o e)),fun b o n e=>z6.slt b o (notD b o e n) (hkk b o n (kk b o e)),fun b o e=>?_⟩
  ·exact J3l (Kee.sm k) z6.same
  ·refine o10 (sl.live b o (kk b o e)) fun o' e'=>?_;exact z6.live b o' e'
theorem K6u {ds:List PyData}{k:Nat}{es:List Expr}{tpos:Pos}(Z:∀ P,ExAt (KF P) C)(ht:∀ P,takerIn (KF P) C "args" = some (some (.builtin "BaseException.args")))(hn:VE w A env ns xs (.Name "self" npos) (.v (.ref a)))
  (he:VE w A env ns xs (.Tuple es k tpos) (T ds)) (hs:swapsWith (.Tuple es k tpos) (some (.Attribute (.Name "self" npos) "args" apos)) pos.line env=pure false) :
  MI w A env ns xs a C [.Assign [.Attribute (.Name "self" npos) "args" apos] (.Tuple es k tpos) pos] at0 at0:=by
 refine ⟨fun ow hs0 s F Cc fo x=>?_⟩
 refine wpAny_execs_cons (plainObj_wpAny_Assign_Attribute (J0 (he.h _ s F Cc) fun v s1 hv k1=>J0 (hn.h _ s1 (F.keeps (Kee.kps k1)) (Cc.keeps (Kee.kps k1))) fun u s2 hu k2=>?_) hs)
 obtain rfl:u = .ref a:=hu
 have k:=Kee.trans k1 k2
 have kk:=Kee.kps k
 have F2:=F.keeps kk
 have C2:=Cc.keeps kk
 have x2:=x.keeps kk
 refine o22 (J3m (hv.keeps (Kee.kps k2))) fun tp vs e9a hl hr=>?_;subst e9a
 obtain ⟨o,fs,h1,h2,h3,h4,⟨_,q⟩|⟨t0,h5⟩,h6,h7⟩:=x2.ob
 ·exfalso;cases q
 obtain ⟨hp,g,dr,tk,os⟩:=s2
 refine Z1l (Z w.params) C2.glh.K h1 h2 h3 h5 (ht w.params) hl fun tk'=>?_
 have hd₃:=Obj.data_mapFields h3 (·.setIfInBounds 0 (.ref tp))
 have h3':=Heap.get?_update_self (Obj.mapFields (·.setIfInBounds 0 (.ref tp))) h1 (Obj.isFreed_of_fields hd₃)
 have keep:∀ b ob,b≠a→hp.get? b=some ob→(hp.update a (Obj.mapFields (·.setIfInBounds 0 (.ref tp)))).get? b=some ob:=fun b ob n e=>by rw [Heap.get?_update_other _ _ (Ne.symm n)];exact e
 have hkk:∀ b ob,b∉hs0→hp.get? b=some ob→(hp.update a (Obj.mapFields (·.setIfInBounds 0 (.ref tp)))).get? b=some ob:=fun b ob n e=>keep b ob (fun q=>n (q▸x2.mem)) e
 have sl:Slt [] hs0 ⟨hp,g,dr,tk,os⟩ ⟨hp.update a (Obj.mapFields (·.setIfInBounds 0 (.ref tp))),g,dr,tk',os⟩:=⟨(xi2 _ _ rfl),fun b ob _ n e=>hkk b ob n e,fun b ob n e=>⟨ob.slots,hkk b ob n e⟩,fun b ob e=>by
  by_cases q:b=a
  ·rw [q];exact ⟨_,h3'⟩
  ·exact ⟨ob,keep b ob q e⟩⟩
 have hid:Kps (hideAll hp (hs0++ow)) (hideAll (hp.update a (Obj.mapFields (·.setIfInBounds 0 (.ref tp)))) (hs0++ow)):=K1l hkk fun _ q=>.inl q
 refine wpAny_execs_nil ⟨rfl,hs0,⟨C2.gl.keeps hid,fun b hb=>let ⟨o,e⟩:=C2.alive b hb;sl.live b o e⟩,?_,fun _ q=>q,fun _ q=>.inl q,(Slt.of_keeps k).trans sl⟩
 refine x2.upd (fun b o n1 _ e=>hkk b o n1 e) (fun _ q=>q) (fun _ q=>.inl q) x2.apart (fun o' fs' p1 p2 p3 p4 p5=>?_) (fun D o _ _ m n e _=>keep D o n e) fun b hb=>let ⟨o,e⟩:=x2.live b hb;sl.live b o e
 obtain rfl:o=o':=Option.some.inj (h1.symm.trans p1)
 rw [h3] at p2;cases p2
 refine xi2 _ _ ⟨h3',Obj.cls_mapFields _ _,?_,hd₃,by simpa using h4,(.inr ⟨tp,by simp [show 0<fs.size by lia]⟩),by rw [Array.getElem?_setIfInBounds_ne (by decide)];exact p5⟩
 obtain ⟨_,_,dd,_⟩:=o;cases dd<;>rfl
end
theorem J1q {h:Heap}{l l':List Addr}(e:∀ b,b∈l'→b∈l):Kps (hideAll h l) (hideAll h l'):=J0e (fun _ _ _ e=>e) e
theorem Frm.perm {own own':List Addr}{env ns xs}{h:Heap}(F:Frm own env ns xs h)(e:∀ b,b∈own↔b∈own'):Frm own' env ns xs h:=F.to (fun _ _ q=>q) (J1q fun b q=>(e b).mpr q) fun b q=>(e b).mp q
theorem Cx.perm {w}{own own':List Addr}{h:Heap}(C:Cx w own h)(e:∀ b,b∈own↔b∈own'):Cx w own' h:=⟨C.gl.keeps (J1q fun b q=>(e b).mpr q),fun b q=>C.alive b ((e b).mpr q)⟩
theorem ExV.less {own own' hs h a C tb at_}(x:ExV own hs h a C tb at_)(e:∀ b∈own',b∈own):ExV own' hs h a C tb at_:=by
 refine ab fun Q q9=>?_
 obtain ⟨⟨o,fs,h1,h2,h3,h4,h5,h6,h7⟩,mem,ap,lv⟩:=x
 refine q9 ?_
 refine ⟨(xi2 o fs ⟨h1,h2,h3,h4,h5,h6,h7.imp id (Or.imp id ?_)⟩),mem,fun b q r=>ap b q (e b r),lv⟩
 intro h9
 refine o25 h9 fun D m d1 d2 d3 d4 d5 d6=>?_;clear h9
 skip
 refine xi2 D m ⟨d1,d2,d3,d4,d5,fun p hp=>?_⟩
 skip
 refine o21 (d6 p hp) fun v as r1 r2=>?_
 skip
 exact xi2 v as ⟨r1,Reads.keeps (J1q fun b q=>(mAp q).elim (List.mem_append_left _) fun r=>List.mem_append_right _ (e b r)) r2⟩
theorem XAll.hide {own own':List Addr}{h h':Heap}{vs:List Value}{xs:List X}(k:Kps h h')(hid:Kps (hideAll h own) (hideAll h' own'))(r:XAll own h vs xs):XAll own' h' vs xs:=
 r.map fun v x r=>r.on (p:=fun _=>True) (fun b o _ e=>k b o e) (fun _ _=>trivial) hid
section
variable {w:World}{A:Around}{env:Env}{ns:List (Str×Bool)}{xs:List (Option X)}{C f:Addr}{at1:List (Str×PyData)}{fd:FuncData}{body:List Stmt}{ys:List X}
theorem Z0u (Y:∀ P,ExCls (KF P) C f)(S:FnStat f fd body ns)(hr:A.depth+1<recursionLimit)(hns:ns.length=ys.length+1)(hb:∀ vs:List Value,vs.length=ns.length→bindArgs fd ⟨vs,[]⟩=pure ((ns.map (·.1)).zip vs))(hc:fd.closure = [])
  (mi:∀ A a env L,env=fEnv fd f L→MI w A env ns (some (.v (.ref a))::ys.map some) a C body [] at1) (own:List Addr) (s:Shared) (vs:List Value) (Cc:Cx w own s.heap) (hv:XAll own s.heap vs ys) :
  wpAny (model PW w) A (call (.ref C) vs) (fun v s'=>∃ a hs,v = .ref a∧ExS own hs s'.heap a C .none at1∧(∀ b∈hs,s.heap.get? b=none)∧Keeps s s') (fun _ _=>False) s:=by
 obtain ⟨h,g,d,t,os⟩:=s
 have X:=Cc.glh.K
 refine wpAny_call (Z3n (Y w.params) X ?_)
 have ho1:h.get? h.objs.size=none:=Heap.get?_none_of_le (Nat.le_refl _)
 have ho2:h.get? (h.objs.size+1)=none:=Heap.get?_none_of_le (Nat.le_succ _)
 have hx:((h.push J6f).push (J4x C h.objs.size)).get? (h.objs.size+1)=some (J4x C h.objs.size):=by heap_get
 have k:Kps h ((h.push J6f).push (J4x C h.objs.size)):=fun b o e=>Heap.get?_push_of_some _ (Heap.get?_push_of_some _ e)
 have hid:Kps (hideAll h own) (hideAll ((h.push J6f).push (J4x C h.objs.size)) ([h.objs.size+1]++own)):=by
  intro b o e
  have e1:=of_hideAll _ e
  have nb:b∉own:=fun hb=>by rw [hideAll_none _ hb] at e;cases e
  refine hideAll_get _ (k b o e1) fun hm=>?_
  rcases mCn hm with rfl|hm
  ·rw [ho2] at e1;cases e1
  ·exact nb hm
 have na:h.objs.size+1∉own:=Cc.fresh ho2
 have C2:Cx w ([h.objs.size+1]++own) ((h.push J6f).push (J4x C h.objs.size)):=⟨Cc.gl.keeps hid,fun b hb=>by
  rcases mCn hb with rfl|hb
  ·exact ⟨_,hx⟩
  ·refine o10 (Cc.alive b hb) fun o e=>?_;exact ⟨o,k _ _ e⟩⟩
 have hv2:XAll ([h.objs.size+1]++own) ((h.push J6f).push (J4x C h.objs.size)) (.ref (h.objs.size+1)::vs) (.v (.ref (h.objs.size+1))::ys):=.cons rfl (hv.hide k hid)
 refine K2v (j:=0) (ys:=.v (.ref (h.objs.size+1))::ys) S (by show A.depth+1<recursionLimit;exact hr) (by rw [hns];rfl) (hb _ (by rw [hns,hv2.length];rfl)) C2 hv2 fun L s1 F1 C1 K1 hn1=>?_
 have kk:=Kee.kps K1
 have frn:∀ b∈frs (fEnv fd f L),b≠h.objs.size+1∧b∉own:=fun b hb=>⟨fun q=>(by have z:=hn1 b hb;rw [q] at z;exact absurd (hx.symm.trans z) (by simp)),fun q=>(by
  refine o10 (Cc.alive b q) fun o e=>?_
  exact absurd ((k _ _ e).symm.trans (hn1 b hb)) (by simp))⟩
 have pm:∀ b,b∈frs (fEnv fd f L)++([h.objs.size+1]++own)↔b∈[h.objs.size+1]++(frs (fEnv fd f L)++own):=fun b=>by simp only [List.mem_append,List.mem_cons,List.not_mem_nil,or_false];exact or_left_comm
 have x1:ExS (frs (fEnv fd f L)++own) [h.objs.size+1] s1.heap (h.objs.size+1) C .none []:=by
  have lv:∀ b∈[h.objs.size+1],∃ o,s1.heap.get? b=some o:=fun b hb=>by
   obtain rfl:b=h.objs.size+1:=by simpa using hb
   exact ⟨_,kk _ _ hx⟩
  refine ⟨(xi2 _ _ ⟨kk _ _ hx,rfl,rfl,(by show 1<Array.size _;simp;exact by decide),.inr ⟨_,rfl⟩,rfl,.inl ⟨rfl,rfl⟩⟩),.head _,fun b hb=>?_,lv⟩
  obtain rfl:b=h.objs.size+1:=by simpa using hb
  intro q
  rcases mAp q with q|q
  ·exact (frn _ q).1 rfl
  ·exact na q
 have F1':Frm ([h.objs.size+1]++(frs (fEnv fd f L)++own)) (fEnv fd f L) ns (some (.v (.ref (h.objs.size+1)))::ys.map some) s1.heap:=by
  have:=F1.perm pm
  simpa using this
 refine wMo ((mi _ _ _ L rfl).h _ _ s1 F1' (C1.perm pm) (fun b hb=>List.mem_append_left _ hb) x1) (fun gg s2 z=>?_) fun _ _ z=>z.elim
 refine ab fun Q q9=>?_
 refine o01 z fun e9a r9a=>o14 r9a fun hs' z2 z3 z4 z5 z6=>?_;subst e9a;clear z
 refine o21 K1 fun h1 t1 e9a _=>?_;subst e9a;clear K1
 refine o20 z6.same fun h2 t2 e9a=>?_;subst e9a
 refine q9 ?_
 refine ⟨rfl,h.objs.size+1,hs',rfl,z3.less fun b q=>List.mem_append_right _ q,fun b hb=>?_,h2,t2,rfl,fun b o e=>?_⟩
 ·rcases z5 b hb with q|q
  ·obtain rfl:b=h.objs.size+1:=by simpa using q
   exact ho2
  ·cases q':h.get? b with
   |none=>rfl
   |some o=>have:=kk b o (k b o q');rw [q] at this;cases this
 ·have ne:b∉[h.objs.size+1]:=fun q=>by
   obtain rfl:b=h.objs.size+1:=by simpa using q
   rw [ho2] at e;cases e
  exact z6.but b o (by simp) ne (kk b o (k b o e))
theorem Z0e {s:Shared}{x:Sem Value}{own hs:List Addr}{a:Addr}{at_:List (Str×PyData)}{E:Value→Shared→Prop}{Q:Flow→Shared→Prop}(Y:∀ P,ExCls (KF P) C f)(Z:∀ P,ExAt (KF P) C)(hT:∀ P,typeIn (KF P) (.ref C)=some (.type "type"))(hh:A.handled=none)
  (h:wpAny (model PW w) A x (fun v s₁=>∃ a hs own,v = .ref a∧(KF w.params).In s₁.heap∧ExS own hs s₁.heap a C .none at_∧E (.ref a) s₁) E s):wpAny (model PW w) A (raiseStmt env (some x) none) Q E s:=by
 unfold raiseStmt
 refine wBn (wMo h (fun v s₁ h₁=>?_) fun _ _ x=>x)
 skip
 refine o33 h₁ fun a hs own e9a X x hE=>?_;subst e9a;clear h₁
 refine o26 x.ob fun o fs h1 h2 h3 h4 h5 h6 h7=>?_
 obtain ⟨hp,g,d,tk,os⟩:=s₁
 skip
 have ty:Looks (model PW w) hp (typeOf (.ref a)) (.ref C):=h2▸(Looks.ld h1).andThen .now
 have bas:Looks (model PW w) hp (isInstance (.ref a) (.type "BaseException")) true:=ty.andThen (looks_subIn X (Z w.params).bas)
 have tty:=looks_typeIn (M:=model PW w) X (hT w.params)
 have nt:Looks (model PW w) hp (isType (.ref a)) false:=by
  unfold isType
  refine (Looks.ld h1).andThen ?_
  rw [h3]
  exact .now
 unfold excFromValue isExcClass raisedInstance
 repeat lk
 rw [h3]
 refine wPu ?_
 rw [h6]
 exact wPu (wPu (wpAny_raiseNew_none hh hE))
end
section
variable {w:World}{A:Around}
theorem Z5m {d1 d2 d3:PyData}(hr:Rm 1 A)(own:List Addr)(s:Shared)(vs:List Value)(Cc:Cx w own s.heap)(hv:XAll own s.heap vs [.d d1,.d d2,.d d3]) :
  wpAny (model PW w) A (call (.ref 189) vs) (fun v s'=>∃ a hs,v = .ref a∧ExS own hs s'.heap a 189 .none [("sender",d3),("smtp_error",d2),("smtp_code",d1)]∧(∀ b∈hs,s.heap.get? b=none)∧Keeps s s') (fun _ _=>False) s:=by
 refine Z0u Z5g (ns:=[("self",false),("code",false),("msg",false),("sender",false)]) ⟨fun _=>(xi3 _ _ _ rfl),fun _=>rfl,rfl,⟨rfl,rfl,rfl,rfl,rfl,rfl⟩,by decide,by decide,by decide⟩
  (by have:=hr.dp;simp only [recursionLimit];lia) rfl ((vs4 fun _ _ _ _=>rfl)) rfl ?_ own s vs Cc hv
 intro A a env L he
 refine J4e J8p (fun _=>rfl) (d:=d1) ?_ ?_ rfl (by simp) (by simp) ?_ (by rfl)
 ·repeat' x_close
 ·repeat' x_close
 refine J4e J8p (fun _=>rfl) (d:=d2) ?_ ?_ rfl (by simp;decide) (by simp) ?_ (by rfl)
 ·repeat' x_close
 ·repeat' x_close
 refine J4e J8p (fun _=>rfl) (d:=d3) ?_ ?_ rfl (by simp;decide) (by simp) ?_ (by rfl)
 ·repeat' x_close
 ·repeat' x_close
 refine K6u (ds:=[d1,d2,d3]) J8p Z8y ?_ ?_ (by rfl)
 ·repeat' x_close
 ·repeat' x_close
theorem Z7l {d1 d2:PyData}(hr:Rm 1 A)(own:List Addr)(s:Shared)(vs:List Value)(Cc:Cx w own s.heap)(hv:XAll own s.heap vs [.d d1,.d d2]) :
  wpAny (model PW w) A (call (.ref 201) vs) (fun v s'=>∃ a hs,v = .ref a∧ExS own hs s'.heap a 201 .none [("smtp_error",d2),("smtp_code",d1)]∧(∀ b∈hs,s.heap.get? b=none)∧Keeps s s') (fun _ _=>False) s:=by
 refine Z0u Z5e (ns:=[("self",false),("code",false),("msg",false)]) ⟨fun _=>(xi3 _ _ _ rfl),fun _=>rfl,rfl,⟨rfl,rfl,rfl,rfl,rfl,rfl⟩,by decide,by decide,by decide⟩
  (by have:=hr.dp;simp only [recursionLimit];lia) rfl ((vs3 fun _ _ _=>rfl)) rfl ?_ own s vs Cc hv
 intro A a env L he
 refine J4e K2z (fun _=>rfl) (d:=d1) ?_ ?_ rfl (by simp) (by simp) ?_ (by rfl)
 ·repeat' x_close
 ·repeat' x_close
 refine J4e K2z (fun _=>rfl) (d:=d2) ?_ ?_ rfl (by simp;decide) (by simp) ?_ (by rfl)
 ·repeat' x_close
 ·repeat' x_close
 refine K6u (ds:=[d1,d2]) K2z Z9x ?_ ?_ (by rfl)
 ·repeat' x_close
 ·repeat' x_close
end
structure VR (w:World)(A:Around)(env:Env)(ns:List (Str×Bool))(xs:List (Option X))(ss:List Stmt)(C:Addr)(at_:List (Str×PyData)):Prop where
 h:∀ own s,Frm own env ns xs s.heap→Cx w own s.heap→wpAny (model PW w) A (execs ss env) (fun _ _=>False) (fun e s'=>∃ a hs xs',e = .ref a∧ExS own hs s'.heap a C .none at_∧(∀ b∈hs,s.heap.get? b=none)∧Frm own env ns xs' s'.heap∧Chg own env s s') s
structure VR1 (w:World)(A:Around)(env:Env)(ns:List (Str×Bool))(xs:List (Option X))(st:Stmt)(C:Addr)(at_:List (Str×PyData)):Prop where
 h:∀ own s,Frm own env ns xs s.heap→Cx w own s.heap→wpAny (model PW w) A (exec st env) (fun _ _=>False) (fun e s'=>∃ a hs xs',e = .ref a∧ExS own hs s'.heap a C .none at_∧(∀ b∈hs,s.heap.get? b=none)∧Frm own env ns xs' s'.heap∧Chg own env s s') s
section
variable {w:World}{A:Around}{env:Env}{ns:List (Str×Bool)}{xs xs':List (Option X)}{st:Stmt}{ss tt:List Stmt}{C:Addr}{at_:List (Str×PyData)}{e:Expr}{b:Bool}{pos npos cpos:Pos}{es:List Expr}{ys:List X}{x:Str}
theorem K1h {own:List Addr}{s s':Shared}{ns xs'}(k:Chg own env s s')(F:Frm own env ns xs' s'.heap){b:Addr}(e:s'.heap.get? b=none):s.heap.get? b=none:=by
 cases q:s.heap.get? b with
 |none=>rfl
 |some o=>
  by_cases m:b∈frs env
  ·refine o11 (F.notF b m) fun o' e' _=>?_;rw [e] at e';cases e'
  ·rw [k.sto.but b o m q] at e;cases e
theorem J7v (h:VR1 w A env ns xs st C at_):VR w A env ns xs (st::ss) C at_:=⟨fun own s F Cc=>wpAny_execs_cons (wMo (h.h own s F Cc) (fun _ _ q=>q.elim) fun _ _ q=>q)⟩
theorem J7e (h:VS w A env ns xs st .next xs')(t:VR w A env ns xs' ss C at_):VR w A env ns xs (st::ss) C at_:=by
 refine ⟨fun own s F Cc=>wpAny_execs_cons (wMo (h.h own s F Cc) (fun g s1 q=>?_) fun _ _ q=>q.elim)⟩
 refine o02 q fun q1 q2 q3=>?_;clear q
 cases g with
 |next=>exact wMo (t.h own s1 q2 (q3.sto.cx Cc)) (fun _ _ z=>z) fun e s2 ⟨a,hs,x',z1,z2,z3,z4,z5⟩=>⟨a,hs,x',z1,z2,fun b hb=>K1h q3 q2 (z3 b hb),z4,q3.trans z5⟩
 |_=>exact q1.elim
theorem Z0q (ht:VT w A env ns xs e true)(h:VR w A env ns xs ss C at_):VR1 w A env ns xs (.If e ss tt pos) C at_:=by
 refine ⟨fun own s F Cc=>wpAny_If (J0s (ht.h own s F Cc) fun s1 k=>?_)⟩
 have kk:=Kee.kps k
 refine wMo (h.h own s1 (F.keeps kk) (Cc.keeps kk)) (fun _ _ z=>z) fun e s2 ⟨a,hs,x',z1,z2,z3,z4,z5⟩=>⟨a,hs,x',z1,z2,fun b hb=>?_,z4,(Chg.of_keeps k).trans z5⟩
 exact J0q kk (z3 b hb)
theorem K5u {K:Frag}{f:Addr}{h:Heap}(Y:ExCls K C f)(X:K.In h):Looks (model PW w) h (keeperOf (.ref C)) .machine:=by
 obtain ⟨⟨oc,od,cd,sl,hC,e2,e4⟩,made,base,self⟩:=K3 (M:=model PW w) X Y.mka
 have call:=looks_specialIn (M:=model PW w) X Y.call
 intro A Q E s k q
 obtain ⟨hp,g,d,t,os⟩:=s
 have hC':hp.get? C=some _:=k _ _ hC
 have call':=call.keeps k
 have fin:∀ (x:Value),x = .builtin "type.__call__"→True:=fun _ _=>trivial
 unfold keeperOf
 repeat lk
 exact q
theorem K2f {f:Addr}(Y:∀ P,ExCls (KF P) C f)(Z:∀ P,ExAt (KF P) C)(hT:∀ P,typeIn (KF P) (.ref C)=some (.type "type"))(hh:A.handled=none)(hn:VE w A env ns xs (.Name x npos) (.v (.ref C)))(ha:VG w A env ns xs es ys)
  (mk:∀ own s vs,Cx w own s.heap→XAll own s.heap vs ys→wpAny (model PW w) A (call (.ref C) vs) (fun v s'=>∃ a hs,v = .ref a∧ExS own hs s'.heap a C .none at_∧(∀ b∈hs,s.heap.get? b=none)∧Keeps s s') (fun _ _=>False) s) :
  VR1 w A env ns xs (.Raise (some (.Call (.Name x npos) es [] cpos)) none pos) C at_:=by
 refine ⟨fun own s F Cc=>?_⟩
 rw [arm_exec_Raise]
 simp only [evalOpt,Option.map]
 refine wBn (wpAny_standAt (Z0e (own:=own) (hs:=[]) (a:=0) (at_:=at_) Y Z hT hh (wBn (wMo (wpAny_Call_ofName (J0 (hn.h own s F Cc) fun v s1 hv k1=>?_)) (fun v s₃ h₃=>wBn (wpAny_standAt (wPu h₃))) fun _ _ x=>x))))
 obtain rfl:v = .ref C:=hv
 have F1:=F.keeps (Kee.kps k1)
 have C1:=Cc.keeps (Kee.kps k1)
 unfold callWith
 refine wBn (wpAny_holding (wMo (ha.h.2 _ own s1 F1 C1 cpos) (fun a s₂ h₂=>wBn (wpAny_standAt ?_)) fun _ _ x=>x.elim))
 obtain ⟨apos,akw⟩:=a
 refine o02 h₂ fun hkw hx k2=>?_;clear h₂
 obtain rfl:akw = []:=hkw
 have k12:=Kee.trans k1 k2
 have C2:=C1.keeps (Kee.kps k2)
 have F2:=F1.keeps (Kee.kps k2)
 have hplain:=ha.h.1 cpos
 have hplain2:(backToKw cpos (keywordEach [] env)).any (·.1.isNone)=false:=rfl
 simp only [hplain,hplain2]
 refine wBn ((K5u (Y w.params) C2.glh.K) A _ _ s₂ (fun _ _ e=>e) ?_)
 refine wBn (wMo (mk own s₂ apos C2 hx) (fun v s3 q=>?_) fun _ _ q=>q.elim)
 refine o23 q fun a hs e9a x3 hf k3=>?_;subst e9a;clear q
 have k:=Kee.trans k12 k3
 refine wBn (wpAny_holding (wpAny_point (wPu (xi3 a hs own ⟨rfl,(C2.keeps (Kee.kps k3)).glh.K,x3,a,hs,xs,rfl,x3,fun b hb=>?_,F2.keeps (Kee.kps k3),Chg.of_keeps k⟩))))
 exact J0q (Kee.kps k12) (hf b hb)
end
section
variable {w:World}{A:Around}{C f:Addr}{at_:List (Str×PyData)}{outer:List Env}
theorem K3i {fd:FuncData}{body:List Stmt}{ns:List (Str×Bool)}{ys:List X}{j:Nat}(S:FnStat f fd body ns)(hr:A.depth<recursionLimit)(hA:A.frames=some outer)
  (hj:ys.length+j=ns.length) (hb:∀ vs:List Value,vs.length=ys.length→bindArgs fd ⟨vs,[]⟩=pure ((ns.map (·.1)).zip vs))
  (h:∀ env L,env=fEnv fd f L→VR w (A.deeper env) env ns (ys.map some++List.replicate j none) body C at_) (own:List Addr) (s:Shared) (vs:List Value) (fo:FrOk own s.heap outer) (Cc:Cx w own s.heap) (hv:XAll own s.heap vs ys) :
  wpAny (model PW w) A (call (.ref f) vs) (fun _ _=>False) (fun e s'=>∃ a hs T,e = .ref a∧ExS own hs s'.heap a C (.ref T) at_∧TbAt hs s'.heap T a .none∧(∀ b∈hs,s.heap.get? b=none)∧Slt (frL outer) [] s s') s:=by
 refine wpAny_call (K2v S hr hj (hb vs hv.length) Cc hv fun L s1 F1 C1 K1 hn1=>wMo ((h _ L rfl).h _ s1 F1 C1) (fun _ _ q=>q.elim) fun e s2 q=>?_)
 refine o34 q fun a hs xs' e9a x2 hf2 F2 ch=>?_;subst e9a;clear q
 have kk:=Kee.kps K1
 have nfr:∀ b o,s.heap.get? b=some o→b∉frs (fEnv fd f L):=fun b o e m=>by have:=hn1 b m;rw [e] at this;cases this
 have s12:∀ b o,s.heap.get? b=some o→s2.heap.get? b=some o:=fun b o e=>ch.sto.but b o (nfr b o e) (kk b o e)
 have none2:∀ b,s2.heap.get? b=none→s.heap.get? b=none:=fun b e=>by
  exact J0q s12 e
 have C2:=ch.sto.cx C1
 have fo2:FrOk (frs (fEnv fd f L)++own) s2.heap (fEnv fd f L::outer):=by
  refine o11 (F2.notF L (.head _)) fun o e q=>?_
  exact ⟨by show fd.scope.kind≠_;rw [S.flat.2.2.1];decide,(xi2 L o ⟨rfl,List.mem_append_left _ (.head _),e,q.2⟩),fo.to (fun b q=>List.mem_append_right _ q) fun b o _ e _=>⟨o,s12 b o e,rfl⟩⟩
 have hs0:∀ b∈hs,s.heap.get? b=none:=fun b hb=>by
  exact J0q kk (hf2 b hb)
 unfold leaving
 refine wBn (J9v (A:=A.deeper (fEnv fd f L)) (Around.frames_deeper hA) rfl fo2 C2.alive x2 (.inl rfl) fun h3 T x3 t3 k3 n3=>?_)
 refine J3c (s:={s2 with heap:=h3}) x3 t3 fun h4 x4 t4 k4=>?_
 have hsT:∀ b∈T::hs,s.heap.get? b=none:=fun b hb=>by
  rcases mCn hb with rfl|hb
  ·exact none2 _ n3
  ·exact hs0 b hb
 refine xi3 a (T::hs) T ⟨rfl,x4.less fun b q=>List.mem_append_right _ q,t4,hsT,?_,fun b o n1 _ e=>?_,fun b o _ e=>?_,fun b o e=>?_⟩
 ·exact J3l (Kee.sm K1) (J3l ch.same (xi2 _ _ rfl))
 ·have nh:b∉T::hs:=fun m=>by have:=hsT b m;rw [e] at this;cases this
  refine (k4 []).but b o (by simp) nh (k3.but b o (fun m=>?_) (fun m=>nh (.tail _ m)) (s12 b o e))
  rcases mCn m with rfl|m
  ·exact nfr _ o e (.head _)
  ·exact n1 m
 ·have nh:b∉T::hs:=fun m=>by have:=hsT b m;rw [e] at this;cases this
  refine o10 (k3.slt b o (fun m=>nh (.tail _ m)) (s12 b o e)) fun sl e3=>?_
  exact ⟨sl,(k4 []).but b _ (by simp) nh e3⟩
 ·have nh:b∉T::hs:=fun m=>by have:=hsT b m;rw [e] at this;cases this
  refine o10 (k3.slt b o (fun m=>nh (.tail _ m)) (s12 b o e)) fun sl e3=>?_
  exact ⟨_,(k4 []).but b _ (by simp) nh e3⟩
def ExP (C:Addr)(at_:List (Str×PyData))(h:Heap)(v:Value):Prop:=∃ a o D m fs,v = .ref a∧h.get? a=some o∧o.cls = .ref C∧o.data = .fields fs∧o.dict=some D∧h.Ns D m∧∀ p∈at_,∃ v as,m p.1=some v∧Reads h v p.2 as
theorem ExP.st {C at_}:∀ h h' v,Kps h h'→ExP C at_ h v→ExP C at_ h' v:=fun h h' v k ⟨a,o,D,m,fs,e,h1,h2,h3,h4,h5,h6⟩=>
 ⟨a,o,D,m,fs,e,k _ _ h1,h2,h3,h4,h5.at fun o e=>k _ _ e,fun p hp=>let ⟨v,as,r1,r2⟩:=h6 p hp;⟨v,as,r1,Reads.keeps k r2⟩⟩
theorem ExV.p {own hs h a tb}(x:ExV own hs h a (.ref C) tb at_)(hne:at_≠[]):XIn own h (.ref a) (.p (ExP C at_)):=by
 refine ⟨ExP.st,?_⟩
 skip
 refine o26 x.ob fun o fs h1 h2 h3 h4 h5 h6 h7=>?_
 skip
 rcases h7 with ⟨_,h8⟩|⟨_,h8⟩|⟨D,m,d1,d2,d3,d4,d5,d6⟩
 ·exact (hne h8).elim
 ·exact (hne h8).elim
 ·refine xi5 a o D m fs ⟨rfl,hideAll_get _ h1 (x.apart _ x.mem),h2,h3,d1,d4.ns.at fun o e=>hideAll_get _ e (x.apart _ d2),fun p hp=>?_⟩
  refine o21 (d6 p hp) fun v as r1 r2=>?_
  exact xi2 v as ⟨r1,Reads.keeps (J1q fun b q=>List.mem_append_right _ q) r2⟩
theorem J4a {env:Env}{ns:List (Str×Bool)}{xs:List (Option X)}{n name:Str}{d:PyData}{npos pos:Pos}(Z:∀ P,ExAt (KF P) C)(hf:∀ P,findIn (KF P) (.ref C) name=some none)(hn:VE w A env ns xs (.Name n npos) (.p (ExP C at_)))(hm:(name,d)∈at_) :
  VE w A env ns xs (.Attribute (.Name n npos) name pos) (.d d):=by
 refine ⟨fun own s F Cc=>PyProof.Rows.Attribute_name (J0 (hn.h own s F Cc) fun v s1 hv k1=>?_)⟩
 have C1:=Cc.keeps (Kee.kps k1)
 refine o01 hv fun _ r9a=>o56 r9a fun a o D m fs e9a h1 h2 h3 h4 h5 h6=>?_;subst e9a;clear hv
 refine o21 (h6 _ hm) fun v as r1 r2=>?_
 have e1:=of_hideAll _ h1
 obtain ⟨hp,g,d,t,os⟩:=s1
 refine Z8 (Z w.params) C1.glh.K e1 h2 (fun c q=>by rw [h3] at q;cases q) h4 (h5.at fun o e=>of_hideAll _ e) (hf w.params) r1 ?_ ⟨⟨as,r2⟩,Kee.trans k1 (xi2 hp (t+1) ⟨rfl,fun _ _ q=>q⟩)⟩
 cases r2<;>rfl
structure ExHit (K:Frag)(C C':Addr)(b:Bool):Prop where
 mka:Z8v K C' "OSError.__new__" = true
 nt:instIn K (.ref C') (.type "tuple")=some false
 bas:subIn K (.ref C') (.type "BaseException")=some true
 hit:mroIn K C (.ref C')=some b
theorem K2b {own hs a tb h b C'}(Y:ExHit (KF w.params) C C' b)(X:(KF w.params).In h)(x:ExS own hs h a C tb at_):Looks (model PW w) h (excMatches (.ref a) (.ref C')) b:=by
 refine ab fun Q q9=>?_
 obtain ⟨⟨oc,od,cd,sl,hC,e2,e4⟩,made,base,self⟩:=K3 (M:=model PW w) X Y.1
 refine o26 x.ob fun o fs h1 h2 h3 h4 h5 h6 h7=>?_
 refine q9 ?_
 have ty:Looks (model PW w) h (typeOf (.ref a)) (.ref C):=h2▸(Looks.ld h1).andThen .now
 have nt:=looks_instIn (M:=model PW w) X Y.nt
 have bas:=looks_subIn (M:=model PW w) X Y.bas
 have hit:=looks_mroIn (M:=model PW w) X Y.hit
 have ist:Looks (model PW w) h (isType (.ref C')) true:=by
  unfold isType
  exact (Looks.ld hC).andThen .now
 intro A Q E s k q
 obtain ⟨hp,g,d,t,os⟩:=s
 have nt':=nt.keeps k
 have bas':=bas.keeps k
 have hit':=hit.keeps k
 have ist':=ist.keeps k
 have ty':=ty.keeps k
 unfold excMatches isExcClass
 repeat lk
 cases b
 ·exact wPu (wPu (wPu q))
 ·exact wPu (wPu (wPu q))
theorem Z6q (P:Params):ExHit (KF P) 189 189 true:=⟨rfl,rfl,rfl,rfl⟩
theorem Z5x (P:Params):ExHit (KF P) 201 189 false:=⟨rfl,rfl,rfl,rfl⟩
theorem Z8c (P:Params):ExHit (KF P) 201 201 true:=⟨rfl,rfl,rfl,rfl⟩
section
variable {env:Env}{ns:List (Str×Bool)}{xs xs':List (Option X)}{own hs:List Addr}{a T C':Addr}{s:Shared}{t:Expr}{n:Option Str}{body:List Stmt}{pos:Pos}{rest:List ExceptHandler}{Q:Flow→Shared→Prop}
theorem Vals.onS {own own':List Addr}{h h':Heap}{hs:List Addr}{f:Str→Bool→Option Value}(hk:∀ b o,b∉hs→h.get? b=some o→h'.get? b=some o)(hid:Kps (hideAll h own) (hideAll h' own')):∀ {ns xs},(∀ b∈adrs xs,b∉hs)→Vals own h f ns xs→Vals own' h' f ns xs
 |[],[],_,_=>trivial
 |[],_::_,_,V=>V.elim
 |_::_,[],_,V=>V.elim
 |p::ns,none::xs,ha,V=>⟨fun y e=>(by cases e),Vals.onS hk hid ha V.2⟩
 |p::ns,some x::xs,ha,V=>⟨fun y e=>(by
   cases e
   refine o11 (V.1 _ rfl) fun v h1 h2=>?_
   exact ⟨v,h1,h2.on (p:=fun b=>b∉hs) hk (fun b hb=>ha b (List.mem_append_left _ hb)) hid⟩),Vals.onS hk hid (fun b hb=>ha b (List.mem_append_right _ hb)) V.2⟩
theorem K0l {own2:List Addr}(Y:∀ P,ExHit (KF P) C C' false)(F:Frm own env ns xs s.heap)(Cc:Cx w own s.heap)(x:ExS own2 hs s.heap a C (.ref T) at_)(ht:TbAt hs s.heap T a .none)(hn:VE w (A.mark (some (.ref a))) env ns xs t (.v (.ref C')))
  (h:∀ s',Frm own env ns xs s'.heap→Cx w own s'.heap→ExS own2 hs s'.heap a C (.ref T) at_→TbAt hs s'.heap T a .none→Keeps s s'→wpAny (model PW w) A (handleBy (.ref a) env rest) Q (fun _ _=>False) s') :
  wpAny (model PW w) A (handleBy (.ref a) env (.ExceptHandler (some t) n body pos::rest)) Q (fun _ _=>False) s:=by
 refine wpAny_handleBy_cons (codeAny_handlers_test (J0 (hn.h own s F Cc) fun v s1 hv k1=>?_)) (by intro q;cases q)
 obtain rfl:v = .ref C':=hv
 have kk:=Kee.kps k1
 have C1:=Cc.keeps kk
 have x1:=x.keeps kk
 refine K2b (Y w.params) C1.glh.K x1 _ _ _ s1 (fun _ _ e=>e) ?_
 exact h s1 (F.keeps kk) C1 x1 ⟨ht.mem,ht.ne,let ⟨o,ts,e,r⟩:=ht.ob;⟨o,ts,kk _ _ e,r⟩⟩ k1
theorem Frm.hs2 {own':List Addr}{h h':Heap}(F:Frm own env ns xs h)(hk:∀ b o,b∉hs→h.get? b=some o→h'.get? b=some o)(fr:∀ b∈frs env,b∉hs)(ha:∀ b∈adrs xs,b∉hs)(sub:∀ b∈own,b∈own')
  (hid:Kps (hideAll h own) (hideAll h' own')):Frm own' env ns xs h':=by
 refine ⟨F.st,F.kinds,F.nodup,⟨sub _ F.mine.1,fun n c e=>⟨sub _ (F.mine.2 n c e).1,(F.mine.2 n c e).2⟩⟩,F.apart,F.has,?_⟩
 skip
 refine o22 F.vars fun m cm p q V=>?_
 skip
 refine xi2 m cm ⟨p.at fun o e=>hk _ o (fr _ (.head _)) e,fun n c e=>?_,?_⟩
 ·refine o11 (q n c e) fun o e1 e2=>?_
  exact ⟨o,hk _ o (fr _ (.tail _ (List.mem_map_of_mem (f:=(·.2)) (mem_of_lookup e)))) e1,e2⟩
 ·exact Vals.onS hk hid ha V
theorem Frm.unhide {own':List Addr}{h:Heap}(F:Frm own env ns xs h)(sub:∀ b∈own',b∈own)(fr:∀ b∈frs env,b∈own'):Frm own' env ns xs h:=by
 refine ⟨F.st,F.kinds,F.nodup,⟨fr _ (.head _),fun n c e=>⟨fr _ (.tail _ (List.mem_map_of_mem (f:=(·.2)) (mem_of_lookup e))),(F.mine.2 n c e).2⟩⟩,F.apart,F.has,?_⟩
 skip
 refine o22 F.vars fun m cm p q V=>?_
 skip
 exact xi2 m cm ⟨p,q,V.mono (fun _ _ r=>r.unhide sub) fun _ _=>rfl⟩
theorem J6q {m:Str}{b₀:Stmt}{suite:List Stmt}{z:X}{xs2:List (Option X)}(Y:∀ P,ExHit (KF P) C C' true)(hne:at_≠[])(F:Frm (hs++own) env ns xs s.heap)(Cc:Cx w (hs++own) s.heap)(fo:∀ b∈frs env,b∈own)(hax:∀ b∈adrs xs,b∉hs)(x:ExS own hs s.heap a C (.ref T) at_)(ht:TbAt hs s.heap T a .none)(hn:VE w (A.mark (some (.ref a))) env ns xs t (.v (.ref C')))
  (hp:Put ns xs m false (some (.p (ExP C at_))) xs') (hs_:VX w (A.mark (some (.ref a))) env ns xs' (b₀::suite) (.ret z) xs2)
  (h:∀ v s',XIn own s'.heap v z→Slt [] (hs++frs env) s s'→Q (.ret v) s') (hmp:(env.scope.kind == .class || (env.scope.kind == .module && env.locals != env.globals))=false) :
  wpAny (model PW w) A (handleBy (.ref a) env (.ExceptHandler (some t) (some m) (b₀::suite) pos::rest)) Q (fun _ _=>False) s:=by
 refine wpAny_handleBy_cons (codeAny_handlers_test (J0 (hn.h _ s F Cc) fun v s1 hv k1=>?_)) (by intro q;cases q)
 obtain rfl:v = .ref C':=hv
 have kk:=Kee.kps k1
 have C1:=Cc.keeps kk
 have x1:=x.keeps kk
 have F1:=F.keeps kk
 refine K2b (Y w.params) C1.glh.K x1 _ _ _ s1 (fun _ _ e=>e) ?_
 refine codeAny_handlers_suite_as (J3c (s:=s1) x1 ⟨ht.mem,ht.ne,let ⟨o,ts,e,r⟩:=ht.ob;⟨o,ts,kk _ _ e,r⟩⟩ fun h2 x2 t2 k2=>?_)
 have k2':=k2 []
 have hk2:∀ b o,b∉hs→s1.heap.get? b=some o→h2.get? b=some o:=fun b o n e=>k2'.but b o (by simp) n e
 have hid2:=K1l (ow:=own) (hs':=hs) hk2 fun _ q=>.inl q
 have F2:Frm own env ns xs h2:=(F1.hs2 hk2 (fun b hb q=>x1.apart b q (fo b hb)) hax (fun _ q=>q) hid2).unhide (fun b q=>List.mem_append_right _ q) fo
 have C2:Cx w own h2:=⟨(C1.gl.keeps hid2).keeps (J1q fun b q=>List.mem_append_right _ q),fun b hb=>let ⟨o,e⟩:=C1.alive b (List.mem_append_right _ hb);k2'.live b o e⟩
 refine J3j (s:={s1 with heap:=h2}) F2 (x2.p hne) hp fun h3 tk3 F3 S3=>?_
 refine wMo (hs_.h own {s1 with heap:=h3,toks:=tk3} F3 (S3.cx C2)) (fun g s4 q=>?_) fun _ _ q=>q.elim
 refine o02 q fun q1 q2 q3=>?_;clear q
 cases g with
 |ret v=>
  refine o22 q2.vars fun mm cm p4 _ _=>?_
  have kl:=F.kinds _ hp.mem
  refine wpAny_nameGoes kl p4 hmp fun h5 m5 p5 sb5=>?_
  have L:env.locals∈own:=fo _ (.head _)
  refine h v _ (q1.frame sb5 L (J7k p4)) ?_
  have kb:∀ b o,b∉hs→b∉frs env→s.heap.get? b=some o→h5.get? b=some o:=fun b o n1 n2 e=>
   (sb5.2 b fun q=>n2 (q▸.head _)).trans (q3.sto.but b o n2 (S3.but b o n2 (hk2 b o n1 (kk b o e))))
  refine ⟨?_,fun b o _ n e=>kb b o (fun q=>n (List.mem_append_left _ q)) (fun q=>n (List.mem_append_right _ q)) e,fun b o n e=>⟨o.slots,kb b o (fun q=>n (List.mem_append_left _ q)) (fun q=>n (List.mem_append_right _ q)) e⟩,fun b o e=>?_⟩
  ·exact J3l (Kee.sm k1) (J3l ⟨_,_,rfl⟩ (J3l q3.same ⟨_,_,rfl⟩))
  ·by_cases m1:b∈frs env
   ·refine o11 (q2.notF b m1) fun o4 e4 _=>?_
    by_cases m2:b=env.locals
    ·refine o31 p5 fun o5 _ _ e5 _=>?_;clear p5;rw [m2];exact ⟨o5,e5⟩
    ·exact ⟨o4,(sb5.2 b m2).trans e4⟩
   ·refine o10 (k2'.live b o (kk b o e)) fun o2 e2=>?_
    exact ⟨o2,(sb5.2 b fun q=>m1 (q▸.head _)).trans (q3.sto.but b o2 m1 (S3.but b o2 m1 e2))⟩
 |_=>exact q1.elim
end
end
section
variable {w:World}{A:Around}{C f:Addr}{at_:List (Str×PyData)}{outer:List Env}{env:Env}{ns:List (Str×Bool)}{xs xs':List (Option X)}{own:List Addr}{es:List Expr}{ys:List X}{pos:Pos}
theorem Frm.slots {own' Fl:List Addr}{h h':Heap}(F:Frm own env ns xs h)(hk:∀ b o,b∉Fl→h.get? b=some o→h'.get? b=some o)(hs:∀ b o,h.get? b=some o→∃ sl,h'.get? b=some {o with slots:=sl})(ha:∀ b∈adrs xs,b∉Fl)
  (hid:Kps (hideAll h own) (hideAll h' own')) (sub:∀ b∈own,b∈own'):Frm own' env ns xs h':=by
 refine ⟨F.st,F.kinds,F.nodup,⟨sub _ F.mine.1,fun n c e=>⟨sub _ (F.mine.2 n c e).1,(F.mine.2 n c e).2⟩⟩,F.apart,F.has,?_⟩
 skip
 refine o22 F.vars fun m cm p q V=>?_
 skip
 exact xi2 m cm ⟨Ns.slt p fun o e=>hs _ o e,fun n c e=>IsCell.slt (q n c e) fun o e'=>hs _ o e',Vals.onS hk hid ha V⟩
theorem FrOk.of {h:Heap}:∀ {l},(∀ e∈l,e.scope.kind≠.module∧∃ L,e.frame=some L)→(∀ a∈frL l,a∈own∧∃ o,h.get? a=some o∧∀ vs,o.data≠.fields vs)→FrOk own h l
 |[],_,_=>trivial
 |e::l,h1,h2=>by
  skip
  refine o01 (h1 e (.head _)) fun k r9a=>o10 r9a fun L hf=>?_
  refine o01 (h2 L (by rw [frL,List.filterMap_cons,hf];exact .head _)) fun hm r9a=>o11 r9a fun o ho hd=>?_
  skip
  exact ⟨k,(xi2 L o ⟨hf,hm,ho,hd⟩),FrOk.of (fun e he=>h1 e (.tail _ he)) fun a ha=>h2 a (by rw [frL,List.filterMap_cons,hf];exact .tail _ ha)⟩
theorem J6y {s:Shared}{g:Expr}{Q:Value→Shared→Prop}{E:Value→Shared→Prop}(hn:Ok (nAt g=true))(hf:VE w A env ns xs g (.v (.ref f)))(ha:VG w A env ns xs es ys)(hk:Ok (∀ P,J5 (KF P) f=true))
  (F:Frm own env ns xs s.heap) (Cc:Cx w own s.heap) (hc:∀ s2 vs,Frm own env ns xs s2.heap→Cx w own s2.heap→XAll own s2.heap vs ys→Keeps s s2→wpAny (model PW w) A (call (.ref f) vs) (fun _ _=>False) E s2) :
  wpAny (model PW w) A (eval (.Call g es [] pos) env) Q E s:=by
 rw [J0o pos env hn.h]
 refine wBn (J0 (hf.h own s F Cc) fun v s1 hv k1=>?_)
 have hv:v = .ref f:=hv
 subst hv
 have F1:=F.keeps (Kee.kps k1)
 have C1:=Cc.keeps (Kee.kps k1)
 skip
 refine o21 (J1w C1.glh.K (hk.h _)) fun o fd ho hd=>?_
 skip
 refine callWith_function (o:=o) (fd:=fd) (wMo (ha.h.2 _ own s1 F1 C1 pos) (fun x s2 z=>?_) fun _ _ z=>z.elim)
 refine o02 z fun z1 z2 k2=>?_;clear z
 rw [z1]
 refine ⟨⟨Kee.kps k2 _ _ ho,hd⟩,?_⟩
 exact wMo (hc s2 x.pos (F1.keeps (Kee.kps k2)) (C1.keeps (Kee.kps k2)) z2 (Kee.trans k1 k2)) (fun _ _ q=>q.elim) fun _ _ q=>q
noncomputable abbrev K7u:List (Str×Bool):=[("judge",false),("promised",false),("accepted",false),("place",false),("row",false),("wish",false),("turn",false),("refusal",false)]
theorem J8h {y1 y2 y3 y4 y5 y6 y7 z:X}(hC:C=189∨C=201)(hne:at_≠[])(hA:Rm 1 A)(hfr:A.frames=some outer)(hok:∀ e∈outer,e.scope.kind≠.module∧∃ L,e.frame=some L)
  (hask:∀ env:Env,∀ own s vs,FrOk own s.heap (env::outer)→Cx w own s.heap→XAll own s.heap vs [y1,y2,y3,y4,y5,y6,y7]→wpAny (model PW w) (A.deeper env) (call (.ref 234) vs) (fun _ _=>False) (fun e s'=>∃ a hs T,e = .ref a∧ExS own hs s'.heap a C (.ref T) at_∧TbAt hs s'.heap T a .none∧(∀ b∈hs,s.heap.get? b=none)∧Slt (frL (env::outer)) [] s s') s)
  (hz1:C=189→∃ d1 d2 d3:PyData,(("smtp_code" : Str),d1)∈at_∧(("smtp_error" : Str),d2)∈at_∧(("sender" : Str),d3)∈at_∧z=T [.str "sender",d1,d2,d3])
  (hz2:C=201→∃ d1 d2:PyData,(("smtp_code" : Str),d1)∈at_∧(("smtp_error" : Str),d2)∈at_∧z=T [.str "data",d1,d2]) :
  MW w A (.ref 241) (frL outer) [y1,y2,y3,y4,y5,y6,y7] z [y1,y2,y3,y4,y5,y6,y7]:=by
 refine ⟨fun own s vs Cc hF hin hnd hv=>?_⟩
 have fo0:FrOk own s.heap outer:=FrOk.of hok hF
 refine wpAny_call (K2v (f:=241) (ns:=K7u) (j:=1) (ys:=[y1,y2,y3,y4,y5,y6,y7]) ⟨fun _=>(xi3 _ _ _ rfl),fun _=>rfl,rfl,⟨rfl,rfl,rfl,rfl,rfl,rfl⟩,by decide,by decide,by decide⟩ hA.dl rfl
  (vs7 (C:=fun vs=>bindArgs _ ⟨vs,[]⟩=pure ((K7u.map (·.1)).zip vs)) (fun _ _ _ _ _ _ _=>rfl) vs hv.length) Cc hv fun L s1 F1 C1 K1 hn1=>?_)
 generalize he:fEnv _ 241 L=env at F1 C1 hn1 ⊢
 have he':=he.symm
 have kk:=Kee.kps K1
 have nfr:∀ b o,s.heap.get? b=some o→b∉frs env:=fun b o e m=>by have:=hn1 b m;rw [e] at this;cases this
 have FO:∀ {s2:Shared},Keeps s1 s2→FrOk (frs env++own) s2.heap (env::outer):=fun {s2} k=>by
  refine o11 ((F1.keeps (Kee.kps k)).notF _ (.head _)) fun o e q=>?_
  exact ⟨by rw [F1.st.1];decide,(xi2 env.locals o ⟨by rw [← he];rfl,List.mem_append_left _ (.head _),e,q.2⟩),fo0.to (fun b q=>List.mem_append_right _ q) fun b o _ e _=>⟨o,Kee.kps k _ _ (kk _ _ e),rfl⟩⟩
 refine aE fun Q1 E1 hQ1 _=>?_
 refine wpAny_execs_cons (wpAny_Try_except (wpAny_execs_cons (wpAny_Return_some (J6y (f:=234) (ys:=[y1,y2,y3,y4,y5,y6,y7]) ?_ ?_ ?_ ?_ F1 C1 fun s2 vs2 F2 C2 hv2 k2=>wMo (hask env _ s2 vs2 (FO k2) C2 hv2) (fun _ _ q=>q.elim) fun e s3 q=>?_))))
 ·x_close
 ·x_close
 ·repeat' x_close
 ·x_close
 refine o34 q fun a hs T e9a x3 t3 hf3 sl3=>?_;subst e9a;clear q
 have foE:∀ b∈frL (env::outer),b∈frs env++own:=fun b hb=>((FO k2).own b hb).1
 have fr0:env.frame=some env.locals:=by rw [← he];rfl
 refine J9v (A:=A.deeper env) (Around.frames_deeper hfr) fr0 ((FO k2).slt sl3 (by simp)) (fun b hb=>let ⟨o,e⟩:=C2.alive b hb;sl3.live b o e) x3 (.inr ⟨T,rfl,t3⟩) fun h4 T4 x4 t4 k4 n4=>?_
 refine J3c (s:={s3 with heap:=h4}) x4 t4 fun h5 x5 t5 k5=>?_
 have k5':=k5 []
 have n2:∀ b∈T4::hs,s2.heap.get? b=none:=fun b hb=>by
  rcases mCn hb with rfl|hb
  ·exact K1w sl3.live n4
  ·exact hf3 b hb
 have nh:∀ b o,s2.heap.get? b=some o→b∉T4::hs:=fun b o e m=>by have:=n2 b m;rw [e] at this;cases this
 have ex25:∀ b o,b∉frL (env::outer)→s2.heap.get? b=some o→h5.get? b=some o:=fun b o n e=>
  k5'.but b o (by simp) (nh b o e) (k4.but b o n (fun m=>nh b o e (.tail _ m)) (sl3.but b o n (by simp) e))
 have sl25:∀ b o,s2.heap.get? b=some o→∃ sl,h5.get? b=some {o with slots:=sl}:=fun b o e=>by
  refine o10 (sl3.slt b o (by simp) e) fun sl e3=>?_
  refine o10 (k4.slt b _ (fun m=>nh b o e (.tail _ m)) e3) fun sl4 e4=>?_
  exact ⟨sl4,k5'.but b _ (by simp) (nh b o e) e4⟩
 have hid5:Kps (hideAll s2.heap (frs env++own)) (hideAll h5 ((T4::hs)++(frs env++own))):=by
  intro b o e
  have e1:=of_hideAll _ e
  have nb:b∉frs env++own:=fun hb=>by rw [hideAll_none _ hb] at e;cases e
  refine hideAll_get _ (ex25 b o (fun m=>nb (foE b m)) e1) fun hm=>?_
  rcases mAp hm with hm|hm
  ·exact nh b o e1 hm
  ·exact nb hm
 have hadr:∀ b∈adrs ([y1,y2,y3,y4,y5,y6,y7].map some++List.replicate 1 none),b∈own∧b∉frL outer:=fun b hb=>by rw [J2z] at hb;exact hin b hb
 have s2of:∀ b o,s.heap.get? b=some o→s2.heap.get? b=some o:=fun b o e=>Kee.kps k2 _ _ (kk _ _ e)
 have ownFr:∀ b∈own,b∉frs env:=fun b hb m=>by refine o10 (Cc.alive b hb) fun o e=>?_;exact nfr b o e m
 have F5:Frm ((T4::hs)++(frs env++own)) env K7u ([y1,y2,y3,y4,y5,y6,y7].map some++List.replicate 1 none) h5:=F2.slots ex25 sl25 (fun b hb m=>by
  refine o01 (hadr b hb) fun m1 m2=>?_
  rw [frL,List.filterMap_cons,fr0] at m
  rcases mCn m with rfl|m
  ·exact ownFr _ m1 (.head _)
  ·exact m2 m) hid5 fun b q=>List.mem_append_right _ q
 have C5:Cx w ((T4::hs)++(frs env++own)) h5:=⟨C2.gl.keeps hid5,fun b hb=>by
  rcases mAp hb with hb|hb
  ·exact x5.live b hb
  ·refine o10 (C2.alive b hb) fun o e=>?_;refine o10 (sl25 b o e) fun sl e'=>?_;exact ⟨_,e'⟩⟩
 have hax:∀ b∈adrs ([y1,y2,y3,y4,y5,y6,y7].map some++List.replicate 1 none),b∉T4::hs:=fun b hb=>by
  refine o10 (Cc.alive b (hadr b hb).1) fun o e=>?_
  exact nh b o (s2of b o e)
 have hmp:(env.scope.kind == .class || (env.scope.kind == .module && env.locals != env.globals))=false:=by rw [F1.st.1];rfl
 have fin:∀ v s6,XIn (frs env++own) s6.heap v z→Slt [] ((T4::hs)++frs env) {s3 with heap:=h5} s6→XIn own s6.heap v z∧Slt (frL outer) (adrX [y1,y2,y3,y4,y5,y6,y7]) s s6∧XAll own s6.heap vs [y1,y2,y3,y4,y5,y6,y7]:=by
  intro v s6 hv6 sl6
  have n6:∀ b o,s.heap.get? b=some o→b∉(T4::hs)++frs env:=fun b o e m=>by
   rcases mAp m with m|m
   ·exact nh b o (s2of b o e) m
   ·exact nfr b o e m
  have nL:∀ b o,s.heap.get? b=some o→b∉frL outer→b∉frL (env::outer):=fun b o e n m=>by
   rw [frL,List.filterMap_cons,fr0] at m
   rcases mCn m with rfl|m
   ·exact nfr _ o e (.head _)
   ·exact n m
  have ex:∀ b o,b∉frL outer→s.heap.get? b=some o→s6.heap.get? b=some o:=fun b o n e=>sl6.but b o (by simp) (n6 b o e) (ex25 b o (nL b o e n) (s2of b o e))
  have exs:∀ b o,s.heap.get? b=some o→∃ sl,s6.heap.get? b=some {o with slots:=sl}:=fun b o e=>by
   refine o10 (sl25 b o (s2of b o e)) fun sl e'=>?_
   exact ⟨sl,sl6.but b _ (by simp) (n6 b o e) e'⟩
  refine ⟨hv6.unhide fun b q=>List.mem_append_right _ q,⟨?_,fun b o n _ e=>ex b o n e,fun b o _ e=>exs b o e,fun b o e=>let ⟨sl,e'⟩:=exs b o e;⟨_,e'⟩⟩,?_⟩
  ·exact J3l (Kee.sm K1) (J3l (Kee.sm k2) (J3l sl3.same sl6.same))
  ·have hid6:Kps (hideAll s.heap own) (hideAll s6.heap own):=J0e (fun b o nb e=>ex b o (fun m=>nb (hF b m).1) e) fun _ q=>q
   have adr:∀ y∈[y1,y2,y3,y4,y5,y6,y7],∀ b∈y.adr,b∉frL outer:=fun y hy b hb=>(hin b (List.mem_flatMap.mpr ⟨y,hy,hb⟩)).2
   have go:∀ {vs ys},(∀ y∈ys,∀ b∈y.adr,b∉frL outer)→XAll own s.heap vs ys→XAll own s6.heap vs ys:=by
    intro vs ys ha r
    induction r with
    |nil=>exact .nil
    |cons a _ ih=>exact .cons (a.on (p:=fun b=>b∉frL outer) ex (ha _ (.head _)) hid6) (ih fun y hy=>ha y (.tail _ hy))
   exact go adr hv
 suffices H:wpAny (model PW w) (A.deeper env) (handleBy (.ref a) env _) (fun f s6=>∃ v,f = .ret v∧XIn own s6.heap v z∧Slt (frL outer) (adrX [y1,y2,y3,y4,y5,y6,y7]) s s6∧XAll own s6.heap vs [y1,y2,y3,y4,y5,y6,y7]) (fun _ _=>False) {s3 with heap:=h5} from
  wMo H (fun f s6 q=>by refine o11 q fun v e9a q=>?_;subst e9a;clear q;exact hQ1 _ _ q) fun _ _ q=>q.elim
 rcases hC with rfl|rfl
 ·refine o33 (hz1 rfl) fun d1 d2 d3 m1 m2 m3 e9a=>?_;subst e9a
  refine J6q (xs':=[some y1,some y2,some y3,some y4,some y5,some y6,some y7,some (.p (ExP 189 at_))]) (xs2:=[some y1,some y2,some y3,some y4,some y5,some y6,some y7,some (.p (ExP 189 at_))]) (s:={s3 with heap:=h5}) Z6q hne F5 C5 (fun b q=>List.mem_append_left _ q) hax x5 t5 ?_ ?_ ?_ (fun v s7 a b=>⟨v,rfl,fin v s7 a b⟩) hmp
  ·x_close
  ·exact .tail (.tail (.tail (.tail (.tail (.tail (.tail .head))))))
  ·rw [← he]
   apply J0i
   apply J0n
   apply w_tuple (ys:=[S "sender",.d d1,.d d2,.d d3])
   ·apply wl_cons
    ·x_close
    ·x_close
    apply wl_cons
    ·x_close
    ·exact J4a J8p (fun _=>rfl) (by x_close) m1
    apply wl_cons
    ·x_close
    ·exact J4a J8p (fun _=>rfl) (by x_close) m2
    apply wl_cons
    ·x_close
    ·exact J4a J8p (fun _=>rfl) (by x_close) m3
    exact wl_nil
   ·repeat' x_close
   ·x_close
 ·refine o22 (hz2 rfl) fun d1 d2 m1 m2 e9a=>?_;subst e9a
  refine K0l (s:={s3 with heap:=h5}) Z5x F5 C5 x5 t5 ?_ fun s6 F6 C6 x6 t6 k6=>?_
  ·x_close
  refine J6q (xs':=[some y1,some y2,some y3,some y4,some y5,some y6,some y7,some (.p (ExP 201 at_))]) (xs2:=[some y1,some y2,some y3,some y4,some y5,some y6,some y7,some (.p (ExP 201 at_))]) Z8c hne F6 C6 (fun b q=>List.mem_append_left _ q) hax x6 t6 ?_ ?_ ?_ (fun v s7 hv7 sl7=>⟨v,rfl,fin v s7 hv7 ((Slt.of_keeps k6).trans sl7)⟩) hmp
  ·x_close
  ·exact .tail (.tail (.tail (.tail (.tail (.tail (.tail .head))))))
  ·rw [← he]
   apply J0i
   apply J0n
   apply w_tuple (ys:=[S "data",.d d1,.d d2])
   ·apply wl_cons
    ·x_close
    ·x_close
    apply wl_cons
    ·x_close
    ·exact J4a K2z (fun _=>rfl) (by x_close) m1
    apply wl_cons
    ·x_close
    ·exact J4a K2z (fun _=>rfl) (by x_close) m2
    exact wl_nil
   ·repeat' x_close
   ·x_close
end
noncomputable def J1n:Option (Bal×Int)→PyData
 |none=>.none
 |some q=>.tuple [.str (J0f q.1.1 q.1.2),.int q.2]
noncomputable def J1k (w0 w1:Int) (hi b:Bal):Int:=K0w w0 w1 (lrank hi.2,hi.1) (lrank b.2,b.1)
noncomputable abbrev J8i:List (Str×Bool):=[("judge",false),("promised",false),("accepted",false),("place",false),("row",false),("wish",false),("turn",false),("verdict",false),("higher",false)]
noncomputable abbrev J2w (w0 w1:Int) (pa aa:Addr) (ps as:List PyData) (p:Nat) (b:Bal) (wish:Option Int) (turn:Int):List X:=[J w0 w1,.l pa ps,.l aa as,I p,S (J0f b.1 b.2),.d (wD wish),I turn]
section
variable {w:World}{A:Around}{outer:List Env}{env:Env}{w0 w1 turn:Int}{pa aa:Addr}{ps as:List PyData}{p:Nat}{hi b:Bal}{wish:Option Int}{r:List (Option X)}
theorem K0j {pos p1 p2:Pos}{xs:List (Option X)}(hp:ps[p]? = some (.str (J0f hi.1 hi.2)))(hs:p<1000)(h1:VE w A env J8i xs (.Name "promised" p1) (.l pa ps))(h2:VE w A env J8i xs (.Name "place" p2) (I p)) :
  VE w A env J8i xs (.Subscript (.Name "promised" p1) (.Name "place" p2) pos) (S (J0f hi.1 hi.2)):=by
 apply w_sub
 ·exact h1
 ·exact h2
 ·apply J1c
  ·exact IsL.l
  ·exact ⟨Int.ofNat_nonneg _,Int.ofNat_lt.2 (Nat.lt_of_lt_of_le hs (by decide))⟩
  ·exact hp
  ·exact Ok.mk rfl
theorem Z2m {n l:Nat}{pos p1 p2 p3:Pos}{k:Nat}{x:Str}{xs:List (Option X)}{ns:List (Str×Bool)}(h1:VE w A env ns xs (.Name x p1) (S (J0f n l))):VE w A env ns xs (.Subscript (.Name x p1) (.UnaryOp .USub (.Constant (.int 1) k p2) p3) pos) (S ⟨#[J1 l]⟩):=by
 apply w_sub
 ·exact h1
 ·repeat' x_close
 ·apply J3b
  ·exact Ok.mk (by decide)
  ·exact J4b n l
  ·exact Ok.mk rfl
noncomputable def V0h (w0 w1:Int) (p:Nat) (hi b:Bal):List (Str×PyData):=[("sender",.str ⟨#[J1 b.2]⟩),("smtp_error",.str (J0f (hi.1+1) hi.2)),("smtp_code",.int (450+10 * J1k w0 w1 hi b+p))]
noncomputable def V0k (w0 w1:Int) (p:Nat) (hi b:Bal):List (Str×PyData):=[("smtp_error",.str (J0f (hi.1+1) hi.2)),("smtp_code",.int (550+10 * J1k w0 w1 hi b+p))]
theorem V0t (P:Params):typeIn (KF P) (.ref 189)=some (.type "type"):=rfl
theorem Z9d (P:Params):typeIn (KF P) (.ref 201)=some (.type "type"):=rfl
theorem K0s (hA:Rm 5 A)(hfr:A.frames=some outer)(hp:ps[p]? = some (.str (J0f hi.1 hi.2)))(hs:p<1000)(hh:1≤hi.1∧hi.1≤17)(hl:1≤hi.2∧hi.2≤2)(hb:b.2≤2)(hv:0<J1k w0 w1 hi b)(hm:IntMulOk 10 (J1k w0 w1 hi b))
  (own:List Addr) (s:Shared) (vs:List Value) (fo:FrOk own s.heap outer) (Cc:Cx w own s.heap) (hvs:XAll own s.heap vs (J2w w0 w1 pa aa ps as p b wish turn)) :
  wpAny (model PW w) A (call (.ref 234) vs) (fun _ _=>False) (fun e s'=>∃ a hs T,e = .ref a∧ExS own hs s'.heap a (if wish=none then 189 else 201) (.ref T) (if wish=none then V0h w0 w1 p hi b else V0k w0 w1 p hi b)∧TbAt hs s'.heap T a .none∧(∀ b∈hs,s.heap.get? b=none)∧Slt (frL outer) [] s s') s:=by
 refine K3i (ns:=J8i) (j:=2) ⟨fun _=>(xi3 _ _ _ rfl),fun _=>rfl,rfl,⟨rfl,rfl,rfl,rfl,rfl,rfl⟩,by decide,by decide,by decide⟩ hA.dl hfr rfl ((by exact vs7 fun _ _ _ _ _ _ _=>rfl)) ?_ own s vs fo Cc hvs
 intro env L he
 have hA':Rm 4 (A.deeper env):=hA.deeper
 generalize hAA:A.deeper env=A' at hA'
 let base:List (Option X):=(J2w w0 w1 pa aa ps as p b wish turn).map some
 apply J7e (xs':=base++[some (I (J1k w0 w1 hi b)),none])
 ·apply J0h
  ·x_close
  ·apply K6v (a:=(lrank hi.2,hi.1)) (b:=(lrank b.2,b.1))
   ·x_close
   ·x_close
   ·x_close
   ·exact hA'.less (by decide)
   ·x_close
   ·apply wg_cons
    ·x_close
    apply wl_cons
    ·x_close
    ·apply w_callf (a:=227) (ys:=[S (J0f hi.1 hi.2)])
     ·x_close
     ·x_close
     ·apply wg_cons
      ·x_close
      apply wl_cons
      ·x_close
      ·exact K0j hp hs (by x_close) (by x_close)
      ·exact wl_nil
     ·x_close
     ·exact J6k (hA'.less (by decide)) hl.2
    apply wl_cons
    ·x_close
    ·apply w_callf (a:=227) (ys:=[S (J0f b.1 b.2)])
     ·x_close
     ·x_close
     ·repeat' x_close
     ·x_close
     ·exact J6k (hA'.less (by decide)) hb
    ·exact wl_nil
  ·repeat' x_close
 apply J7e (xs':=base++[some (I (J1k w0 w1 hi b)),none])
 ·apply J0g
  ·refine VT.eq (b:=(decide (J1k w0 w1 hi b > 0) != decide (J1k w0 w1 hi b > 0)) || ((decide ((0:Int) ≥ J1k w0 w1 hi b) != decide (J1k w0 w1 hi b≤0)) || false)) ?_ (by simp)
   apply J1f
   apply J8k
   ·apply wt_cmp
    ·x_close
    ·apply w_callf (a:=45) (ys:=[I (J1k w0 w1 hi b),I 0])
     ·x_close
     ·x_close
     ·repeat' x_close
     ·x_close
     ·exact K5m (hA'.less (by decide))
    ·repeat' x_close
    ·x_close
   ·intro _
    apply J8k
    ·apply wt_cmp
     ·x_close
     ·apply w_callf (a:=38) (ys:=[I 0,I (J1k w0 w1 hi b)])
      ·x_close
      ·x_close
      ·repeat' x_close
      ·x_close
      ·exact Z2o (hA'.less (by decide))
     ·repeat' x_close
     ·x_close
    ·intro _;exact wa_or_nil
  ·exact J0c
 apply J7v
 apply Z0q
 ·refine VT.eq (b:=decide (J1k w0 w1 hi b > 0)) ?_ (by simpa using hv)
  apply J0v
  ·x_close
  ·apply w_callf (a:=45) (ys:=[I (J1k w0 w1 hi b),I 0])
   ·x_close
   ·x_close
   ·repeat' x_close
   ·x_close
   ·exact K5m (hA'.less (by decide))
 apply J7e (xs':=base++[some (I (J1k w0 w1 hi b)),some (S (J0f (hi.1+1) hi.2))])
 ·apply J0h
  ·x_close
  ·apply w_callf (a:=220) (ys:=[S (J0f hi.1 hi.2),I turn])
   ·x_close
   ·x_close
   ·apply wg_cons
    ·x_close
    apply wl_cons
    ·x_close
    ·exact K0j hp hs (by x_close) (by x_close)
    apply wl_cons
    ·x_close
    ·x_close
    ·exact wl_nil
   ·x_close
   ·exact K5v (hA'.less (by decide)) hh hl
  ·repeat' x_close
 rcases wish with _|wv
 ·rw [if_pos rfl,if_pos rfl]
  apply J7v
  apply Z0q
  ·refine VT.eq (b:=isN (wD none)) ?_ rfl
   apply J0v
   ·x_close
   ·apply w_callf (a:=52) (ys:=[.d (wD none),N])
    ·x_close
    ·x_close
    ·repeat' x_close
    ·x_close
    ·exact K1x (hA'.less (by decide))
  apply J7v
  refine K2f (ys:=[I (450+10 * J1k w0 w1 hi b+p),S (J0f (hi.1+1) hi.2),S ⟨#[J1 b.2]⟩]) Z5g J8p V0t hA'.hd ?_ ?_ fun own s vs C hv=>Z5m (hA'.less (by decide)) own s vs C hv
  ·x_close
  ·apply wg_cons
   ·x_close
   apply wl_cons
   ·x_close
   ·repeat' x_close
   apply wl_cons
   ·x_close
   ·x_close
   apply wl_cons
   ·x_close
   ·apply Z2m
    x_close
   ·exact wl_nil
 ·rw [if_neg (by simp),if_neg (by simp)]
  apply J7e (xs':=base++[some (I (J1k w0 w1 hi b)),some (S (J0f (hi.1+1) hi.2))])
  ·apply J0g
   ·refine VT.eq (b:=isN (wD (some wv))) ?_ rfl
    apply J0v
    ·x_close
    ·apply w_callf (a:=52) (ys:=[.d (wD (some wv)),N])
     ·x_close
     ·x_close
     ·repeat' x_close
     ·x_close
     ·exact K1x (hA'.less (by decide))
   ·exact J0c
  apply J7v
  refine K2f (ys:=[I (550+10 * J1k w0 w1 hi b+p),S (J0f (hi.1+1) hi.2)]) Z5e K2z Z9d hA'.hd ?_ ?_ fun own s vs C hv=>Z7l (hA'.less (by decide)) own s vs C hv
  ·x_close
  ·apply wg_cons
   ·x_close
   apply wl_cons
   ·x_close
   ·repeat' x_close
   apply wl_cons
   ·x_close
   ·x_close
   ·exact wl_nil
end
section
variable {w:World}{A:Around}{env:Env}{ns:List (Str×Bool)}{xs xs' xs'':List (Option X)}{x y z:X}{e l r:Expr}{pos npos:Pos}{es:List Expr}{ys ys':List X}{a:Addr}{n:Str}{c b:Bool}{R:Fl→List (Option X)→Prop}{ss tt:List Stmt}
theorem Z6d (ht:MT w A env ns xs e b xs')(h1:b=true→MX w A env ns xs' ss R)(h2:b=false→MX w A env ns xs' tt R):M1 w A env ns xs (.If e ss tt pos) R:=by
 refine ⟨fun own s F C=>wpAny_If (wMo (ht.h own s F C) (fun v s1 q=>?_) fun _ _ q=>q)⟩
 skip
 refine o03 q fun e9a F1 C1 k1=>?_;subst e9a;clear q
 skip
 have go:∀ {uu},MX w A env ns xs' uu R→wpAny (model PW w) A (execs uu env) (fun g s'=>∃ own' f xs',R f xs'∧FlIn own' s'.heap g f∧FrM own' env ns xs' s'.heap∧Cx w own' s'.heap∧ChM env xs xs' own own' s s') (fun _ _=>False) s1:=fun hm=>
  wMo (hm.h own s1 F1 C1) (fun g s2 ⟨o,f,x,r,q1,q2,q3,q4⟩=>⟨o,f,x,r,q1,q2,q3,k1.trans q4⟩) fun _ _ q=>q
 cases v with
 |true=>exact go (h1 rfl)
 |false=>exact go (h2 rfl)
theorem K7f (h:ME w A env ns xs e (B b) xs')(he:Ok (isTrue e env (eval e env)=(do let v ← eval e env;standAt e.pos;holding [v] (truthy v)))):MT w A env ns xs e b xs':=by
 refine ⟨fun own s F C=>wpAny_isTrue_value (wMo (h.h own s F C) (fun v s1 q=>?_) fun _ _ q=>q) he.h⟩
 obtain ⟨hv,q⟩:=q
 obtain rfl:=Rd.inv_bool hv
 exact wpAny_truthy_bool ⟨rfl,q⟩
theorem Z3i {e1 e2:Expr}(h1:VT w A env ns xs e1 true)(h2:MT w A env ns xs e2 b xs'):MT w A env ns xs (.BoolOp .And [e1,e2] pos) b xs':=by
 refine ⟨fun own s F C=>wpAny_isTrue_BoolOp (wpAny_allTrue_And_cons (J0s (h1.h own s F.f C) fun s1 k1=>?_))⟩
 have F1:=F.keeps (Kee.kps k1)
 have C1:=C.keeps (Kee.kps k1)
 show wpAny _ _ (allTrue .And [e2] env) _ _ _
 refine wpAny_allTrue_And_cons (wMo (h2.h own s1 F1 C1) (fun v s2 q=>?_) fun _ _ q=>q)
 refine o03 q fun e9a F2 C2 k2=>?_;subst e9a;clear q
 have:=(ChM.of_keeps (env:=env) (xs:=xs) (own:=own) k1).trans k2
 cases v with
 |false=>exact ⟨rfl,F2,C2,this⟩
 |true=>exact wpAny_allTrue_And_nil ⟨rfl,F2,C2,this⟩
theorem K8r {f e1 e2:Expr}{g:Addr}(hn:Ok (nAt f=true))(hf:VE w A env ns xs f (.v (.ref g)))(hk:Ok (∀ P,J5 (KF P) g=true))(hx:ME w A env ns xs e1 x xs')(hy:VE w A env ns xs' e2 y)(he:Ok (starEach [e1,e2] env=(false,eval e1 env)::starEach [e2] env))(he2:Ok (starEach [e2] env=(false,eval e2 env)::starEach [] env))
  (hc:VF w A (.ref g) [x,y] z):ME w A env ns xs (.Call f [e1,e2] [] pos) z xs':=by
 refine ⟨fun own s Fm C=>?_⟩
 rw [J0o pos env hn.h]
 refine wBn (J0 (hf.h own s Fm.f C) fun v s1 hv k1=>?_)
 have hv:v = .ref g:=hv
 subst hv
 have F1:=Fm.keeps (Kee.kps k1)
 have C1:=C.keeps (Kee.kps k1)
 skip
 refine o21 (J1w C1.glh.K (hk.h _)) fun o fd ho hd=>?_
 skip
 have ev2:wpAny (model PW w) A (spliced (backTo pos (starEach [e1,e2] env))) (fun vs s'=>XAll own s'.heap vs [x,y]∧FrM own env ns xs' s'.heap∧Cx w own s'.heap∧ChM env xs xs' own own s1 s') (fun _ _=>False) s1:=by
  refine spliced_more (wMo (hx.h own s1 F1 C1) (fun v s2 q=>?_) fun _ _ q=>q) he.h
  skip
  refine o03 q fun hv F2 C2 k2=>?_;clear q
  skip
  refine spliced_more (J0 (hy.h own s2 F2.f C2) fun u s3 hu k3=>?_) he2.h
  exact spliced_none ⟨.cons (hv.keeps (Kee.kps k3)) (.cons hu .nil),F2.keeps (Kee.kps k3),C2.keeps (Kee.kps k3),k2.trans (.of_keeps k3)⟩
 have hb:backTo pos (starEach [e1,e2] env)=(false,eval e1 env)::backTo pos (starEach [e2] env):=by rw [he.h];rfl
 rw [hb] at ev2 ⊢
 refine callWith_function (o:=o) (fd:=fd) (evalArgs_plain (wMo ev2 (fun vs s2 q=>?_) fun _ _ q=>q.elim))
 skip
 refine o03 q fun q1 F2 C2 k2=>?_;clear q
 skip
 have ho2:s2.heap.get? g=some o:=by
  have:=J1w C2.glh.K (hk.h w.params)
  have gs:(KF w.params).lookup g≠none:=fun q=>by have:=hk.h w.params;unfold J5 at this;rw [q] at this;cases this
  refine o10 (Option.ne_none_iff_exists'.mp gs) fun o' e'=>?_
  have a1:=C1.glh.K _ _ e'
  have a2:=C2.glh.K _ _ e'
  rw [ho] at a1;cases a1;exact a2
 refine ⟨⟨ho2,hd⟩,?_⟩
 exact J0 (hc.h own s2 vs C2 q1) fun v s3 hv k3=>⟨hv,F2.keeps (Kee.kps k3),C2.keeps (Kee.kps k3),((ChM.of_keeps k1).trans k2).trans (.of_keeps k3)⟩
end
section
variable {w:World}{A:Around}{env:Env}{ns:List (Str×Bool)}{xs xs':List (Option X)}{st:Stmt}{ss:List Stmt}{R:Fl→List (Option X)→Prop}{z:X}
theorem Z3e (h:VS w A env ns xs st .next xs')(ha:adrs xs'=adrs xs)(t:MX w A env ns xs' ss R):MX w A env ns xs (st::ss) R:=
 J5r (R':=fun f x=>f = .next∧x=xs') (K8d h ha ⟨rfl,rfl⟩) (fun x q=>by obtain ⟨_,rfl⟩:=q;exact t) fun f x n q=>absurd q.1 n
theorem Z5t (h:M1 w A env ns xs st (fun f x=>f = .next∧x=xs'))(t:MX w A env ns xs' ss R):MX w A env ns xs (st::ss) R:=
 J5r h (fun x q=>by obtain ⟨_,rfl⟩:=q;exact t) fun f x n q=>absurd q.1 n
theorem Z8s (h:VS w A env ns xs st (.ret z) xs')(ha:adrs xs'=adrs xs)(r:R (.ret z) xs'):MX w A env ns xs (st::ss) R:=
 J5r (R':=fun f x=>f = .ret z∧x=xs') (K8d h ha ⟨rfl,rfl⟩) (fun x q=>by cases q.1) fun f x _ q=>by obtain ⟨rfl,rfl⟩:=q;exact r
end
noncomputable def setA (wish:Option Int) (b:Bal) (p:Nat) (as:List PyData):List PyData:=match wish with
 |none=>as
 |some v=>as.set p (.tuple [.str (J0f b.1 b.2),.int v])
section
variable {w:World}{A:Around}{outer:List Env}{env:Env}{w0 w1 turn:Int}{pa aa:Addr}{ps as:List PyData}{p:Nat}{hi b:Bal}{wish:Option Int}{d:PyData}
theorem K2h {xs xs':List (Option X)}{e:Expr}{pos np cp:Pos}{k:Nat}(hA:Rm 1 A)(hn:VE w A env J8i xs (.Name "is_not" np) (.v (.ref 59)))(h:ME w A env J8i xs e N xs')(he:Ok (starEach [e,.Constant .none k cp] env=(false,eval e env)::starEach [.Constant .none k cp] env)) :
  ME w A env J8i xs (.Call (.Name "is_not" np) [e,.Constant .none k cp] [] pos) (B false) xs':=by
 refine K8r (g:=59) (Ok.mk rfl) hn (Ok.mk fun _=>rfl) h (y:=N) ?_ he (Ok.mk rfl) (J2u (d:=.none) hA)
 x_close
theorem K9b (hA:Rm 5 A)(hp:ps[p]? = some (.str (J0f hi.1 hi.2)))(hs:p<1000)(hpl:ps.length≤1000)(hal:as.length≤1000)(hl:hi.2≤2)(hb:b.2≤2)(hv:¬ 0<J1k w0 w1 hi b)(hd:(setA wish b p as)[p]? = some d)(hpa:p<as.length) :
  MV w A (.ref 234) (J2w w0 w1 pa aa ps as p b wish turn) (T [.str "yes",d,.int (J1k w0 w1 hi b)]) (J2w w0 w1 pa aa (ps.set p (.str (J0f b.1 b.2))) (setA wish b p as) p b wish turn):=by
 have hpp:p<ps.length:=(List.getElem?_eq_some_iff.mp hp).1
 refine K5o (ns:=J8i) (j:=2) ⟨fun _=>(xi3 _ _ _ rfl),fun _=>rfl,rfl,⟨rfl,rfl,rfl,rfl,rfl,rfl⟩,by decide,by decide,by decide⟩ hA.dl ?_ ((vs7 fun _ _ _ _ _ _ _=>rfl)) (by rfl)
 intro env L he
 have hA':Rm 4 (A.deeper env):=hA.deeper
 generalize hAA:A.deeper env=A' at hA'
 let base:List (Option X):=(J2w w0 w1 pa aa ps as p b wish turn).map some
 apply Z3e (xs':=base++[some (I (J1k w0 w1 hi b)),none])
 ·apply J0h
  ·x_close
  ·apply K6v (a:=(lrank hi.2,hi.1)) (b:=(lrank b.2,b.1))
   ·x_close
   ·x_close
   ·x_close
   ·exact hA'.less (by decide)
   ·x_close
   ·apply wg_cons
    ·x_close
    apply wl_cons
    ·x_close
    ·apply w_callf (a:=227) (ys:=[S (J0f hi.1 hi.2)])
     ·x_close
     ·x_close
     ·apply wg_cons
      ·x_close
      apply wl_cons
      ·x_close
      ·exact K0j hp hs (by x_close) (by x_close)
      ·exact wl_nil
     ·x_close
     ·exact J6k (hA'.less (by decide)) hl
    apply wl_cons
    ·x_close
    ·apply w_callf (a:=227) (ys:=[S (J0f b.1 b.2)])
     ·x_close
     ·x_close
     ·repeat' x_close
     ·x_close
     ·exact J6k (hA'.less (by decide)) hb
    ·exact wl_nil
  ·repeat' x_close
 ·rfl
 apply Z3e (xs':=base++[some (I (J1k w0 w1 hi b)),none])
 ·apply J0g
  ·refine VT.eq (b:=(decide (J1k w0 w1 hi b > 0) != decide (J1k w0 w1 hi b > 0)) || ((decide ((0:Int) ≥ J1k w0 w1 hi b) != decide (J1k w0 w1 hi b≤0)) || false)) ?_ (by simp)
   apply J1f
   apply J8k
   ·apply wt_cmp
    ·x_close
    ·apply w_callf (a:=45) (ys:=[I (J1k w0 w1 hi b),I 0])
     ·x_close
     ·x_close
     ·repeat' x_close
     ·x_close
     ·exact K5m (hA'.less (by decide))
    ·repeat' x_close
    ·x_close
   ·intro _
    apply J8k
    ·apply wt_cmp
     ·x_close
     ·apply w_callf (a:=38) (ys:=[I 0,I (J1k w0 w1 hi b)])
      ·x_close
      ·x_close
      ·repeat' x_close
      ·x_close
      ·exact Z2o (hA'.less (by decide))
     ·repeat' x_close
     ·x_close
    ·intro _;exact wa_or_nil
  ·exact J0c
 ·rfl
 apply Z3e (xs':=base++[some (I (J1k w0 w1 hi b)),none])
 ·apply J0g
  ·refine VT.eq (b:=decide (J1k w0 w1 hi b > 0)) ?_ (by simpa using hv)
   apply J0v
   ·x_close
   ·apply w_callf (a:=45) (ys:=[I (J1k w0 w1 hi b),I 0])
    ·x_close
    ·x_close
    ·repeat' x_close
    ·x_close
    ·exact K5m (hA'.less (by decide))
  ·exact J0c
 ·rfl
 let base2:List (Option X):=(J2w w0 w1 pa aa (ps.set p (.str (J0f b.1 b.2))) as p b wish turn).map some
 apply Z5t (xs':=base2++[some (I (J1k w0 w1 hi b)),none])
 ·refine Z6d (b:=false) (K7f (K2h (hA'.less (by decide)) (by x_close) ?_ (Ok.mk rfl)) (Ok.mk rfl)) (fun q=>nomatch q) fun _=>K2d ⟨rfl,rfl⟩
  refine J7m (g:=87) (F:=[]) (ys:=[.l pa ps,I p,S (J0f b.1 b.2)]) (ys':=[.l pa (ps.set p (.str (J0f b.1 b.2))),I p,S (J0f b.1 b.2)]) (as:=[pa]) ?_ ?_ ?_ ?_ (.of_mv (J6n (hA'.less (by decide)) hpp hpl)) (.keep (.put (.head _) (.keep (.keep (.keep (.keep (.keep (.keep (.none .nil))))))))) (fun b hb=>hb) (fun h=>h) (fun b hb=>nomatch hb)
  ·x_close
  ·x_close
  ·repeat' x_close
  ·x_close
 let base3:List (Option X):=(J2w w0 w1 pa aa (ps.set p (.str (J0f b.1 b.2))) (setA wish b p as) p b wish turn).map some
 apply Z5t (xs':=base3++[some (I (J1k w0 w1 hi b)),none])
 ·rcases wish with _|wv
  ·refine K8d (xs':=base3++[some (I (J1k w0 w1 hi b)),none]) ?_ rfl ⟨rfl,rfl⟩
   apply J0g
   ·refine VT.eq (b:=(!isN (wD none)) && false) ?_ rfl
    apply J1f
    apply J1s
    ·apply J0v
     ·x_close
     ·apply w_callf (a:=59) (ys:=[.d (wD none),N])
      ·x_close
      ·x_close
      ·repeat' x_close
      ·x_close
      ·exact J2u (hA'.less (by decide))
    ·intro q;exfalso;cases q
   ·exact J0c
  ·refine Z6d (b:=false) (Z3i ?_ (K7f (K2h (hA'.less (by decide)) (by x_close) ?_ (Ok.mk rfl)) (Ok.mk rfl))) (fun q=>nomatch q) fun _=>K2d ⟨rfl,rfl⟩
   ·refine VT.eq (b:=!isN (wD (some wv))) ?_ rfl
    apply J0v
    ·x_close
    ·apply w_callf (a:=59) (ys:=[.d (wD (some wv)),N])
     ·x_close
     ·x_close
     ·repeat' x_close
     ·x_close
     ·exact J2u (hA'.less (by decide))
   ·refine J7m (g:=87) (F:=[]) (ys:=[.l aa as,I p,T [.str (J0f b.1 b.2),.int wv]]) (ys':=[.l aa (as.set p (.tuple [.str (J0f b.1 b.2),.int wv])),I p,T [.str (J0f b.1 b.2),.int wv]]) (as:=[aa]) ?_ ?_ ?_ ?_ (.of_mv (J6n (hA'.less (by decide)) hpa hal)) (.keep (.keep (.put (.head _) (.keep (.keep (.keep (.keep (.keep (.none .nil))))))))) (fun b hb=>hb) (fun h=>h) (fun b hb=>nomatch hb)
    ·x_close
    ·x_close
    ·repeat' x_close
    ·x_close
 apply Z8s (z:=T [.str "yes",d,.int (J1k w0 w1 hi b)]) (xs':=base3++[some (I (J1k w0 w1 hi b)),none])
 ·apply J0n
  apply w_tuple (ys:=[S "yes",.d d,I (J1k w0 w1 hi b)])
  ·apply wl_cons
   ·x_close
   ·x_close
   apply wl_cons
   ·x_close
   ·apply w_callf (a:=73) (ys:=[.l aa (setA wish b p as),I p])
    ·x_close
    ·x_close
    ·repeat' x_close
    ·x_close
    ·exact K3m (hA'.less (by decide)) IsL.l ⟨Int.ofNat_nonneg _,by lia⟩ hd
   apply wl_cons
   ·x_close
   ·x_close
   ·exact wl_nil
  ·repeat' x_close
  ·x_close
 ·rfl
 ·exact ⟨.inl rfl,.same rfl (.l (.tail .head) (.l (.tail (.tail .head)) (.same rfl (.same rfl (.same rfl (.same rfl .nil))))))⟩
end
section
variable {w:World}{A:Around}{env:Env}{ns:List (Str×Bool)}{xs xs':List (Option X)}{ss:List Stmt}{R:Fl→List (Option X)→Prop}{z:X}{e:Expr}{pos:Pos}{h₀:ExceptHandler}{hs:List ExceptHandler}{orelse:List Stmt}
theorem Z7y (h:ME w A env ns xs e z xs')(r:R (.ret z) xs'):M1 w A env ns xs (.Return (some e) pos) R:=
 ⟨fun own s F C=>wpAny_Return_some (wMo (h.h own s F C) (fun v s1 ⟨q1,q2,q3,q4⟩=>(xi3 own (.ret z) xs' ⟨r,q1,q2,q3,q4⟩)) fun _ _ q=>q)⟩
theorem Z6r (h:MX w A env ns xs ss (fun f x=>R f x∧∃ z,f = .ret z)):M1 w A env ns xs (.Try ss (h₀::hs) orelse [] pos) R:=
 ⟨fun own s F C=>wpAny_Try_except (wMo (h.h own s F C) (fun g s1 ⟨o,f,x,⟨r,z,rz⟩,q1,q2⟩=>by
  subst rz
  cases g with
  |ret v=>exact xi3 o _ x ⟨r,q1,q2⟩
  |_=>exact q1.elim) fun _ _ q=>q.elim)⟩
theorem K6h {st:Stmt}(h:M1 w A env ns xs st R)(t:∀ x,R .next x→MX w A env ns x ss R):MX w A env ns xs (st::ss) R:=J5r h t fun _ _ _ r=>r
end
noncomputable def accN (wish:Option Int) (b:Bal) (acc:Option (Bal×Int)):Option (Bal×Int):=match wish with
 |none=>acc
 |some v=>some (b,v)
noncomputable def K0o (w0 w1:Int) (p:Nat) (hi b:Bal) (acc:Option (Bal×Int)) (wish:Option Int):PyData:=
 if 0<J1k w0 w1 hi b then match wish with
  |none=>.tuple [.str "sender",.int (450+10 * J1k w0 w1 hi b+p),.str (J0f (hi.1+1) hi.2),.str ⟨#[J1 b.2]⟩]
  |some _=>.tuple [.str "data",.int (550+10 * J1k w0 w1 hi b+p),.str (J0f (hi.1+1) hi.2)]
 else .tuple [.str "yes",J1n (accN wish b acc),.int (J1k w0 w1 hi b)]
section
variable {w:World}{A:Around}{outer:List Env}{env:Env}{w0 w1 turn:Int}{pa aa:Addr}{ps as:List PyData}{p:Nat}{hi b:Bal}{wish:Option Int}{d:PyData}{acc:Option (Bal×Int)}
theorem K5p (hA:Rm 6 A)(hp:ps[p]? = some (.str (J0f hi.1 hi.2)))(hs:p<1000)(hpl:ps.length≤1000)(hal:as.length≤1000)(hl:hi.2≤2)(hb:b.2≤2)(hv:¬ 0<J1k w0 w1 hi b)(hd:(setA wish b p as)[p]? = some d)(hpa:p<as.length) :
  MV w A (.ref 241) (J2w w0 w1 pa aa ps as p b wish turn) (T [.str "yes",d,.int (J1k w0 w1 hi b)]) (J2w w0 w1 pa aa (ps.set p (.str (J0f b.1 b.2))) (setA wish b p as) p b wish turn):=by
 refine K5o (ns:=K7u) (j:=1) ⟨fun _=>(xi3 _ _ _ rfl),fun _=>rfl,rfl,⟨rfl,rfl,rfl,rfl,rfl,rfl⟩,by decide,by decide,by decide⟩ hA.dl ?_ ((vs7 fun _ _ _ _ _ _ _=>rfl)) (by rfl)
 intro env L he
 have hA':Rm 5 (A.deeper env):=hA.deeper
 generalize hAA:A.deeper env=A' at hA'
 refine K6h (Z6r (K6h (Z7y (z:=T [.str "yes",d,.int (J1k w0 w1 hi b)]) (xs':=(J2w w0 w1 pa aa (ps.set p (.str (J0f b.1 b.2))) (setA wish b p as) p b wish turn).map some++[none]) ?_ ?_) ?_)) ?_
 ·refine J7m (g:=234) (F:=[]) (ys:=J2w w0 w1 pa aa ps as p b wish turn) (ys':=J2w w0 w1 pa aa (ps.set p (.str (J0f b.1 b.2))) (setA wish b p as) p b wish turn) (as:=[pa,aa]) ?_ ?_ ?_ ?_ (.of_mv (K9b hA' hp hs hpl hal hl hb hv hd hpa)) (.keep (.put (.tail _ (.head _)) (.put (.tail _ (.tail _ (.head _))) (.keep (.keep (.keep (.keep (.none .nil)))))))) (fun b hb=>hb) (fun h=>h) (fun b hb=>nomatch hb)
  ·x_close
  ·x_close
  ·repeat' x_close
  ·x_close
 ·exact ⟨⟨.inl rfl,.same rfl (.l (.tail .head) (.l (.tail (.tail .head)) (.same rfl (.same rfl (.same rfl (.same rfl .nil))))))⟩,_,rfl⟩
 ·rintro x ⟨_,z,q⟩;cases q
 ·rintro x ⟨q|q,af⟩
  ·cases q
  ·exact K2d ⟨.inr q,af⟩
theorem K6q (hA:Rm 7 A)(hfr:A.frames=some outer)(hok:∀ e∈outer,e.scope.kind≠.module∧∃ L,e.frame=some L)(hp:ps[p]? = some (.str (J0f hi.1 hi.2)))(hac:as[p]? = some (J1n acc))(hs:p<1000)(hpl:ps.length≤1000)(hal:as.length≤1000)(hl:hi.2≤2)(hb:b.2≤2)
  (hh:0<J1k w0 w1 hi b→(1≤hi.1∧hi.1≤17)∧1≤hi.2∧hi.2≤2) (hm:IntMulOk 10 (J1k w0 w1 hi b)) :
  MW w A (.ref 241) (frL outer) (J2w w0 w1 pa aa ps as p b wish turn) (.d (K0o w0 w1 p hi b acc wish)) (if 0<J1k w0 w1 hi b then J2w w0 w1 pa aa ps as p b wish turn else J2w w0 w1 pa aa (ps.set p (.str (J0f b.1 b.2))) (setA wish b p as) p b wish turn):=by
 by_cases hv:0<J1k w0 w1 hi b
 ·rw [if_pos hv]
  refine o01 (hh hv) fun h1 h2=>?_
  refine J8h (C:=if wish=none then 189 else 201) (at_:=if wish=none then V0h w0 w1 p hi b else V0k w0 w1 p hi b) (by by_cases q:wish=none<;>simp [q]) (by by_cases q:wish=none<;>simp [q,V0h,V0k]) (hA.less (by decide)) hfr hok (fun env own s vs fo C hv'=>K0s (A:=A.deeper env) (hA.less (by decide):Rm 6 A).deeper (Around.frames_deeper hfr) hp hs h1 h2 hb hv hm own s vs fo C hv') ?_ ?_
  ·intro hC
   rcases wish with _|wv
   ·exact xi3 _ _ _ ⟨by rw [if_pos rfl];exact .tail _ (.tail _ (.head _)),by rw [if_pos rfl];exact .tail _ (.head _),by rw [if_pos rfl];exact .head _,by simp [K0o,hv]⟩
   ·rw [if_neg (by simp)] at hC;exact absurd hC (by decide)
  ·intro hC
   rcases wish with _|wv
   ·rw [if_pos rfl] at hC;exact absurd hC (by decide)
   ·exact xi2 _ _ ⟨by rw [if_neg (by simp)];exact .tail _ (.head _),by rw [if_neg (by simp)];exact .head _,by simp [K0o,hv]⟩
 ·rw [if_neg hv,show K0o w0 w1 p hi b acc wish = .tuple [.str "yes",J1n (accN wish b acc),.int (J1k w0 w1 hi b)] by simp [K0o,hv]]
  have hpa:p<as.length:=(List.getElem?_eq_some_iff.mp hac).1
  refine .of_mv (K5p (hA.less (by decide)) hp hs hpl hal hl hb hv ?_ hpa)
  rcases wish with _|wv
  ·exact hac
  ·show (as.set p _)[p]? = _
   rw [List.getElem?_set_self hpa];rfl
end
structure VR1b (w:World)(A:Around)(env:Env)(ns:List (Str×Bool))(xs:List (Option X))(st:Stmt)(T:String):Prop where
 h:∀ own s,Frm own env ns xs s.heap→Cx w own s.heap→wpAny (model PW w) A (exec st env) (fun _ _=>False) (fun e s'=>∃ a,e = .ref a∧ExV own [a] s'.heap a (.type T) .none []∧s.heap.get? a=none∧Keeps s s') s
structure VRb (w:World)(A:Around)(env:Env)(ns:List (Str×Bool))(xs:List (Option X))(e:Expr)(T:String):Prop where
 h:∀ own s,Frm own env ns xs s.heap→Cx w own s.heap→wpAny (model PW w) A (eval e env) (fun _ _=>False) (fun e s'=>∃ a,e = .ref a∧ExV own [a] s'.heap a (.type T) .none []∧s.heap.get? a=none∧Keeps s s') s
structure SR (env:Env)(outer:List Env)(s s':Shared):Prop where
 same:∃ h' tk,s' = {s with heap:=h',toks:=tk}
 but:∀ b o,b∉frs env→b∉frL outer→s.heap.get? b=some o→s'.heap.get? b=some o
 slt:∀ b o,b∉frs env→s.heap.get? b=some o→∃ sl,s'.heap.get? b=some {o with slots:=sl}
theorem SR.trans {env outer s s' s''}(a:SR env outer s s')(b:SR env outer s' s''):SR env outer s s'':=by
 refine o20 a.same fun h t e9a=>?_;subst e9a
 refine o20 b.same fun h' t' e9a=>?_;subst e9a
 refine ⟨(xi2 h' t' rfl),fun x o n1 n2 e=>b.but x o n1 n2 (a.but x o n1 n2 e),fun x o n e=>?_⟩
 refine o10 (a.slt x o n e) fun sl e1=>?_
 refine o10 (b.slt x _ n e1) fun sl' e2=>?_
 exact ⟨sl',e2⟩
theorem SR.of_chg {own env outer s s'}(k:Chg own env s s'):SR env outer s s':=⟨k.same,fun b o n _ e=>k.sto.but b o n e,fun b o n e=>⟨o.slots,k.sto.but b o n e⟩⟩
theorem SR.of_keeps {env outer s s'}(k:Keeps s s'):SR env outer s s':=by
 have kk:=Kee.kps k
 refine o21 k fun h t e9a _=>?_;subst e9a;clear k
 exact ⟨(xi2 _ _ rfl),fun b o _ _ e=>kk b o e,fun b o _ e=>⟨o.slots,kk b o e⟩⟩
structure HS (w:World)(A:Around)(env:Env)(outer:List Env)(ns:List (Str×Bool))(xs:List (Option X))(st:Stmt)(f:Fl)(xs':List (Option X)):Prop where
 h:∀ own s,FrOk own s.heap (env::outer)→Frm own env ns xs s.heap→Cx w own s.heap→(∀ b∈adrs xs,b∉frL (env::outer))→(∀ b∈adrs xs,b∈own)→wpAny (model PW w) A (exec st env) (fun g s'=>∃ own',(∀ b∈own,b∈own')∧FlIn own' s'.heap g f∧Frm own' env ns xs' s'.heap∧Cx w own' s'.heap∧FrOk own' s'.heap (env::outer)∧SR env outer s s') (fun _ _=>False) s
structure HX (w:World)(A:Around)(env:Env)(outer:List Env)(ns:List (Str×Bool))(xs:List (Option X))(ss:List Stmt)(f:Fl)(xs':List (Option X)):Prop where
 h:∀ own s,FrOk own s.heap (env::outer)→Frm own env ns xs s.heap→Cx w own s.heap→(∀ b∈adrs xs,b∉frL (env::outer))→(∀ b∈adrs xs,b∈own)→wpAny (model PW w) A (execs ss env) (fun g s'=>∃ own',(∀ b∈own,b∈own')∧FlIn own' s'.heap g f∧Frm own' env ns xs' s'.heap∧Cx w own' s'.heap∧FrOk own' s'.heap (env::outer)∧SR env outer s s') (fun _ _=>False) s
section
variable {w:World}{A:Around}{env:Env}{outer:List Env}{ns:List (Str×Bool)}{xs xs' xs'':List (Option X)}{st:Stmt}{ss:List Stmt}{f:Fl}{T:String}{e:Expr}{pos npos:Pos}{n:Str}{z:X}
theorem FrOk.to2 {own own':List Addr}{h h':Heap}(ho:∀ b∈own,b∈own')(hk:∀ b o,b∈own→h.get? b=some o→(∀ vs,o.data≠.fields vs)→∃ o',h'.get? b=some o'∧∀ vs,o'.data≠.fields vs):∀ {l},FrOk own h l→FrOk own' h' l
 |[],_=>trivial
 |env::rest,⟨k,⟨L,o,hf,hm,h1,hd⟩,hr⟩=>by
  refine o11 (hk L o hm h1 hd) fun o' e1 e2=>?_
  exact ⟨k,(xi2 L o' ⟨hf,ho _ hm,e1,e2⟩),hr.to2 ho hk⟩
theorem FrOk.chg {own own':List Addr}{s s':Shared}{ns xs'}(fo:FrOk own s.heap (env::outer))(F:Frm own' env ns xs' s'.heap)(k:SR env outer s s')(sub:∀ b∈own,b∈own'):FrOk own' s'.heap (env::outer):=
 fo.to2 sub fun b o hb e nf=>by
  by_cases m:b∈frs env
  ·refine o11 (F.notF b m) fun o' e' q=>?_
   exact ⟨o',e',q.2⟩
  ·refine o10 (k.slt b o m e) fun sl e'=>?_;exact ⟨_,e',nf⟩
theorem Z6v (h:VS w A env ns xs st f xs'):HS w A env outer ns xs st f xs':=⟨fun own s fo F C _ _=>wMo (h.h own s F C) (fun g s' q=>by
 refine o02 q fun q1 q2 q3=>?_;clear q
 have k:=SR.of_chg (outer:=outer) q3
 exact ⟨own,fun _ q=>q,q1,q2,q3.sto.cx C,fo.chg q2 k fun _ q=>q,k⟩) fun _ _ q=>q⟩
theorem V0y (h:VX w A env ns xs ss f xs'):HX w A env outer ns xs ss f xs':=⟨fun own s fo F C _ _=>wMo (h.h own s F C) (fun g s' q=>by
 refine o02 q fun q1 q2 q3=>?_;clear q
 have k:=SR.of_chg (outer:=outer) q3
 exact ⟨own,fun _ q=>q,q1,q2,q3.sto.cx C,fo.chg q2 k fun _ q=>q,k⟩) fun _ _ q=>q⟩
theorem J7z (h:HS w A env outer ns xs st .next xs')(ha:adrs xs'=adrs xs)(t:HX w A env outer ns xs' ss f xs''):HX w A env outer ns xs (st::ss) f xs'':=by
 refine ⟨fun own s fo F C a1 a2=>wpAny_execs_cons (wMo (h.h own s fo F C a1 a2) (fun g s1 q=>?_) fun _ _ q=>q)⟩
 skip
 refine o15 q fun o1 q1 q2 q3 q4 q5 q6=>?_;clear q
 skip
 cases g with
 |next=>
  refine wMo (t.h o1 s1 q5 q3 q4 (by rw [ha];exact a1) (by rw [ha];exact fun b hb=>q1 _ (a2 b hb))) (fun g s2 r=>?_) fun _ _ q=>q
  skip
  refine o15 r fun o2 r1 r2 r3 r4 r5 r6=>?_;clear r
  skip
  exact ⟨o2,fun b hb=>r1 b (q1 b hb),r2,r3,r4,r5,q6.trans r6⟩
 |_=>exact q2.elim
theorem Z6h (h:HS w A env outer ns xs st (.ret z) xs'):HX w A env outer ns xs (st::ss) (.ret z) xs':=by
 refine ⟨fun own s fo F C a1 a2=>wpAny_execs_cons (wMo (h.h own s fo F C a1 a2) (fun g s1 q=>?_) fun _ _ q=>q)⟩
 cases g with
 |ret v=>exact q
 |_=>refine o12 q fun o1 q1 q2 q3=>?_;clear q;exact q2.elim
theorem K1t (h:VRb w A env ns xs e T):VR1b w A env ns xs (.Return (some e) pos) T:=⟨fun own s F C=>wpAny_Return_some (wMo (h.h own s F C) (fun _ _ q=>q.elim) fun _ _ q=>q)⟩
theorem K7m (h:VRb w A env ns xs e T)(hs:swapsWith e (some (.Name n npos)) pos.line env=pure false):VR1b w A env ns xs (.Assign [.Name n npos] e pos) T:=⟨fun own s F C=>wpAny_Assign_Name (wMo (h.h own s F C) (fun _ _ q=>q.elim) fun _ _ q=>q) hs⟩
theorem J8e {t:Expr}{b₀:Stmt}{suite:List Stmt}{hs:List ExceptHandler}{rest:List Stmt}{hpos:Pos}(hfr:A.frames=some (env::outer))(fr0:env.frame=some env.locals)
  (hexc:isSubtype (.type T) (.type "BaseException")=pure true) (hnt:isSubtype (.type ((Manifest.find? T).elim "type" fun x=>x.metatype)) (.type "tuple")=pure false) (hsub:isSubtype (.type T) (.type T)=pure true)
  (h:VR1b w A env ns xs st T) (hn:∀ a,VE w (A.mark (some (.ref a))) env ns xs t (.v (.type T))) (hsu:∀ a,VX w (A.mark (some (.ref a))) env ns xs (b₀::suite) f xs') :
  HS w A env outer ns xs (.Try (st::rest) (.ExceptHandler (some t) none (b₀::suite) hpos::hs) [] [] pos) f xs':=by
 refine ⟨fun own s fo F C a1 a2=>wpAny_Try_except (wpAny_execs_cons (wMo (h.h own s F C) (fun _ _ q=>q.elim) fun e s1 q=>?_))⟩
 refine o13 q fun a e9a x1 fa k1=>?_;subst e9a;clear q
 have kk:=Kee.kps k1
 have F1:=F.keeps kk
 have C1:=C.keeps kk
 have fo1:FrOk own s1.heap (env::outer):=fo.to2 (fun _ q=>q) fun b o _ e nf=>⟨o,kk b o e,nf⟩
 refine J9v hfr fr0 fo1 C1.alive x1 (.inl rfl) fun h2 T2 x2 t2 k2 n2=>?_
 refine J3c (s:={s1 with heap:=h2}) x2 t2 fun h3 x3 t3 k3=>?_
 have k3':=k3 []
 have fresh:∀ b∈T2::[a],s.heap.get? b=none:=fun b hb=>by
  rcases mCn hb with rfl|hb
  ·exact J0q kk n2
  ·obtain rfl:b=a:=by simpa using hb
   exact fa
 have nh:∀ b o,s.heap.get? b=some o→b∉T2::[a]:=fun b o e m=>by have:=fresh b m;rw [e] at this;cases this
 have ex03:∀ b o,b∉frL (env::outer)→s.heap.get? b=some o→h3.get? b=some o:=fun b o n e=>
  k3'.but b o (by simp) (nh b o e) (k2.but b o n (fun m=>nh b o e (.tail _ m)) (kk b o e))
 have sl03:∀ b o,s.heap.get? b=some o→∃ sl,h3.get? b=some {o with slots:=sl}:=fun b o e=>by
  refine o10 (k2.slt b _ (fun m=>nh b o e (.tail _ m)) (kk b o e)) fun sl e3=>?_
  exact ⟨sl,k3'.but b _ (by simp) (nh b o e) e3⟩
 have foE:=fo.own
 have hid3:Kps (hideAll s.heap own) (hideAll h3 ((T2::[a])++own)):=by
  intro b o e
  have e1:=of_hideAll _ e
  have nb:b∉own:=fun hb=>by rw [hideAll_none _ hb] at e;cases e
  refine hideAll_get _ (ex03 b o (fun m=>nb (foE b m).1) e1) fun hm=>?_
  rcases mAp hm with hm|hm
  ·exact nh b o e1 hm
  ·exact nb hm
 have F3:Frm ((T2::[a])++own) env ns xs h3:=F.slots ex03 sl03 a1 hid3 fun b q=>List.mem_append_right _ q
 have C3:Cx w ((T2::[a])++own) h3:=⟨C.gl.keeps hid3,fun b hb=>by
  rcases mAp hb with hb|hb
  ·exact x3.live b hb
  ·refine o10 (C.alive b hb) fun o e=>?_;refine o10 (sl03 b o e) fun sl e'=>?_;exact ⟨_,e'⟩⟩
 have nfr:∀ b∈frs env,b∉T2::[a]:=fun b hb m=>by
  refine o11 (F.notF b hb) fun o e _=>?_;exact nh b o e m
 have nad:∀ b∈adrs xs,b∉T2::[a]:=fun b hb=>by refine o10 (C.alive b (a2 b hb)) fun o e=>?_;exact nh b o e
 have tyE:∀ {s':Shared},Kps h3 s'.heap→s'.TypeIs (.ref a) T:=fun {s'} k=>by
  refine o22 x3.ob fun o fs h1 h2' _=>?_
  exact ⟨o,k _ _ h1,h2'⟩
 refine wMo (Q:=fun g s'=>∃ own',(∀ b∈own,b∈own')∧FlIn own' s'.heap g f∧Frm own' env ns xs' s'.heap∧Cx w own' s'.heap∧FrOk own' s'.heap (env::outer)∧SR env outer s s') ?_ (fun _ _ q=>q) (fun _ _ q=>q)
 refine wpAny_handleBy_builtin (X:=T) (T:=T) (b:=true) hexc hnt hsub (J0 ((hn a).h _ {s1 with heap:=h3} F3 C3) fun v s4 hv k4=>?_)
 have hv:v = .type T:=hv
 subst hv
 have kk4:=Kee.kps k4
 refine ⟨rfl,tyE kk4,?_⟩
 rw [if_pos rfl]
 have x4:=x3.keeps kk4
 refine J3c (s:=s4) x4 ⟨t3.mem,t3.ne,let ⟨o,ts,e,r⟩:=t3.ob;⟨o,ts,kk4 _ _ e,r⟩⟩ fun h5 x5 t5 k5=>?_
 have k5':=k5 []
 have hk5:∀ b o,b∉T2::[a]→s4.heap.get? b=some o→h5.get? b=some o:=fun b o n e=>k5'.but b o (by simp) n e
 have hid5:=K1l (ow:=own) (hs':=T2::[a]) hk5 fun _ q=>.inl q
 have F5:Frm ((T2::[a])++own) env ns xs h5:=(F3.keeps kk4).hs2 hk5 nfr nad (fun _ q=>q) hid5
 have C5:Cx w ((T2::[a])++own) h5:=⟨(C3.keeps kk4).gl.keeps hid5,fun b hb=>let ⟨o,e⟩:=(C3.keeps kk4).alive b hb;k5'.live b o e⟩
 refine wMo ((hsu a).h _ {s4 with heap:=h5} F5 C5) (fun g s6 q=>?_) fun _ _ q=>q.elim
 refine o02 q fun q1 q2 q3=>?_;clear q
 have sr:SR env outer s s6:=by
  have n5:∀ b o,s.heap.get? b=some o→∀ o',h3.get? b=some o'→s6.heap.get? b=some o'∨b∈frs env:=fun b o e o' e'=>by
   by_cases m:b∈frs env
   ·exact .inr m
   ·exact .inl (q3.sto.but b o' m (hk5 b o' (nh b o e) (kk4 b o' e')))
  refine ⟨?_,fun b o m1 m2 e=>?_,fun b o m e=>?_⟩
  ·exact J3l (Kee.sm k1) (J3l ⟨_,_,rfl⟩ (J3l (Kee.sm k4) q3.same))
  ·refine (n5 b o e o (ex03 b o (fun m=>?_) e)).resolve_right m1
   rw [frL,List.filterMap_cons,fr0] at m
   rcases mCn m with rfl|m
   ·exact m1 (.head _)
   ·exact m2 m
  ·refine o10 (sl03 b o e) fun sl e'=>?_
   exact ⟨sl,(n5 b o e _ e').resolve_right m⟩
 exact ⟨_,fun b q=>List.mem_append_right _ q,q1,q2,q3.sto.cx C5,fo.chg q2 sr fun b q=>List.mem_append_right _ q,sr⟩
structure MQ (w:World)(A:Around)(f:Value)(F:List Addr)(ys:List X)(z:X):Prop where
 h:∀ own s vs,Cx w own s.heap→(∀ a∈F,a∈own∧∃ o,s.heap.get? a=some o∧∀ vs,o.data≠.fields vs)→(∀ a∈adrX ys,a∈own∧a∉F)→(adrX ys).Nodup→XAll own s.heap vs ys →
  wpAny (model PW w) A (call f vs) (fun u s'=>XIn own s'.heap u z∧Slt F [] s s'∧XAll own s'.heap vs ys) (fun _ _=>False) s
theorem Z1b {f:Addr}{fd:FuncData}{body:List Stmt}{ys0 ys:List X}{j:Nat}(S:FnStat f fd body ns)(hr:A.depth<recursionLimit)(hfr:A.frames=some outer)(hok:∀ e∈outer,e.scope.kind≠.module∧∃ L,e.frame=some L)
  (hb:∀ own s vs A,Cx w own s.heap→XAll own s.heap vs ys0→wpAny (model PW w) A (bindArgs fd ⟨vs,[]⟩) (fun b s'=>s'=s∧∃ us,b=(ns.map (·.1)).zip us∧XAll own s.heap us ys) (fun _ _=>False) s)
  (hadr:∀ b∈adrX ys,b∈adrX ys0) (h:∀ env L,env=fEnv fd f L→(A.deeper env).frames=some (env::outer)→∃ xs',HX w (A.deeper env) env outer ns (ys.map some++List.replicate j none) body (.ret z) xs')
  (hj:ys.length+j=ns.length):MQ w A (.ref f) (frL outer) ys0 z:=by
 refine ⟨fun own s vs C hF hin hnd hv=>?_⟩
 have fo0:FrOk own s.heap outer:=FrOk.of hok hF
 refine wpAny_call (Z0r (f:=f) (ys0:=ys0) S hr hj (fun A=>hb own s vs A C hv) C fun L s1 F1 C1 K1 hn1=>?_)
 have kk:=Kee.kps K1
 have nfr:∀ b o,s.heap.get? b=some o→b∉frs (fEnv fd f L):=fun b o e m=>by have:=hn1 b m;rw [e] at this;cases this
 have fo1:FrOk (frs (fEnv fd f L)++own) s1.heap (fEnv fd f L::outer):=by
  refine o11 (F1.notF L (.head _)) fun o e q=>?_
  exact ⟨by show fd.scope.kind≠_;rw [S.flat.2.2.1];decide,(xi2 L o ⟨rfl,List.mem_append_left _ (.head _),e,q.2⟩),fo0.to2 (fun b q=>List.mem_append_right _ q) fun b o _ e nf=>⟨o,kk _ _ e,nf⟩⟩
 refine o10 (h _ L rfl (Around.frames_deeper hfr)) fun xs' hh=>?_
 have ow:∀ b∈adrs (ys.map some++List.replicate j none),b∈own∧b∉frL outer:=fun b hb=>by rw [J2z] at hb;exact hin b (hadr b hb)
 refine wMo (hh.h _ s1 fo1 F1 C1 (fun b hb m=>?_) fun b hb=>List.mem_append_right _ (ow b hb).1) (fun g s2 q=>?_) fun _ _ q=>q.elim
 ·refine o01 (ow b hb) fun m1 m2=>?_
  rcases mCn m with rfl|m
  ·refine o10 (C.alive _ m1) fun o e=>?_;exact nfr _ o e (.head _)
  ·exact m2 m
 ·refine o15 q fun own' q1 q2 q3 q4 q5 q6=>?_;clear q
  have ex:∀ b o,b∉frL outer→s.heap.get? b=some o→s2.heap.get? b=some o:=fun b o n e=>q6.but b o (nfr b o e) n (kk b o e)
  have exs:∀ b o,s.heap.get? b=some o→∃ sl,s2.heap.get? b=some {o with slots:=sl}:=fun b o e=>q6.slt b o (nfr b o e) (kk b o e)
  have hid:Kps (hideAll s.heap own) (hideAll s2.heap own):=J0e (fun b o nb e=>ex b o (fun m=>nb (hF b m).1) e) fun _ q=>q
  have go:∀ {vs ys},(∀ y∈ys,∀ b∈y.adr,b∉frL outer)→XAll own s.heap vs ys→XAll own s2.heap vs ys:=by
   intro vs ys ha r
   induction r with
   |nil=>exact .nil
   |cons a _ ih=>exact .cons (a.on (p:=fun b=>b∉frL outer) ex (ha _ (.head _)) hid) (ih fun y hy=>ha y (.tail _ hy))
  have fin:∀ v,XIn own' s2.heap v z→XIn own s2.heap v z∧Slt (frL outer) [] s s2∧XAll own s2.heap vs ys0:=fun v hv'=>by
   refine ⟨hv'.unhide fun b q=>q1 b (List.mem_append_right _ q),⟨?_,fun b o n _ e=>ex b o n e,fun b o _ e=>exs b o e,fun b o e=>let ⟨sl,e'⟩:=exs b o e;⟨_,e'⟩⟩,go (fun y hy b hb=>(hin b (List.mem_flatMap.mpr ⟨y,hy,hb⟩)).2) hv⟩
   exact J3l (Kee.sm K1) q6.same
  cases g with
  |ret v=>exact fin v q2
  |_=>exact q2.elim
end
section
variable {prog:Program}{w:World}{A:Around}{E:Value→Shared→Prop}{h:Heap}{g:Array GenState}{d:Drawn}{t:Nat}{os:OsState}
theorem K3l:typeLookup (.type "NoneType") "__len__" = pure none:=by rw [typeLookup_type,builtinLookup_eq_fast];kernel_rfl
theorem K8m:typeLookup (.type "list_iterator") "__len__" = pure none:=by rw [typeLookup_type,builtinLookup_eq_fast];kernel_rfl
theorem K8t {Q:Value→Shared→Prop}(hh:A.handled=none)(hq:∀ h' tk e,Heap.NewExc h h' e "TypeError"→E (.ref e) ⟨h',g,d,tk,os⟩):wpAny (model prog w) A (call (.builtin "len") [.none]) Q E ⟨h,g,d,t,os⟩:=by
 have hT:∀ s':Shared,s'.TypeIs (.none) "NoneType":=fun _=>rfl
 have f1:=K3l
 refine Calls.call_function_entry kind_len plain_len entry_len (args_len1 _) ?_
 unfold Builtin.«len»
 repeat (any_goals (first|assumption|wp_step))
 exact wpAny_raiseErrorMade plainExc_TypeError hh hq (by rw [sizeLine_eq];decide +kernel)
theorem K9v {Q:Value→Shared→Prop}{a:Addr}{o:Obj}(ho:h.get? a=some o)(hc:o.cls = .type "list_iterator")(hh:A.handled=none)(hq:∀ h' tk e,Heap.NewExc h h' e "TypeError"→E (.ref e) ⟨h',g,d,tk,os⟩):wpAny (model prog w) A (call (.builtin "len") [.ref a]) Q E ⟨h,g,d,t,os⟩:=by
 have hT:(⟨h,g,d,t,os⟩:Shared).TypeIs (.ref a) "list_iterator":=⟨_,ho,hc⟩
 have f1:=K8m
 refine Calls.call_function_entry kind_len plain_len entry_len (args_len1 _) ?_
 unfold Builtin.«len»
 repeat (any_goals (first|assumption|wp_step))
 exact wpAny_raiseErrorMade plainExc_TypeError hh hq (by rw [sizeLine_eq];decide +kernel)
theorem Z6l:typeOf (.type "NoneType")=pure (.type "type"):=by kernel_rfl
theorem Z9l:typeOf (.type "list_iterator")=pure (.type "type"):=by kernel_rfl
theorem K8q {K:Frag}{Q:Value→Shared→Prop}{expr:Bool}(X:K.In h)(hq:Q (.builtin "list_iterator.__length_hint__") ⟨h,g,d,t+1,os⟩):wpAny (model prog w) A (getAttr (.type "list_iterator") "__length_hint__" expr) Q E ⟨h,g,d,t,os⟩:=by
 have hstub:opaqueClassAbove (.type "list_iterator")=pure none:=by unfold opaqueClassAbove;dsimp only;rw [show Manifest.isStub "list_iterator" = false by decide +kernel];rfl
 have L0:Looks (model prog w) h (typeOf (.type "list_iterator")) (.type "type"):=Looks.of_pure Z9l
 have hg:findIn K (.type "type") "__getattribute__" = some (some (.builtin "type.__getattribute__")):=type_tga
 have LO:Looks (model prog w) h (opaqueClassAbove (.type "list_iterator")) none:=Looks.of_pure hstub
 have fc:findCls [] (.type "list_iterator") (.type "type") "__length_hint__" = some (.val (.builtin "list_iterator.__length_hint__")):=by kernel_rfl
 have X0:Frag.In [] h:=fun a o e=>by cases e
 refine cls_open X0 LO L0 hg (looks_hook X0 (r:=none) (by rfl)) (by show subIn [] _ _=_;rfl) fc ?_
 refine wPu ?_
 show wpAny _ _ (handedOut (.builtin "list_iterator.__length_hint__")) _ _ _
 rw [handedOut_of (by decide +kernel)]
 exact wPu hq
theorem K9e:entryFor table "list_iterator.__length_hint__" = some Builtin.«list_iterator.__length_hint__»:=entryFor_of_tree (by kernel_rfl)
theorem K6c:Slot "list_iterator" "__length_hint__" "list_iterator.__length_hint__":=
 .of (owner:="list_iterator") (n:="__length_hint__") (by rw [typeLookup_type,builtinLookup_eq_fast];kernel_rfl) (by decide +kernel) (by decide +kernel) (by decide +kernel)
  (by first|exact .inl (by decide +kernel)|exact .inr (by decide +kernel)) (by rw [isSubtype_type];kernel_rfl)
theorem Z4p (a:Value):argsOk "list_iterator.__length_hint__" ⟨[a],[]⟩:=by unfold argsOk;kernel_rfl
theorem K3x {Q:Value→Shared→Prop}{a l:Addr}{k:Nat}{vs:Array Value}(hi:h.IsListIter a l k)(hl:h.IsList l vs)(hq:∀ tk u,Q (.int (max 0 ((vs.size:Int) - k)) tk) ⟨h,g,d,u,os⟩):wpAny (model prog w) A (call (.builtin "list_iterator.__length_hint__") [.ref a]) Q E ⟨h,g,d,t,os⟩:=by
 refine ab fun Q q9=>?_
 obtain ⟨o,ho,hc,hd⟩:=hi
 obtain ⟨ol,hol,hcl,n,hdl⟩:=hl
 refine q9 ?_
 refine wpAny_call (codeAny_call_builtin K6c.plain K9e (K6c.check _ _ _ _ _ _ _ _ (show Shared.TypeIs ⟨h,g,d,t,os⟩ (.ref a) "list_iterator" from ⟨_,ho,hc⟩) (Z4p _) ?_))
 unfold Builtin.«list_iterator.__length_hint__»
 repeat lk
 rw [hd]
 refine wPu ?_
 refine wPu ?_
 rw [if_neg (by simp)]
 refine wBn (wpAny_seqItems hol hdl ?_)
 refine wBn (wpAny_field ho hd (x:=.int k 0) rfl ?_)
 exact wBn (wpAny_mkInt (wPu (hq _ _)))
theorem Z4r:typeLookup (.type "NoneType") "__length_hint__" = pure none:=by rw [typeLookup_type,builtinLookup_eq_fast];kernel_rfl
theorem K7y:typeLookup (.type "type") "__length_hint__" = pure none:=by rw [typeLookup_type,builtinLookup_eq_fast];kernel_rfl
theorem Z1i:typeLookup (.type "type") "__getattr__" = pure none:=by rw [typeLookup_type,builtinLookup_eq_fast];kernel_rfl
theorem K1c:isSubtype (.type "type") (.type "type")=pure true:=by rw [isSubtype_type];kernel_rfl
theorem K4u {Q:Value→Shared→Prop}(hh:A.handled=none)(hq:∀ h' tk e,Heap.NewExcOf h h' e "AttributeError"→E (.ref e) ⟨h',g,d,tk,os⟩):wpAny (model prog w) A (getAttr (.type "NoneType") "__length_hint__" true) Q E ⟨h,g,d,t,os⟩:=by
 have hstub:opaqueClassAbove (.type "NoneType")=pure none:=by unfold opaqueClassAbove;dsimp only;rw [show Manifest.isStub "NoneType" = false by decide +kernel];rfl
 have L0:Looks (model prog w) h (typeOf (.type "NoneType")) (.type "type"):=Looks.of_pure Z6l
 have LO:Looks (model prog w) h (opaqueClassAbove (.type "NoneType")) none:=Looks.of_pure hstub
 have L1:Looks (model prog w) h (typeLookup (.type "type") "__getattribute__") (some (.builtin "type.__getattribute__")):=Looks.of_pure KF.slot_tga.lookup
 have L2:Looks (model prog w) h (typeLookup (.type "NoneType") "__length_hint__") none:=Looks.of_pure Z4r
 have L3:Looks (model prog w) h (typeLookup (.type "type") "__length_hint__") none:=Looks.of_pure K7y
 have nc:∀ b,(b && onTheHeap (Value.builtin "type.__getattribute__"))=false:=fun b=>Bool.and_false _
 have f1:=sub_AttributeError
 unfold getAttr getAttrBy
 refine wBn (wpAny_mkText (wpAny_holding (wBn (L0.at (wBn (L1.at ?_))))))
 dsimp only
 rw [show (onTheHeap (.type "type") && Value.builtin "type.__getattribute__" == Value.builtin "object.__getattribute__")=false from rfl,if_neg (by decide)]
 unfold getAttrByItsOwn hookBefore
 refine wBn (wPu (wBn (wpAny_attempt (wpAny_holding ?_))))
 unfold callGetattribute
 rw [nc,if_neg (by decide)]
 unfold boundAndCalled
 rw [KF.slot_tga.bind]
 refine wBn (wPu ?_)
 refine wpAny_call (codeAny_call_builtin KF.slot_tga.plain KF.entry_tga ?_)
 refine @check_slot (model prog w) _ _ ⟨h,g,d,t+1,os⟩ "type.__getattribute__" "type" "__getattribute__" (.type "NoneType") [.str "__length_hint__" t] [] _ (by decide +kernel) (by decide +kernel) (L0.andThen (Looks.of_pure K1c)) (KF.args_tga _ _) ?_
 unfold Builtin.«type.__getattribute__»
 refine wBn (wPu (wBn (LO.at (wBn (L0.at (wBn (L3.at (wBn (wPu (wBn (L2.at ?_)))))))))))
 dsimp only
 refine wBn (wpAny_rule (wBn ?_))
 unfold typeNameCut
 repeat (first|wp_step)
 unfold raiseNew
 refine wBn (wpAny_handled ?_)
 rw [show A.in1.handled=none from hh]
 refine wpAny_throw ?_
 simp only [attrError_no_first,ownMembersOf_AttributeError,Bool.false_eq_true,if_false]
 generalize hx:(Str.ofString (toString "type object '"++toString ((Manifest.find? "NoneType").elim "NoneType" fun x=>x.tpName)++toString "' has no attribute '")++Str.ofString "__length_hint__"++Str.ofString "'")=msg
 clear hx
 rw [Heap.size_push]
 have hob:((h.push {cls:=.type "tuple",data:=.seq #[.str msg (t+1)]}).push {cls:=.type "AttributeError",data:=.fields (#[.ref h.objs.size,.none,.none,.none,.bool false,.none]++#[unsetMember,unsetMember])}).get? (h.objs.size+1)=some {cls:=.type "AttributeError",data:=.fields (#[.ref h.objs.size,.none,.none,.none,.bool false,.none]++#[unsetMember,unsetMember])}:=by heap_get
 have hT:(⟨(h.push {cls:=.type "tuple",data:=.seq #[.str msg (t+1)]}).push {cls:=.type "AttributeError",data:=.fields (#[.ref h.objs.size,.none,.none,.none,.bool false,.none]++#[unsetMember,unsetMember])},g,d,t+1+1,os⟩:Shared).TypeIs (.ref (h.objs.size+1)) "AttributeError":=⟨_,hob,rfl⟩
 have f2:=Z1i
 have f3:=Z6l
 unfold getattributeRaised
 repeat (any_goals (first|assumption|with_reducible refine wpAny_loadPart_at hob ?_|wp_step))
 exact hq _ _ _ ⟨fun b o hb=>by
   rw [Heap.get?_update_other _ _ (Nat.ne_of_gt (Nat.lt_succ_of_lt (Heap.lt_size hb)))]
   exact Heap.get?_push_of_some _ (Heap.get?_push_of_some _ hb),Heap.get?_none_of_le (Nat.le_succ _),_,_,Heap.get?_update_self _ hob rfl,rfl,rfl,rfl⟩
theorem K5i {Q:Value→Shared→Prop}(hq:Q (.type "NoneType") ⟨h,g,d,t,os⟩):wpAny (model prog w) A (call (.type "type") [.none]) Q E ⟨h,g,d,t,os⟩:=by
 refine wpAny_call (codeAny_of_tree ?_)
 show wpAny _ _ (callAny (.type "type") ⟨[.none],[]⟩) _ _ _
 simp only [callAny]
 refine wPu ⟨Code.quiet_builtin _ (by decide +kernel),codeAny_builtin entry_type_call ?_⟩
 unfold Builtin.«type.__call__»
 dsimp only
 unfold shownTypeOf
 repeat (first|wp_step)
 exact hq
end
theorem ExV.of_new {own:List Addr}{h h':Heap}{e:Addr}{T:String}{w:World}(x:Heap.NewExcOf h h' e T)(C:Cx w own h):ExV own [e] h' e (.type T) .none []:=by
 refine ab fun Q q9=>?_
 obtain ⟨ob,vs,h1,h2,h3,h4⟩:=x.there
 refine q9 ?_
 refine ⟨(xi2 ob vs ⟨h1,h2,h3,(Array.getElem?_eq_some_iff.mp h4).1,.inl ⟨_,rfl⟩,h4,.inr (.inl ⟨⟨_,rfl⟩,rfl⟩)⟩),.head _,fun b hb=>?_,fun b hb=>?_⟩
 ·have q:b=e:=by simpa using hb
  rw [q];exact C.fresh x.new
 ·have q:b=e:=by simpa using hb
  rw [q];exact ⟨_,h1⟩
theorem Z8l {h h':Heap}{e:Addr}{T:String}(x:Heap.NewExc h h' e T):Heap.NewExcOf h h' e T:=⟨x.keeps,x.new,by obtain ⟨ob,t,h1,h2,h3⟩:=x.there;exact (xi2 _ _ ⟨h1,h2,h3,rfl⟩)⟩
section
variable {w:World}{A:Around}{env:Env}{ns:List (Str×Bool)}{xs:List (Option X)}{pos npos:Pos}{n:Str}{k:Nat}{a l:Addr}{m:Nat}
theorem K2 {f:Expr}{id:String}{es:List Expr}{ys:List X}{T:String}(hn:Ok (nAt f=true))(hf:VE w A env ns xs f (.v (.builtin id)))(ha:VG w A env ns xs es ys)
  (hc:∀ own s vs,Cx w own s.heap→XAll own s.heap vs ys→wpAny (model PW w) A (call (.builtin id) vs) (fun _ _=>False) (fun e s'=>∃ a,e = .ref a∧Heap.NewExcOf s.heap s'.heap a T∧∃ h' tk,s' = {s with heap:=h',toks:=tk}) s):VRb w A env ns xs (.Call f es [] pos) T:=by
 refine ⟨fun own s F C=>?_⟩
 rw [J0o pos env hn.h]
 refine wBn (J0 (hf.h own s F C) fun v s1 hv k1=>?_)
 have hv:v = .builtin id:=hv
 subst hv
 have F1:=F.keeps (Kee.kps k1)
 have C1:=C.keeps (Kee.kps k1)
 refine callWith_builtin (ha.h.1 _) (wMo (ha.h.2 _ own s1 F1 C1 pos) (fun x s2 z=>?_) fun _ _ z=>z.elim)
 obtain ⟨z1,z2,k2⟩:=z
 rw [z1]
 have C2:=C1.keeps (Kee.kps k2)
 refine wMo (hc own s2 x.pos C2 z2) (fun _ _ q=>q.elim) fun e s3 q=>?_
 obtain ⟨a,rfl,q1,h',tk,rfl⟩:=q
 have k:=Kee.trans (Kee.trans k1 k2) (s'':={s2 with heap:=h',toks:=tk}) (xi2 h' tk ⟨rfl,q1.keeps⟩)
 refine ⟨a,rfl,.of_new q1 C2,?_,k⟩
 exact J0q (Kee.kps (Kee.trans k1 k2)) q1.new
end
section
variable {w:World}{A:Around}{env:Env}{outer:List Env}{ns:List (Str×Bool)}{xs:List (Option X)}{pos npos:Pos}{n:Str}{k:Nat}{a l:Addr}{m:Nat}{x z:X}{d:Int}
theorem K3c {p:Pos}(hk:Gn env "NotImplemented"):VE w A env ns xs (.Name "NotImplemented" p) (.v .notImplemented):=J2s hk (Ok.mk (by decide)) (Ok.mk fun _=>by with_unfolding_all rfl) (Ok.mk (by with_unfolding_all rfl)) (Ok.mk (by decide))
theorem J4w {p:Pos}(hk:Gn env "TypeError"):VE w A env ns xs (.Name "TypeError" p) (.v (.type "TypeError")):=J2s hk (Ok.mk (by decide)) (Ok.mk fun _=>by with_unfolding_all rfl) (Ok.mk (by with_unfolding_all rfl)) (Ok.mk (by decide))
theorem J8o {p:Pos}(hk:Gn env "AttributeError"):VE w A env ns xs (.Name "AttributeError" p) (.v (.type "AttributeError")):=J2s hk (Ok.mk (by decide)) (Ok.mk fun _=>by with_unfolding_all rfl) (Ok.mk (by with_unfolding_all rfl)) (Ok.mk (by decide))
theorem J4v:isSubtype (.type "TypeError") (.type "BaseException")=pure true:=F.isExc_TypeError
theorem J9b:isSubtype (.type "AttributeError") (.type "BaseException")=pure true:=by rw [isSubtype_type];kernel_rfl
theorem J8w:isSubtype (.type ((Manifest.find? "AttributeError").elim "type" fun x=>x.metatype)) (.type "tuple")=pure false:=by
 rw [show ((Manifest.find? "AttributeError").elim "type" fun x=>x.metatype)="type" from by kernel_rfl,isSubtype_type];kernel_rfl
noncomputable abbrev K6a:List (Str×Bool):=[("obj",false),("default",false),("msg",false),("hint",false),("val",false)]
theorem Z3o {o:Expr}{T:String}{name:Str}(ho:VE w A env ns xs o (.v (.type T)))(hb:Ok (attributeBase o name env (eval o env)=eval o env))(hl:Ok (∀ r,letTemporaryGo o (.type T) r=pure ()))
  (h:∀ s own,Cx w own s.heap→wpAny (model PW w) A (getAttr (.type T) name true) (fun v s'=>XIn own s'.heap v z∧Keeps s s') (fun _ _=>False) s):VE w A env ns xs (.Attribute o name pos) z:=by
 refine ⟨fun own s F C=>?_⟩
 rw [arm_eval_Attribute,hb.h]
 refine wBn (J0 (ho.h own s F C) fun v s1 hv k1=>?_)
 obtain rfl:v = .type T:=hv
 refine wBn (wpAny_standAt (wBn (wpAny_holding (J0 (h s1 own (C.keeps (Kee.kps k1))) fun r s2 hr k2=>?_))))
 rw [hl.h]
 exact wBn (wPu (wPu ⟨hr,Kee.trans k1 k2⟩))
theorem K5d {o:Expr}{T U:String}{name:Str}(ho:VE w A env ns xs o (.v (.type T)))(hb:Ok (attributeBase o name env (eval o env)=eval o env))
  (h:∀ s own,Cx w own s.heap→wpAny (model PW w) A (getAttr (.type T) name true) (fun _ _=>False) (fun e s'=>∃ a,e = .ref a∧Heap.NewExcOf s.heap s'.heap a U∧∃ h' tk,s' = {s with heap:=h',toks:=tk}) s):VRb w A env ns xs (.Attribute o name pos) U:=by
 refine ⟨fun own s F C=>?_⟩
 rw [arm_eval_Attribute,hb.h]
 refine wBn (J0 (ho.h own s F C) fun v s1 hv k1=>?_)
 obtain rfl:v = .type T:=hv
 have C1:=C.keeps (Kee.kps k1)
 refine wBn (wpAny_standAt (wBn (wpAny_holding (wMo (h s1 own C1) (fun _ _ q=>q.elim) fun e s3 q=>?_))))
 refine o12 q fun a e9a q1 r9a=>o20 r9a fun h' tk e9b=>?_;subst e9a;subst e9b;clear q
 have k:=Kee.trans k1 (s'':={s1 with heap:=h',toks:=tk}) (xi2 h' tk ⟨rfl,q1.keeps⟩)
 refine ⟨a,rfl,.of_new q1 C1,?_,k⟩
 exact J0q (Kee.kps k1) q1.new
theorem K4s (hA:Rm 2 A)(hfr:A.frames=some outer)(hok:∀ e∈outer,e.scope.kind≠.module∧∃ L,e.frame=some L):MQ w A (.ref 95) (frL outer) [N,I d] (I d):=by
 refine Z1b (ns:=K6a) (j:=3) (ys:=[N,I d]) ⟨fun _=>(xi3 _ _ _ rfl),fun _=>rfl,rfl,⟨rfl,rfl,rfl,rfl,rfl,rfl⟩,by decide,by decide,by decide⟩ hA.dl hfr hok (fun own s vs A C hv=>by
  refine XAll.e2 hv fun v u r q=>?_
  refine J7b (binds:=[("obj",v),("default",u)]) C.glh.K ?_ ?_
  ·intro S;rfl
  ·exact ⟨rfl,[v,u],rfl,.cons r (.cons q .nil)⟩) (fun _ q=>q) ?_ (by rfl)
 intro env L he hfr'
 have fr0:env.frame=some env.locals:=by subst he;rfl
 have hh:(A.deeper env).handled=none:=hA.hd
 generalize A.deeper env=A' at hfr' hh ⊢
 refine ⟨[some N,some (I d),none,none,none],?_⟩
 apply J7z (xs':=[some N,some (I d),none,none,none]) (Z6v ?_) rfl
 rotate_left
 ·apply J0g
  ·refine VT.eq (b:=!true) ?_ rfl
   apply wt_not
   apply J0v
   ·x_close
   ·apply w_callb (id:="isinstance") (ys:=[I d,.v (.type "int")])
    ·x_close
    ·x_close
    ·apply wg_cons
     ·x_close
     ·repeat' x_close
    ·exact J2v
  ·exact J0c
 apply J7z (xs':=[some N,some (I d),none,none,none]) (J8e hfr' fr0 J4v F.notTuple_TypeError F.self_TypeError ?_ ?_ ?_) rfl
 rotate_left
 ·refine K1t (K2 (id:="len") (ys:=[N]) (Ok.mk rfl) ?_ ?_ ?_)
  ·x_close
  ·repeat' x_close
  ·intro own s vs C hv
   refine XAll.e1 hv fun v r=>?_
   obtain rfl:=Rd.inv_none r
   obtain ⟨hp,g,dr,t,os⟩:=s
   exact K8t hh fun h' tk e x=>⟨e,rfl,Z8l x,h',tk,rfl⟩
 ·intro a
  exact J4w (by subst he;exact Gn.mk rfl)
 ·intro a
  apply J0b (xs':=[some N,some (I d),none,none,none])
  ·exact ⟨fun own s F C=>wpAny_Pass ⟨trivial,F,.refl⟩⟩
  ·exact J0c
 apply Z6h (J8e hfr' fr0 J9b J8w sub_AttributeError ?_ ?_ ?_)
 ·refine K7m (K5d (T:="NoneType") ?_ (Ok.mk rfl) ?_) (by rfl)
  ·apply w_callt (T:="type") (ys:=[N])
   ·x_close
   ·x_close
   ·repeat' x_close
   ·refine ⟨fun own s vs C hv=>?_⟩
    refine XAll.e1 hv fun v r=>?_
    obtain rfl:=Rd.inv_none r
    obtain ⟨hp,g,dr,t,os⟩:=s
    exact K5i ⟨rfl,Kee.refl⟩
  ·intro s own C
   obtain ⟨hp,g,dr,t,os⟩:=s
   exact K4u hh fun h' tk e x=>⟨e,rfl,x,h',tk,rfl⟩
 ·intro a
  exact J8o (by subst he;exact Gn.mk rfl)
 ·intro a
  apply J0i
  apply J0n
  x_close
end
section
variable {w:World}{A:Around}{env:Env}{outer:List Env}{ns:List (Str×Bool)}{xs:List (Option X)}{pos npos:Pos}{n:Str}{k:Nat}{a l:Addr}{m:Nat}{x z:X}{d:Int}
theorem Z7k {i:Int}:V2 w A (compareOp .Is) (I i) (.v .notImplemented) (B false):=⟨fun own s vs C hv=>by
 refine XAll.e2 hv fun v u r q=>?_
 obtain ⟨t,rfl⟩:=Rd.inv_int r
 obtain rfl:u = .notImplemented:=q
 exact wPu (a:=Value.bool false) ⟨Rd.bool,Kee.refl⟩⟩
theorem K4e (hA:Rm 2 A)(hfr:A.frames=some outer)(hok:∀ e∈outer,e.scope.kind≠.module∧∃ L,e.frame=some L):MQ w A (.ref 95) (frL outer) [.it a l m k,I d] (I ((m - k:Nat):Int)):=by
 refine Z1b (ns:=K6a) (j:=3) (ys:=[.it a l m k,I d]) ⟨fun _=>(xi3 _ _ _ rfl),fun _=>rfl,rfl,⟨rfl,rfl,rfl,rfl,rfl,rfl⟩,by decide,by decide,by decide⟩ hA.dl hfr hok (fun own s vs A C hv=>by
  refine XAll.e2 hv fun v u r q=>?_
  refine J7b (binds:=[("obj",v),("default",u)]) C.glh.K ?_ ?_
  ·intro S;rfl
  ·exact ⟨rfl,[v,u],rfl,.cons r (.cons q .nil)⟩) (fun _ q=>q) ?_ (by rfl)
 intro env L he hfr'
 have fr0:env.frame=some env.locals:=by subst he;rfl
 have hh:(A.deeper env).handled=none:=hA.hd
 generalize A.deeper env=A' at hfr' hh ⊢
 refine ⟨[some (.it a l m k),some (I d),none,some (.v (.builtin "list_iterator.__length_hint__")),some (I ((m - k:Nat):Int))],?_⟩
 apply J7z (xs':=[some (.it a l m k),some (I d),none,none,none]) (Z6v ?_) rfl
 rotate_left
 ·apply J0g
  ·refine VT.eq (b:=!true) ?_ rfl
   apply wt_not
   apply J0v
   ·x_close
   ·apply w_callb (id:="isinstance") (ys:=[I d,.v (.type "int")])
    ·x_close
    ·x_close
    ·apply wg_cons
     ·x_close
     ·repeat' x_close
    ·exact J2v
  ·exact J0c
 apply J7z (xs':=[some (.it a l m k),some (I d),none,none,none]) (J8e hfr' fr0 J4v F.notTuple_TypeError F.self_TypeError ?_ ?_ ?_) rfl
 rotate_left
 ·refine K1t (K2 (id:="len") (ys:=[.it a l m k]) (Ok.mk rfl) ?_ ?_ ?_)
  ·x_close
  ·repeat' x_close
  ·intro own s vs C hv
   refine XAll.e1 hv fun v r=>?_
   obtain ⟨rfl,⟨o,ho,hc,hd⟩,_⟩:=r
   obtain ⟨hp,g,dr,t,os⟩:=s
   exact K9v ho hc hh fun h' tk e x=>⟨e,rfl,Z8l x,h',tk,rfl⟩
 ·intro ea
  exact J4w (by subst he;exact Gn.mk rfl)
 ·intro ea
  apply J0b (xs':=[some (.it a l m k),some (I d),none,none,none])
  ·exact ⟨fun own s F C=>wpAny_Pass ⟨trivial,F,.refl⟩⟩
  ·exact J0c
 apply V0y
 apply J0b (xs':=[some (.it a l m k),some (I d),none,some (.v (.builtin "list_iterator.__length_hint__")),none])
 ·apply J5t
  apply J0b (xs':=[some (.it a l m k),some (I d),none,some (.v (.builtin "list_iterator.__length_hint__")),none])
  ·apply J0h
   ·x_close
   ·refine Z3o (z:=.v (.builtin "list_iterator.__length_hint__")) (T:="list_iterator") ?_ (Ok.mk rfl) (Ok.mk fun _=>rfl) ?_
    ·apply w_callt (T:="type") (ys:=[.it a l m k])
     ·x_close
     ·x_close
     ·repeat' x_close
     ·refine ⟨fun own s vs C hv=>?_⟩
      refine XAll.e1 hv fun v r=>?_
      obtain ⟨rfl,⟨o,ho,hc,hd⟩,_⟩:=r
      obtain ⟨hp,g,dr,t,os⟩:=s
      exact call_type_obj ho (by rw [hc];decide) (by rw [hc];exact ⟨rfl,Kee.refl⟩)
    ·intro s own C
     obtain ⟨hp,g,dr,t,os⟩:=s
     exact K8q C.glh.K ⟨rfl,hp,t+1,rfl,fun _ _ q=>q⟩
   ·repeat' x_close
  ·exact J0c
 apply J0b (xs':=[some (.it a l m k),some (I d),none,some (.v (.builtin "list_iterator.__length_hint__")),some (I ((m - k:Nat):Int))])
 ·apply J5t
  apply J0b (xs':=[some (.it a l m k),some (I d),none,some (.v (.builtin "list_iterator.__length_hint__")),some (I ((m - k:Nat):Int))])
  ·apply J0h
   ·x_close
   ·apply w_callb (id:="list_iterator.__length_hint__") (ys:=[.it a l m k]) (z:=I ((m - k:Nat):Int))
    ·x_close
    ·x_close
    ·repeat' x_close
    ·refine ⟨fun own s vs C hv=>?_⟩
     refine XAll.e1 hv fun v r=>?_
     obtain ⟨rfl,hi,hkm,_,us,hl,hsz,_⟩:=r
     obtain ⟨hp,g,dr,t,os⟩:=s
     refine K3x hi hl fun tk u=>?_
     rw [show max (0:Int) ((us.size:Int) - k)=((m - k:Nat):Int) by lia]
     exact ⟨Rd.int,hp,u,rfl,fun _ _ q=>q⟩
   ·repeat' x_close
  ·exact J0c
 apply J0b (xs':=[some (.it a l m k),some (I d),none,some (.v (.builtin "list_iterator.__length_hint__")),some (I ((m - k:Nat):Int))])
 ·apply J0g
  ·apply wt_cmp
   ·x_close
   ·x_close
   ·exact K3c (by subst he;exact Gn.mk rfl)
   ·exact Z7k
  ·exact J0c
 apply J0b (xs':=[some (.it a l m k),some (I d),none,some (.v (.builtin "list_iterator.__length_hint__")),some (I ((m - k:Nat):Int))])
 ·apply J0g
  ·refine VT.eq (b:=!true) ?_ rfl
   apply wt_not
   apply J0v
   ·x_close
   ·apply w_callb (id:="isinstance") (ys:=[I ((m - k:Nat):Int),.v (.type "int")])
    ·x_close
    ·x_close
    ·apply wg_cons
     ·x_close
     ·repeat' x_close
    ·exact J2v
  ·exact J0c
 apply J0b (xs':=[some (.it a l m k),some (I d),none,some (.v (.builtin "list_iterator.__length_hint__")),some (I ((m - k:Nat):Int))])
 ·apply J0g
  ·refine VT.eq (b:=decide (((m - k:Nat):Int)<0)) ?_ (by simp)
   repeat' x_close
  ·exact J0c
 apply J0i
 apply J0n
 x_close
theorem J9o {k:Int}(hA:Rm 1 A)(hlen:∀ A,VF w A (.builtin "len") [x] (I k)):VF w A (.ref 95) [x,I d] (I k):=by
 refine K5a (j:=3) (ys:=[x,I d]) (ns:=K6a) ⟨fun _=>(xi3 _ _ _ rfl),fun _=>rfl,rfl,⟨rfl,rfl,rfl,rfl,rfl,rfl⟩,by decide,by decide,by decide⟩ hA.dl ?_ ?_ (by rfl)
 ·intro own s vs A C hv
  refine XAll.e2 hv fun v u r q=>?_
  refine J7b (binds:=[("obj",v),("default",u)]) C.glh.K ?_ ?_
  ·intro S;rfl
  ·exact ⟨rfl,[v,u],rfl,.cons r (.cons q .nil)⟩
 intro env L he
 refine ⟨[some x,some (I d),none,none,none],?_⟩
 apply J0b (xs':=[some x,some (I d),none,none,none])
 ·apply J0g
  ·refine VT.eq (b:=!true) ?_ rfl
   apply wt_not
   apply J0v
   ·x_close
   ·apply w_callb (id:="isinstance") (ys:=[I d,.v (.type "int")])
    ·x_close
    ·x_close
    ·apply wg_cons
     ·x_close
     ·repeat' x_close
    ·exact J2v
  ·exact J0c
 ·apply J0i
  apply J6l
  apply J0i
  apply J0n
  apply w_callb (id:="len") (ys:=[x])
  ·x_close
  ·x_close
  ·repeat' x_close
  ·exact hlen _
end
structure ZT (z TI TO i1 i2 l1 l2:Addr)(xs ys:Array Value)(f0:Value)(k1 k2:Nat)(h:Heap):Prop where
 hz:IsZip h z TI TO f0
 hTI:IsPair h TI (.ref i1) (.ref i2)
 hTO:∃ a b,IsPair h TO a b
 h1:h.IsTupleIter i1 l1 k1
 h2:h.IsTupleIter i2 l2 k2
 t1:h.IsTuple l1 xs
 t2:h.IsTuple l2 ys
section
variable {prog:Program}{w:World}{A:Around}{E:Value→Shared→Prop}{s:Shared}{z TI TO i1 i2 l1 l2:Addr}{xs ys:Array Value}{f0:Value}{k1 k2:Nat}
theorem J6h {h h':Heap}{a t i}(x:h.IsTupleIter a t i)(e:∀ o,h.get? a=some o→h'.get? a=some o):h'.IsTupleIter a t i:=let ⟨o,ho,r⟩:=x;⟨o,e o ho,r⟩
theorem J2l {h h':Heap}{a vs}(x:h.IsTuple a vs)(e:∀ o,h.get? a=some o→h'.get? a=some o):h'.IsTuple a vs:=let ⟨o,ho,r⟩:=x;⟨o,e o ho,r⟩
theorem J5y {it t:Addr}{i:Nat}{items:Array Value}{x:Value}{Q:Value→Shared→Prop}(hit:s.heap.IsTupleIter it t i)(ht:s.heap.IsTuple t items)(hx:items[i]? = some x)
  (hQ:∀ h',h'.IsTupleIter it t (i+1)→Heap.SameBut it s.heap h'→Q x {s with heap:=h'}):wpAny (model prog w) A (Builtin.SmallTypes.nextOf (.ref it)) Q E s:=by
 refine ab fun Q q9=>?_
 refine o12 (id hit) fun o ho hc hd=>?_
 refine o12 ht fun ol hol _ r9a=>o10 r9a fun nl hdl=>?_;clear ht
 refine q9 ?_
 refine wBn (wpAny_callSpecial?_slot (name:=Str.ofString "__next__") hit.typeIs F.slot_tuple_iterator_next (wpAny_call_entry F.slot_tuple_iterator_next hit.typeIs F.entry_tuple_iterator_next ?_ (F.args_tuple_iterator_next_1 _)))
 show wpAny _ _ (field (.ref it) 0>>=_) _ _ s
 refine wBn (wpAny_field ho hd (x:=.ref t) rfl ?_)
 rw [if_neg (show ¬ ((Value.ref t == Value.none)=true) from Bool.false_ne_true)]
 refine wBn (wpAny_field ho hd (x:=.int i 0) rfl (wBn (wpAny_seqItems hol hdl ?_)))
 simp only [Int.toNat_natCast,hx]
 refine wBn (wpAny_setField ho hd (by simp) (wPu ⟨x,rfl,wPu (hQ _ ⟨_,Heap.get?_update_self _ ho (Obj.isFreed_of_fields (Obj.data_mapFields hd _)),(Obj.cls_mapFields ..).trans hc,?_⟩ (Heap.SameBut.update ..))⟩))
 rw [Obj.data_mapFields hd];simp [rawInt]
theorem K2w {it t:Addr}{i:Nat}{items:Array Value}{Q:Value→Shared→Prop}(hh:A.handled=none)(hit:s.heap.IsTupleIter it t i)(ht:s.heap.IsTuple t items)(hx:items[i]? = none)
  (hE:∀ h' e,Heap.ExtBut it s.heap h'→(∃ o,h'.get? e=some o∧o.cls = .type "StopIteration")→E (.ref e) {s with heap:=h'}):wpAny (model prog w) A (Builtin.SmallTypes.nextOf (.ref it)) Q E s:=by
 refine ab fun Q q9=>?_
 refine o12 (id hit) fun o ho hc hd=>?_
 refine o12 ht fun ol hol _ r9a=>o10 r9a fun nl hdl=>?_;clear ht
 refine q9 ?_
 refine wBn (wpAny_callSpecial?_slot (name:=Str.ofString "__next__") hit.typeIs F.slot_tuple_iterator_next (wpAny_call_entry F.slot_tuple_iterator_next hit.typeIs F.entry_tuple_iterator_next ?_ (F.args_tuple_iterator_next_1 _)))
 show wpAny _ _ (field (.ref it) 0>>=_) _ _ s
 refine wBn (wpAny_field ho hd (x:=.ref t) rfl ?_)
 rw [if_neg (show ¬ ((Value.ref t == Value.none)=true) from Bool.false_ne_true)]
 refine wBn (wpAny_field ho hd (x:=.int i 0) rfl (wBn (wpAny_seqItems hol hdl ?_)))
 simp only [Int.toNat_natCast,hx]
 refine wBn (wpAny_rule (wBn (wpAny_setField ho hd (by simp) ?_)))
 show wpAny _ _ (newExc (.type "StopIteration") []>>=_) _ _ _
 refine wBn ?_
 simp only [newExc,newTuple]
 refine wBn (wpAny_newObj_type ?_ (by size_fits))
 refine wBn (m:=firstArgMember _ _) (wpAny_of_eq (a:=Value.none) (by first|rfl|(simp only [firstArgMember];rfl)) ?_)
 refine wpAny_newObj_type ?_ (by size_fits)
 simp only [raiseNew]
 refine wBn (wpAny_handled ?_)
 first|rw [show A.in1.handled=none from hh]|rw [hh]
 refine wBn (wPu (wpAny_throw ?_))
 exact hE _ _ (((Heap.SameBut.update ..).extBut.push _).push _) ⟨_,Heap.get?_push_size _ rfl,rfl⟩
theorem K2x {k:Nat}{x y:Value}{Q:Value→Shared→Prop}(D:ZipApart z TI TO i1 i2 l1 l2)(Z:ZT z TI TO i1 i2 l1 l2 xs ys .none k k s.heap)(hx:xs[k]? = some x)(hy:ys[k]? = some y)
  (hQ:∀ h',ZT z TI TO i1 i2 l1 l2 xs ys (rawInt s.heap.objs.size) (k+1) (k+1) h'→h'.IsTuple s.heap.objs.size #[x,y]→(∀ c o,c≠z→c≠TO→c≠i1→c≠i2→s.heap.get? c=some o→h'.get? c=some o)→Q (.ref s.heap.objs.size) {s with heap:=h'}) :
  wpAny (model prog w) A (Builtin.«zip.__next__» ⟨[.ref z],[]⟩) (fun fin s'=>∃ v,fin = .done (.ret v)∧Q v s') E s:=by
 obtain ⟨hz,hTI,⟨a0,b0,hTO⟩,h1,h2,t1,t2⟩:=Z
 show wpAny _ _ (field (.ref z) 2>>=_) _ _ _
 refine wBn (wpAny_field hz rfl (x:=.bool false) rfl ?_)
 refine wBn (wpAny_field hz rfl (x:=.ref TI) rfl (wBn (wpAny_seqItems hTI rfl ?_)))
 show wpAny _ _ (Builtin.SmallTypes.ownedTupleIsFree (.ref z)>>=_) _ _ _
 refine wBn ?_
 unfold Builtin.SmallTypes.ownedTupleIsFree
 refine wBn (wpAny_field hz rfl (x:=.none) rfl (wPu ?_))
 simp only [if_true]
 refine wBn (wpAny_rule (wBn (wpAny_field hz rfl (x:=.ref TO) rfl (wBn (wpAny_setField_rec hz (by simp) fun g1 z1 b1=>?_)))))
 replace z1:IsZip g1 z TI TO .ellipsis:=z1
 refine wBn ?_
 simp only [List.zipIdx_cons,List.zipIdx_nil,List.forIn_cons,List.forIn_nil]
 refine wBn (wBn (wpAny_onRaise ?_))
 show wpAny _ _ (Builtin.SmallTypes.nextOf (.ref i1)>>=_) _ _ _
 refine wBn (J5y (s:={s with heap:=g1}) (h1.extBut b1.extBut D.i1z) (t1.extBut b1.extBut D.l1z) hx fun g2 h1' b2=>wPu ?_)
 have p2:IsPair g2 TO a0 b0:=b2.extBut _ _ D.TOi1 (b1.extBut _ _ D.TOz hTO)
 refine wBn (wpAny_seqItems (s:={s with heap:=g2}) p2 rfl (wBn (wpAny_updateSeq_pair (s:={s with heap:=g2}) p2 fun g3 p3 b3=>?_)))
 replace p3:IsPair g3 TO x b0:=p3
 refine wBn (wpAny_letGo (wPu (wBn (wBn (wpAny_onRaise ?_)))))
 show wpAny _ _ (Builtin.SmallTypes.nextOf (.ref i2)>>=_) _ _ _
 have e3:∀ c o,c≠z→c≠TO→c≠i1→s.heap.get? c=some o→g3.get? c=some o:=fun c o n1 n2 n3 e=>b3.extBut _ _ n2 (b2.extBut _ _ n3 (b1.extBut _ _ n1 e))
 refine wBn (J5y (s:={s with heap:=g3}) (J6h h2 fun o e=>e3 _ o D.i2z D.TOi2.symm D.i12.symm e) (J2l t2 fun o e=>e3 _ o D.l2z D.l2TO D.l2i1 e) hy fun g4 h2' b4=>wPu ?_)
 have p4:IsPair g4 TO x b0:=b4.extBut _ _ D.TOi2 p3
 refine wBn (wpAny_seqItems (s:={s with heap:=g4}) p4 rfl (wBn (wpAny_updateSeq_pair (s:={s with heap:=g4}) p4 fun g5 p5 b5=>?_)))
 replace p5:IsPair g5 TO x y:=p5
 refine wBn (wpAny_letGo (wPu (wPu ?_)))
 refine wBn (wpAny_seqItems (s:={s with heap:=g5}) p5 rfl (wBn (wpAny_newTuple ?_)))
 have hsz:g5.objs.size=s.heap.objs.size:=by rw [b5.1,b4.1,b3.1,b2.1,b1.1]
 have z5:IsZip g5 z TI TO .ellipsis:=b5.extBut _ _ D.TOz.symm (b4.extBut _ _ D.i2z.symm (b3.extBut _ _ D.TOz.symm (b2.extBut _ _ D.i1z.symm z1)))
 have e5:∀ c o,c≠z→c≠TO→c≠i1→c≠i2→s.heap.get? c=some o→g5.get? c=some o:=fun c o n1 n2 n3 n4 e=>b5.extBut _ _ n2 (b4.extBut _ _ n4 (e3 c o n1 n2 n3 e))
 have h15:g5.IsTupleIter i1 l1 (k+1):=J6h h1' fun o e=>b5.extBut _ _ D.TOi1.symm (b4.extBut _ _ D.i12 (b3.extBut _ _ D.TOi1.symm e))
 have h25:g5.IsTupleIter i2 l2 (k+1):=h2'.extBut b5.extBut D.TOi2.symm
 have lt:∀ {c o},g5.get? c=some o→g5.objs.size≠c:=fun e=>Nat.ne_of_gt (Heap.lt_size e)
 refine wBn ?_
 unfold Builtin.SmallTypes.ownedTupleHandOut
 have z6:IsZip (g5.push {cls:=.type "tuple",data:=.seq #[x,y]}) z TI TO .ellipsis:=Heap.get?_push_of_some _ z5
 refine wBn (wpAny_setField_rec z6 (by simp) fun g7 z7 b7=>?_)
 replace z7:IsZip g7 z TI TO (rawInt g5.objs.size):=z7
 refine wpAny_setField_rec z7 (by simp) fun g8 z8 b8=>?_
 replace z8:IsZip g8 z TI TO (rawInt g5.objs.size):=z8
 have up:∀ c o,c≠z→g5.get? c=some o→g8.get? c=some o:=fun c o n e=>b8.extBut _ _ n (b7.extBut _ _ n (Heap.get?_push_of_some _ e))
 have T8:g8.IsTuple g5.objs.size #[x,y]:=⟨_,b8.extBut _ _ (lt z5) (b7.extBut _ _ (lt z5) (Heap.get?_push_size _ rfl)),rfl,_,rfl⟩
 rw [hsz] at z8 T8
 refine wPu ⟨_,rfl,?_⟩
 show Q (.ref g5.objs.size) _
 rw [hsz]
 refine hQ g8 ⟨z8,up _ _ D.TIz (e5 _ _ D.TIz D.TITO D.TIi1 D.TIi2 hTI),(xi2 x y (up _ _ D.TOz p5)),J6h h15 fun o e=>up _ o D.i1z e,J6h h25 fun o e=>up _ o D.i2z e,J2l t1 fun o e=>up _ o D.l1z (e5 _ o D.l1z D.l1TO D.l1i1 D.l1i2 e),J2l t2 fun o e=>up _ o D.l2z (e5 _ o D.l2z D.l2TO D.l2i1 D.l2i2 e)⟩ T8 fun c o n1 n2 n3 n4 e=>up c o n1 (e5 c o n1 n2 n3 n4 e)
theorem K6s {k:Nat}{Q:Fin→Shared→Prop}(hh:A.handled=none)(D:ZipApart z TI TO i1 i2 l1 l2)(Z:ZT z TI TO i1 i2 l1 l2 xs ys .none k k s.heap)(hx:xs[k]? = none)
  (hE:∀ h' e,(∀ c o,c≠z→c≠TO→c≠i1→c≠i2→s.heap.get? c=some o→h'.get? c=some o)→(∃ o,h'.get? e=some o∧o.cls = .type "StopIteration")→E (.ref e) {s with heap:=h'}) :
  wpAny (model prog w) A (Builtin.«zip.__next__» ⟨[.ref z],[]⟩) Q E s:=by
 obtain ⟨hz,hTI,⟨a0,b0,hTO⟩,h1,h2,t1,t2⟩:=Z
 show wpAny _ _ (field (.ref z) 2>>=_) _ _ _
 refine wBn (wpAny_field hz rfl (x:=.bool false) rfl ?_)
 refine wBn (wpAny_field hz rfl (x:=.ref TI) rfl (wBn (wpAny_seqItems hTI rfl ?_)))
 show wpAny _ _ (Builtin.SmallTypes.ownedTupleIsFree (.ref z)>>=_) _ _ _
 refine wBn ?_
 unfold Builtin.SmallTypes.ownedTupleIsFree
 refine wBn (wpAny_field hz rfl (x:=.none) rfl (wPu ?_))
 simp only [if_true]
 refine wBn (wpAny_rule (wBn (wpAny_field hz rfl (x:=.ref TO) rfl (wBn (wpAny_setField_rec hz (by simp) fun g1 z1 b1=>?_)))))
 replace z1:IsZip g1 z TI TO .ellipsis:=z1
 refine wBn ?_
 simp only [List.zipIdx_cons,List.zipIdx_nil,List.forIn_cons,List.forIn_nil]
 refine wBn (wBn (wpAny_onRaise ?_))
 show wpAny _ _ (Builtin.SmallTypes.nextOf (.ref i1)>>=_) _ _ _
 refine wBn (K2w (s:={s with heap:=g1}) hh (h1.extBut b1.extBut D.i1z) (t1.extBut b1.extBut D.l1z) hx fun g2 e b2 he=>?_)
 refine o11 he fun oe hoe hce=>?_;clear he
 have z2:IsZip g2 z TI TO .ellipsis:=b2 _ _ D.i1z.symm z1
 have ez:e≠z:=fun q=>by subst q;rw [z2] at hoe;cases hoe;simp at hce
 exact wpAny_setField_rec (s:={s with heap:=g2}) z2 (by simp) fun g3 _ b3=>hE g3 e (fun c o n1 _ n3 _ q=>b3.extBut _ _ n1 (b2 _ _ n3 (b1.extBut _ _ n1 q))) ⟨oe,b3.extBut _ _ ez hoe,hce⟩
end
noncomputable abbrev tabP:Addr:=125
def PlOk (h:Heap):Prop:=∃ o ps,h.get? tabP=some o∧o.data = .fields ps∧TriplesOk ps.toList∧o = {cls:=.none,data:=.fields ps}
noncomputable def J8f (acc:List (Str×PyData)) (k:Str) (d:PyData):List (Str×PyData):=
 if acc.any (fun p=>p.1=k) then acc.map (fun p=>if p.1=k then (p.1,d) else p) else acc++[(k,d)]
noncomputable def getD? (acc:List (Str×PyData)) (k:Str):Option PyData:=(acc.find? fun p=>p.1=k).map (·.2)
def DAt (w:World)(own:List Addr)(h:Heap)(D:Addr)(acc:List (Str×PyData)):Prop:=∃ kv,h.DictOf (strKind PW w) D kv∧kv.map (·.1)=acc.map (·.1)∧RdAll own h (kv.map (·.2)) (acc.map (·.2))∧(D == sysModules)=false
def DicP (w:World)(acc:List (Str×PyData))(h:Heap)(v:Value):Prop:=∃ D kv as,v = .ref D∧h.DictOf (strKind PW w) D kv∧kv.map (·.1)=acc.map (·.1)∧ReadsAll h (kv.map (·.2)) (acc.map (·.2)) as∧(D == sysModules)=false
noncomputable abbrev DX (w:World) (acc:List (Str×PyData)):X:=.p (DicP w acc)
theorem DicP.st {w acc}:∀ h h' v,Kps h h'→DicP w acc h v→DicP w acc h' v:=fun h h' v k ⟨D,kv,as,e,h1,h2,h3,h4⟩=>⟨D,kv,as,e,h1.keep k,h2,ReadsAll.keeps k h3,h4⟩
theorem DX.at {w own h v acc}(r:XIn own h v (DX w acc)):∃ D,v = .ref D∧D∉own∧DAt w own h D acc:=by
 skip
 refine o01 r fun _ r9a=>o34 r9a fun D kv as e9a h1 h2 h3 h4=>?_;subst e9a;clear r
 skip
 refine ⟨D,rfl,fun m=>?_,kv,h1.at fun o e=>of_hideAll _ e,h2,.of_reads h3,h4⟩
 refine o31 h1 fun o _ _ e _=>?_;clear h1
 rw [hideAll_none _ m] at e;cases e
theorem DAt.dx {w own h D acc}(x:DAt w own h D acc)(hD:D∉own):XIn own h (.ref D) (DX w acc):=by
 skip
 refine o13 x fun kv h1 h2 h3 h4=>?_;clear x
 refine o10 h3.hid fun as h3=>?_
 skip
 exact ⟨DicP.st,D,kv,as,rfl,h1.at fun o e=>hideAll_get _ e hD,h2,h3,h4⟩
theorem DAt.mono {w own own' h h' D acc}(x:DAt w own h D acc)(hD:∀ o,h.get? D=some o→h'.get? D=some o)(hid:Kps (hideAll h own) (hideAll h' own')):DAt w own' h' D acc:=by
 skip
 refine o13 x fun kv h1 h2 h3 h4=>?_;clear x
 skip
 exact ⟨kv,h1.at hD,h2,h3.mono hid,h4⟩
theorem J8n {kv:List (Str×Value)}{acc:List (Str×PyData)}{k:Str}{v:Value}{d:PyData}(h:kv.map (·.1)=acc.map (·.1)):(stored kv k v).map (·.1)=(J8f acc k d).map (·.1):=by
 have ha:kv.any (fun p=>p.1=k)=acc.any (fun p=>p.1=k):=by
  have e1:kv.any (fun p=>decide (p.1=k))=(kv.map (·.1)).any (fun x=>decide (x=k)):=by rw [List.any_map];rfl
  have e2:acc.any (fun p=>decide (p.1=k))=(acc.map (·.1)).any (fun x=>decide (x=k)):=by rw [List.any_map];rfl
  rw [e1,e2,h]
 unfold stored J8f
 rw [ha]
 split
 ·have f1:(kv.map fun p=>if p.1=k then (p.1,v) else p).map (·.1)=kv.map (·.1):=by rw [List.map_map];apply List.map_congr_left;intro p _;simp only [Function.comp];split<;>rfl
  have f2:(acc.map fun p=>if p.1=k then (p.1,d) else p).map (·.1)=acc.map (·.1):=by rw [List.map_map];apply List.map_congr_left;intro p _;simp only [Function.comp];split<;>rfl
  rw [f1,f2,h]
 ·rw [List.map_append,List.map_append,h];rfl
theorem K5z {own h}{v:Value}{d:PyData}(hv:Rd own h v d){k:Str}:∀ {kv:List (Str×Value)} {acc:List (Str×PyData)},kv.map (·.1)=acc.map (·.1)→RdAll own h (kv.map (·.2)) (acc.map (·.2))→RdAll own h ((stored kv k v).map (·.2)) ((J8f acc k d).map (·.2)):=by
 intro kv acc hk r
 have ha:kv.any (fun p=>p.1=k)=acc.any (fun p=>p.1=k):=by
  have e1:kv.any (fun p=>decide (p.1=k))=(kv.map (·.1)).any (fun x=>decide (x=k)):=by rw [List.any_map];rfl
  have e2:acc.any (fun p=>decide (p.1=k))=(acc.map (·.1)).any (fun x=>decide (x=k)):=by rw [List.any_map];rfl
  rw [e1,e2,hk]
 unfold stored J8f
 rw [ha]
 split
 ·rename_i hany
  clear hany ha
  induction kv generalizing acc with
  |nil=>cases acc<;>first|exact .nil|cases hk
  |cons p kv ih=>
   cases acc with
   |nil=>cases hk
   |cons q acc=>
    rw [List.map_cons,List.map_cons] at hk
    refine o01 (List.cons.inj hk) fun e1 e2=>?_
    cases r with
    |cons r1 r2=>
     have:=ih e2 r2
     simp only [List.map_cons]
     refine .cons ?_ this
     rw [show (if p.1=k then (p.1,v) else p).2=if p.1=k then v else p.2 by split<;>rfl,show (if q.1=k then (q.1,d) else q).2=if q.1=k then d else q.2 by split<;>rfl,← e1]
     split
     ·exact hv
     ·exact r1
 ·rw [List.map_append,List.map_append]
  exact r.append (.cons hv .nil)
def SameG (s s':Shared):Prop:=∃ h' tk gs,s' = {s with heap:=h',toks:=tk,gens:=gs}∧(AllBare s.gens→AllBare gs)
theorem SameG.refl {s}:SameG s s:=(xi3 _ _ _ ⟨rfl,id⟩)
theorem SameG.trans {s s' s''}(a:SameG s s')(b:SameG s' s''):SameG s s'':=by
 refine o31 a fun h t g e9a p=>?_;subst e9a;clear a
 refine o31 b fun h' t' g' e9a q=>?_;subst e9a;clear b
 exact xi3 h' t' g' ⟨rfl,fun x=>q (p x)⟩
theorem SameG.of {s s'}(a:∃ h' tk,s' = {s with heap:=h',toks:=tk}):SameG s s':=by obtain ⟨h,t,rfl⟩:=a;exact xi3 h t s.gens ⟨rfl,id⟩
structure CD (env:Env)(D:Addr)(s s':Shared):Prop where
 same:SameG s s'
 but:∀ b o,b∉frs env→b≠D→b≠tabP→s.heap.get? b=some o→s'.heap.get? b=some o
 live:∀ b o,s.heap.get? b=some o→∃ o',s'.heap.get? b=some o'
theorem CD.refl {env D s}:CD env D s s:=⟨.refl,fun _ _ _ _ _ e=>e,fun _ o e=>⟨o,e⟩⟩
theorem CD.trans {env D s s' s''}(a:CD env D s s')(b:CD env D s' s''):CD env D s s'':=⟨a.same.trans b.same,fun x o n1 n2 n3 e=>b.but x o n1 n2 n3 (a.but x o n1 n2 n3 e),fun x o e=>let ⟨o',e'⟩:=a.live x o e;b.live x o' e'⟩
theorem CD.of_keeps {env D s s'}(k:Keeps s s'):CD env D s s':=⟨.of (let ⟨h,t,e,_⟩:=k;⟨h,t,e⟩),fun b o _ _ _ e=>Kee.kps k b o e,fun b o e=>⟨o,Kee.kps k b o e⟩⟩
theorem CD.of_chg {own env D s s' ns xs'}(k:Chg own env s s')(F:Frm own env ns xs' s'.heap):CD env D s s':=⟨.of k.same,fun b o n _ _ e=>k.sto.but b o n e,fun b o e=>by
 by_cases m:b∈frs env
 ·refine o11 (F.notF b m) fun o e _=>?_;exact ⟨o,e⟩
 ·exact ⟨o,k.sto.but b o m e⟩⟩
structure DIn (w:World)(own:List Addr)(env:Env)(ns:List (Str×Bool))(D:Addr)(xs:List (Option X))(acc:List (Str×PyData))(s:Shared):Prop where
 F:Frm own env ns xs s.heap
 C:Cx w own s.heap
 A:DAt w own s.heap D acc
 P:PlOk s.heap
 D_own:D∈own
 D_fr:D∉frs env
 D_tab:D≠tabP
 t_own:tabP∈own
 t_fr:tabP∉frs env
 f_own:∀ b∈frs env,b∈own
 adr:adrs xs = []
theorem PlOk.keeps {h h'}(p:PlOk h)(k:∀ o,h.get? tabP=some o→h'.get? tabP=some o):PlOk h':=let ⟨o,ps,e,r⟩:=p;⟨o,ps,k o e,r⟩
theorem CD.hid {own env D s s'}(k:CD env D s s')(h1:∀ b∈frs env,b∈own)(h2:D∈own)(h3:tabP∈own):Kps (hideAll s.heap own) (hideAll s'.heap own):=
 J0e (fun b o nb e=>k.but b o (fun m=>nb (h1 b m)) (fun q=>nb (q▸h2)) (fun q=>nb (q▸h3)) e) fun _ q=>q
structure DB (w:World)(A:Around)(env:Env)(ns:List (Str×Bool))(D:Addr)(xs:List (Option X))(acc:List (Str×PyData))(ss:List Stmt)(xs':List (Option X))(acc':List (Str×PyData)):Prop where
 h:∀ own s,DIn w own env ns D xs acc s→wpAny (model PW w) A (execs ss env) (fun g s'=>g = .next∧DIn w own env ns D xs' acc' s'∧CD env D s s') (fun _ _=>False) s
structure DS (w:World)(A:Around)(env:Env)(ns:List (Str×Bool))(D:Addr)(xs:List (Option X))(acc:List (Str×PyData))(st:Stmt)(xs':List (Option X))(acc':List (Str×PyData)):Prop where
 h:∀ own s,DIn w own env ns D xs acc s→wpAny (model PW w) A (exec st env) (fun g s'=>g = .next∧DIn w own env ns D xs' acc' s'∧CD env D s s') (fun _ _=>False) s
section
variable {w:World}{A:Around}{env:Env}{ns:List (Str×Bool)}{D:Addr}{xs xs' xs'':List (Option X)}{acc acc' acc'':List (Str×PyData)}{st:Stmt}{ss tt:List Stmt}{e oe ie:Expr}{b:Bool}{pos npos spos:Pos}{k:Str}{d:PyData}
theorem DIn.keeps {own s s'}(x:DIn w own env ns D xs acc s)(kk:Kps s.heap s'.heap):DIn w own env ns D xs acc s':=
 ⟨x.F.keeps kk,x.C.keeps kk,x.A.mono (kk _) (J0u kk),x.P.keeps (kk _),x.D_own,x.D_fr,x.D_tab,x.t_own,x.t_fr,x.f_own,x.adr⟩
theorem J5u:DB w A env ns D xs acc [] xs acc:=⟨fun own s x=>wpAny_execs_nil ⟨rfl,x,.refl⟩⟩
theorem J3x (h:DS w A env ns D xs acc st xs' acc')(t:DB w A env ns D xs' acc' ss xs'' acc''):DB w A env ns D xs acc (st::ss) xs'' acc'':=by
 refine ⟨fun own s x=>wpAny_execs_cons (wMo (h.h own s x) (fun g s1 q=>?_) fun _ _ q=>q)⟩
 obtain ⟨rfl,q1,q2⟩:=q
 exact wMo (t.h own s1 q1) (fun g s2 r=>⟨r.1,r.2.1,q2.trans r.2.2⟩) fun _ _ q=>q
theorem Z5s (ht:VT w A env ns xs e b)(h1:b=true→DB w A env ns D xs acc ss xs' acc')(h2:b=false→DB w A env ns D xs acc tt xs' acc'):DS w A env ns D xs acc (.If e ss tt pos) xs' acc':=by
 refine ⟨fun own s x=>wpAny_If (J0s (ht.h own s x.F x.C) fun s1 k1=>?_)⟩
 have kk:=Kee.kps k1
 cases b with
 |true=>exact wMo ((h1 rfl).h own s1 (x.keeps kk)) (fun g s2 r=>⟨r.1,r.2.1,(CD.of_keeps k1).trans r.2.2⟩) fun _ _ q=>q
 |false=>exact wMo ((h2 rfl).h own s1 (x.keeps kk)) (fun g s2 r=>⟨r.1,r.2.1,(CD.of_keeps k1).trans r.2.2⟩) fun _ _ q=>q
theorem J7a {own:List Addr}{s:Shared}{key v:Value}{Q:Unit→Shared→Prop}(x:DIn w own env ns D xs acc s)(hk:XIn own s.heap key (S k))(hv:Rd own s.heap v d)(hsz:acc.length≤1000)
  (hq:∀ s',DIn w own env ns D xs (J8f acc k d) s'→CD env D s s'→Q () s'):wpAny (model PW w) A (setItem (.ref D) key v) Q (fun _ _=>False) s:=by
 skip
 refine o13 x.A fun kv h1 h2 h3 h4=>?_
 refine o10 (Rd.inv_str hk) fun t e9a=>?_;subst e9a
 skip
 have ln:kv.length≤sizeLine:=by
  have:=congrArg List.length h2
  rw [List.length_map,List.length_map] at this
  rw [this];exact J0l hsz
 refine wpAny_setItem_pairs (knd:=strKind PW w) (strKind_is PW w k t) h1 (fun h' h1' sb=>?_) ln
 have cd:CD env D s {s with heap:=h',toks:=s.toks+1}:=⟨.of (xi2 _ _ rfl),fun b o _ n _ e=>(sb.2 b n).trans e,fun b o e=>by
  by_cases q:b=D
  ·rw [q];refine o31 h1' fun o _ _ e _=>?_;clear h1';exact ⟨o,e⟩
  ·exact ⟨o,(sb.2 b q).trans e⟩⟩
 have hid:=cd.hid x.f_own x.D_own x.t_own
 refine hq _ ⟨?_,⟨x.C.gl.keeps hid,fun b hb=>let ⟨o,e⟩:=x.C.alive b hb;cd.live b o e⟩,⟨_,h1',J8n h2,K5z (Rd.mono hid hv) h2 (h3.mono hid),h4⟩,x.P.keeps fun o e=>(sb.2 _ (Ne.symm x.D_tab)).trans e,x.D_own,x.D_fr,x.D_tab,x.t_own,x.t_fr,x.f_own,x.adr⟩ cd
 exact x.F.hs (hs:=[D]) (fun b o n e=>(sb.2 b (by simpa using n)).trans e) (fun b hb q=>x.D_fr (by rw [← show b=D by simpa using q];exact hb)) x.adr (fun _ q=>q) hid
theorem Z0s (he:VE w A env ns xs e (.d d))(ho:VE w A env ns xs oe (.v (.ref D)))(hi:VE w A env ns xs ie (S k))(hsz:acc.length≤1000)(hs:swapsWith e (some (.Subscript oe ie spos)) pos.line env=pure false) :
  DS w A env ns D xs acc (.Assign [.Subscript oe ie spos] e pos) xs (J8f acc k d):=by
 refine ⟨fun own s x=>wpAny_Assign_Subscript (J0 (he.h own s x.F x.C) fun v s1 hv k1=>J0 (ho.h own s1 (x.F.keeps (Kee.kps k1)) (x.C.keeps (Kee.kps k1))) fun l s2 hl k2=>?_) hs⟩
 obtain rfl:l = .ref D:=hl
 have k12:=Kee.trans k1 k2
 refine J0 (hi.h own s2 (x.F.keeps (Kee.kps k12)) (x.C.keeps (Kee.kps k12))) fun iv s3 hiv k3=>?_
 have kk:=Kee.trans k12 k3
 exact J7a (x.keeps (Kee.kps kk)) hiv (Rd.keeps (Rd.keeps hv (Kee.kps k2)) (Kee.kps k3)) hsz fun s4 x4 c4=>⟨rfl,x4,(CD.of_keeps kk).trans c4⟩
theorem Z0v {own:List Addr}{s:Shared}{key:Value}{Q:Value→Shared→Prop}(x:DIn w own env ns D xs acc s)(hk:XIn own s.heap key (S k))(hg:getD? acc k=some d)
  (hq:∀ v,Rd own s.heap v d→Q v {s with toks:=s.toks+1}):wpAny (model PW w) A (getItem (.ref D) key) Q (fun _ _=>False) s:=by
 skip
 refine o13 x.A fun kv h1 h2 h3 h4=>?_
 refine o10 (Rd.inv_str hk) fun t e9a=>?_;subst e9a
 skip
 have go:∀ {kv:List (Str×Value)} {acc:List (Str×PyData)},kv.map (·.1)=acc.map (·.1)→RdAll own s.heap (kv.map (·.2)) (acc.map (·.2))→getD? acc k=some d→∃ v,valueAt kv k=some v∧Rd own s.heap v d:=by
  intro kv
  induction kv with
  |nil=>
   intro acc hk r hg
   cases acc with
   |nil=>simp [getD?] at hg
   |cons _ _=>cases hk
  |cons p kv ih=>
   intro acc hk r hg
   cases acc with
   |nil=>cases hk
   |cons q acc=>
    rw [List.map_cons,List.map_cons] at hk
    refine o01 (List.cons.inj hk) fun e1 e2=>?_
    cases r with
    |cons r1 r2=>
     unfold getD? at hg
     unfold valueAt
     rw [List.find?_cons] at hg ⊢
     by_cases c:p.1=k
     ·rw [← e1,show decide (p.1=k)=true by simp [c]] at hg
      rw [show decide (p.1=k)=true by simp [c]]
      simp only [Option.map_some,Option.some.injEq] at hg
      exact ⟨p.2,rfl,hg▸r1⟩
     ·rw [← e1,show decide (p.1=k)=false by simp [c]] at hg
      rw [show decide (p.1=k)=false by simp [c]]
      exact ih e2 r2 hg
 refine o11 (go h2 h3 hg) fun v hv hr=>?_
 exact wpAny_getItem_of (knd:=strKind PW w) (strKind_is PW w k t) h1.mapOf hv (hq v hr)
theorem Z9p {s:Shared}{own:List Addr}{key:Value}{Q:Value→Shared→Prop}(x:DIn w own env ns D xs acc s)(hk:XIn own s.heap key (S k))(hq:Q (.bool (acc.any fun p=>p.1=k)) {s with toks:=s.toks+1}) :
  wpAny (model PW w) A (compareOp .In key (.ref D)) Q (fun _ _=>False) s:=by
 skip
 refine o13 x.A fun kv h1 h2 h3 h4=>?_
 refine o10 (Rd.inv_str hk) fun t e9a=>?_;subst e9a
 skip
 refine wpAny_in_of (knd:=strKind PW w) (strKind_is PW w k t) h4 h1.mapOf ?_
 have:(valueAt kv k).isSome=acc.any fun p=>p.1=k:=by
  unfold valueAt
  rw [Option.isSome_map,Bool.eq_iff_iff,List.find?_isSome]
  rw [← show (acc.map (·.1)).any (fun x=>decide (x=k))=acc.any (fun p=>decide (p.1=k)) by rw [List.any_map];rfl,← h2]
  simp
 rw [this];exact hq
end
section
variable {w:World}{A:Around}{env:Env}{ns:List (Str×Bool)}{D:Addr}{xs xs':List (Option X)}{acc acc':List (Str×PyData)}
theorem DIn.it {own:List Addr}{it:Addr}{s s':Shared}(x:DIn w own env ns D xs acc s)(hi:it∈own)(n1:it∉frs env)(n2:it≠D)(n3:it≠tabP)(hk:∀ b o,b≠it→s.heap.get? b=some o→s'.heap.get? b=some o)(hl:∃ o,s'.heap.get? it=some o):DIn w own env ns D xs acc s':=by
 have hid:Kps (hideAll s.heap own) (hideAll s'.heap own):=J0e (fun b o nb e=>hk b o (fun q=>nb (q▸hi)) e) fun _ q=>q
 refine ⟨x.F.hs (hs:=[it]) (fun b o n e=>hk b o (by simpa using n) e) (fun b hb q=>n1 (by rw [← show b=it by simpa using q];exact hb)) x.adr (fun _ q=>q) hid,⟨x.C.gl.keeps hid,fun b hb=>?_⟩,x.A.mono (fun o e=>hk _ o (Ne.symm n2) e) hid,x.P.keeps fun o e=>hk _ o (Ne.symm n3) e,x.D_own,x.D_fr,x.D_tab,x.t_own,x.t_fr,x.f_own,x.adr⟩
 by_cases q:b=it
 ·rw [q];exact hl
 ·refine o10 (x.C.alive b hb) fun o e=>?_;exact ⟨o,hk b o q e⟩
theorem DIn.more {own own':List Addr}{s s':Shared}(x:DIn w own env ns D xs acc s)(kk:Kps s.heap s'.heap)(hid:Kps (hideAll s.heap own) (hideAll s'.heap own'))(sub:∀ b∈own,b∈own')(al:Alive own' s'.heap):DIn w own' env ns D xs acc s':=
 ⟨x.F.to kk hid sub,⟨x.C.gl.keeps hid,al⟩,x.A.mono (kk _) hid,x.P.keeps (kk _),sub _ x.D_own,x.D_fr,x.D_tab,sub _ x.t_own,x.t_fr,fun b hb=>sub _ (x.f_own b hb),x.adr⟩
theorem DIn.unhide {own own':List Addr}{s:Shared}(x:DIn w own env ns D xs acc s)(sub:∀ b∈own',b∈own)(h1:D∈own')(h2:tabP∈own')(h3:∀ b∈frs env,b∈own'):DIn w own' env ns D xs acc s:=
 ⟨x.F.unhide sub h3,⟨x.C.gl.keeps (J1q sub),fun b hb=>x.C.alive b (sub b hb)⟩,x.A.mono (fun _ e=>e) (J1q sub),x.P,h1,x.D_fr,x.D_tab,h2,x.t_fr,h3,x.adr⟩
theorem DIn.forget {own:List Addr}{s:Shared}(x:DIn w own env ns D xs acc s)(hv:∀ f h,Vals own h f ns xs→Vals own h f ns xs')(ha:adrs xs' = []):DIn w own env ns D xs' acc s:=
 ⟨⟨x.F.st,x.F.kinds,x.F.nodup,x.F.mine,x.F.apart,x.F.has,let ⟨m,cm,a,b,c⟩:=x.F.vars;⟨m,cm,a,b,hv _ _ c⟩⟩,x.C,x.A,x.P,x.D_own,x.D_fr,x.D_tab,x.t_own,x.t_fr,x.f_own,ha⟩
theorem DIn.sto {own:List Addr}{s:Shared}{h':Heap}{tk:Nat}(x:DIn w own env ns D xs acc s)(F:Frm own env ns xs' h')(S:Sto own env s.heap h')(ha:adrs xs' = []):DIn w own env ns D xs' acc {s with heap:=h',toks:=tk}:=
 ⟨F,S.cx x.C,x.A.mono (fun o e=>S.but _ o x.D_fr e) S.hid,x.P.keeps fun o e=>S.but _ o x.t_fr e,x.D_own,x.D_fr,x.D_tab,x.t_own,x.t_fr,x.f_own,ha⟩
theorem CD.of_sto {own:List Addr}{s:Shared}{h':Heap}{tk:Nat}(F:Frm own env ns xs' h')(S:Sto own env s.heap h'):CD env D s {s with heap:=h',toks:=tk}:=.of_chg (ns:=ns) (xs':=xs') ⟨(xi2 _ _ rfl),S⟩ F
theorem DIn.out {own:List Addr}{it:Addr}{s s':Shared}(x:DIn w (it::own) env ns D xs acc s)(n0:it∉own)(n1:it∉frs env)(n2:it≠D)(n3:it≠tabP)(hk:∀ b o,b≠it→s.heap.get? b=some o→s'.heap.get? b=some o)(h1:D∈own)(h2:tabP∈own)(h3:∀ b∈frs env,b∈own):DIn w own env ns D xs acc s':=by
 have hid:Kps (hideAll s.heap (it::own)) (hideAll s'.heap (it::own)):=J0e (fun b o nb e=>hk b o (fun q=>nb (q▸.head _)) e) fun _ q=>q
 have hid2:Kps (hideAll s.heap (it::own)) (hideAll s'.heap own):=hid.trans (J1q fun b q=>.tail _ q)
 have F:=x.F.hs (hs:=[it]) (fun b o n e=>hk b o (by simpa using n) e) (fun b hb q=>n1 (by rw [← show b=it by simpa using q];exact hb)) x.adr (fun _ q=>q) hid
 exact ⟨F.unhide (fun b q=>.tail _ q) h3,⟨x.C.gl.keeps hid2,fun b hb=>let ⟨o,e⟩:=x.C.alive b (.tail _ hb);⟨o,hk b o (fun q=>n0 (q▸hb)) e⟩⟩,x.A.mono (fun o e=>hk _ o (Ne.symm n2) e) hid2,x.P.keeps fun o e=>hk _ o (Ne.symm n3) e,h1,x.D_fr,x.D_tab,h2,x.t_fr,h3,x.adr⟩
theorem V1d {kv:List (Str×Value)}{kvs:List (Str×PyData)}{own:List Addr}{h:Heap}{i:Nat}{k:Str}{v:Value}(hv2:kv[i]? = some (k,v))(d2:kv.map (·.1)=kvs.map (·.1))(d3:RdAll own h (kv.map (·.2)) (kvs.map (·.2))):∃ d,kvs[i]? = some (k,d)∧Rd own h v d:=by
 have e1:(kv.map (·.1))[i]? = some k:=by rw [List.getElem?_map,hv2];rfl
 rw [d2,List.getElem?_map] at e1
 refine o11 (Option.map_eq_some_iff.mp e1) fun p hp e9a=>?_;subst e9a
 have e2:(kv.map (·.2))[i]? = some v:=by rw [List.getElem?_map,hv2];rfl
 refine o11 (d3.get' e2) fun d e3 r=>?_
 rw [List.getElem?_map,hp] at e3
 cases e3
 exact ⟨p.2,hp,r⟩
theorem V0q {α:Type}{o:Option α}{G:Prop}(h0:o=none→G)(h1:∀ v,o=some v→G):G:=by cases o with|none=>exact h0 rfl|some v=>exact h1 v rfl
theorem Z0z {kvs:List (Str×PyData)}{xk xv n:Str}{pk pv pt pos apos cpos npos:Pos}{x1:Nat}{body:List Stmt}(xsF:Option X→Option X→List (Option X))(accs:Nat→List (Str×PyData))(hh:A.handled=none)
  (hat:At ns (xsF none none) n false (DX w kvs)) (hnd:(n == ("__debug__" : Str))=false) (hp1:∀ x,Put ns (xsF none none) xk false (some x) (xsF (some x) none)) (hp2:∀ x y,Put ns (xsF (some x) none) xv false (some y) (xsF (some x) (some y)))
  (hv:∀ a b own f h,Vals own h f ns (xsF a b)→Vals own h f ns (xsF none none)) (hadr:∀ k d,adrs (xsF (some (S k)) none) = []∧adrs (xsF (some (S k)) (some (.d d))) = []) (hadr0:adrs (xsF none none) = [])
  (hbase:attributeBase (.Name n npos) "items" env (eval (.Name n npos) env)=eval (.Name n npos) env) (hline:(apos.endLine == cpos.line)=true)
  (step:∀ i k d,kvs[i]? = some (k,d)→DB w A env ns D (xsF (some (S k)) (some (.d d))) (accs i) body (xsF (some (S k)) (some (.d d))) (accs (i+1)))
  (hs:∀ x,foldedSetIterable (.Call (.Attribute (.Name n npos) "items" apos) [] [] cpos) env x=pure x) :
  DS w A env ns D (xsF none none) (accs 0) (.For (.Tuple [.Name xk pk,.Name xv pv] x1 pt) (.Call (.Attribute (.Name n npos) "items" apos) [] [] cpos) body [] pos) (xsF none none) (accs kvs.length):=by
 refine ⟨fun own s x=>?_⟩
 refine ab fun Q q9=>?_
 refine o22 x.F.vars fun m cm hm hc V=>?_
 refine o11 (hat.val V) fun v ev hvx=>?_
 refine o12 (DX.at hvx) fun D0 e9a hD0 r9a=>o13 r9a fun kv d1 d2 d3 d4=>?_;subst e9a
 refine o10 d1.dictAt fun ep da=>?_
 refine q9 ?_
 have ho:∀ Q':Value→Shared→Prop,Q' (.ref D0) s→wpAny (model PW w) A (eval (.Name n npos) env) Q' (fun _ _=>False) s:=fun Q' q=>
  wpAny_Name (wpAny_loadName_local x.F.st.1 (x.F.kinds _ hat.mem) hm ev q) hnd
 refine wpAny_For (wpAny_Call_items d4 d1 hbase hline ho ?_) hs
 let V0:Obj:={cls:=.type "dict_items",data:=.fields #[.ref D0]}
 refine wpAny_pyIter_items (knd:=strKind PW w) (d:=D0) (kvs:=kv) (ep:=ep) ⟨_,Heap.get?_push_size _ rfl,rfl,rfl⟩ (da.push _) ?_
 generalize hit0:(s.heap.push V0).objs.size=it
 have itn:s.heap.get? it=none:=by rw [← hit0,Heap.size_push];exact Heap.get?_none_of_le (Nat.le_succ _)
 have fresh:∀ b o,s.heap.get? b=some o→b≠it:=fun b o e q=>by rw [q,itn] at e;cases e
 have len:kv.length=kvs.length:=by have:=congrArg List.length d2;simpa using this
 have frn:it∉frs env:=fun m=>by refine o11 (x.F.notF it m) fun o e _=>?_;exact fresh it o e rfl
 have nD:it≠D:=fun q=>by refine o11 x.A fun _ h _=>?_;refine o31 h fun o _ _ e _=>?_;clear h;exact fresh D o e q.symm
 have nT:it≠tabP:=fun q=>by refine o21 x.P fun o _ e _=>?_;exact fresh tabP o e q.symm
 have ownA:∀ b∈own,b≠it:=fun b hb=>by refine o10 (x.C.alive b hb) fun o e=>?_;exact fresh b o e
 let O1:Obj:={cls:=.type "dict_itemiterator",data:=.fields #[.none,.bool false,.ref D0,.int 0 0,.int kv.length 0,.int ep 0,.none,.none]}
 have kk1:Kps s.heap ((s.heap.push V0).push O1):=fun b o e=>Heap.get?_push_of_some _ (Heap.get?_push_of_some _ e)
 have it1:((s.heap.push V0).push O1).get? it=some O1:=by rw [← hit0];exact Heap.get?_push_size _ rfl
 have hid1:Kps (hideAll s.heap own) (hideAll ((s.heap.push V0).push O1) (it::own)):=by
  exact J5d kk1 (List.forall_mem_cons.2 ⟨fun _=>itn,fun _ hb n=>absurd hb n⟩)
 have x1:DIn w (it::own) env ns D (xsF none none) (accs 0) {s with heap:=(s.heap.push V0).push O1}:=x.more kk1 hid1 (fun b q=>.tail _ q) (List.forall_mem_cons.2 ⟨⟨_,it1⟩,x.C.alive.keeps kk1⟩)
 have cd1:CD env D s {s with heap:=(s.heap.push V0).push O1}:=.of_keeps (xi2 _ _ ⟨rfl,kk1⟩)
 have sub:∀ b∈own,b∈it::own:=fun b q=>.tail _ q
 have kF:∀ {s':Shared},CD env D s s'→Kps (hideAll s.heap own) (hideAll s'.heap (it::own)):=fun {s'} c b o e=>by
  have e1:=of_hideAll _ e
  have nb:b∉own:=fun hb=>by rw [hideAll_none _ hb] at e;cases e
  refine hideAll_get _ (c.but b o (fun m=>nb (x.f_own b m)) (fun q=>nb (q▸x.D_own)) (fun q=>nb (q▸x.t_own)) e1) fun hm=>?_
  rcases mCn hm with rfl|hm
  ·rw [itn] at e1;cases e1
  ·exact nb hm
 have dK:∀ {s':Shared},CD env D s s'→s'.heap.DictAt (strKind PW w) D0 kv ep:=fun {s'} c=>da.at fun o e=>c.but _ o (fun m=>hD0 (x.f_own _ m)) (fun q=>hD0 (q▸x.D_own)) (fun q=>hD0 (q▸x.t_own)) e
 refine aR fun R hR=>aI (fun n s'=>∃ i ok ov,i≤kvs.length∧n=kvs.length+1 - i∧IsItemIter s'.heap it D0 i kv.length ep ok ov∧DIn w (it::own) env ns D (xsF none none) (accs i) s'∧CD env D s s') fun Iv hI=>?_
 refine codeAny_forLoop_any (R:=R) Iv ?_ (kvs.length+1) ((hI _ _).2 (xi3 0 .none .none ⟨Nat.zero_le _,rfl,it1,x1,cd1⟩))
 intro n s2 h9
 refine o34 ((hI _ _).1 h9) fun i ok ov hi e9a h2 x2 c2=>?_;subst e9a;clear h9
 refine o31 c2.same fun g2 t2 gs2 e2 gb2=>?_
 skip
 refine V0q (o:=kv[i]?) (fun hv2=>?_) fun p hv2=>?_
 ·have hsz:i=kvs.length:=Nat.le_antisymm hi (by rw [← len];simpa using hv2)
  refine wpAny_pyNext_items_end (knd:=strKind PW w) hh h2 (dK c2) hv2 fun h3 b3=>wpAny_execs_nil ?_
  have k3:∀ b o,b≠it→s2.heap.get? b=some o→h3.get? b=some o:=fun b o n e=>b3 b o n e
  refine hR (.ok .next) _ ⟨rfl,?_,⟨c2.same.trans (.of (xi2 _ _ rfl)),fun b o n1 n2 n3 e=>k3 b o (fresh b o e) (c2.but b o n1 n2 n3 e),fun b o e=>let ⟨o',e'⟩:=c2.live b o e;⟨o',k3 b o' (fresh b o e) e'⟩⟩⟩
  rw [← hsz]
  exact x2.out (s':={s2 with heap:=h3}) (fun m=>ownA it m rfl) frn nD nT k3 x.D_own x.t_own x.f_own
 ·obtain ⟨k,v⟩:=p
  have hlt:i<kvs.length:=by rw [← len];exact (List.getElem?_eq_some_iff.mp hv2).1
  refine o11 (V1d hv2 d2 d3) fun d hkd rv=>?_
  refine wpAny_pyNext_items_item (knd:=strKind PW w) h2 (dK c2) hv2 fun key h3 hkey=>?_
  refine o10 (Value.isStrOf_shape hkey) fun t e9a=>?_;subst e9a
  intro heo ht3 hz3 k3
  have s2lt:it<s2.heap.objs.size:=Heap.lt_size h2
  refine wpAny_letOwnedTupleGo_items heo fun h4 he4 b4=>?_
  have ht4:h4.IsTuple s2.heap.objs.size #[.str k t,v]:=⟨_,(b4.2 _ (Nat.ne_of_gt s2lt)).trans ht3,rfl,_,rfl⟩
  have hz4:h4.objs.size=s2.heap.objs.size+1:=b4.1.trans hz3
  refine wpAny_assign_Tuple hh ht4 rfl rfl fun h5 b5=>?_
  have old5:∀ b o,h4.get? b=some o→b<h4.objs.size→h5.get? b=some o:=fun b o e lt=>b5 b o (Nat.ne_of_lt lt) e
  have k5:∀ b o,b≠it→s2.heap.get? b=some o→h5.get? b=some o:=fun b o n e=>
   old5 b o ((b4.2 b n).trans (k3 b o n e)) (by rw [hz4];exact Nat.lt_succ_of_lt (Heap.lt_size e))
  have it5:IsItemIter h5 it D0 (i+1) kv.length ep (.str k t) v:=old5 _ _ he4 (by rw [hz4];exact Nat.lt_succ_of_lt s2lt)
  have x5:DIn w (it::own) env ns D (xsF none none) (accs i) {s2 with heap:=h5}:=x2.it (.head _) frn nD nT k5 ⟨_,it5⟩
  have c5:CD env D s {s2 with heap:=h5}:=⟨c2.same.trans (.of (xi2 _ _ rfl)),fun b o n1 n2 n3 e=>k5 b o (fresh b o e) (c2.but b o n1 n2 n3 e),fun b o e=>let ⟨o',e'⟩:=c2.live b o e;⟨o',k5 b o' (fresh b o e) e'⟩⟩
  have rv5:Rd (it::own) h5 v d:=rv.mono (kF c5)
  have pfx:(env.scope.kind == .class || (env.scope.kind == .module && env.locals != env.globals))=false:=by rw [x.F.st.1];rfl
  show wpAny _ _ (do holding [v] (assign (.Name xk pk) env _);do holding [] (assign (.Name xv pv) env v);pure ()) _ _ _
  refine wBn (wpAny_holding (wpAny_assign_Name (J3j (s:={s2 with heap:=h5}) (x:=S k) x5.F (Rd.str:Rd (it::own) h5 (.str k t) (.str k)) (hp1 _) fun h6 t6 F6 S6=>?_)))
  have x6:=x5.sto (tk:=t6) F6 S6 (hadr k d).1
  have c6:=CD.of_sto (D:=D) (tk:=t6) (s:={s2 with heap:=h5}) F6 S6
  refine wBn (wpAny_holding (wpAny_assign_Name (J3j (s:={s2 with heap:=h6,toks:=t6}) (x:=.d d) x6.F (Rd.mono S6.hid rv5) (hp2 _ _) fun h7 t7 F7 S7=>wPu ?_)))
  have x7:=x6.sto (tk:=t7) F7 S7 (hadr k d).2
  have c7:=CD.of_sto (D:=D) (tk:=t7) (s:={s2 with heap:=h6,toks:=t6}) F7 S7
  refine wMo ((step i k d hkd).h _ _ x7) (fun g s8 q=>?_) fun _ _ q=>q.elim
  refine o02 q fun e9a x8 c8=>?_;subst e9a;clear q
  have c58:=c6.trans (c7.trans c8)
  exact ⟨kvs.length+1 - (i+1),Nat.sub_lt_sub_left (Nat.lt_succ_of_lt hlt) (Nat.lt_succ_self _),(hI _ _).2 (xi3 (i+1) _ _ ⟨hlt,rfl,c58.but _ _ frn nD nT it5,x8.forget (hv _ _ _) hadr0,c5.trans c58⟩)⟩
end
section
variable {prog:Program}{w:World}{A:Around}{E:Value→Shared→Prop}{s:Shared}{z TI TO i1 i2 l1 l2:Addr}{xs ys:Array Value}{f0:Value}{k1 k2:Nat}
theorem ZT.at {h h':Heap}(x:ZT z TI TO i1 i2 l1 l2 xs ys f0 k1 k2 h)(hk:∀ b∈[z,TI,TO,i1,i2,l1,l2],∀ o,h.get? b=some o→h'.get? b=some o):ZT z TI TO i1 i2 l1 l2 xs ys f0 k1 k2 h':=
 ⟨hk z (by simp) _ x.hz,hk TI (by simp) _ x.hTI,let ⟨a,b,e⟩:=x.hTO;⟨a,b,hk TO (by simp) _ e⟩,J6h x.h1 (hk i1 (by simp)),J6h x.h2 (hk i2 (by simp)),J2l x.t1 (hk l1 (by simp)),J2l x.t2 (hk l2 (by simp))⟩
theorem K3h (hh:A.handled=none)(D:ZipApart z TI TO i1 i2 l1 l2)(hsz:xs.size=ys.size):WalksU prog w A z [z,TI,TO,i1,i2,l1,l2] [z,TO,i1,i2] xs.size
  (fun i vals=>∃ x y,xs[i]? = some x∧ys[i]? = some y∧vals = #[x,y]) (fun i h=>ZT z TI TO i1 i2 l1 l2 xs ys .none i i h)
  (fun i T h=>ZT z TI TO i1 i2 l1 l2 xs ys (rawInt T) (i+1) (i+1) h∧T≠z∧T≠TO∧T≠i1∧T≠i2) where
 sub:=fun c hc=>by simp at hc ⊢;rcases hc with rfl|rfl|rfl|rfl<;>simp
 frame:=fun i h h' hst hk=>hst.at hk
 item:=fun i s Q E hi hst hQ=>by
  have hT:s.TypeIs (.ref z) "zip":=⟨_,hst.hz,rfl⟩
  have hix:i<xs.size:=hi
  have hiy:i<ys.size:=hsz▸hi
  unfold pyNext
  refine wBn (wpAny_attempt (wpAny_callSpecial?_slot (name:=Str.ofString "__next__") hT F.slot_zip_next (wpAny_call_entry F.slot_zip_next hT F.entry_zip_next
   (K2x D hst (Array.getElem?_eq_getElem hix) (Array.getElem?_eq_getElem hiy) fun h' Z' T' hk=>wPu ?_) (F.args_zip_next_1 _))))
  have lt:∀ {c o},s.heap.get? c=some o→s.heap.objs.size≠c:=fun e=>Nat.ne_of_gt (Heap.lt_size e)
  exact hQ s.heap.objs.size #[xs[i],ys[i]] h' s.toks (xi2 _ _ ⟨Array.getElem?_eq_getElem hix,Array.getElem?_eq_getElem hiy,rfl⟩) T'
   ⟨Z',lt hst.hz,(let ⟨_,_,e⟩:=hst.hTO;lt e),(let ⟨_,e,_⟩:=hst.h1;lt e),let ⟨_,e,_⟩:=hst.h2;lt e⟩
   fun c o hc e=>hk c o (fun x=>hc (by simp [x])) (fun x=>hc (by simp [x])) (fun x=>hc (by simp [x])) (fun x=>hc (by simp [x])) e
 go:=fun elts k pos i T s Q E hm hQ=>by
  refine o01 hm fun Z _=>?_;clear hm
  exact wpAny_letOwnedTupleGo_zip Z.hz fun h' hz' hs'=>hQ h' ⟨hz',hs'.extBut _ _ D.TIz Z.hTI,(let ⟨a,b,e⟩:=Z.hTO;⟨a,b,hs'.extBut _ _ D.TOz e⟩),Z.h1.extBut hs'.extBut D.i1z,Z.h2.extBut hs'.extBut D.i2z,Z.t1.extBut hs'.extBut D.l1z,Z.t2.extBut hs'.extBut D.l2z⟩
   fun c o hc e=>hs'.extBut _ _ (fun x=>hc (by simp [x])) e
 apart:=fun i T h hm hT=>by
  refine o04 hm fun _ t1 t2 t3 t4=>?_;clear hm
  simp at hT
  rcases hT with q|q|q|q
  ·exact t1 q
  ·exact t2 q
  ·exact t3 q
  ·exact t4 q
 done:=fun s Q E hst hQ=>by
  have hT:s.TypeIs (.ref z) "zip":=⟨_,hst.hz,rfl⟩
  unfold pyNext
  refine wBn (wpAny_attempt (wpAny_callSpecial?_slot (name:=Str.ofString "__next__") hT F.slot_zip_next (wpAny_call_entry F.slot_zip_next hT F.entry_zip_next
   (K6s hh D hst (Array.getElem?_eq_none (Nat.le_refl _)) fun h' e hk he=>?_) (F.args_zip_next_1 _))))
  refine o11 he fun o ho hc=>?_;clear he
  refine wBn (wpAny_isInstance (T:="StopIteration") (b:=true) ⟨o,ho,hc⟩ isSubtype_stop ?_)
  exact wPu (hQ h' s.toks fun c o hc e=>hk c o (fun x=>hc (by simp [x])) (fun x=>hc (by simp [x])) (fun x=>hc (by simp [x])) (fun x=>hc (by simp [x])) e)
 self:=fun i s Q E hst hQ=>wpAny_pyIter_zip hst.hz hQ
noncomputable abbrev Z3b (l:Addr):Obj:={cls:=.type "tuple_iterator",data:=.fields #[.ref l,.int 0 0]}
noncomputable abbrev zh1 (h:Heap) (l1:Addr):Heap:=h.push (Z3b l1)
noncomputable abbrev zh2 (h:Heap) (l1 l2:Addr):Heap:=(zh1 h l1).push (Z3b l2)
noncomputable abbrev zh3 (h:Heap) (l1 l2:Addr):Heap:=(zh2 h l1 l2).push {cls:=.type "tuple",data:=.seq #[.ref h.objs.size,.ref (zh1 h l1).objs.size]}
noncomputable abbrev zh4 (h:Heap) (l1 l2:Addr):Heap:=(zh3 h l1 l2).push {cls:=.type "tuple",data:=.seq #[.none,.none]}
noncomputable abbrev zh5 (h:Heap) (l1 l2:Addr):Heap:=(zh4 h l1 l2).push {cls:=.type "zip",data:=.fields #[.none,.bool false,.bool false,.ref (zh2 h l1 l2).objs.size,.ref (zh3 h l1 l2).objs.size]}
theorem K9n (l1 l2:Addr)(xs ys:Array Value) :
  Meets (Builtin.«zip.__new__» ⟨[.type "zip",.ref l1,.ref l2],[]⟩) (fun _ R s=>s.heap.IsTuple l1 xs∧s.heap.IsTuple l2 ys∧R (.ok (.ret (.ref (zh4 s.heap l1 l2).objs.size))) {s with heap:=zh5 s.heap l1 l2}):=
 .of_wp fun prog w A R s h=>by
  obtain ⟨hp,g,d,tk,os⟩:=s;obtain ⟨t1,t2,h⟩:=h
  have hsub:isSubtype (.type "zip") (.type "zip")=pure true:=by rw [isSubtype_type];kernel_rfl
  have T1:Heap.IsTuple (Shared.heap ⟨hp,g,d,tk,os⟩) l1 xs:=t1
  have T2:Heap.IsTuple (Shared.heap ⟨hp.push (Z3b l1),g,d,tk,os⟩) l2 ys:=Heap.IsTuple.push t2 _
  wp_walk using wpAny_pyIter_tuple T1,wpAny_pyIter_tuple T2
  exact ⟨_,rfl,h⟩
theorem K6z {Q:Value→Shared→Prop}(t1:s.heap.IsTuple l1 xs)(t2:s.heap.IsTuple l2 ys)
  (h:∀ h' z TI TO i1 i2,ZipApart z TI TO i1 i2 l1 l2→ZT z TI TO i1 i2 l1 l2 xs ys .none 0 0 h'→(∀ c o,s.heap.get? c=some o→h'.get? c=some o)→(∀ b∈[z,TI,TO,i1,i2],s.heap.get? b=none)→Q (.ref z) {s with heap:=h'}) :
  wpAny (model prog w) A (call (.type "zip") [.ref l1,.ref l2]) Q E s:=by
 refine callType_new F.called_zip (by decide) (F.typeCall_zip_2 _ _) (F.newCall_zip_2 _ _) (fun obj=>F.args_object_init_3 obj _ _) F.entry_zip_new (K9n l1 l2 xs ys) ⟨t1,t2,?_⟩
 have z1:(zh1 s.heap l1).objs.size=s.heap.objs.size+1:=Heap.size_push ..
 have z2:(zh2 s.heap l1 l2).objs.size=s.heap.objs.size+2:=by rw [Heap.size_push,z1]
 have z3:(zh3 s.heap l1 l2).objs.size=s.heap.objs.size+3:=by rw [Heap.size_push,z2]
 have z4:(zh4 s.heap l1 l2).objs.size=s.heap.objs.size+4:=by rw [Heap.size_push,z3]
 have g5:(zh5 s.heap l1 l2).get? (zh4 s.heap l1 l2).objs.size=some _:=Heap.get?_push_size _ rfl
 have g4:(zh5 s.heap l1 l2).get? (zh3 s.heap l1 l2).objs.size=some _:=Heap.get?_push_of_some _ (Heap.get?_push_size _ rfl)
 have g3:(zh5 s.heap l1 l2).get? (zh2 s.heap l1 l2).objs.size=some _:=Heap.get?_push_of_some _ (Heap.get?_push_of_some _ (Heap.get?_push_size _ rfl))
 have g2:(zh5 s.heap l1 l2).get? (zh1 s.heap l1).objs.size=some _:=Heap.get?_push_of_some _ (Heap.get?_push_of_some _ (Heap.get?_push_of_some _ (Heap.get?_push_size _ rfl)))
 have g1:(zh5 s.heap l1 l2).get? s.heap.objs.size=some _:=Heap.get?_push_of_some _ (Heap.get?_push_of_some _ (Heap.get?_push_of_some _ (Heap.get?_push_of_some _ (Heap.get?_push_size _ rfl))))
 have a1:l1<s.heap.objs.size:=by refine o11 t1 fun _ e _=>?_;clear t1;exact Heap.lt_size e
 have a2:l2<s.heap.objs.size:=by refine o11 t2 fun _ e _=>?_;clear t2;exact Heap.lt_size e
 have kk:∀ c o,s.heap.get? c=some o→(zh5 s.heap l1 l2).get? c=some o:=fun c o x=>
  Heap.get?_push_of_some _ (Heap.get?_push_of_some _ (Heap.get?_push_of_some _ (Heap.get?_push_of_some _ (Heap.get?_push_of_some _ x))))
 show _∧_
 rw [z2,z3,z4] at g5
 rw [z1,z2] at g3
 rw [z3] at g4
 rw [z1] at g2
 rw [z4]
 refine ⟨⟨_,g5,rfl⟩,h _ _ _ _ _ _ (zipApart_new a1 a2) ⟨g5,g3,(xi2 _ _ g4),⟨_,g1,rfl,rfl⟩,⟨_,g2,rfl,rfl⟩,J2l t1 (kk _),J2l t2 (kk _)⟩ kk fun b hb=>?_⟩
 refine Heap.get?_none_of_le ?_
 simp at hb
 rcases hb with rfl|rfl|rfl|rfl|rfl<;>lia
end
noncomputable abbrev gsc:Scope:={kind:=.function,names:=[(".0",.local),("i",.local),("j",.local)],isGenerator:=true,isCoroutine:=false,more:=[]}
theorem J7p {own h}{vs:List Value}{cs:List Int}(r:RdAll own h vs (cs.map .int)){i:Nat}{v}(hv:vs[i]? = some v):∃ c t,cs[i]? = some c∧v = .int c t:=by
 refine o11 (r.get' hv) fun d hd rv=>?_
 rw [List.getElem?_map] at hd
 refine o11 (Option.map_eq_some_iff.mp hd) fun c hc e9a=>?_;subst e9a
 refine o10 (Rd.inv_int rv) fun t e9a=>?_;subst e9a
 exact xi2 c t ⟨hc,rfl⟩
theorem K0y {own h}:∀ {vs:List Value} {is:List Int},vs.length=is.length→(∀ (j:Nat) v,vs[j]? = some v→∃ t c,is[j]? = some c∧v = .int c t)→RdAll own h vs (is.map .int)
 |[],[],_,_=>.nil
 |[],_::_,e,_=>by cases e
 |_::_,[],e,_=>by cases e
 |v::vs,i::is,e,q=>by
  refine o21 (q 0 v rfl) fun t c hc hv=>?_
  obtain rfl:i=c:=by simpa using hc
  rw [hv]
  exact .cons Rd.int (K0y (by simpa using e) fun j w hw=>q (j+1) w hw)
theorem J3u {n i:Nat}:passing (fun _=>true) n i=(List.range n).drop i:=by unfold passing;exact List.filter_eq_self.mpr (by simp)
theorem Gl.bfor {w:World}{s:Shared}{A:Around}{E:Value→Shared→Prop}{r:Addr}{Q:Addr→Shared→Prop}(G:Gl w s.heap)(hq:Q builtinsNs s):wpAny (model PW w) A (builtinsFor mainGlobals r) Q E s:=by
 skip
 refine o22 G.top fun mg mb h1 h2 h3=>?_
 refine o13 G.mod fun ob o1 o2 o3 o4=>?_
 skip
 exact wpAny_builtinsFor h1 (mg_of G.K h1 (rfl:nsIn (KF w.params) mainGlobals "__builtins__" = some (some (.ref 4)))) (by decide) o1 o2 o3 o4 hq
theorem Gl.code {w:World}{h:Heap}(G:Gl w h)(P:PlOk h):∃ ps,h.IsCode 129 tabP ps∧h.TableAt 129 tabP ps:=by
 skip
 refine o23 P fun op ps e d t q=>?_;clear P
 skip
 exact ⟨ps,(xi9 _ _ _ _ _ _ _ _ _ ⟨op,G.K 129 _ rfl,rfl,rfl,rfl,rfl,rfl,rfl,e,d,t,by decide⟩),⟨(xi2 _ _ ⟨G.K 129 _ rfl,rfl,rfl,rfl⟩),q▸e⟩⟩
theorem J9i {M:Model}{A:Around}{E:Value→Shared→Prop}{s:Shared}{env:Env}{c P:Addr}{ps:Array Value}{pos:Pos}{qualname:Str}{scope:Scope}{Q:Value→Shared→Prop}(hc:env.code = .ref c)(hok:s.heap.IsCode c P ps∧s.heap.TableAt c P ps)
  (hQ:∀ code h' tk ps',Heap.ExtBut P s.heap h'→h'.IsCode c P ps'∧h'.TableAt c P ps'→Q code {s with heap:=h',toks:=tk}):wpAny M A (genexprCode env pos qualname scope) Q E s:=by
 cases hnf:codeAmong pos ps.toList with
 |some cv=>exact wpAny_genexprCode_hit hc hok.1 hnf (hQ cv s.heap s.toks ps (Heap.ExtBut.refl _ _) hok)
 |none=>exact wpAny_genexprCodeX hc hok.1 hok.2 hnf fun c' h' tk a _ _ b _ d _=>hQ _ _ _ _ a ⟨b,d⟩
section
variable {w:World}{A:Around}{env:Env}{ns:List (Str×Bool)}{D:Addr}{xs:List (Option X)}{acc:List (Str×PyData)}{k:Str}
theorem DIn.tab {own s s'}(x:DIn w own env ns D xs acc s)(hk:∀ b o,b≠tabP→s.heap.get? b=some o→s'.heap.get? b=some o)(hp:PlOk s'.heap)(hs:SameG s s') :
  DIn w own env ns D xs acc s'∧CD env D s s':=by
 have live:∀ b o,s.heap.get? b=some o→∃ o',s'.heap.get? b=some o':=fun b o e=>by
  by_cases q:b=tabP
  ·refine o21 hp fun o _ e _=>?_;clear hp;exact ⟨o,q▸e⟩
  ·exact ⟨o,hk b o q e⟩
 have hid:Kps (hideAll s.heap own) (hideAll s'.heap own):=J0e (fun b o nb e=>hk b o (fun q=>nb (q▸x.t_own)) e) fun _ q=>q
 refine ⟨⟨?_,⟨x.C.gl.keeps hid,fun b hb=>let ⟨o,e⟩:=x.C.alive b hb;live b o e⟩,x.A.mono (fun o e=>hk _ o x.D_tab e) hid,hp,x.D_own,x.D_fr,x.D_tab,x.t_own,x.t_fr,x.f_own,x.adr⟩,hs,fun b o _ _ n e=>hk b o n e,live⟩
 exact x.F.hs (hs:=[tabP]) (fun b o n e=>hk b o (by simpa using n) e) (fun b hb q=>x.t_fr (by rw [← show b=tabP by simpa using q];exact hb)) x.adr (fun _ q=>q) hid
theorem tri {h:Heap}{c P:Addr}{ps:Array Value}(x:h.IsCode c P ps):TriplesOk ps.toList:=by
 refine o60 x fun _ _ _ _ _ _ r9a=>o42 r9a fun _ _ _ _ _ _ r9z=>?_;obtain ⟨_,_,_,_,_,_,_,t,_⟩:=r9z;clear x;exact t
theorem fa4 {P:Addr→Prop}{a b c d:Addr}(h1:P a)(h2:P b)(h3:P c)(h4:P d):∀ x∈[a,b,c,d],P x:=by
 intro x hx;simp only [List.mem_cons,List.not_mem_nil,or_false] at hx;rcases hx with rfl|rfl|rfl|rfl<;>assumption
theorem fa7 {P:Addr→Prop}{a b c d e f g:Addr}(h1:P a)(h2:P b)(h3:P c)(h4:P d)(h5:P e)(h6:P f)(h7:P g):∀ x∈[a,b,c,d,e,f,g],P x:=List.forall_mem_cons.2 ⟨h1,List.forall_mem_cons.2 ⟨h2,List.forall_mem_cons.2 ⟨h3,fa4 h4 h5 h6 h7⟩⟩⟩
theorem Z0t {h:Heap}:h.get? h.objs.size=none:=Heap.get?_none_of_le (Nat.le_refl _)
theorem Z8b {cs ds:List Int}{p1 p2 p3 p4 p5 p6 p7 p8 p9 q1 q2 q3 q4 q5 q6 q7 q8 q9 q10:Pos}{kt:Nat}(hh:A.handled=none)(hr:A.depth<recursionLimit)(hcode:env.code = .ref 129)
  (hc:VE w A env ns xs (.Name "caller" p1) (T (cs.map .int))) (ho:∀ p,VE w A env ns xs (.Name "new_callers" p) (.v (.ref D))) (hi:∀ p,VE w A env ns xs (.Name "func" p) (S k))
  (hg:getD? acc k=some (.tuple (ds.map .int))) (hlen:cs.length=ds.length) (hsz:cs.length≤1000) (hacc:acc.length≤1000)
  (gz:VE w A env ns xs (.Name "zip" p2) (.v (.type "zip"))) (gt:VE w A env ns xs (.Name "tuple" p3) (.v (.type "tuple"))) :
  DS w A env ns D xs acc (.Assign [.Subscript (.Name "new_callers" p4) (.Name "func" p5) p6]
   (.Call (.Name "tuple" p3) [.GeneratorExp (.BinOp (.Name "i" q1) .Add (.Name "j" q2) q3) [⟨.Tuple [.Name "i" q4,.Name "j" q5] kt q6,.Call (.Name "zip" p2) [.Name "caller" p1,.Subscript (.Name "new_callers" p7) (.Name "func" p8) p9] [] q7,[],0⟩] gsc q8] [] q9) q10) xs (J8f acc k (.tuple ((List.zipWith (· + ·) cs ds).map .int))):=by
 refine ⟨fun own s x=>wpAny_Assign_Subscript (Q:=_) ?_ rfl⟩
 rw [J0o q9 env rfl]
 refine wBn (J0 (gt.h own s x.F x.C) fun v s0 hv k0=>?_)
 obtain rfl:v = .type "tuple":=hv
 have x0:=x.keeps (Kee.kps k0)
 refine PyProof.Rows.callWith_type1 (spliced_more (wpAny_GeneratorExp_walksQT (cl:=[]) hh rfl rfl (by decide) rfl rfl rfl (by decide) rfl hr ?_ (fun _=>rfl)))
 refine aq fun Q2 hQ2=>?_
 rw [J0o q7 env rfl]
 refine wBn (J0 (gz.h own s0 x0.F x0.C) fun v s1 hv k1=>?_)
 obtain rfl:v = .type "zip":=hv
 have x1:=x0.keeps (Kee.kps k1)
 refine PyProof.Rows.callWith_type1 (spliced_more (J0 (hc.h own s1 x1.F x1.C) fun cv s2 hcv k2=>spliced_more (Subscript_ ?_)))
 have x2:=x1.keeps (Kee.kps k2)
 refine J0 ((ho p7).h own s2 x2.F x2.C) fun ov s3 hov k3=>?_
 obtain rfl:ov = .ref D:=hov
 have x3:=x2.keeps (Kee.kps k3)
 refine J0 ((hi p8).h own s3 x3.F x3.C) fun iv s4 hiv k4=>?_
 have x4:=x3.keeps (Kee.kps k4)
 obtain ⟨ti,rfl⟩:=Rd.inv_str hiv
 have tyD:s4.TypeIs (.ref D) "dict":=let ⟨kv,h1,_⟩:=x4.A;h1.typeIs
 refine tail_any tyD slot_dict_getitem.lookup (Z0v x4 hiv hg fun dv hdv=>?_) (by with_unfolding_all rfl)
 refine spliced_none ?_
 have hcv':=Rd.keeps hcv (Kee.kps (Kee.trans k3 k4))
 obtain ⟨l1,vs1,rfl,t1,r1⟩:=J3m hcv'
 obtain ⟨l2,vs2,rfl,t2,r2⟩:=J3m hdv
 have n1:vs1.size=cs.length:=by have:=r1.length;rw [Array.length_toList] at this;simpa using this
 have n2:vs2.size=ds.length:=by have:=r2.length;rw [Array.length_toList] at this;simpa using this
 have x5:DIn w own env ns D xs acc {s4 with toks:=s4.toks+1}:=x4.keeps fun _ _ e=>e
 have c05:CD env D s {s4 with toks:=s4.toks+1}:=(CD.of_keeps (Kee.trans k0 (Kee.trans k1 (Kee.trans k2 (Kee.trans k3 k4))))).trans (.of_keeps (xi2 _ _ ⟨rfl,fun _ _ e=>e⟩))
 refine K6z (s:={s4 with toks:=s4.toks+1}) t1 t2 fun h6 z TI TO i1 i2 ap zt kk6 fresh6=>?_
 obtain ⟨o5,ps5,e5,d5,t5⟩:=x5.P
 have x6:DIn w own env ns D xs acc {s4 with heap:=h6,toks:=s4.toks+1}:=x5.keeps kk6
 obtain ⟨ps,hcode0⟩:=x6.C.glh.code x6.P
 refine hQ2 _ _ ?_
 refine wpAny_pyIter_zip zt.hz ?_
 refine ⟨x6.C.glh.lim,?_⟩
 refine J9i hcode hcode0 fun code h7 tk7 ps7 kx7 hcode7=>?_
 have P7:PlOk h7:=(xi2 _ ps7 ⟨hcode7.2.2,rfl,tri hcode7.1,rfl⟩)
 have x7:=(x6.tab (s':={s4 with heap:=h7,toks:=tk7}) kx7 P7 (.of (xi2 _ _ rfl))).1
 rw [x.F.st.2.1]
 refine x7.C.glh.bfor ?_
 have nz:∀ {b},s4.heap.get? b=none→b≠tabP:=fun e q=>by rw [q] at e;rw [e] at e5;cases e5
 have f0:=fresh6 _ (.head _)
 have f2:=fresh6 _ (.tail _ (.tail _ (.head _)))
 have f3:=fresh6 _ (.tail _ (.tail _ (.tail _ (.head _))))
 have f4:=fresh6 _ (.tail _ (.tail _ (.tail _ (.tail _ (.head _)))))
 have nl:∀ {l:Addr} {vs:Array Value},Heap.IsTuple s4.heap l vs→l≠tabP:=fun {l vs} t q=>by
  obtain ⟨o,e,_,n,d⟩:=t
  rw [q] at e
  obtain rfl:o=o5:=Option.some.inj (e.symm.trans e5)
  rw [d] at d5;cases d5
 have all7:∀ b∈[z,TI,TO,i1,i2,l1,l2],b≠tabP:=fa7 (nz f0) (nz (fresh6 _ (.tail _ (.head _)))) (nz f2) (nz f3) (nz f4) (nl t1) (nl t2)
 have zt7:=zt.at (h':=h7) fun b hb o e=>kx7 b o (all7 b hb) e
 have lt7:∀ b∈[z,TI,TO,i1,i2,l1,l2],b<h7.objs.size:=fa7 (Heap.lt_size zt7.hz) (Heap.lt_size zt7.hTI) (let ⟨_,_,e⟩:=zt7.hTO;Heap.lt_size e) (let ⟨_,e,_⟩:=zt7.h1;Heap.lt_size e) (let ⟨_,e,_⟩:=zt7.h2;Heap.lt_size e) (let ⟨_,e,_⟩:=zt7.t1;Heap.lt_size e) (let ⟨_,e,_⟩:=zt7.t2;Heap.lt_size e)
 have wrf:∀ b∈[z,TO,i1,i2],s4.heap.get? b=none:=fa4 f0 f2 f3 f4
 have old7:∀ b o,b≠tabP→s4.heap.get? b=some o→h7.get? b=some o:=fun b o n e=>kx7 b o n (kk6 b o e)
 refine xi9 z [z,TI,TO,i1,i2,l1,l2] [z,TO,i1,i2] vs1.size _ _ _ (fun _=>true) (fun i y=>∃ c d t,cs[i]? = some c∧ds[i]? = some d∧y = .int (c+d) t) ⟨rfl,
  fun A' hA=>K3h hA ap (by rw [n1,n2,hlen]),fun i vals ⟨x,y,_,_,e⟩=>⟨x,y,e⟩,zt7,lt7,x7.C.glh.lim,?_,?_,?_⟩
 ·intro hm
  obtain ⟨_,hn,_⟩:=x5.C.glh.lim
  obtain ⟨o,_,_,e,_⟩:=hn
  have:=wrf _ hm
  rw [show s4.heap.get? cStatics=some o from e] at this;cases this
 ·intro href hk
  refine ⟨fun A' E' i va vb s2' m2 _ _ _ _ _ _=>by rw [show forIn ([]:List Expr) true _=(pure true:Sem Bool) from rfl];exact wPu ⟨rfl,_,_,rfl,fun _ _ e=>e⟩,fun A' E' i va vb s2' m2 hA hP _ hn e1 e2 _=>?_⟩
  obtain ⟨u,v,hu,hv,e⟩:=hP
  obtain ⟨rfl,rfl⟩:va=u∧vb=v:=by simpa using e
  obtain ⟨c,t,hc1,rfl⟩:=J7p r1 (by simpa using hu)
  obtain ⟨d,t',hd1,rfl⟩:=J7p r2 (by simpa using hv)
  exact wpAny_BinOp (wpAny_Name (wpAny_loadName_local rfl rfl hn e1 (wpAny_Name (wpAny_loadName_local rfl rfl hn e2 (add_int ⟨⟨c,d,_,hc1,hd1,rfl⟩,_,_,rfl,fun _ _ e=>e⟩)) (by decide))) (by decide))
 ·intro a h8 tk8 gs hgb hag hsz8 hk8 W hat
  refine spliced_none ?_
  refine call_tuple_gen (s:=_) W.in4_3 (fun i s' st=>st.1.typeIs) hat (fun b hb=>?_) (List.mem_cons_self ..) (fun s9 acc9 mv it9=>?_) (hsz:=?_)
  ·show b<h8.objs.size
   rw [hsz8]
   rcases mCn hb with rfl|hb
   ·exact Nat.lt_succ_self _
   ·rcases mCn hb with rfl|hb
    ·exact Nat.lt_succ_of_lt hag
    ·exact Nat.lt_succ_of_lt (Nat.lt_trans (List.mem_range.mp hb) hag)
  ·have old9:∀ b o,b≠tabP→s4.heap.get? b=some o→s9.heap.get? b=some o:=fun b o n e=>mv.heap b o (fun hm=>by
     rcases mCn hm with rfl|hm
     ·exact absurd (Heap.lt_size (old7 _ _ n e)) (Nat.lt_irrefl _)
     ·rw [wrf b hm] at e;cases e) (hk8 b o (old7 b o n e))
   have P9:PlOk s9.heap:=P7.keeps fun o e=>mv.heap _ o (fun hm=>by
     rcases mCn hm with q|hm
     ·exact absurd (Heap.lt_size e) (by rw [q];exact Nat.lt_irrefl _)
     ·have:=wrf _ hm;rw [show s4.heap.get? tabP=some o5 from e5] at this;cases this) (hk8 _ o e)
   have same9:SameG {s4 with toks:=s4.toks+1} s9:=by
    refine xi3 s9.heap s9.toks s9.gens ⟨?_,fun ab=>(AllBare.push ab hgb).moved mv.gens⟩
    obtain ⟨h9,g9,dr9,tk9,os9⟩:=s9
    have e1:=mv.drawn
    have e2:=mv.os
    simp only at e1 e2
    rw [e1,e2]
   obtain ⟨x9,c9⟩:=x5.tab old9 P9 same9
   have kp:Kps s9.heap (s9.heap.push {cls:=.type "tuple",data:=.seq acc9}):=fun b o e=>Heap.get?_push_of_some _ e
   have x10:DIn w own env ns D xs acc {s9 with heap:=s9.heap.push {cls:=.type "tuple",data:=.seq acc9}}:=x9.keeps kp
   have c10:CD env D s {s9 with heap:=s9.heap.push {cls:=.type "tuple",data:=.seq acc9}}:=(c05.trans c9).trans (.of_keeps (xi2 _ s9.toks ⟨rfl,kp⟩))
   have hR:Rd own (s9.heap.push {cls:=.type "tuple",data:=.seq acc9}) (.ref s9.heap.objs.size) (.tuple ((List.zipWith (· + ·) cs ds).map .int)):=by
    refine Rd.tuple (x9.C.fresh Z0t) (Heap.get?_push_size _ rfl) rfl rfl (K0y ?_ fun j v hv=>?_)
    ·rw [Array.length_toList,it9.1,J3u,List.drop_zero,List.length_range,List.length_zipWith,n1,hlen,Nat.min_self]
    ·obtain ⟨i,hi',c,d,t,hc1,hd1,rfl⟩:=it9.2 j v (by simpa using hv)
     rw [J3u,List.drop_zero] at hi'
     obtain ⟨hlt,rfl⟩:=List.getElem?_eq_some_iff.mp hi'
     rw [List.getElem_range] at hc1 hd1
     exact xi2 t (c+d) ⟨by rw [List.getElem?_zipWith,hc1,hd1],rfl⟩
   refine J0 ((ho p4).h own _ x10.F x10.C) fun l s11 hl k11=>?_
   obtain rfl:l = .ref D:=hl
   have x11:=x10.keeps (Kee.kps k11)
   refine J0 ((hi p5).h own s11 x11.F x11.C) fun iv s12 hiv k12=>?_
   have kk:=Kee.trans k11 k12
   exact J7a (x10.keeps (Kee.kps kk)) hiv (Rd.keeps hR (Kee.kps kk)) hacc fun s13 x13 c13=>⟨rfl,x13,(c10.trans (.of_keeps kk)).trans c13⟩
  ·rw [J3u,List.drop_zero,List.length_range,n1];exact J0l hsz
end
theorem J6i {acc:List (Str×PyData)}{k:Str}{d:PyData}(h:getD? acc k=some d):acc.any (fun p=>decide (p.1=k))=true:=by
 unfold getD? at h
 refine o11 (Option.map_eq_some_iff.mp h) fun p hp _=>?_
 exact List.any_eq_true.mpr ⟨p,List.mem_of_find?_eq_some hp,List.find?_some (p:=fun p:Str×PyData=>decide (p.1=k)) hp⟩
theorem K8n {acc:List (Str×PyData)}{k:Str}{d:PyData}(h:acc.any (fun p=>decide (p.1=k))=false):J8f acc k d=acc++[(k,d)]:=by unfold J8f;rw [h];rfl
theorem K6j {acc:List (Str×PyData)}{i:Nat}{k:Str}{d:PyData}(nd:(acc.map (·.1)).Nodup)(h:acc[i]? = some (k,d)):J8f (acc.take i) k d=acc.take (i+1):=by
 refine o10 (List.getElem?_eq_some_iff.mp h) fun hlt e=>?_
 have:(acc.take i).any (fun p=>decide (p.1=k))=false:=by
  rw [List.any_eq_false]
  intro p hp
  obtain ⟨j,hj,rfl⟩:=List.getElem_of_mem hp
  rw [List.length_take] at hj
  rw [List.getElem_take]
  intro q
  have q:acc[j].1=k:=by simpa using q
  have:=(List.pairwise_iff_getElem.mp nd) j i (by simp;exact Nat.lt_of_lt_of_le hj (Nat.min_le_right _ _)) (by simpa using hlt) (Nat.lt_of_lt_of_le hj (Nat.min_le_left _ _))
  rw [List.getElem_map,List.getElem_map,e] at this
  exact this q
 rw [K8n this,List.take_add_one,h];rfl
inductive Mrg (acc:List (Str×PyData))(k:Str)(d:PyData):List (Str×PyData)→Prop
 |new:acc.any (fun p=>decide (p.1=k))=false→Mrg acc k d (J8f acc k d)
 |tup {cs ds:List Int}:d = .tuple (cs.map .int)→getD? acc k=some (.tuple (ds.map .int))→cs.length=ds.length→cs.length≤1000→Mrg acc k d (J8f acc k (.tuple ((List.zipWith (· + ·) cs ds).map .int)))
 |int {c e:Int}:d = .int c→getD? acc k=some (.int e)→Mrg acc k d (J8f acc k (.int (e+c)))
structure VG1 (w:World)(A:Around)(f:Value)(ys:List X)(z:X):Prop where
 h:∀ own s vs,Cx w own s.heap→tabP∈own→PlOk s.heap→XAll own s.heap vs ys→wpAny (model PW w) A (call f vs) (fun u s'=>XIn own s'.heap u z∧PlOk s'.heap∧SameG s s'∧∀ b o,b≠tabP→s.heap.get? b=some o→s'.heap.get? b=some o) (fun _ _=>False) s
section
variable {w:World}{A:Around}{env:Env}{ns:List (Str×Bool)}{D:Addr}{xs xs':List (Option X)}{acc acc':List (Str×PyData)}{ss tt:List Stmt}{l r ie oe:Expr}{k:Str}{pos pos' px:Pos}{n:Str}
theorem K0x {b:Bool}(hl:VE w A env ns xs l (S k))(hr:VE w A env ns xs r (.v (.ref D)))(hb:acc.any (fun p=>decide (p.1=k))=b)(hm:Ok (behindInMarks .In r=false))
  (h1:b=true→DB w A env ns D xs acc ss xs' acc') (h2:b=false→DB w A env ns D xs acc tt xs' acc'):DS w A env ns D xs acc (.If (.Compare l [.In] [r] px) ss tt pos) xs' acc':=by
 refine ⟨fun own s x=>wpAny_If (wpAny_isTrue_Compare1 (J0 (hl.h own s x.F x.C) fun a s1 ha k1=>?_) hm.h)⟩
 have x1:=x.keeps (Kee.kps k1)
 refine J0 (hr.h own s1 x1.F x1.C) fun c s2 hc k2=>?_
 obtain rfl:c = .ref D:=hc
 have x2:=x1.keeps (Kee.kps k2)
 refine Z9p x2 (ha.keeps (Kee.kps k2)) (wpAny_truthy_bool ?_)
 have x3:DIn w own env ns D xs acc {s2 with toks:=s2.toks+1}:=x2.keeps fun _ _ e=>e
 have c3:CD env D s {s2 with toks:=s2.toks+1}:=(CD.of_keeps (Kee.trans k1 k2)).trans (.of_keeps (xi2 _ _ ⟨rfl,fun _ _ e=>e⟩))
 rw [hb]
 cases b with
 |true=>exact wMo ((h1 rfl).h own _ x3) (fun g s2 r=>⟨r.1,r.2.1,c3.trans r.2.2⟩) fun _ _ q=>q
 |false=>exact wMo ((h2 rfl).h own _ x3) (fun g s2 r=>⟨r.1,r.2.1,c3.trans r.2.2⟩) fun _ _ q=>q
theorem Z8n {c e:Int}{v:Expr}(ho:VE w A env ns xs oe (.v (.ref D)))(hi:VE w A env ns xs ie (S k))(he:VE w A env ns xs v (I c))(hg:getD? acc k=some (.int e))(hsz:acc.length≤1000)
  (ha:∀ ov iv new,augStore ie ov iv new=(do holding [new,ov,iv] (setItem ov iv new);release [new,ov,iv] [];pure .next)) :
  DS w A env ns D xs acc (.AugAssign (.Subscript oe ie pos') .Add v pos) xs (J8f acc k (.int (e+c))):=by
 refine ⟨fun own s x=>wpAny_AugAssign_SubscriptAny (J0 (ho.h own s x.F x.C) fun l s1 hl k1=>?_) ha⟩
 obtain rfl:l = .ref D:=hl
 have x1:=x.keeps (Kee.kps k1)
 refine J0 (hi.h own s1 x1.F x1.C) fun iv s2 hiv k2=>?_
 have x2:=x1.keeps (Kee.kps k2)
 refine Z0v x2 hiv hg fun old hold=>?_
 have x3:DIn w own env ns D xs acc {s2 with toks:=s2.toks+1}:=x2.keeps fun _ _ e=>e
 refine J0 (he.h own _ x3.F x3.C) fun cv s4 hcv k4=>?_
 have x4:=x3.keeps (Kee.kps k4)
 refine J0 ((v_iadd (a:=e) (b:=c)).h own s4 [old,cv] x4.C (.cons (Rd.keeps hold (Kee.kps k4)) (.cons hcv .nil))) fun nv s5 hnv k5=>?_
 have x5:=x4.keeps (Kee.kps k5)
 exact J7a x5 (Rd.keeps (Rd.keeps hiv (Kee.kps k4)) (Kee.kps k5)) hnv hsz fun s6 x6 c6=>⟨rfl,x6,((CD.of_keeps (Kee.trans k1 k2)).trans (.of_keeps (xi2 _ _ ⟨rfl,fun _ _ e=>e⟩))).trans ((CD.of_keeps (Kee.trans k4 k5)).trans c6)⟩
theorem K9f {ds:List PyData}:VF w A (.builtin "isinstance") [T ds,.v (.type "tuple")] (B true):=vf2 fun own s va vb C ha hb=>by
 refine o22 (J3m ha) fun a vs e9a hl hr=>?_;subst e9a
 have hb:vb = .type "tuple":=hb
 subst hb
 exact call_isinstance_yes hl.typeIs F.isi_meta_tuple (by rw [isSubtype_type];kernel_rfl) ⟨Rd.bool,Kee.refl⟩
theorem K7x {a:Int}:VF w A (.builtin "isinstance") [I a,.v (.type "tuple")] (B false):=vf2 fun own s va vb C ha hb=>by
 refine o10 (Rd.inv_int ha) fun t e9a=>?_;subst e9a
 have hb:vb = .type "tuple":=hb
 subst hb
 exact IsiPair.int_tuple ⟨Rd.bool,kt⟩
end
section
variable {w:World}{A:Around}{acc1 acc':List (Str×PyData)}{k:Str}{d:PyData}
noncomputable abbrev J9w:List (Str×Bool):=[("target",false),("source",false),("new_callers",false),("func",false),("caller",false)]
theorem Z1c (hA:Rm 1 A)(nd:(acc1.map (·.1)).Nodup)(hsz:acc1.length≤500)(hm:Mrg acc1 k d acc'):VG1 w A (.ref 130) [DX w acc1,DX w [(k,d)]] (DX w acc'):=by
 refine ⟨fun own s vs C ht hp hv=>?_⟩
 have S:FnStat 130 _ _ J9w:=⟨fun _=>(xi3 _ _ _ rfl),fun _=>rfl,rfl,⟨rfl,rfl,rfl,rfl,rfl,rfl⟩,by decide,by decide,by decide⟩
 refine XAll.e2 hv fun v1 v2 r1 r2=>?_
 have hv:XAll own s.heap [v1,v2] [DX w acc1,DX w [(k,d)]]:=.cons r1 (.cons r2 .nil)
 refine wpAny_call (K2v S hA.dl (ys:=[DX w acc1,DX w [(k,d)]]) (j:=3) rfl rfl C hv fun L s1 F1 C1 k1 fr=>?_)
 have kk1:=Kee.kps k1
 refine wpAny_execs_cons (wpAny_Assign_Name (wpAny_Dict_empty ?_) rfl)
 generalize hE:fEnv _ 130 L=env at F1 C1 fr ⊢
 have hE':=hE.symm
 have hno:s1.heap.get? s1.heap.objs.size=none:=Z0t
 have hD0:s1.heap.objs.size≠sysModules:=fun q=>by
  have:=Heap.lt_size (C1.glh.K 129 _ rfl)
  rw [q] at this;exact absurd this (by decide)
 have hdo:(s1.heap.push {cls:=.type "dict",data:=.dict #[]}).DictOf (strKind PW w) s1.heap.objs.size []:=Heap.DictOf.new s1.heap
 have kp:Kps s1.heap (s1.heap.push {cls:=.type "dict",data:=.dict #[]}):=kps_push _
 generalize s1.heap.objs.size=D at hno hD0 hdo ⊢
 have hid:Kps (hideAll s1.heap (frs env++own)) (hideAll (s1.heap.push {cls:=.type "dict",data:=.dict #[]}) (D::(frs env++own))):=by
  exact J5d kp (List.forall_mem_cons.2 ⟨fun _=>hno,fun _ hb n=>absurd hb n⟩)
 have F2:=F1.to (own':=D::(frs env++own)) kp hid fun b hb=>.tail _ hb
 have C2:Cx w (D::(frs env++own)) (s1.heap.push {cls:=.type "dict",data:=.dict #[]}):=by
  exact ⟨C1.gl.keeps hid,List.forall_mem_cons.2 ⟨let ⟨o,_,_,e,_⟩:=hdo;⟨o,e⟩,C1.alive.keeps kp⟩⟩
 have nfD:D∉frs env:=fun m=>by refine o11 (F1.notF _ m) fun o e _=>?_;rw [hno] at e;cases e
 refine J3j (s:={s1 with heap:=s1.heap.push {cls:=.type "dict",data:=.dict #[]}}) (x:=.v (.ref D)) F2 rfl (Put.tail (Put.tail Put.head)) fun h' tk F3 S3=>?_
 refine o22 hp fun ot pst et dt tt=>?_;clear hp
 have nft:tabP∉frs env:=fun m=>by have:=fr _ m;rw [et] at this;cases this
 have x3:DIn w (D::(frs env++own)) env J9w D [some (DX w acc1),some (DX w [(k,d)]),some (.v (.ref D)),none,none] [] {s1 with heap:=h',toks:=tk}:=
  ⟨F3,S3.cx C2,⟨[],hdo.at fun o e=>S3.but _ o nfD e,rfl,.nil,by simpa using hD0⟩,(xi2 ot pst ⟨S3.but _ _ nft (kp _ _ (kk1 _ _ et)),dt,tt⟩),.head _,nfD,(fun q=>by rw [q] at hno;rw [kk1 _ _ et] at hno;cases hno),
   .tail _ (List.mem_append_right _ ht),nft,fun b hb=>.tail _ (List.mem_append_left _ hb),rfl⟩
 let xsF:Option X→Option X→List (Option X):=fun a b=>[some (DX w acc1),some (DX w [(k,d)]),some (.v (.ref D)),a,b]
 have xv:∀ a b own f h,Vals own h f J9w (xsF a b)→Vals own h f J9w (xsF none none):=fun a b own f h V=>⟨V.1,V.2.1,V.2.2.1,fun _ e=>(nomatch e),fun _ e=>(nomatch e),trivial⟩
 refine wpAny_execs_cons (wMo ((Z0z (A:=A.deeper env) (kvs:=acc1) (n:="target") xsF (fun i=>acc1.take i) hA.hd .head (by decide) (fun x=>.tail (.tail (.tail .head))) (fun x y=>.tail (.tail (.tail (.tail .head)))) xv (fun _ _=>⟨rfl,rfl⟩) rfl (by rw [hE'];rfl) rfl ?_ (fun _=>rfl)).h _ _ x3) (fun g s4 q=>?_) fun _ _ q=>q.elim)
 ·intro i k' d' hi
  rw [← K6j nd hi]
  refine J3x (Z0s ?_ ?_ ?_ (by rw [List.length_take];exact lTr (Nat.min_le_right _ _) (lTr hsz (by decide))) (by rfl)) J5u
  ·x_close
  ·x_close
  ·x_close
 refine o02 q fun e9a x4 c4=>?_;subst e9a;clear q
 refine wpAny_execs_cons (wMo ((Z0z (A:=A.deeper env) (kvs:=[(k,d)]) (n:="source") xsF (fun i=>if i=0 then acc1 else acc') hA.hd (.tail .head) (by decide) (fun x=>.tail (.tail (.tail .head))) (fun x y=>.tail (.tail (.tail (.tail .head)))) xv (fun _ _=>⟨rfl,rfl⟩) rfl (by rw [hE'];rfl) rfl ?_ (fun _=>rfl)).h _ _ (by simpa using x4)) (fun g s5 q=>?_) fun _ _ q=>q.elim)
 ·intro i k' d' hi
  match i,hi with
  |0,hi=>
  refine o01 (by simpa using hi:k=k'∧d=d') fun e9a e9b=>?_;subst e9a;subst e9b
  refine J3x ?_ J5u
  show DS w _ env J9w D _ acc1 _ _ acc'
  cases hm with
  |new h=>
   refine K0x (b:=false) (k:=k) ?_ ?_ h (Ok.mk (by with_unfolding_all rfl)) (fun q=>(nomatch q)) fun _=>J3x (Z0s ?_ ?_ ?_ (lTr hsz (by decide)) (by rfl)) J5u
   all_goals x_close
  |@tup cs ds hd hg hl hs=>
   subst hd
   refine K0x (b:=true) (k:=k) ?_ ?_ (J6i hg) (Ok.mk (by with_unfolding_all rfl)) (fun _=>J3x (Z5s (b:=true) ?_ (fun _=>J3x (Z8b (A:=A.deeper env) hA.hd ?_ ?_ ?_ ?_ ?_ hg hl hs (lTr hsz (by decide)) ?_ ?_) J5u) fun q=>(nomatch q)) J5u) fun q=>(nomatch q)
   ·x_close
   ·x_close
   ·apply J0v
    ·x_close
    ·apply w_callb (id:="isinstance") (ys:=[T (cs.map .int),.v (.type "tuple")])
     ·x_close
     ·x_close
     ·repeat' x_close
     ·exact K9f
   ·exact (Rm.deeper hA).dl
   ·rw [hE'];rfl
   ·x_close
   ·intro p;x_close
   ·intro p;x_close
   ·x_close
   ·x_close
  |@int c e hd hg=>
   subst hd
   refine K0x (b:=true) (k:=k) ?_ ?_ (J6i hg) (Ok.mk (by with_unfolding_all rfl)) (fun _=>J3x (Z5s (b:=false) ?_ (fun q=>(nomatch q)) fun _=>J3x (Z8n ?_ ?_ ?_ hg (lTr hsz (by decide)) (by intros;rfl)) J5u) J5u) fun q=>(nomatch q)
   ·x_close
   ·x_close
   ·apply J0v
    ·x_close
    ·apply w_callb (id:="isinstance") (ys:=[I c,.v (.type "tuple")])
     ·x_close
     ·x_close
     ·repeat' x_close
     ·exact K7x
   ·x_close
   ·x_close
   ·x_close
 refine o02 q fun e9a x5 c5=>?_;subst e9a;clear q
 have x5:DIn w (D::(frs env++own)) env J9w D (xsF none none) acc' s5:=x5
 refine wpAny_execs_cons (wpAny_Return_some ?_)
 have rn:VE w (A.deeper env) env J9w (xsF none none) (.Name "new_callers" ⟨79,11,79,22⟩) (.v (.ref D)):=by x_close
 refine J0 (rn.h _ s5 x5.F x5.C) fun v s6 hv6 k6=>?_
 obtain rfl:v = .ref D:=hv6
 have x6:=x5.keeps (Kee.kps k6)
 have c36:=c4.trans (c5.trans (.of_keeps k6))
 have nD:D∉own:=fun m=>by refine o10 (C.alive _ m) fun o e=>?_;rw [kk1 _ _ e] at hno;cases hno
 refine ⟨(x6.A.mono (own':=own) (fun o e=>e) (J0e (fun _ _ _ e=>e) fun b hb=>.tail _ (List.mem_append_right _ hb))).dx nD,x6.P,?_,fun b o n e=>?_⟩
 ·exact (SameG.of (let ⟨h,t,e,_⟩:=k1;⟨h,t,e⟩)).trans ((SameG.of ⟨_,_,rfl⟩).trans c36.same)
 ·have nf:b∉frs env:=fun m=>by have:=fr _ m;rw [e] at this;cases this
  exact c36.but b o nf (fun q=>by rw [q] at e;rw [kk1 _ _ e] at hno;cases hno) n (S3.but _ _ nf (kp _ _ (kk1 _ _ e)))
end
structure GIn (w:World)(own:List Addr)(env:Env)(ns:List (Str×Bool))(xs:List (Option X))(s:Shared):Prop where
 F:FrM own env ns xs s.heap
 C:Cx w own s.heap
 P:PlOk s.heap
 t_own:tabP∈own
 t_fr:tabP∉frs env
 t_ad:tabP∉adrs xs
structure ChG (env:Env)(xs xs':List (Option X))(own own':List Addr)(s s':Shared):Prop where
 same:SameG s s'
 sub:∀ b∈own,b∈own'
 hid:Kps (hideAll s.heap own) (hideAll s'.heap own')
 but:∀ b o,b∉adrs xs→b∉frs env→b≠tabP→s.heap.get? b=some o→s'.heap.get? b=some o
 new:∀ b∈adrs xs',b∈adrs xs∨s.heap.get? b=none
 live:∀ b o,s.heap.get? b=some o→∃ o',s'.heap.get? b=some o'
theorem ChG.trans {env xs xs' xs'' own own' own'' s s' s''}(a:ChG env xs xs' own own' s s')(b:ChG env xs' xs'' own' own'' s' s''):ChG env xs xs'' own own'' s s'':=by
 refine ⟨a.same.trans b.same,fun x q=>b.sub x (a.sub x q),Kps.trans a.hid b.hid,fun x o n1 n2 n3 e=>b.but x o (fun q=>?_) n2 n3 (a.but x o n1 n2 n3 e),fun x q=>?_,fun x o e=>let ⟨o',e'⟩:=a.live x o e;b.live x o' e'⟩
 ·rcases a.new x q with q|q
  ·exact n1 q
  ·rw [q] at e;cases e
 ·rcases b.new x q with q|q
  ·exact a.new x q
  ·cases e:s.heap.get? x with
   |none=>exact .inr rfl
   |some o=>refine o10 (a.live x o e) fun o' e'=>?_;rw [q] at e';cases e'
theorem ChG.of {env xs xs' own own' s s'}(k:ChM env xs xs' own own' s s'):ChG env xs xs' own own' s s':=⟨.of k.same,k.sub,k.hid,fun b o n1 n2 _ e=>k.but b o n1 n2 e,k.new,k.live⟩
theorem ChG.refl {env xs own s}:ChG env xs xs own own s s:=.of .refl
theorem ChG.of_keeps {env xs own s s'}(k:Keeps s s'):ChG env xs xs own own s s':=.of (.of_keeps k)
theorem GIn.to {w own own' env ns xs xs' s s'}(x:GIn w own env ns xs s)(F:FrM own' env ns xs' s'.heap)(C:Cx w own' s'.heap)(k:ChM env xs xs' own own' s s'):GIn w own' env ns xs' s':=
 ⟨F,C,x.P.keeps fun o e=>k.but _ o x.t_ad x.t_fr e,k.sub _ x.t_own,x.t_fr,fun m=>by
  rcases k.new _ m with q|q
  ·exact x.t_ad q
  ·refine o21 x.P fun o _ e _=>?_;rw [q] at e;cases e⟩
theorem GIn.keeps {w own env ns xs s s'}(x:GIn w own env ns xs s)(k:Keeps s s'):GIn w own env ns xs s':=x.to (x.F.keeps (Kee.kps k)) (x.C.keeps (Kee.kps k)) (.of_keeps k)
structure GX (w:World)(A:Around)(env:Env)(ns:List (Str×Bool))(xs:List (Option X))(ss:List Stmt)(R:Fl→List (Option X)→Prop):Prop where
 h:∀ own s,GIn w own env ns xs s→wpAny (model PW w) A (execs ss env) (fun g s'=>∃ own' f xs',R f xs'∧FlIn own' s'.heap g f∧GIn w own' env ns xs' s'∧ChG env xs xs' own own' s s') (fun _ _=>False) s
structure G1 (w:World)(A:Around)(env:Env)(ns:List (Str×Bool))(xs:List (Option X))(st:Stmt)(R:Fl→List (Option X)→Prop):Prop where
 h:∀ own s,GIn w own env ns xs s→wpAny (model PW w) A (exec st env) (fun g s'=>∃ own' f xs',R f xs'∧FlIn own' s'.heap g f∧GIn w own' env ns xs' s'∧ChG env xs xs' own own' s s') (fun _ _=>False) s
structure GE (w:World)(A:Around)(env:Env)(ns:List (Str×Bool))(xs:List (Option X))(e:Expr)(z:X):Prop where
 h:∀ own s,GIn w own env ns xs s→wpAny (model PW w) A (eval e env) (fun v s'=>XIn own s'.heap v z∧GIn w own env ns xs s'∧ChG env xs xs own own s s') (fun _ _=>False) s
section
variable {w:World}{A:Around}{env:Env}{ns:List (Str×Bool)}{xs xs' xs'':List (Option X)}{st:Stmt}{ss tt:List Stmt}{R R':Fl→List (Option X)→Prop}{f:Fl}{e:Expr}{z:X}{n:Str}{c b:Bool}{pos npos:Pos}
theorem J2r (h:R .next xs):GX w A env ns xs [] R:=⟨fun own s x=>wpAny_execs_nil (xi3 own .next xs ⟨h,trivial,x,.refl⟩)⟩
theorem J3n (h:G1 w A env ns xs st R')(t:∀ xs',R' .next xs'→GX w A env ns xs' ss R)(q:∀ f xs',f≠.next→R' f xs'→R f xs'):GX w A env ns xs (st::ss) R:=by
 refine ⟨fun own s x=>wpAny_execs_cons (wMo (h.h own s x) (fun g s1 z=>?_) fun _ _ q=>q)⟩
 skip
 refine o33 z fun own' f xs' r z1 z2 z4=>?_;clear z
 skip
 cases g with
 |next=>
  cases f with
  |next=>
   refine wMo ((t xs' r).h own' s1 z2) (fun g s2 z=>?_) fun _ _ q=>q
   skip
   refine o33 z fun o2 f2 x2 a b c e=>?_;clear z
   skip
   exact xi3 o2 f2 x2 ⟨a,b,c,z4.trans e⟩
  |_=>exact z1.elim
 |_=>
  have:f≠.next:=by rintro rfl;exact z1.elim
  exact xi3 own' f xs' ⟨q f xs' this r,z1,z2,z4⟩
theorem Z7 (h:M1 w A env ns xs st R):G1 w A env ns xs st R:=⟨fun own s x=>wMo (h.h own s x.F x.C) (fun g s1 ⟨o,f,x',r,z1,z2,z3,z4⟩=>⟨o,f,x',r,z1,x.to z2 z3 z4,.of z4⟩) fun _ _ q=>q⟩
theorem V0u (h:MX w A env ns xs ss R):GX w A env ns xs ss R:=⟨fun own s x=>wMo (h.h own s x.F x.C) (fun g s1 ⟨o,f,x',r,z1,z2,z3,z4⟩=>⟨o,f,x',r,z1,x.to z2 z3 z4,.of z4⟩) fun _ _ q=>q⟩
theorem J2g (h:G1 w A env ns xs st (fun f x=>f = .next∧x=xs'))(t:GX w A env ns xs' ss R):GX w A env ns xs (st::ss) R:=
 J3n h (fun x q=>q.2▸t) fun f x n q=>absurd q.1 n
theorem J6u (h:M1 w A env ns xs st (fun f x=>f = .next∧x=xs'))(t:GX w A env ns xs' ss R):GX w A env ns xs (st::ss) R:=J2g (Z7 h) t
theorem J0w (h:VS w A env ns xs st .next xs')(ha:adrs xs'=adrs xs)(t:GX w A env ns xs' ss R):GX w A env ns xs (st::ss) R:=J6u (K8d h ha ⟨rfl,rfl⟩) t
theorem G1.mono (h:G1 w A env ns xs st R')(q:∀ f xs',R' f xs'→R f xs'):G1 w A env ns xs st R:=
 ⟨fun own s x=>wMo (h.h own s x) (fun g s1 ⟨o,f,x,r,z⟩=>⟨o,f,x,q _ _ r,z⟩) fun _ _ q=>q⟩
theorem GX.mono (h:GX w A env ns xs ss R')(q:∀ f xs',R' f xs'→R f xs'):GX w A env ns xs ss R:=
 ⟨fun own s x=>wMo (h.h own s x) (fun g s1 ⟨o,f,x,r,z⟩=>⟨o,f,x,q _ _ r,z⟩) fun _ _ q=>q⟩
theorem K0p (h:G1 w A env ns xs st R)(t:∀ x,R .next x→GX w A env ns x ss R):GX w A env ns xs (st::ss) R:=J3n h t fun _ _ _ r=>r
theorem J6 (ht:MT w A env ns xs e b xs')(h1:b=true→GX w A env ns xs' ss R)(h2:b=false→GX w A env ns xs' tt R):G1 w A env ns xs (.If e ss tt pos) R:=by
 refine ⟨fun own s x=>wpAny_If (wMo (ht.h own s x.F x.C) (fun v s1 q=>?_) fun _ _ q=>q)⟩
 refine o03 q fun e9a q1 q2 q3=>?_;subst e9a;clear q
 have x1:=x.to q1 q2 q3
 cases v with
 |true=>exact wMo ((h1 rfl).h own s1 x1) (fun g s2 ⟨o,f,x2,r,z1,z2,z3⟩=>⟨o,f,x2,r,z1,z2,(ChG.of q3).trans z3⟩) fun _ _ q=>q
 |false=>exact wMo ((h2 rfl).h own s1 x1) (fun g s2 ⟨o,f,x2,r,z1,z2,z3⟩=>⟨o,f,x2,r,z1,z2,(ChG.of q3).trans z3⟩) fun _ _ q=>q
theorem Z6s (h:VE w A env ns xs e z):GE w A env ns xs e z:=⟨fun own s x=>J0 (h.h own s x.F.f x.C) fun v s1 hv k=>⟨hv,x.keeps k,.of_keeps k⟩⟩
theorem K5n (h:ME w A env ns xs e z xs')(p:Put ns xs' n c (some z) xs'')(ha:adrs xs''=adrs xs')(r:R .next xs'')(hs:swapsWith e (some (.Name n npos)) pos.line env=pure false):M1 w A env ns xs (.Assign [.Name n npos] e pos) R:=by
 refine ⟨fun own s F C=>wpAny_Assign_Name (wMo (h.h own s F C) (fun v s1 q=>?_) fun _ _ q=>q) hs⟩
 skip
 refine o03 q fun q1 q2 q3 q4=>?_;clear q
 skip
 refine J3j q2.f q1 p fun h' tk F' S=>?_
 have k:Chg own env s1 {s1 with heap:=h',toks:=tk}:=⟨(xi2 _ _ rfl),S⟩
 exact xi3 own .next xs'' ⟨r,trivial,⟨F',by rw [ha];exact q2.mine,by rw [ha];exact q2.nd⟩,S.cx q3,q4.trans (.of_chg k F' ha)⟩
theorem Z5a (h:GE w A env ns xs e z)(p:Put ns xs n c (some z) xs')(ha:adrs xs'=adrs xs)(r:R .next xs')(hs:swapsWith e (some (.Name n npos)) pos.line env=pure false):G1 w A env ns xs (.Assign [.Name n npos] e pos) R:=by
 refine ⟨fun own s x=>wpAny_Assign_Name (wMo (h.h own s x) (fun v s1 q=>?_) fun _ _ q=>q) hs⟩
 refine o02 q fun q1 q2 q3=>?_;clear q
 refine J3j q2.F.f q1 p fun h' tk F' S=>?_
 have k:Chg own env s1 {s1 with heap:=h',toks:=tk}:=⟨(xi2 _ _ rfl),S⟩
 have ch:ChM env xs xs' own own s1 {s1 with heap:=h',toks:=tk}:=.of_chg k F' ha
 exact xi3 own .next xs' ⟨r,trivial,q2.to ⟨F',by rw [ha];exact q2.F.mine,by rw [ha];exact q2.F.nd⟩ (S.cx q2.C) ch,q3.trans (.of ch)⟩
theorem Z1a {fn:Expr}{g:Addr}{es:List Expr}{ys:List X}(hn:Ok (nAt fn=true))(hf:VE w A env ns xs fn (.v (.ref g)))(ha:VG w A env ns xs es ys)(hk:Ok (∀ P,J5 (KF P) g=true))(hc:VG1 w A (.ref g) ys z) :
  GE w A env ns xs (.Call fn es [] pos) z:=by
 refine ⟨fun own s x=>?_⟩
 rw [J0o pos env hn.h]
 refine wBn (J0 (hf.h own s x.F.f x.C) fun v s1 hv k1=>?_)
 obtain rfl:v = .ref g:=hv
 have x1:=x.keeps k1
 skip
 refine o21 (J1w x1.C.glh.K (hk.h _)) fun o fd ho hd=>?_
 skip
 refine callWith_function (o:=o) (fd:=fd) (wMo (ha.h.2 _ own s1 x1.F.f x1.C pos) (fun a s2 z=>?_) fun _ _ z=>z.elim)
 refine o02 z fun z1 z2 k2=>?_;clear z
 rw [z1]
 refine ⟨⟨Kee.kps k2 _ _ ho,hd⟩,?_⟩
 have x2:=x1.keeps k2
 refine wMo (hc.h own s2 a.pos x2.C x2.t_own x2.P z2) (fun u s3 q=>?_) fun _ _ q=>q.elim
 skip
 refine o03 q fun q1 q2 q3 q4=>?_;clear q
 skip
 have hid:Kps (hideAll s2.heap own) (hideAll s3.heap own):=J0e (fun b o nb e=>q4 b o (fun q=>nb (q▸x2.t_own)) e) fun _ q=>q
 have live:∀ b o,s2.heap.get? b=some o→∃ o',s3.heap.get? b=some o':=fun b o e=>by
  by_cases q:b=tabP
  ·refine o21 q2 fun o _ e _=>?_;clear q2;exact ⟨o,q▸e⟩
  ·exact ⟨o,q4 b o q e⟩
 have nt:∀ a∈adrs xs,a≠tabP:=fun a ha q=>x2.t_ad (q▸ha)
 have F3:Frm own env ns xs s3.heap:=x2.F.f.on (fun b o hb e=>⟨o.slots,q4 b o (fun q=>x2.t_fr (q▸hb)) e⟩) fun f V=>by
  have go:∀ {ns xs},(∀ a∈adrs xs,a≠tabP)→Vals own s2.heap f ns xs→Vals own s3.heap f ns xs:=by
   intro ns
   induction ns with
   |nil=>intro xs _ V;cases xs<;>first|trivial|exact V.elim
   |cons p ns ih=>
    intro xs hx V
    cases xs with
    |nil=>exact V.elim
    |cons y xs=>
     cases y with
     |none=>exact ⟨fun y e=>(by cases e),ih hx V.2⟩
     |some y=>
      refine ⟨fun z e=>?_,ih (fun a m=>hx a (List.mem_append_right _ m)) V.2⟩
      cases e
      refine o11 (V.1 _ rfl) fun v h1 h2=>?_
      exact ⟨v,h1,h2.on (p:=fun b=>b≠tabP) (fun b o n e=>q4 b o n e) (fun a m=>hx a (List.mem_append_left _ m)) hid⟩
  exact go nt V
 have ch:ChG env xs xs own own s2 s3:=⟨q3,fun _ q=>q,hid,fun b o _ _ n e=>q4 b o n e,fun b q=>.inl q,live⟩
 exact ⟨q1,⟨⟨F3,x2.F.mine,x2.F.nd⟩,⟨x2.C.gl.keeps hid,fun b hb=>let ⟨o,e⟩:=x2.C.alive b hb;live b o e⟩,q2,x2.t_own,x2.t_fr,x2.t_ad⟩,(ChG.of_keeps (Kee.trans k1 k2)).trans ch⟩
end
theorem FrM.one {own env ns xs}{h h':Heap}{I:Addr}(F:FrM own env ns xs h)(hI:I∈own)(na:I∉adrs xs)(nf:I∉frs env)(hk:∀ b o,b≠I→h.get? b=some o→h'.get? b=some o):FrM own env ns xs h':=
 ⟨F.f.on (fun b o hb e=>⟨o.slots,hk b o (fun q=>nf (q▸hb)) e⟩) fun f V=>Vals.but hk (J0e (fun b o nb e=>hk b o (fun q=>nb (q▸hI)) e) fun _ q=>q) na V,F.mine,F.nd⟩
theorem GIn.one {w own env ns xs s}{h':Heap}{tk:Tok}{I:Addr}(x:GIn w own env ns xs s)(hI:I∈own)(na:I∉adrs xs)(nf:I∉frs env)(nt:I≠tabP)(hk:∀ b o,b≠I→s.heap.get? b=some o→h'.get? b=some o)(al:∃ o,h'.get? I=some o) :
  GIn w own env ns xs {s with heap:=h',toks:=tk}:=by
 refine ⟨x.F.one hI na nf hk,⟨x.C.gl.keeps (J0e (fun b o nb e=>hk b o (fun q=>nb (q▸hI)) e) fun _ q=>q),fun b hb=>?_⟩,x.P.keeps fun o e=>hk _ o nt.symm e,x.t_own,x.t_fr,x.t_ad⟩
 by_cases q:b=I
 ·rw [q];exact al
 ·refine o10 (x.C.alive b hb) fun o e=>?_;exact ⟨o,hk b o q e⟩
theorem ChG.skip {env xs xs' own own' s s'}{h':Heap}{tk:Tok}{I:Addr}(k:ChG env xs xs' own own' s s')(hI:I∈own')(hn:s.heap.get? I=none)(hk:∀ b o,b≠I→s'.heap.get? b=some o→h'.get? b=some o)(al:∃ o,h'.get? I=some o) :
  ChG env xs xs' own own' s {s' with heap:=h',toks:=tk}:=by
 refine ⟨k.same.trans (.of (xi2 _ _ rfl)),k.sub,k.hid.trans (J0e (fun b o nb e=>hk b o (fun q=>nb (q▸hI)) e) fun _ q=>q),fun b o n1 n2 n3 e=>hk b o (fun q=>by rw [q,hn] at e;cases e) (k.but b o n1 n2 n3 e),k.new,fun b o e=>?_⟩
 by_cases q:b=I
 ·rw [q];exact al
 ·refine o10 (k.live b o e) fun o' e'=>?_;exact ⟨o',hk b o' q e'⟩
section
variable {w:World}{A:Around}{env:Env}{ns:List (Str×Bool)}{xs:List (Option X)}{R:Fl→List (Option X)→Prop}{pos:Pos}
theorem K7w {t iter:Expr}{body:List Stmt}{a b c:Int}{m:Nat}(Inv:Nat→List (Option X)→Prop)(hh:A.handled=none)(hi:VE w A env ns xs iter (Rg a b c))(hsm:Builtin.Range.small a b c=true)(hn:Builtin.Range.rangeSize a b c=(m:Int))(h0:Inv 0 xs)
  (step:∀ (i:Nat) xs,i<m→Inv i xs→∃ xs1,VU w A env ns xs t (.int (a+(i:Int) * c)) xs1∧adrs xs1=adrs xs∧GX w A env ns xs1 body (fun f xs'=>(f = .next∨f = .cont)∧Inv (i+1) xs'))
  (fin:∀ xs,Inv m xs→R .next xs) (hs:∀ x,foldedSetIterable iter env x=pure x):G1 w A env ns xs (.For t iter body [] pos) R:=by
 refine ⟨fun own s x=>wpAny_For (J0 (hi.h own s x.F.f x.C) fun v s1 hv k1=>?_) hs⟩
 have x1:=x.keeps k1
 skip
 refine o01 hv fun _ r9a=>o41 r9a fun r t1 u k e9a hr=>?_;subst e9a;clear hv
 skip
 have hr:IsRange s1.heap r a b c t1 u k:=of_hideAll _ hr
 refine wpAny_pyIter_range hr hsm ?_
 have hI:s1.heap.get? s1.heap.objs.size=none:=J0k _
 have st0:IsRangeIter (s1.heap.push {cls:=.type "range_iterator",data:=.fields #[rawInt a,rawInt (Builtin.Range.rangeSize a b c),rawInt c]}) s1.heap.objs.size a (Builtin.Range.rangeSize a b c) c:=Heap.get?_push_size _ rfl
 have kp:=kps_push (h:=s1.heap) {cls:=.type "range_iterator",data:=.fields #[rawInt a,rawInt (Builtin.Range.rangeSize a b c),rawInt c]}
 generalize s1.heap.push {cls:=.type "range_iterator",data:=.fields #[rawInt a,rawInt (Builtin.Range.rangeSize a b c),rawInt c]}=h2 at st0 kp
 generalize s1.heap.objs.size=I at hI st0
 have kk1:=Kee.kps k1
 have hIs:s.heap.get? I=none:=by
  exact J0q kk1 hI
 have nIo:I∉own:=fun m=>by refine o10 (x.C.alive I m) fun o e=>?_;rw [hIs] at e;cases e
 have nf:I∉frs env:=fun m=>by refine o11 (x.F.f.notF I m) fun o e _=>?_;rw [hIs] at e;cases e
 have nt:I≠tabP:=fun q=>by refine o21 x.P fun o _ e _=>?_;rw [← q,hIs] at e;cases e
 have nx:I∉adrs xs:=fun m=>nIo (x.F.mine I m).1
 have hh2:Kps (hideAll s1.heap own) (hideAll h2 (I::own)):=J5b kp hI
 have F2:FrM (I::own) env ns xs h2:=⟨x1.F.f.to kp hh2 fun b hb=>.tail _ hb,fun b hb=>⟨.tail _ (x1.F.mine b hb).1,(x1.F.mine b hb).2⟩,x1.F.nd⟩
 have C2:Cx w (I::own) h2:=x1.C.to hh2 fun b hb=>by
  rcases mCn hb with rfl|hb
  ·exact ⟨_,st0⟩
  ·refine o10 (x1.C.alive b hb) fun o e=>?_;exact ⟨o,kp _ _ e⟩
 have x2:GIn w (I::own) env ns xs {s1 with heap:=h2}:=⟨F2,C2,x1.P.keeps (kp _),.tail _ x1.t_own,x1.t_fr,x1.t_ad⟩
 have c2:ChG env xs xs own (I::own) s {s1 with heap:=h2}:=(ChG.of_keeps k1).trans ⟨.of (xi2 _ _ rfl),fun b hb=>.tail _ hb,hh2,fun b o _ _ _ e=>kp b o e,fun b hb=>.inl hb,fun b o e=>⟨o,kp b o e⟩⟩
 refine aR fun R1 hR=>aI (fun n s'=>∃ (i:Nat) (xsi:List (Option X)) (owni:List Addr),n+i=m∧Inv i xsi∧I∈owni∧I∉adrs xsi∧IsRangeIter s'.heap I (a+(i:Int) * c) ((m:Int) - (i:Int)) c∧GIn w owni env ns xsi s'∧ChG env xs xsi own owni s s') fun Iv hJ=>?_
 refine codeAny_forLoop_any (R:=R1) Iv ?_ m ((hJ _ _).2 (xi3 0 xs (I::own) ⟨rfl,h0,.head _,nx,by rw [hn] at st0;simpa using st0,x2,c2⟩))
 intro n s3 h9
 refine o36 ((hJ _ _).1 h9) fun i xsi owni hni hInv hIo hIa st3 x3 c3=>?_;clear h9
 skip
 have W:=Walks.range (prog:=PW) (w:=w) hh I a c m
 by_cases hlt:i<m
 ·refine W.item i s3 _ _ hlt st3 fun v h4 tk4 hv st4 hb4=>?_
  refine o10 hv fun tv e9a=>?_;subst e9a;clear hv
  have hb4':∀ b o,b≠I→s3.heap.get? b=some o→h4.get? b=some o:=fun b o n e=>hb4 b o (by simpa using n) e
  have st4':IsRangeIter h4 I (a+((i+1:Nat):Int) * c) ((m:Int) - ((i+1:Nat):Int)) c:=st4
  have x4:GIn w owni env ns xsi {s3 with heap:=h4,toks:=tk4}:=x3.one hIo hIa nf nt hb4' ⟨_,st4'⟩
  have c4:ChG env xs xsi own owni s {s3 with heap:=h4,toks:=tk4}:=c3.skip hIo hIs hb4' ⟨_,st4'⟩
  refine LgOk.go (w:=w) ⟨_,st4',fun vs n q=>(by cases q),fun n vs e _=>by cases e;decide⟩ ?_
  skip
  refine o12 (step i xsi hlt hInv) fun xs1 ht ha1 hb=>?_
  skip
  refine wMo (ht.h owni _ _ x4.F.f x4.C Rd.int) (fun _ s5 q=>?_) fun _ _ q=>q.elim
  refine o01 q fun F5 G5=>?_;clear q
  have k5:ChM env xsi xs1 owni owni {s3 with heap:=h4,toks:=tk4} s5:=.of_chg G5 F5 ha1
  have x5:GIn w owni env ns xs1 s5:=x4.to ⟨F5,by rw [ha1];exact x4.F.mine,by rw [ha1];exact x4.F.nd⟩ (G5.sto.cx x4.C) k5
  have st5:IsRangeIter s5.heap I (a+((i+1:Nat):Int) * c) ((m:Int) - ((i+1:Nat):Int)) c:=k5.but _ _ hIa nf st4'
  refine wMo (hb.h owni s5 x5) (fun g' s6 q=>?_) fun _ _ q=>q.elim
  skip
  refine o33 q fun own' f xs' n9a q1 x6 c6=>?_;obtain ⟨hf,hInv'⟩:=n9a;clear q
  skip
  have hI1:I∉adrs xs1:=ha1▸hIa
  have next:∃ k,k<n∧Iv k s6:=
   ⟨n - 1,(stp hni hlt).1,(hJ _ _).2 ⟨i+1,xs',own',(stp hni hlt).2,hInv',c6.sub _ hIo,(fun m=>by
    rcases c6.new I m with q|q
    ·exact hI1 q
    ·rw [show s5.heap.get? I=some _ from st5] at q;cases q),c6.but _ _ hI1 nf nt st5,x6,(c4.trans (.of k5)).trans c6⟩⟩
  rcases hf with rfl|rfl<;>cases g'<;>first|exact next|exact q1.elim
 ·have im:i=m:=Nat.le_antisymm (lTr (Nat.le_add_left _ _) (Nat.le_of_eq hni)) (Nat.le_of_not_lt hlt)
  subst im
  refine W.done s3 _ _ st3 fun h4 tk4 hb4=>?_
  have hb4':∀ b o,b≠I→s3.heap.get? b=some o→h4.get? b=some o:=fun b o n e=>hb4 b o (by simpa using n) e
  have sub:∀ b∈owni.filter (·≠I),b∈owni:=fun b hb=>(List.mem_filter.mp hb).1
  have ins:∀ b∈owni,b≠I→b∈owni.filter (·≠I):=fun b hb n=>List.mem_filter.mpr ⟨hb,by simpa using n⟩
  have hid4:Kps (hideAll s3.heap owni) (hideAll h4 (owni.filter (·≠I))):=fun b o e=>by
   have nb:b∉owni:=fun hb=>by rw [hideAll_none _ hb] at e;cases e
   exact hideAll_get _ (hb4' b o (fun q=>nb (q▸hIo)) (of_hideAll _ e)) fun m=>nb (sub b m)
  have fo:∀ b∈frs env,b∈owni:=fun b hb=>by
   rcases mCn hb with rfl|hb
   ·exact x3.F.f.mine.1
   ·refine o11 (mMp hb) fun p hp e9a=>?_;subst e9a
    exact (x3.F.f.mine.2 p.1 p.2 (lookup_of_mem_nodup x3.F.f.apart.2 hp)).1
  have F4:=x3.F.one hIo hIa nf hb4'
  have x4:GIn w (owni.filter (·≠I)) env ns xsi {s3 with heap:=h4,toks:=tk4}:=
   ⟨⟨F4.f.unhide sub fun b hb=>ins b (fo b hb) (fun q=>nf (q▸hb)),fun b hb=>⟨ins b (F4.mine b hb).1 (fun q=>hIa (q▸hb)),(F4.mine b hb).2⟩,F4.nd⟩,
    ⟨x3.C.gl.keeps hid4,fun b hb=>let ⟨o,e⟩:=x3.C.alive b (sub b hb);⟨o,hb4' b o (by simpa using (List.mem_filter.mp hb).2) e⟩⟩,x3.P.keeps (fun o e=>hb4' _ o nt.symm e),ins _ x3.t_own nt.symm,x3.t_fr,x3.t_ad⟩
  refine wpAny_execs_nil (hR (.ok .next) _ (xi3 _ .next xsi ⟨fin _ hInv,trivial,x4,c3.same.trans (.of (xi2 _ _ rfl)),fun b hb=>ins b (c3.sub b hb) (fun q=>nIo (q▸hb)),c3.hid.trans hid4,fun b o n1 n2 n3 e=>hb4' b o (fun q=>by rw [q,hIs] at e;cases e) (c3.but b o n1 n2 n3 e),c3.new,fun b o e=>?_⟩))
  refine o10 (c3.live b o e) fun o' e'=>?_
  exact ⟨o',hb4' b o' (fun q=>by rw [q,hIs] at e;cases e) e'⟩
end
theorem Z2a:builtinKind "iter" = none:=by decide +kernel
theorem K9j:plainId "iter" = true:=by decide +kernel
theorem K8h:entryFor table "iter" = some Builtin.«iter»:=entryFor_of_tree (by kernel_rfl)
theorem Z2k (a:Value):argsOk "iter" ⟨[a],[]⟩:=by unfold argsOk;kernel_rfl
theorem Z2f:builtinKind "next" = none:=by decide +kernel
theorem K9t:plainId "next" = true:=by decide +kernel
theorem K8x:entryFor table "next" = some Builtin.«next»:=entryFor_of_tree (by kernel_rfl)
theorem Z3y (a:Value):argsOk "next" ⟨[a],[]⟩:=by unfold argsOk;kernel_rfl
section
variable {prog:Program}{w:World}{A:Around}{E:Value→Shared→Prop}{s:Shared}
theorem K3e {l:Addr}{vs:Array Value}{Q:Value→Shared→Prop}(hl:s.heap.IsList l vs)
  (hq:Q (.ref s.heap.objs.size) {s with heap:=s.heap.push {cls:=.type "list_iterator",data:=.fields #[.ref l,.int 0 0]}}):wpAny (model prog w) A (call (.builtin "iter") [.ref l]) Q E s:=by
 refine call_function_any Z2a K9j K8h (Z2k _) ?_
 show wpAny _ _ (someArgs "iter" 1 2 ⟨[.ref l],[]⟩>>=_) _ _ s
 refine wBn (wPu ?_)
 show wpAny _ _ (pyIter (.ref l)>>=_) _ _ s
 exact wBn (wpAny_pyIter_list hl (wPu hq))
theorem K3d {it l:Addr}{i:Nat}{items:Array Value}{x:Value}{Q:Value→Shared→Prop}(hit:s.heap.IsListIter it l i)(hl:s.heap.IsList l items)(hx:items[i]? = some x)
  (hQ:∀ h',h'.IsListIter it l (i+1)→Heap.SameBut it s.heap h'→Q x {s with heap:=h'}):wpAny (model prog w) A (call (.builtin "next") [.ref it]) Q E s:=by
 refine ab fun Q q9=>?_
 refine o12 (id hit) fun o ho hc hd=>?_
 refine o12 hl fun ol hol _ r9a=>o10 r9a fun nl hdl=>?_;clear hl
 refine q9 ?_
 refine call_function_any Z2f K9t K8x (Z3y _) ?_
 show wpAny _ _ (someArgs "next" 1 2 ⟨[.ref it],[]⟩>>=_) _ _ s
 refine wBn (wPu ?_)
 show wpAny _ _ (specialOf (.ref it) "__next__">>=_) _ _ s
 refine wBn (wpAny_specialOf hit.typeIs slot_listiter_next.lookup ?_)
 show wpAny _ _ (callSpecial? (.ref it) "__next__" []>>=_) _ _ s
 refine wBn (wpAny_callSpecial?_slot (name:=Str.ofString "__next__") hit.typeIs slot_listiter_next
  (wpAny_call_entry slot_listiter_next hit.typeIs entry_listiter_next ?_ (args_listiter_next _)))
 show wpAny _ _ (field (.ref it) 0>>=_) _ _ s
 refine wBn (wpAny_field ho hd (x:=.ref l) rfl ?_)
 show wpAny _ _ (if (Value.ref l == Value.none)=true then _ else _) _ _ s
 rw [if_neg (show ¬ ((Value.ref l == Value.none)=true) from Bool.false_ne_true)]
 show wpAny _ _ (field (.ref it) 1>>=_) _ _ s
 refine wBn (wpAny_field ho hd (x:=.int i 0) rfl ?_)
 show wpAny _ _ (seqItems? (.ref l)>>=_) _ _ s
 refine wBn (wpAny_seqItems hol hdl ?_)
 simp only [Int.toNat_natCast,hx]
 refine wBn (wpAny_setField ho hd (by simp) (wPu ⟨x,rfl,wPu (hQ _ ?_ (Heap.SameBut.update ..))⟩))
 exact ⟨_,Heap.get?_update_self _ ho (Obj.isFreed_of_fields (Obj.data_mapFields hd _)),(Obj.cls_mapFields ..).trans hc,by
  rw [Obj.data_mapFields hd];simp [rawInt]⟩
end
noncomputable def pk {α:Type} (who:Nat) (x y:α):α:=if who=0 then x else y
theorem who2 {who:Nat}(h:who<2):who=0∨who=1:=(Nat.lt_succ_iff_lt_or_eq.1 h).imp_left Nat.lt_one_iff.1
@[elab_as_elim] theorem J1t {P:Nat→Prop}{who:Nat}(hw:who<2)(h0:P 0)(h1:P 1):P who:=by rcases who2 hw with rfl|rfl<;>assumption
theorem Upd.nd {ns xs n c x x' xs'}(u:Upd ns xs n c x x' xs')(nd:(Mine.adrs xs).Nodup):x.adr.Nodup:=by
 induction u with
 |hd=>exact (List.nodup_append.mp nd).1
 |@tail p ns y xs n b x x' xs' _ ih=>cases y with
  |none=>exact ih nd
  |some y=>exact ih (List.nodup_append.mp nd).2.1
section
variable {w:World}{A:Around}{env:Env}{ns:List (Str×Bool)}{xs xs' xs'':List (Option X)}{x y z x':X}{e l r o ie:Expr}{pos npos spos apos pos2:Pos}{es:List Expr}{ys:List X}{n m:Str}{c c':Bool}{who:Nat}{a b k2:Addr}{ds ds' es2:List PyData}{R:Fl→List (Option X)→Prop}{P Q P':Heap→Value→Prop}
theorem J2f (hw:who<2)(hs:Ok (nsl r=true)):V2 w A (subscriptTail l r) (.ll a b ds k2 es2) (I who) (.l (pk who b k2) (pk who ds es2)):=by
 rcases who2 hw with rfl|rfl
 ·exact ⟨K5s fun _ _=>J3a hs.h _ _⟩
 ·exact ⟨K6o fun _ _=>J3a hs.h _ _⟩
theorem K0e (hw:who<2)(hs:Ok (nsl r=true)):V2 w A (subscriptTail l r) (.lp a P Q) (I who) (.p (pk who P Q)):=by
 refine ⟨pr2 fun own s va vb C ha hb=>?_⟩
 refine o10 (Rd.inv_int hb) fun u e9a=>?_;subst e9a
 refine o02 ha fun e9a n9b r9a=>o22 r9a fun u1 u2 hl p q=>?_;subst e9a;obtain ⟨st1,st2⟩:=n9b;clear ha
 rcases who2 hw with rfl|rfl
 ·exact tail_any hl.typeIs slot_list_getitem.lookup (wpAny_getItem_list hl (by decide) (by decide) rfl ⟨⟨st1,p⟩,Kee.refl⟩) (J3a hs.h _ _)
 ·exact tail_any hl.typeIs slot_list_getitem.lookup (wpAny_getItem_list hl (by decide) (by decide) rfl ⟨⟨st2,q⟩,Kee.refl⟩) (J3a hs.h _ _)
theorem K4r {own:List Addr}{h h':Heap}{v:Value}(hw:who<2)(r:XIn own h v (.ll a b ds k2 es2))(nd : [a,b,k2].Nodup)(hk:∀ x o,x≠pk who b k2→h.get? x=some o→h'.get? x=some o)(hid:Kps (hideAll h own) (hideAll h' own))
  (hn:XIn own h' (.ref (pk who b k2)) (.l (pk who b k2) ds')):XIn own h' v (.ll a b (pk who ds' ds) k2 (pk who es2 ds')):=by
 skip
 refine o03 r fun e i n9a r9a=>o11 r9a fun us k p=>?_;obtain ⟨vs,j,q⟩:=n9a;clear r
 skip
 simp only [List.nodup_cons,List.mem_cons,List.not_mem_nil,or_false,not_or,not_false_eq_true,and_true,List.nodup_nil] at nd
 refine o01 nd fun n9a n3=>?_;obtain ⟨n1,n2⟩:=n9a;clear nd
 rcases who2 hw with rfl|rfl
 ·exact ⟨e,i.at fun o e=>hk _ o n1 e,hn.2,us,k.at fun o e=>hk _ o (Ne.symm n3) e,p.mono hid⟩
 ·exact ⟨e,i.at fun o e=>hk _ o n2 e,⟨vs,j.at fun o e=>hk _ o n3 e,q.mono hid⟩,hn.2⟩
theorem K5f {fs:List PyData}(hsz:ds.length+fs.length≤1000):MF w A (.builtin "list.extend") a (.l a ds) [PL fs] N (.l a (ds++fs)):=by
 refine ⟨fun own s v vs C ha hv hy=>?_⟩
 refine XAll.e1 hy fun u hu=>?_
 refine ab fun Q q9=>?_
 refine o01 hv fun e9a r9a=>o11 r9a fun us n9b q=>?_;subst e9a;obtain ⟨n1,p⟩:=n9b;clear hv
 refine o22 (PL.plain hu) fun b ws e9a n9b hr=>?_;subst e9a;obtain ⟨n2,hb⟩:=n9b
 refine q9 ?_
 have l1:us.size=ds.length:=by rw [← Array.length_toList,q.length]
 have l2:ws.size=fs.length:=by rw [← Array.length_toList,hr.length]
 have hsz':us.size+ws.size≤sizeLine:=by rw [l1,l2,sizeLine_eq];exact lTr hsz (by decide)
 refine call_meets PySem.F.slot_list_extend ⟨_,p,rfl⟩ PySem.F.entry_list_extend (PySem.F.args_list_extend_2 _ _) (AutoSeq1.list_extend_list_list_0 a us n1 b ws n2 (extend_door hsz') (lTr (Nat.le_add_right _ _) hsz')) ⟨p,hb,?_⟩
 have ho':(s.heap.update a (Obj.mapSeq fun x=>x++ws)).get? a=some {cls:=.type "list",data:=.seq (us++ws) (if (us++ws).size == us.size then n1 else n1+1)}:=by
  rw [Heap.get?_update_self _ p (by rw [mapSeq_app];rfl),mapSeq_app]
 have hs':Heap.SameBut a s.heap (s.heap.update a (Obj.mapSeq fun x=>x++ws)):=Heap.SameBut.update ..
 have hid:Kps (hideAll s.heap own) (hideAll (s.heap.update a (Obj.mapSeq fun x=>x++ws)) own):=J0e (fun b o nb e=>(hs'.2 b fun q=>nb (q▸ha)).trans e) fun _ q=>q
 refine ⟨Rd.none,(xi2 _ _ rfl),fun b o nb e=>(hs'.2 b nb).trans e,⟨_,ho'⟩,fun v hv=>⟨hv.1,_,⟨_,ho'⟩,?_⟩⟩
 rw [Array.toList_append]
 exact (q.mono hid).append (hr.mono hid)
theorem J4f {name:Str}{id:String}(u:Upd ns xs n c x x' xs')(had:x'.adr=x.adr)(ham:b∈x.adr)
  (hbase:Ok (attributeBase o name env (eval o env)=eval o env))
  (hfew:Ok (((backTo pos (starEach es env)).all (fun x=>!x.1) && (backToKw pos (keywordEach [] env)).all (fun x=>x.1.isSome)
   && decide (es.length+([]:List Keyword).length+(if ([]:List Keyword).isEmpty then 0 else 1)<30))=true))
  (hline:Ok ((apos.endLine == pos.line)=true)) (ha:VG w A env ns xs es ys) (hm:Mt (.l b ds) name id) (hc:MF w A (.builtin id) b (.l b ds) ys z (.l b ds'))
  (up:∀ own h h' v,XIn own h v x→x.adr.Nodup→(∀ y o,y≠b→h.get? y=some o→h'.get? y=some o)→Kps (hideAll h own) (hideAll h' own)→XIn own h' (.ref b) (.l b ds')→XIn own h' v x')
  (r:R .next xs') (hn:VE w A env ns xs o (.l b ds)) (hi:interactive env=false) (hs:swapsWith (.Call (.Attribute o name apos) es [] pos) none pos2.line env=pure false) :
  M1 w A env ns xs (.Expr (.Call (.Attribute o name apos) es [] pos) pos2) R:=by
 refine ⟨fun own s F C=>wpAny_Expr_any (hi:=hi) (hs:=hs) (wpAny_Call_method_lateS hbase.h hfew.h hline.h (J0 (hn.h own s F.f C) fun v s1 hv k1=>?_))⟩
 have F1:=F.keeps (Kee.kps k1)
 have C1:=C.keeps (Kee.kps k1)
 skip
 refine o13 hm.h fun T pa slot ty hT=>?_
 refine o01 (hT own s1 v hv) fun hT hd=>?_
 skip
 refine xi2 T id ⟨pa,slot,ty,hT,hd,Calls.callWith_builtin (ha.h.1 _) (J1y ha.h F1.f C1 fun b' s2 hk hx k2=>?_)⟩
 rw [hk]
 have F2:=F1.keeps (Kee.kps k2)
 have C2:=C1.keeps (Kee.kps k2)
 have hv2:=hv.keeps (Kee.kps k2)
 refine wMo (hc.h own s2 v b'.pos C2 (F2.mine b (u.mem ham)).1 hv2 hx) (fun t s3 q=>?_) fun _ _ q=>q.elim
 skip
 refine o04 q fun _ n9a q2 q3 q4=>?_;obtain ⟨h3,tk3,rfl⟩:=n9a;clear q
 skip
 have hid0:Kps (hideAll s2.heap own) (hideAll h3 own):=J0e (fun y o nb e=>q2 y o (fun q=>nb (q▸(F2.mine b (u.mem ham)).1)) e) fun _ q=>q
 have hnew:=q4 v hv2
 have hve:v = .ref b:=hv2.1
 refine o01 (F2.chg u had ham q2 fun v0 r0=>up own s2.heap h3 v0 r0 (u.nd F2.nd) q2 hid0 (hve▸hnew)) fun F3 hid=>?_
 have live:∀ y o,s2.heap.get? y=some o→∃ o',h3.get? y=some o':=fun y o e=>by
  by_cases e':y=b
  ·rw [e'];exact q3
  ·exact ⟨o,q2 y o e' e⟩
 exact xi3 own .next xs' ⟨r,trivial,F3,⟨C2.gl.keeps hid,fun y hy=>let ⟨o,e⟩:=C2.alive y hy;live y o e⟩,(ChM.of_keeps (Kee.trans k1 k2)).trans ⟨(xi2 h3 tk3 rfl),fun _ q=>q,hid,fun y o n _ e=>q2 y o (fun q=>n (q▸u.mem ham)) e,fun y q=>.inl (u.adrs had▸q),live⟩⟩
theorem Z4t {f:Expr}{q:Addr}{i j:Nat}(hn:Ok (nAt f=true))(hf:VE w A env ns xs f (.v (.builtin "next")))(ha:VG w A env ns xs es [.it a q i j])(hj:j<i)(u:Upd ns xs n c (.it a q i j) (.it a q i (j+1)) xs'):ME w A env ns xs (.Call f es [] pos) (I j) xs':=by
 refine ⟨fun own s F C=>?_⟩
 rw [J0o pos env hn.h]
 refine wBn (J0 (hf.h own s F.f C) fun v s1 hv k1=>?_)
 obtain rfl:v = .builtin "next":=hv
 have F1:=F.keeps (Kee.kps k1)
 have C1:=C.keeps (Kee.kps k1)
 refine Calls.callWith_builtin (first:=[]) (ha.h.1 _) (wMo (ha.h.2 _ own s1 F1.f C1 pos) (fun t s2 z=>?_) fun _ _ z=>z.elim)
 refine o02 z fun z1 z2 k2=>?_;clear z
 rw [z1]
 have F2:=F1.keeps (Kee.kps k2)
 have C2:=C1.keeps (Kee.kps k2)
 obtain ⟨tp,tk⟩:=t
 refine XAll.e1 z2 fun v hv=>?_
 skip
 refine o04 hv fun e9a hit hle hsz r9a=>o12 r9a fun vs hl hvs hvi=>?_;subst e9a;clear hv
 refine o10 (hvi j hj) fun tt hx=>?_
 skip
 refine K3d hit hl hx fun h' hit' sb=>?_
 have q2:∀ y o,y≠a→s2.heap.get? y=some o→h'.get? y=some o:=fun y o ny e=>(sb.2 y ny).trans e
 have al:∃ o,h'.get? a=some o:=let ⟨o,e,_⟩:=hit';⟨o,e⟩
 have nd:=u.nd F2.nd
 simp only [X.adr,List.nodup_cons,List.mem_singleton] at nd
 obtain ⟨F3,hid⟩:=F2.chg u rfl (.head _) q2 fun v0 r0=>by
  skip
  refine o04 r0 fun r1 r2 r3 r4 r9a=>o12 r9a fun ws r5 r6 r7=>?_;clear r0
  skip
  exact ⟨r1,hit',hj,r4,ws,r5.at fun o e=>q2 _ o (Ne.symm nd.1) e,r6,r7⟩
 have live:∀ y o,s2.heap.get? y=some o→∃ o',h'.get? y=some o':=fun y o e=>by
  by_cases e':y=a
  ·rw [e'];exact al
  ·exact ⟨o,q2 y o e' e⟩
 exact ⟨Rd.int,F3,⟨C2.gl.keeps hid,fun y hy=>let ⟨o,e⟩:=C2.alive y hy;live y o e⟩,(ChM.of_keeps (Kee.trans k1 k2)).trans ⟨(xi2 h' _ rfl),fun _ q=>q,hid,fun y o n _ e=>q2 y o (fun q=>n (q▸u.mem (.head _))) e,fun y q=>.inl (u.adrs rfl▸q),live⟩⟩
theorem J8b (hw:who<2)(u:Upd ns xs n c (.lp a P Q) (.lp a (pk who P' P) (pk who Q P')) xs')(he:GE w A env ns xs e (.p P'))(hn:VE w A env ns xs (.Name n npos) (.lp a P Q))(hi:VE w A env ns xs ie (I who))(r:R .next xs')
  (hs:swapsWith e (some (.Subscript (.Name n npos) ie spos)) pos.line env=pure false):G1 w A env ns xs (.Assign [.Subscript (.Name n npos) ie spos] e pos) R:=by
 refine ⟨fun own s x=>wpAny_Assign_Subscript (wMo (he.h own s x) (fun v s1 q=>?_) fun _ _ q=>q) hs⟩
 refine o02 q fun hv x1 c1=>?_;clear q
 refine J0 (hn.h own s1 x1.F.f x1.C) fun l s2 hl k2=>?_
 have x2:=x1.keeps k2
 refine J0 (hi.h own s2 x2.F.f x2.C) fun iv s3 hiv k3=>?_
 have x3:=x2.keeps k3
 refine o10 (Rd.inv_int hiv) fun t e9a=>?_;subst e9a
 have hl:=hl.keeps (Kee.kps k3)
 have hv:=hv.keeps (Kee.kps (Kee.trans k2 k3))
 skip
 refine o02 hl fun e9a st r9a=>o22 r9a fun u1 u2 il p q=>?_;subst e9a;clear hl
 skip
 have am:=x3.F.mine a (u.mem (.head _))
 refine wpAny_setItem_list il (Int.ofNat_nonneg _) (by lia) (by show (who:Int)<((#[u1,u2]:Array Value).size:Int);simp;lia) fun h' p' hsb=>?_
 have q2:∀ b o,b≠a→s3.heap.get? b=some o→h'.get? b=some o:=fun b o nb e=>(hsb.2 b nb).trans e
 have hid0:Kps (hideAll s3.heap own) (hideAll h' own):=J0e (fun b o nb e=>q2 b o (fun q=>nb (q▸am.1)) e) fun _ q=>q
 have q3:∃ o,h'.get? a=some o:=let ⟨o,e,_⟩:=p';⟨o,e⟩
 obtain ⟨F4,hid⟩:=x3.F.chg u rfl (.head _) q2 fun v0 h0=>by
  refine ab fun Q q9=>?_
  refine o02 h0 fun r1 n9a r9a=>o22 r9a fun w1 w2 r4 r5 r6=>?_;obtain ⟨r2,r3⟩:=n9a;clear h0
  refine o12 r4 fun o1 e1 _ r9a=>o10 r9a fun n1 d1=>?_;clear r4
  refine o12 il fun o2 e2 _ r9a=>o10 r9a fun n2 d2=>?_;clear il
  refine q9 ?_
  rw [e1] at e2;cases e2
  rw [d1] at d2
  refine o01 (by simpa using d2:(w1=u1∧w2=u2)∧n1=n2) fun n9a _=>?_;obtain ⟨rfl,rfl⟩:=n9a
  rcases who2 hw with rfl|rfl
  ·exact ⟨r1,⟨hv.1,r3⟩,v,w2,p',hv.1 _ _ _ hid0 hv.2,r3 _ _ _ hid0 r6⟩
  ·exact ⟨r1,⟨r2,hv.1⟩,w1,v,p',r2 _ _ _ hid0 r5,hv.1 _ _ _ hid0 hv.2⟩
 have live:∀ b o,s3.heap.get? b=some o→∃ o',h'.get? b=some o':=fun b o e=>by
  by_cases e':b=a
  ·rw [e'];exact q3
  ·exact ⟨o,q2 b o e' e⟩
 have ch:ChM env xs xs' own own s3 {s3 with heap:=h'}:=⟨(xi2 h' _ rfl),fun _ q=>q,hid,fun b o n _ e=>q2 b o (fun q=>n (q▸u.mem (.head _))) e,fun b q=>.inl (u.adrs rfl▸q),live⟩
 exact xi3 own .next xs' ⟨r,trivial,x3.to F4 ⟨x3.C.gl.keeps hid,fun b hb=>let ⟨o,e⟩:=x3.C.alive b hb;live b o e⟩ ch,c1.trans ((ChG.of_keeps (Kee.trans k2 k3)).trans (.of ch))⟩
end
inductive New:List (Str×Bool)→List (Option X)→Str→Bool→X→List (Option X)→Prop
 |hd {n b ns x xs}:New ((n,b)::ns) (none::xs) n b x (some x::xs)
 |tail {p ns y xs n b x xs'}:New ns xs n b x xs'→New (p::ns) (y::xs) n b x (y::xs')
theorem New.put {ns xs n b x xs'}(a:New ns xs n b x xs'):Put ns xs n b (some x) xs':=by induction a with|hd=>exact .head|tail _ ih=>exact .tail ih
theorem New.perm {ns xs n b x xs'}(a:New ns xs n b x xs'):(adrs xs').Perm (x.adr++adrs xs):=by
 induction a with
 |hd=>exact .refl _
 |@tail p ns y xs n b x xs' _ ih=>
  cases y with
  |none=>exact ih
  |some y=>
   show (y.adr++adrs xs').Perm (x.adr++(y.adr++adrs xs))
   refine (ih.append_left y.adr).trans ?_
   rw [← List.append_assoc,← List.append_assoc]
   exact (List.perm_append_comm (l₁:=y.adr) (l₂:=x.adr)).append_right (adrs xs)
section
variable {w:World}{A:Around}{env:Env}{ns:List (Str×Bool)}{xs xs1 xs':List (Option X)}{x y z:X}{e l r:Expr}{pos npos lpos p1 p2 p3:Pos}{es es1 es2:List Expr}{ys ys1 ys2:List X}{ds ds1 ds2:List PyData}{n:Str}{c:Bool}{R:Fl→List (Option X)→Prop}{P Q:Heap→Value→Prop}
theorem J5o {h h':Heap}{own news:List Addr}(k:Kps h h')(hn:∀ b∈news,h.get? b=none):Kps (hideAll h own) (hideAll h' (news++own)):=by
 intro b o e
 have e1:=of_hideAll _ e
 have nb:b∉own:=fun hb=>by rw [hideAll_none _ hb] at e;cases e
 refine hideAll_get _ (k b o e1) fun hm=>?_
 rcases mAp hm with hm|hm
 ·rw [hn b hm] at e1;cases e1
 ·exact nb hm
theorem K1m {own news:List Addr}{s s1:Shared}{v:Value}(F:FrM own env ns xs s.heap)(C:Cx w own s.heap)(k:Keeps s s1)(hn:∀ b∈news,s.heap.get? b=none)(ha:∀ b∈news,∃ o,s1.heap.get? b=some o)(hv:XIn (news++own) s1.heap v x)
  (p:New ns xs n c x xs') (had:∀ b∈x.adr,b∈news) (nd:x.adr.Nodup) (r:R .next xs') :
  wpAny (model PW w) A (storeName env n v) (fun _ s'=>∃ own' f xs',R f xs'∧FlIn own' s'.heap .next f∧FrM own' env ns xs' s'.heap∧Cx w own' s'.heap∧ChM env xs xs' own own' s s') (fun _ _=>False) s1:=by
 have kk:=Kee.kps k
 have hid:Kps (hideAll s.heap own) (hideAll s1.heap (news++own)):=J5o kk hn
 have sub:∀ b∈own,b∈news++own:=fun b hb=>List.mem_append_right _ hb
 have F1:Frm (news++own) env ns xs s1.heap:=F.f.to kk hid sub
 have C1:Cx w (news++own) s1.heap:=C.to hid fun b hb=>by
  rcases mAp hb with hb|hb
  ·exact ha b hb
  ·refine o10 (C.alive b hb) fun o e=>?_;exact ⟨o,kk _ _ e⟩
 refine J3j F1 hv p.put fun h' tk F' S=>?_
 have pm:=p.perm
 refine xi3 _ .next xs' ⟨r,trivial,⟨F',fun b hb=>?_,pm.nodup_iff.mpr (List.nodup_append.mpr ⟨nd,F.nd,fun a ha b hb q=>?_⟩)⟩,S.cx C1,?_⟩
 ·rcases mAp (pm.subset hb) with hb|hb
  ·exact ⟨List.mem_append_left _ (had b hb),fun m=>by refine o11 (F.f.notF _ m) fun o e _=>?_;rw [hn b (had b hb)] at e;cases e⟩
  ·exact ⟨sub b (F.mine b hb).1,(F.mine b hb).2⟩
 ·refine o10 (C.alive b (F.mine b hb).1) fun o e=>?_
  rw [← q,hn a (had a ha)] at e;cases e
 ·refine o21 k fun h1 t1 e1 _=>?_;clear k
  refine ⟨(xi2 h' tk (by rw [e1])),sub,hid.trans S.hid,fun b o _ n e=>S.but b o n (kk b o e),fun b hb=>?_,fun b o e=>?_⟩
  ·rcases mAp (pm.subset hb) with hb|hb
   ·exact .inr (hn b (had b hb))
   ·exact .inl hb
  ·by_cases m:b∈frs env
   ·refine o11 (F'.notF b m) fun o e _=>?_;exact ⟨o,e⟩
   ·exact ⟨o,S.but b o m (kk b o e)⟩
theorem J2d {xs':Addr→List (Option X)}(h:VL w A env ns xs es ys)(q:Ds ys ds)(hsz:Ok (Nat.ble ds.length 1000=true))(p:∀ a,New ns xs n c (.l a ds) (xs' a))(r:∀ a,a∉adrs xs→R .next (xs' a))
  (hs:swapsWith (.List es lpos) (some (.Name n npos)) pos.line env=pure false):M1 w A env ns xs (.Assign [.Name n npos] (.List es lpos) pos) R:=by
 refine ⟨fun own s F C=>wpAny_Assign_Name (List_ (wMo (h.h own s F.f C lpos) (fun vs s1 z=>?_) fun _ _ z=>z.elim)) hs⟩
 refine o01 z fun hv kk=>?_;clear z
 have hl:vs.length≤sizeLine:=(q.rd hv).length▸J0l (lBt hsz.h)
 refine wpAny_newList ?_ hl
 have hno:=J0k s1.heap
 have hno0:s.heap.get? s1.heap.objs.size=none:=by
  exact J0q (Kee.kps kk) hno
 have hid1:Kps (hideAll s1.heap own) (hideAll (s1.heap.push (lstO vs)) ([s1.heap.objs.size]++own)):=J5o (kps_push _) fun b hb=>by rw [List.mem_singleton.mp hb];exact hno
 refine K1m (s1:={s1 with heap:=s1.heap.push (lstO vs)}) (news:=[s1.heap.objs.size]) (x:=.l s1.heap.objs.size ds) F C (Kee.trans kk (xi2 _ _ ⟨rfl,kps_push _⟩)) (fun b hb=>by rw [List.mem_singleton.mp hb];exact hno0) (fun b hb=>by rw [List.mem_singleton.mp hb];exact ⟨_,Heap.get?_push_size _ rfl⟩)
  ⟨rfl,_,⟨_,Heap.get?_push_size _ rfl⟩,by rw [List.toList_toArray];exact RdAll.mono hid1 (q.rd hv)⟩ (p _) (fun b hb=>hb) (by simp [X.adr]) (r _ fun m=>?_)
 refine o10 (C.alive _ (F.mine _ m).1) fun o e=>?_
 rw [hno0] at e;cases e
theorem Z7j {xs':Addr→Addr→Addr→List (Option X)}(h1:VL w A env ns xs es1 ys1)(h2:VL w A env ns xs es2 ys2)(q1:Ds ys1 ds1)(q2:Ds ys2 ds2)(hz1:Ok (Nat.ble ds1.length 1000=true))(hz2:Ok (Nat.ble ds2.length 1000=true))(p:∀ a b d,New ns xs n c (.ll a b ds1 d ds2) (xs' a b d))
  (r:∀ a b d,R .next (xs' a b d)) (he:Ok (starEach [.List es1 p1,.List es2 p2] env = [(false,eval (.List es1 p1) env),(false,eval (.List es2 p2) env)]))
  (hs:swapsWith (.List [.List es1 p1,.List es2 p2] lpos) (some (.Name n npos)) pos.line env=pure false):M1 w A env ns xs (.Assign [.Name n npos] (.List [.List es1 p1,.List es2 p2] lpos) pos) R:=by
 refine ⟨fun own s F C=>wpAny_Assign_Name (List_ ?_) hs⟩
 rw [he.h]
 refine Calls.spliced_cons (List_ (wMo (h1.h own s F.f C p1) (fun vs s1 z=>?_) fun _ _ z=>z.elim))
 refine o01 z fun hv k1=>?_;clear z
 refine wpAny_newList ?_ ((q1.rd hv).length▸J0l (lBt hz1.h))
 have hb1:=J0k s1.heap
 have kp1:Kps s1.heap (s1.heap.push (lstO vs)):=kps_push _
 have gb:(s1.heap.push (lstO vs)).get? s1.heap.objs.size=some (lstO vs):=Heap.get?_push_size _ rfl
 generalize hb:s1.heap.objs.size=b at hb1 gb
 generalize s1.heap.push (lstO vs)=hp1 at kp1 gb
 have hid1:Kps (hideAll s1.heap own) (hideAll hp1 (b::own)):=J5o (news:=[b]) kp1 fun y hy=>by rw [List.mem_singleton.mp hy];exact hb1
 have hb0:s.heap.get? b=none:=by
  exact J0q (Kee.kps k1) hb1
 have F1:=(F.keeps (Kee.kps k1)).f.to kp1 hid1 fun y hy=>.tail _ hy
 have C1:Cx w (b::own) hp1:=(C.keeps (Kee.kps k1)).to hid1 fun y hy=>by
  rcases mCn hy with rfl|hy
  ·exact ⟨_,gb⟩
  ·refine o10 ((C.keeps (Kee.kps k1)).alive y hy) fun o e=>?_;exact ⟨o,kp1 _ _ e⟩
 refine Calls.spliced_cons (List_ (wMo (h2.h (b::own) {s1 with heap:=hp1} F1 C1 p2) (fun us s2 z=>?_) fun _ _ z=>z.elim))
 refine o01 z fun hu k2=>?_;clear z
 refine wpAny_newList ?_ ((q2.rd hu).length▸J0l (lBt hz2.h))
 have k2':=Kee.kps k2
 have hc1:=J0k s2.heap
 have kp2:Kps s2.heap (s2.heap.push (lstO us)):=kps_push _
 have gc:(s2.heap.push (lstO us)).get? s2.heap.objs.size=some (lstO us):=Heap.get?_push_size _ rfl
 generalize hd:s2.heap.objs.size=d at hc1 gc
 generalize s2.heap.push (lstO us)=hp2 at kp2 gc
 refine spliced_nil ?_
 refine wpAny_newList (items:=[.ref b,.ref d]) ?_ (by rw [sizeLine_eq];exact lBt rfl)
 have ha1:=J0k hp2
 have kp3:Kps hp2 (hp2.push (lstO [.ref b,.ref d])):=kps_push _
 have ga:(hp2.push (lstO [.ref b,.ref d])).get? hp2.objs.size=some (lstO [.ref b,.ref d]):=Heap.get?_push_size _ rfl
 show wpAny _ _ (storeName env n (.ref hp2.objs.size)) _ _ {s2 with heap:=hp2.push (lstO [.ref b,.ref d])}
 generalize hp2.objs.size=a at ha1 ga
 generalize hp2.push (lstO [.ref b,.ref d])=hp3 at kp3 ga
 have bd:b≠d:=fun q=>by have:=k2' _ _ gb;rw [q,hc1] at this;cases this
 have ab:a≠b:=fun q=>by have:=kp2 _ _ (k2' _ _ gb);rw [← q,ha1] at this;cases this
 have ad:a≠d:=fun q=>by rw [← q,ha1] at gc;cases gc
 have kall:Kps s.heap hp3:=(Kee.kps k1).trans (kp1.trans (k2'.trans (kp2.trans kp3)))
 have nn:∀ y,hp2.get? y=none→s.heap.get? y=none:=fun y e=>by
  exact J0q ((Kee.kps k1).trans (kp1.trans (k2'.trans kp2))) e
 have hd0:s.heap.get? d=none:=by
  exact J0q ((Kee.kps k1).trans (kp1.trans k2')) hc1
 have KK:Keeps s {s2 with heap:=hp3}:=by
  refine o21 k2 fun h2 t2 e2 _=>?_;clear k2
  refine o21 k1 fun h1 t1 e1 _=>?_;clear k1
  subst e2;subst e1
  exact xi2 _ _ ⟨rfl,kall⟩
 have hidF:Kps (hideAll s2.heap (b::own)) (hideAll hp3 ([a,b,d]++own)):=by
  intro y o e
  have e1:=of_hideAll _ e
  have nb:y∉b::own:=fun hb=>by rw [hideAll_none _ hb] at e;cases e
  refine hideAll_get _ (kp3 _ _ (kp2 _ _ e1)) fun hm=>?_
  simp only [List.cons_append,List.nil_append,List.mem_cons] at hm
  rcases hm with rfl|rfl|rfl|hm
  ·have:=kp2 _ _ e1;rw [ha1] at this;cases this
  ·exact nb (.head _)
  ·rw [hc1] at e1;cases e1
  ·exact nb (.tail _ hm)
 have hid2:Kps (hideAll hp1 (b::own)) (hideAll s2.heap (b::own)):=J0u k2'
 refine K1m (s1:={s2 with heap:=hp3}) (news:=[a,b,d]) (x:=.ll a b ds1 d ds2) F C KK (fun y hy=>?_) (fun y hy=>?_) ?_ (p _ _ _) (fun y hy=>hy) ?_ (r _ _ _)
 ·refine fb3 hy ?_ ?_ ?_
  ·exact nn _ ha1
  ·exact hb0
  ·exact hd0
 ·refine fb3 hy ?_ ?_ ?_
  ·exact ⟨_,ga⟩
  ·exact ⟨_,kp3 _ _ (kp2 _ _ (k2' _ _ gb))⟩
  ·exact ⟨_,kp3 _ _ gc⟩
 ·refine ⟨rfl,⟨_,ga,rfl,_,rfl⟩,⟨vs.toArray,⟨_,kp3 _ _ (kp2 _ _ (k2' _ _ gb))⟩,?_⟩,us.toArray,⟨_,kp3 _ _ gc⟩,?_⟩
  ·rw [List.toList_toArray];exact (q1.rd hv).mono (hid1.trans (hid2.trans hidF))
  ·rw [List.toList_toArray];exact (q2.rd hu).mono hidF
 ·simp [X.adr,ab,ad,bd]
theorem V1c {xs':Addr→List (Option X)}(h:VL w A env ns xs es [.p P,.p Q])(p:∀ a,New ns xs n c (.lp a P Q) (xs' a))(r:∀ a,R .next (xs' a))
  (hs:swapsWith (.List es lpos) (some (.Name n npos)) pos.line env=pure false):M1 w A env ns xs (.Assign [.Name n npos] (.List es lpos) pos) R:=by
 refine ⟨fun own s F C=>wpAny_Assign_Name (List_ (wMo (h.h own s F.f C lpos) (fun vs s1 z=>?_) fun _ _ z=>z.elim)) hs⟩
 refine o01 z fun hv kk=>?_;clear z
 refine XAll.e2 hv fun u1 u2 hu1 hu2=>?_
 refine wpAny_newList ?_ (by rw [sizeLine_eq];exact lBt rfl)
 have hno:=J0k s1.heap
 have hno0:s.heap.get? s1.heap.objs.size=none:=by
  exact J0q (Kee.kps kk) hno
 have hid1:Kps (hideAll s1.heap own) (hideAll (s1.heap.push (lstO [u1,u2])) ([s1.heap.objs.size]++own)):=J5o (kps_push _) fun b hb=>by rw [List.mem_singleton.mp hb];exact hno
 refine K1m (s1:={s1 with heap:=s1.heap.push (lstO [u1,u2])}) (news:=[s1.heap.objs.size]) (x:=.lp s1.heap.objs.size P Q) F C (Kee.trans kk (xi2 _ _ ⟨rfl,kps_push _⟩)) (fun b hb=>by rw [List.mem_singleton.mp hb];exact hno0) (fun b hb=>by rw [List.mem_singleton.mp hb];exact ⟨_,Heap.get?_push_size _ rfl⟩)
  ⟨rfl,⟨hu1.1,hu2.1⟩,u1,u2,⟨_,Heap.get?_push_size _ rfl,rfl,_,rfl⟩,hu1.1 _ _ _ hid1 hu1.2,hu2.1 _ _ _ hid1 hu2.2⟩ (p _) (fun b hb=>hb) (by simp [X.adr]) (r _)
theorem V0j {xs':Addr→Addr→List (Option X)}{k:Nat}{fi fl re:Expr}(hk:k≤1000)(hh:A.handled=none)(hi:VE w A env ns xs fi (.v (.builtin "iter")))(hl:VE w A env ns xs fl (.v (.type "list")))(hr:VE w A env ns xs re (Rg 0 k 1))
  (hni:Ok (nAt fi=true)) (hnl:Ok (nAt fl=true)) (hsm:Builtin.Range.small 0 k 1=true) (hn:Builtin.Range.rangeSize 0 k 1=k)
  (he1:Ok (starEach [.Call fl [re] [] p2] env = [(false,eval (.Call fl [re] [] p2) env)])) (he2:Ok (starEach [re] env = [(false,eval re env)]))
  (p:∀ a l,New ns xs n c (.it a l k 0) (xs' a l)) (r:∀ a l,R .next (xs' a l))
  (hs:swapsWith (.Call fi [.Call fl [re] [] p2] [] p1) (some (.Name n npos)) pos.line env=pure false):M1 w A env ns xs (.Assign [.Name n npos] (.Call fi [.Call fl [re] [] p2] [] p1) pos) R:=by
 refine ⟨fun own s F C=>wpAny_Assign_Name ?_ hs⟩
 rw [J0o p1 env hni.h]
 refine wBn (J0 (hi.h own s F.f C) fun v s1 hv k1=>?_)
 obtain rfl:v = .builtin "iter":=hv
 rw [he1.h]
 refine Calls.callWith_builtin (first:=[]) rfl (evalArgs_plain ?_)
 refine Calls.spliced_cons ?_
 rw [J0o p2 env hnl.h]
 have F1:=F.keeps (Kee.kps k1)
 have C1:=C.keeps (Kee.kps k1)
 refine wBn (J0 (hl.h own s1 F1.f C1) fun v s2 hv k2=>?_)
 obtain rfl:v = .type "list":=hv
 have F2:=F1.keeps (Kee.kps k2)
 have C2:=C1.keeps (Kee.kps k2)
 rw [he2.h]
 refine PyProof.Rows.callWith_type rfl (evalArgs_plain (Calls.spliced_cons (J0 (hr.h own s2 F2.f C2) fun v s3 hv k3=>spliced_nil ?_)))
 refine o01 hv fun _ r9a=>o41 r9a fun ra t u k' e9a hrg=>?_;subst e9a;clear hv
 have KK:=Kee.trans k1 (Kee.trans k2 k3)
 refine call_list_range hh (of_hideAll _ hrg) hsm hn (lTr hk (by decide)) fun h' tk acc c' hk4 e4 it4=>?_
 refine spliced_nil ?_
 have hl4:h'.IsList s3.heap.objs.size acc:=⟨_,e4,rfl,_,rfl⟩
 refine K3e (s:={s3 with heap:=h',toks:=tk}) hl4 ?_
 have n3:=J0k s3.heap
 have n4:=J0k h'
 have kp:Kps h' (h'.push {cls:=.type "list_iterator",data:=.fields #[.ref s3.heap.objs.size,.int 0 0]}):=kps_push _
 have ga:(h'.push {cls:=.type "list_iterator",data:=.fields #[.ref s3.heap.objs.size,.int 0 0]}).get? h'.objs.size=some _:=Heap.get?_push_size _ rfl
 have ne:h'.objs.size≠s3.heap.objs.size:=fun q=>by rw [← q,n4] at e4;cases e4
 have n0:∀ y,h'.get? y=none→s.heap.get? y=none:=fun y e=>by
  cases q:s.heap.get? y with
  |none=>rfl
  |some o=>have:=hk4 _ _ (Kee.kps KK _ _ q);rw [e] at this;cases this
 have n30:s.heap.get? s3.heap.objs.size=none:=by
  exact J0q (Kee.kps KK) n3
 refine K1m (s1:={s3 with heap:=h'.push {cls:=.type "list_iterator",data:=.fields #[.ref s3.heap.objs.size,.int 0 0]},toks:=tk}) (news:=[h'.objs.size,s3.heap.objs.size]) (x:=.it h'.objs.size s3.heap.objs.size k 0) F C (Kee.trans KK (xi2 _ _ ⟨rfl,fun y o e=>kp _ _ (hk4 _ _ e)⟩))
  (fun y hy=>?_) (fun y hy=>?_) ⟨rfl,⟨_,ga,rfl,rfl⟩,Nat.zero_le _,hk,acc,hl4.at (kp _),it4.1,fun i hi=>?_⟩ (p _ _) (fun y hy=>hy) (by simp [X.adr,ne]) (r _ _)
 ·refine fb2 hy ?_ ?_
  ·exact n0 _ n4
  ·exact n30
 ·refine fb2 hy ?_ ?_
  ·exact ⟨_,ga⟩
  ·exact ⟨_,kp _ _ e4⟩
 ·have hlt:i<acc.size:=by rw [it4.1];exact hi
  refine o10 (it4.2 i _ (Array.getElem?_eq_getElem hlt)) fun t e=>?_
  exact ⟨t,by rw [Array.getElem?_eq_getElem hlt,e];simp⟩
theorem K3y:VE w A env ns xs (.Dict [] [] pos) (DX w []):=by
 refine ⟨fun own s F C=>wpAny_Dict_empty ?_⟩
 have hno:=J0k s.heap
 have hD0:s.heap.objs.size≠sysModules:=fun q=>by
  have:=Heap.lt_size (C.glh.K 129 _ rfl)
  rw [q] at this;exact absurd this (by decide)
 exact ⟨DAt.dx ⟨[],Heap.DictOf.new s.heap,rfl,.nil,by simpa using hD0⟩ (C.fresh hno),_,_,rfl,kps_push _⟩
end
noncomputable def dd (ss:List Str):List Str:=ss.foldl (fun acc k=>if k∈acc then acc else acc++[k]) []
noncomputable def J1d (f:Str→PyData) (ss:List Str):List (Str×PyData):=(dd ss).map fun k=>(k,f k)
theorem J4t (ss:List Str)(k:Str):dd (ss++[k])=if k∈dd ss then dd ss else dd ss++[k]:=by
 unfold dd;rw [List.foldl_append];rfl
theorem J2e {ss:List Str}{k:Str}:k∈dd ss↔k∈ss:=by
 rw [← List.reverse_reverse ss]
 induction ss.reverse generalizing k with
 |nil=>simp [dd]
 |cons x l ih=>
  rw [List.reverse_cons,J4t]
  split
  ·rename_i h
   rw [ih]
   constructor
   ·intro h;exact List.mem_append_left _ h
   ·intro h'
    rcases mAp h' with h'|h'
    ·exact h'
    ·rw [List.mem_singleton.mp h'];exact ih.mp h
  ·rw [List.mem_append,List.mem_append,ih]
theorem J4 (ss:List Str):(dd ss).Nodup:=by
 rw [← List.reverse_reverse ss]
 induction ss.reverse with
 |nil=>simp [dd]
 |cons x l ih=>
  rw [List.reverse_cons,J4t]
  split
  ·exact ih
  ·rename_i h
   refine List.nodup_append.mpr ⟨ih,by simp,fun a ha b hb q=>?_⟩
   rw [List.mem_singleton.mp hb] at q;exact h (q▸ha)
theorem J8z (ss:List Str):(dd ss).length≤ss.length:=by
 rw [← List.reverse_reverse ss]
 induction ss.reverse with
 |nil=>simp [dd]
 |cons x l ih=>
  rw [List.reverse_cons,J4t]
  split<;>simp at ih ⊢<;>lia
theorem J5i {f:Str→PyData}{ss:List Str}:(J1d f ss).map (·.1)=dd ss:=by
 unfold J1d;rw [List.map_map];simp [Function.comp_def]
theorem J8d {f:Str→PyData}{ss:List Str}{k:Str}:(J1d f ss).any (fun p=>decide (p.1=k))=decide (k∈ss):=by
 rw [Bool.eq_iff_iff,List.any_eq_true,decide_eq_true_iff]
 unfold J1d
 constructor
 ·rintro ⟨p,hp,q⟩
  refine o11 (mMp hp) fun y hy e9a=>?_;subst e9a
  have q:y=k:=by simpa using q
  exact J2e.mp (q▸hy)
 ·intro h
  exact ⟨(k,f k),List.mem_map_of_mem (J2e.mpr h),by simp⟩
theorem J7r {f:Str→PyData}{ss:List Str}{k:Str}(h:k∈ss):getD? (J1d f ss) k=some (f k):=by
 unfold getD? J1d
 have h:=J2e.mpr h
 generalize dd ss=l at h
 induction l with
 |nil=>cases h
 |cons x l ih=>
  rw [List.map_cons,List.find?_cons]
  by_cases q:x=k
  ·simp [q]
  ·rw [show decide (((x,f x):Str×PyData).1=k)=false by simp [q]]
   rcases mCn h with h|h
   ·exact absurd h.symm q
   ·exact ih h
theorem J7j {f g:Str→PyData}{ss:List Str}{k:Str}(hg:∀ x∈ss,x≠k→g x=f x):J8f (J1d f ss) k (g k)=J1d g (ss++[k]):=by
 unfold J8f
 rw [J8d]
 by_cases h:k∈ss
 ·rw [if_pos (by simpa using h)]
  unfold J1d
  rw [J4t,if_pos (J2e.mpr h),List.map_map]
  refine List.map_congr_left fun x hx=>?_
  simp only [Function.comp]
  by_cases q:x=k
  ·simp [q]
  ·simp [q,hg x (J2e.mp hx) q]
 ·rw [if_neg (by simpa using h)]
  unfold J1d
  rw [J4t,if_neg (fun q=>h (J2e.mp q)),List.map_append]
  congr 1
  exact List.map_congr_left fun x hx=>by
   have hx:=J2e.mp hx
   rw [hg x hx fun q=>h (q▸hx)]
theorem K3f {own h}{f:Str→PyData}:∀ {ss:List Str} {vs:List Value} {kvs:List (Str×Value)},RdAll own h vs (ss.map .str) →
  StoredAll (fun v k=>∃ t,v = .str k t) (fun v y=>∃ k t,v = .str k t∧Rd own h y (f k)) vs kvs→kvs.map (·.1)=(J1d f ss).map (·.1)∧RdAll own h (kvs.map (·.2)) ((J1d f ss).map (·.2)):=by
 intro ss vs kvs r st
 have hl:=r.length
 induction st generalizing ss with
 |nil=>
  have:ss = []:=by rw [List.length_map] at hl;exact List.eq_nil_of_length_eq_zero hl.symm
  subst this
  exact ⟨rfl,.nil⟩
 |@snoc l kvs v k y st hk hy ih=>
  rw [List.length_append,List.length_map] at hl
  have hne:ss≠[]:=by rintro rfl;simp at hl
  obtain ⟨s0,k0,rfl⟩:∃ s0 k0,ss=s0++[k0]:=(xi2 ss.dropLast (ss.getLast hne) ((List.dropLast_concat_getLast hne).symm))
  have hll:l.length=s0.length:=by simpa using hl
  have r1:RdAll own h l (s0.map .str):=by
   have:=r.take l.length
   rw [List.take_left,hll,List.map_append] at this
   rwa [List.take_append_of_le_length (by simp),List.take_of_length_le (by simp)] at this
  have r2:RdAll own h [v] [.str k0]:=by
   have:=r.drop l.length
   rw [List.drop_left,hll,List.map_append] at this
   rwa [show (s0.map PyData.str++[k0].map PyData.str).drop s0.length = [.str k0] by rw [List.drop_append_of_le_length (by simp),List.drop_of_length_le (by simp)];rfl] at this
  obtain ⟨t,rfl⟩:=hk
  obtain ⟨k',t',e,hy⟩:=hy
  have ekk:k=k0:=by cases r2 with|cons a _=>obtain ⟨u,e⟩:=Rd.inv_str a;cases e;rfl
  have ek2:k'=k:=by cases e;rfl
  subst ekk;subst ek2
  obtain ⟨i1,i2⟩:=ih r1 (by rw [List.length_map];exact hll)
  rw [← J7j (f:=f) (g:=f) (k:=k') (fun _ _ _=>rfl)]
  exact ⟨J8n i1,K5z hy i1 i2⟩
section
variable {w:World}{A:Around}{env:Env}{ns:List (Str×Bool)}{xs:List (Option X)}{e l r ke ve:Expr}{pos:Pos}{acc:List (Str×PyData)}{k n:Str}{d:PyData}
theorem K4f (hk:VE w A env ns xs ke (S k))(hv:VE w A env ns xs ve (.d d)):VE w A env ns xs (.Dict [some ke] [ve] pos) (DX w [(k,d)]):=by
 refine ⟨fun own s F C=>wpAny_Dict_pairs (knd:=strKind PW w) (pairs:=pairTrees [some ke] [ve] env pos) (by rfl) (by intro h;cases h) (lBt rfl) ?_⟩
 have hno:=J0k s.heap
 have hD0:s.heap.objs.size≠sysModules:=fun q=>by
  have:=Heap.lt_size (C.glh.K 129 _ rfl)
  rw [q] at this;exact absurd this (by decide)
 have hdo:(s.heap.push {cls:=.type "dict",data:=.dict #[]}).DictOf (strKind PW w) s.heap.objs.size []:=Heap.DictOf.new s.heap
 have kp:Kps s.heap (s.heap.push {cls:=.type "dict",data:=.dict #[]}):=kps_push _
 generalize s.heap.push {cls:=.type "dict",data:=.dict #[]}=h1 at hdo kp
 generalize s.heap.objs.size=D at hno hD0 hdo
 have hid1:Kps (hideAll s.heap own) (hideAll h1 (D::own)):=J5b kp hno
 have F1:Frm (D::own) env ns xs h1:=F.to kp hid1 fun b hb=>.tail _ hb
 have C1:Cx w (D::own) h1:=C.to hid1 fun b hb=>by
  rcases mCn hb with rfl|hb
  ·obtain ⟨o,_,_,e,_⟩:=hdo;exact ⟨o,e⟩
  ·refine o10 (C.alive b hb) fun o e=>?_;exact ⟨o,kp _ _ e⟩
 refine evalPairs_cons (J0 (hk.h (D::own) {s with heap:=h1} F1 C1) fun kv s1 hkv k1=>wBn (J0 (hv.h (D::own) s1 (F1.keeps (Kee.kps k1)) (C1.keeps (Kee.kps k1))) fun vv s2 hvv k2=>wBn (wpAny_standAt (wPu (evalPairs_nil ?_)))))
 refine o10 (Rd.inv_str hkv) fun t e9a=>?_;subst e9a
 have k12:=(Kee.kps k1).trans (Kee.kps k2)
 refine ⟨[(k,vv)],⟨strKind_is PW w k t,rfl,trivial⟩,hdo.at fun o e=>k12 _ o e,fun h' hd hs=>⟨?_,?_⟩⟩
 ·have nD:D∉own:=fun m=>by refine o10 (C.alive _ m) fun o e=>?_;rw [hno] at e;cases e
  have hid:Kps (hideAll s2.heap (D::own)) (hideAll h' own):=fun b o e=>by
   have nb:b∉D::own:=fun hb=>by rw [hideAll_none _ hb] at e;cases e
   exact hideAll_get _ ((hs.2 b fun q=>nb (by simp [q])).trans (of_hideAll _ e)) fun hb=>nb (.tail _ hb)
  exact DAt.dx ⟨[(k,vv)],hd,rfl,.cons (Rd.mono hid hvv) .nil,by simpa using hD0⟩ nD
 ·have kk:Kps s.heap h':=fun b o e=>(hs.2 b fun q=>by rw [q,hno] at e;cases e).trans (k12 _ _ (kp _ _ e))
  refine o21 k1 fun _ _ e1 _=>?_;clear k1
  refine o21 k2 fun _ _ e2 _=>?_;clear k2
  subst e2;subst e1
  exact xi2 _ _ ⟨rfl,kk⟩
theorem K7r (hsz:acc.length≤1000):VF w A (.builtin "len") [DX w acc] (I acc.length):=vf1 fun own s v C hv=>by
 refine o12 (DX.at hv) fun D e9a hD r9a=>o13 r9a fun kv h1 h2 h3 h4=>?_;subst e9a
 have ln:kv.length=acc.length:=by have:=congrArg List.length h2;simpa using this
 refine call_len_dict h4 h1 (by lia) ⟨?_,_,_,rfl,fun _ _ e=>e⟩
 rw [ln];exact Rd.int
theorem K6b (hh:A.handled=none)(hsz:acc.length≤1000):VF w A (.type "list") [DX w acc] (PL (acc.map fun p=>.str p.1)):=vf1 fun own s v C hv=>by
 refine o12 (DX.at hv) fun D e9a hD r9a=>o13 r9a fun kv h1 h2 h3 h4=>?_;subst e9a
 have ln:kv.length=acc.length:=by have:=congrArg List.length h2;simpa using this
 refine o10 h1.dictAt fun ep da=>?_
 refine kdl_call (kdl_dict (knd:=strKind PW w) (kvs:=kv) (ep:=ep) h4) hh da (by rw [ln];exact J0l hsz) fun h' tk acc' c' hk e it=>⟨PL.in (J1j C.alive) ⟨_,e⟩ ?_,_,_,rfl,hk⟩
 have go:∀ {vs:List Value} {kv:List (Str×Value)} {acc:List (Str×PyData)},vs.length=kv.length→kv.map (·.1)=acc.map (·.1)→(∀ (j:Nat) v,vs[j]? = some v→∃ k x,kv[j]? = some (k,x)∧(strKind PW w).is k v=true)→RdAll own h' vs (acc.map fun p=>.str p.1):=by
  intro vs
  induction vs with
  |nil=>
   intro kv acc hl hk _
   have:acc = []:=by have:=congrArg List.length hk;rw [List.length_map,List.length_map,← hl] at this;exact List.eq_nil_of_length_eq_zero this.symm
   subst this;exact .nil
  |cons v vs ih=>
   intro kv acc hl hk hv
   cases kv with
   |nil=>cases hl
   |cons p kv=>
    cases acc with
    |nil=>cases hk
    |cons q acc=>
     refine o21 (hv 0 v rfl) fun k x e1 e2=>?_
     cases e1
     refine o10 (Value.isStrOf_shape e2) fun t e9a=>?_;subst e9a
     rw [List.map_cons,List.map_cons] at hk
     refine o01 (List.cons.inj hk) fun e3 e4=>?_
     have e3:k=q.1:=e3
     rw [List.map_cons,← e3]
     exact .cons Rd.str (ih (by simpa using hl) e4 fun j u hu=>hv (j+1) u hu)
 exact go (by rw [Array.length_toList];exact it.1) h2 fun j v hv=>it.2 j v (by simpa using hv)
theorem Z4c (hg:getD? acc k=some d)(hs:Ok (nsl r=true)):V2 w A (subscriptTail l r) (DX w acc) (S k) (.d d):=by
 refine ⟨pr2 fun own s va vb C ha hb=>?_⟩
 refine o12 (DX.at ha) fun D e9a hD r9a=>o13 r9a fun kv h1 h2 h3 h4=>?_;subst e9a
 refine o10 (Rd.inv_str hb) fun t e9a=>?_;subst e9a
 have go:∀ {kv:List (Str×Value)} {acc:List (Str×PyData)},kv.map (·.1)=acc.map (·.1)→RdAll own s.heap (kv.map (·.2)) (acc.map (·.2))→getD? acc k=some d→∃ v,valueAt kv k=some v∧Rd own s.heap v d:=by
  intro kv
  induction kv with
  |nil=>
   intro acc hk r hg
   cases acc with
   |nil=>simp [getD?] at hg
   |cons _ _=>cases hk
  |cons p kv ih=>
   intro acc hk r hg
   cases acc with
   |nil=>cases hk
   |cons q acc=>
    rw [List.map_cons,List.map_cons] at hk
    refine o01 (List.cons.inj hk) fun e1 e2=>?_
    cases r with
    |cons r1 r2=>
     unfold getD? at hg
     unfold valueAt
     rw [List.find?_cons] at hg ⊢
     by_cases c:p.1=k
     ·rw [← e1,show decide (p.1=k)=true by simp [c]] at hg
      rw [show decide (p.1=k)=true by simp [c]]
      simp only [Option.map_some,Option.some.injEq] at hg
      exact ⟨p.2,rfl,hg▸r1⟩
     ·rw [← e1,show decide (p.1=k)=false by simp [c]] at hg
      rw [show decide (p.1=k)=false by simp [c]]
      exact ih e2 r2 hg
 refine o11 (go h2 h3 hg) fun v hv hr=>?_
 exact tail_any h1.typeIs slot_dict_getitem.lookup (wpAny_getItem_of (knd:=strKind PW w) (strKind_is PW w k t) h1.mapOf hv ⟨hr,_,_,rfl,fun _ _ e=>e⟩) (J3a hs.h _ _)
theorem Z8k {is:List (Str×Int)}(hA:Rm 0 A)(nd:(is.map (·.1)).Nodup):V2 w A (compareOp .NotEq) (DX w (is.map fun p=>(p.1,.int p.2))) (DX w (is.map fun p=>(p.1,.int p.2))) (B false):=by
 refine ⟨pr2 fun own s va vb C ha hb=>?_⟩
 refine o12 (DX.at ha) fun D e9a hD r9a=>o13 r9a fun ka h1 h2 h3 h4=>?_;subst e9a
 refine o12 (DX.at hb) fun D' e9a hD' r9a=>o13 r9a fun kb g1 g2 g3 g4=>?_;subst e9a
 refine keq_ne (r:=true) h4 g4 h1 g1 (by have:=hA.un;simp only [cLine];lia) (fun _=>?_) ?_
 ·have go:∀ {is:List (Str×Int)} {ka:List (Str×Value)},(∀ p∈is,∃ v t,valueAt kb p.1=some v∧v = .int p.2 t)→ka.map (·.1)=is.map (·.1)→RdAll own s.heap (ka.map (·.2)) (is.map fun p=>.int p.2)→KeqHits A.in1 s kb ka true:=by
   intro is
   induction is with
   |nil=>intro ka _ hk _;cases ka<;>first|exact .nil|cases hk
   |cons p is ih=>
    intro ka hb hk r
    cases ka with
    |nil=>cases hk
    |cons q ka=>
     rw [List.map_cons,List.map_cons] at hk
     refine o01 (List.cons.inj hk) fun e1 e2=>?_
     cases r with
     |cons r1 r2=>
      refine o10 (Rd.inv_int r1) fun t e=>?_
      refine o21 (hb p (.head _)) fun v t' hv e9a=>?_;subst e9a
      obtain ⟨k,u⟩:=q
      have e1:k=p.1:=e1
      have e:u = .int p.2 t:=e
      subst e1;subst e
      have:KeqHits A.in1 s kb ((p.1,.int p.2 t)::ka) ((p.2 == p.2) && true):=.hit hv (SeqAt.EqAt.int_int _ _ _ _) (ih (fun y hy=>hb y (.tail _ hy)) e2 r2)
      simpa using this
  refine go (is:=is) (fun p hp=>?_) (by rw [h2,List.map_map];rfl) (by rw [List.map_map] at h3;exact h3)
  have at_:∀ {is:List (Str×Int)} {kb:List (Str×Value)},(is.map (·.1)).Nodup→p∈is→kb.map (·.1)=is.map (·.1)→RdAll own s.heap (kb.map (·.2)) (is.map fun p=>.int p.2)→∃ v t,valueAt kb p.1=some v∧v = .int p.2 t:=by
   intro is
   induction is with
   |nil=>intro kb _ hp;cases hp
   |cons q is ih=>
    intro kb nd hp hk r
    cases kb with
    |nil=>cases hk
    |cons z kb=>
     rw [List.map_cons,List.nodup_cons] at nd
     rw [List.map_cons,List.map_cons] at hk
     refine o01 (List.cons.inj hk) fun e1 e2=>?_
     cases r with
     |cons r1 r2=>
      unfold valueAt
      rw [List.find?_cons]
      rcases mCn hp with rfl|hp
      ·refine o10 (Rd.inv_int r1) fun t e=>?_
       rw [show decide (z.1=p.1)=true by simpa using e1]
       exact xi2 _ t ⟨rfl,e⟩
      ·have:z.1≠p.1:=fun q'=>nd.1 (by rw [← e1,q'];exact List.mem_map_of_mem (f:=(·.1)) hp)
       rw [show decide (z.1=p.1)=false by simpa using this]
       exact ih nd.2 hp e2 r2
  exact at_ nd hp (by rw [g2,List.map_map];rfl) (by rw [List.map_map] at g3;exact g3)
 ·have l1:ka.length=is.length:=by have:=congrArg List.length h2;simpa using this
  have l2:kb.length=is.length:=by have:=congrArg List.length g2;simpa using this
  rw [l1,l2]
  have:(!(is.length == is.length && true))=false:=by simp
  rw [this]
  exact ⟨Rd.bool,Kee.refl⟩
end
theorem StoredAll.mono {FK:Value→Str→Prop}{FV FV':Value→Value→Prop}{vs kvs}(h:StoredAll FK FV vs kvs)(m:∀ v y,FV v y→FV' v y):StoredAll FK FV' vs kvs:=by
 induction h with
 |nil=>exact .nil
 |snoc _ a b ih=>exact .snoc ih a (m _ _ b)
noncomputable def isStr (k:Str):Value→Bool
 |.str c _=>decide (c=k)
 |_=>false
theorem K8y {own h}{k:Str}:∀ {ss:List Str} {vs:List Value},RdAll own h vs (ss.map .str)→vs.countP (isStr k)=ss.count k:=by
 intro ss vs r
 generalize hd:ss.map PyData.str=ds at r
 induction r generalizing ss with
 |nil=>cases ss<;>first|rfl|cases hd
 |cons a _ ih=>
  cases ss with
  |nil=>exfalso;cases hd
  |cons s ss=>
   rw [List.map_cons] at hd
   obtain ⟨h1,h2⟩:=List.cons.inj hd
   subst h1
   obtain ⟨t,rfl⟩:=Rd.inv_str a
   rw [List.countP_cons,List.count_cons,ih h2]
   congr 1
section
variable {w:World}{A:Around}{env:Env}{ns:List (Str×Bool)}{xs:List (Option X)}{pos:Pos}
theorem Z3z {ss:List Str}{scope:Scope}{cl:List (Str×Addr)}{p1 p2 p3 p4 p5 p6 p7:Pos}(K:CompOk env scope cl "x" ["clerks"])(hh:A.handled=none)(hc:At ns xs "clerks" true (PL (ss.map .str)))(hsz:ss.length≤1000)
  (hbase:∀ C,attributeBase (.Name "clerks" p2) "count" (compEnvC scope cl C env) (eval (.Name "clerks" p2) (compEnvC scope cl C env))=eval (.Name "clerks" p2) (compEnvC scope cl C env))
  (hfew:∀ C,((backTo p5 (starEach [.Name "x" p4] (compEnvC scope cl C env))).all (fun x=>!x.1) && (backToKw p5 (keywordEach [] (compEnvC scope cl C env))).all (fun x=>x.1.isSome)
   && decide ([Expr.Name "x" p4].length+([]:List Keyword).length+(if ([]:List Keyword).isEmpty then 0 else 1)<30))=true)
  (hline:(p3.endLine == p5.line)=true) (he:∀ C,starEach [.Name "x" p4] (compEnvC scope cl C env) = [(false,eval (.Name "x" p4) (compEnvC scope cl C env))]) (hs:∀ x,foldedSetIterable (.Name "clerks" p7) env x=pure x) :
  VE w A env ns xs (.DictComp (.Name "x" p1) (.Call (.Attribute (.Name "clerks" p2) "count" p3) [.Name "x" p4] [] p5) [⟨.Name "x" p6,.Name "clerks" p7,[],0⟩] scope pos) (DX w (J1d (fun k=>.int (ss.count k)) ss)):=by
 refine ⟨fun own s F C=>?_⟩
 skip
 refine o22 F.vars fun m cm hm hcm V=>?_
 refine o11 (hc.val V) fun vc evc hvc=>?_
 skip
 have evc:cm "clerks" = some vc:=evc
 refine o10 (K.csin "clerks" (.head _)) fun ca hca=>?_
 have hce:=K.cls _ (mem_of_lookup hca)
 have hcell:s.heap.IsCell ca (some vc):=evc▸hcm "clerks" ca hce
 have hi:VE w A env ns xs (.Name "clerks" p7) (PL (ss.map .str)):=J2p (Ok.mk (by decide)) hc
 rw [arm_eval_DictComp]
 refine wpAny_comprehension_free (use:=none) rfl hs K.clos K.kind K.names (J0 (hi.h own s F C) fun v s1 hv k1=>?_)
 refine o22 (PL.plain hv) fun a vs e9a n9b hr=>?_;subst e9a;obtain ⟨n0,hl⟩:=n9b
 have C1:=C.keeps (Kee.kps k1)
 have hl':s1.heap.IsList a vs:=⟨_,hl,rfl,_,rfl⟩
 have hn:vs.size=ss.length:=by rw [← Array.length_toList,hr.length,List.length_map]
 refine aq fun Q2 hQ2=>?_
 refine wpAny_pyIter_list hl' (hQ2 _ _ ?_)
 have hI:=J0k s1.heap
 have kp:Kps s1.heap (s1.heap.push {cls:=.type "list_iterator",data:=.fields #[.ref a,.int 0 0]}):=kps_push _
 have hne:a≠s1.heap.objs.size:=by rintro rfl;rw [hI] at hl;cases hl
 have it0:(s1.heap.push {cls:=.type "list_iterator",data:=.fields #[.ref a,.int 0 0]}).IsListIter s1.heap.objs.size a 0:=⟨_,Heap.get?_push_size _ rfl,rfl,rfl⟩
 have hz2:(s1.heap.push {cls:=.type "list_iterator",data:=.fields #[.ref a,.int 0 0]}).objs.size=s1.heap.objs.size+1:=Heap.size_push ..
 generalize s1.heap.push {cls:=.type "list_iterator",data:=.fields #[.ref a,.int 0 0]}=h2 at kp it0 hz2
 have big:sysModules<s1.heap.objs.size:=Nat.lt_trans (by decide) (Heap.lt_size (C1.glh.K 129 _ rfl))
 refine wpAny_newObj_type (wpAny_newFunctionEnv K.cell (by intro y hy;simp at hy) (fun h₁ hns₁ hsb₁=>?_) K.kind)
 have hdo:(h2.push {cls:=.type "dict",dict:=none,data:=.dict #[]}).DictOf (strKind PW w) h2.objs.size []:=Heap.DictOf.new h2
 have hz3:(h2.push {cls:=.type "dict",dict:=none,data:=.dict #[]}).objs.size=h2.objs.size+1:=Heap.size_push ..
 have kp2:Kps h2 (h2.push {cls:=.type "dict",dict:=none,data:=.dict #[]}):=kps_push _
 dsimp only at hns₁ hsb₁ ⊢
 generalize h2.push {cls:=.type "dict",dict:=none,data:=.dict #[]}=h3 at hdo hz3 kp2 hns₁ hsb₁ ⊢
 rw [hz3] at hns₁ hsb₁ ⊢
 rw [hz2] at hns₁ hsb₁ hdo hz3 ⊢
 generalize hI0:s1.heap.objs.size=I at *
 have hI3:h3.get? (I+2)=none:=Heap.get?_none_of_le (Nat.le_of_eq hz3)
 have up3:Kps h3 h₁:=fun b o e=>hsb₁.extBut b o (fun q=>by rw [q,hI3] at e;cases e) (Heap.get?_push_of_some _ e)
 have up:Kps h2 h₁:=kp2.trans up3
 have lt1:∀ {b o},s1.heap.get? b=some o→b<I:=fun {b o} e=>hI0▸Heap.lt_size e
 have ltc:=lt1 hl
 have ne2:∀ b:Nat,b<I→b≠I∧b≠I+1∧b≠I+2:=fun b h=>⟨Nat.ne_of_lt h,Nat.ne_of_lt (Nat.lt_succ_of_lt h),Nat.ne_of_lt (Nat.lt_succ_of_lt (Nat.lt_succ_of_lt h))⟩
 have W:=Walks.list (prog:=PW) (w:=w) hh I a hne vs
 have loop:∀ s4:Shared,s4 = {s1 with heap:=h₁,toks:=s1.toks+([]:List (Str×Value)).length}→codeAny (model PW w) A (.compLoop (.DictComp (.Name "x" p1) (.Call (.Attribute (.Name "clerks" p2) "count" p3) [.Name "x" p4] [] p5) [⟨.Name "x" p6,.Name "clerks" p7,[],0⟩] scope pos) 0 (.ref I) (.ref (I+1)) (compEnvC scope cl (I+2) env))
   (compPost (model PW w) A (fun _ _=>False) none (fun v s'=>XIn own s'.heap v (DX w (J1d (fun k=>.int (ss.count k)) ss))∧Keeps s s') (.ref (I+1)) (I+2)) s4:=by
  rintro s4 rfl
  refine codeAny_compLoop_walkD (hsz:=by rw [hn];exact J0l hsz) (knd:=strKind PW w) (cenv:=compEnvC scope cl (I+2) env) W (fun _=>true) (fun v k=>∃ t,v = .str k t) (fun v y=>∃ k t u,v = .str k t∧y = .int (ss.count k) u)
   (lookup_relabel_local K.loc) (by simp [compEnvC,relabel,K.kind]) (by show I+1≠I+2;exact Nat.ne_of_lt (Nat.lt_succ_self _)) (by simp only [List.mem_cons,List.not_mem_nil,or_false,not_or];exact ⟨Nat.succ_ne_self I,Ne.symm (ne2 a ltc).2.1⟩) (by show I+2∉[I,a];simp only [List.mem_cons,List.not_mem_nil,or_false,not_or];exact ⟨Nat.ne_of_gt (Nat.lt_add_of_pos_right (by decide)),Ne.symm (ne2 a ltc).2.2⟩) ⟨it0.at (up _),J1o (J1o hl' kp) up⟩ (hdo.at fun o e=>up3 _ o e) hns₁ ?_ ?_ ?_ ?_
  ·intro i v s3 m3 _ _ _ _
   rw [show forIn ([]:List Expr) true _=(pure true:Sem Bool) from rfl]
   exact wPu ⟨rfl,Kee.refl⟩
  ·intro i v s3 m3 hv3 _ hns e3 _
   refine aE fun Q1 E1 hQ1 _=>?_
   refine o11 (hr.get' (i:=i) (v:=v) (by simpa using hv3)) fun d hd rv=>?_
   rw [List.getElem?_map] at hd
   refine o11 (Option.map_eq_some_iff.mp hd) fun k hk e9a=>?_;subst e9a
   refine o10 (Rd.inv_str rv) fun t e9a=>?_;subst e9a
   exact wpAny_Name (wpAny_loadName_local (by simp [compEnvC,relabel,K.kind]) (lookup_relabel_local K.loc) hns e3 (hQ1 _ _ ⟨⟨k,strKind_is PW w k t,t,rfl⟩,Kee.refl⟩)) (by decide)
  ·intro i v s3 m3 hv3 _ hns e3 hold
   refine aE fun Q1 E1 hQ1 _=>?_
   refine o11 (hr.get' (i:=i) (v:=v) (by simpa using hv3)) fun d hd rv=>?_
   rw [List.getElem?_map] at hd
   refine o11 (Option.map_eq_some_iff.mp hd) fun k hk e9a=>?_;subst e9a
   refine o10 (Rd.inv_str rv) fun t e9a=>?_;subst e9a
   refine o22 (PL.plain hvc) fun a2 ws e9a n9b hr2=>?_;subst e9a;obtain ⟨n2,hl2⟩:=n9b
   have old:∀ b o,s.heap.get? b=some o→s3.heap.get? b=some o:=fun b o e=>by
    have e1:=Kee.kps k1 _ _ e
    have l:=lt1 e1
    exact hold b o (ne2 b l).2.2 (by rw [List.mem_singleton];exact (ne2 b l).1) (ne2 b l).2.1 (up _ _ (kp _ _ e1))
   have hcell3:s3.heap.IsCell ca (some (.ref a2)):=let ⟨o,e,r⟩:=hcell;⟨o,old _ _ e,r⟩
   refine wpAny_Call_method_lateS (hbase _) (hfew _) hline (wpAny_Name (wpAny_loadName_cell (by simp [compEnvC,relabel,K.kind]) (K.caps _ (.head _)) hca hcell3 ?_) (by decide))
   have hl3:=old _ _ hl2
   refine xi2 ("list") ("list.count") ⟨PySem.F.plainAttrs_list,PySem.F.slot_list_count,PySem.F.type_list_count,⟨_,hl3,rfl⟩,fun b q=>by cases q;exact ⟨_,hl3,rfl⟩,?_⟩
   rw [he]
   refine Calls.callWith_builtin rfl (evalArgs_plain (Calls.spliced_cons (wpAny_Name (wpAny_loadName_local (by simp [compEnvC,relabel,K.kind]) (lookup_relabel_local K.loc) hns e3 (spliced_nil ?_)) (by decide))))
   refine call_meets PySem.F.slot_list_count ⟨_,hl3,rfl⟩ PySem.F.entry_list_count (PySem.F.args_list_count_2 _ _) (MeetsSeq.list_count a2 ws n2 (.str k t) (isStr k) ?_) ⟨hl3,?_⟩
   ·intro y hy
    obtain ⟨j,hj,rfl⟩:=Array.getElem_of_mem hy
    refine o11 (hr2.get' (i:=j) (v:=ws[j]) (by simp [hj])) fun d hd rv=>?_
    rw [List.getElem?_map] at hd
    refine o11 (Option.map_eq_some_iff.mp hd) fun k2 _ e9a=>?_;subst e9a
    refine o10 (Rd.inv_str rv) fun u e=>?_
    rw [e]
    exact fun _ _ _ _ _ _ h=>wpAny_eqBool_str h
   ·rw [K8y hr2]
    exact hQ1 _ _ ⟨⟨k,t,_,rfl,rfl⟩,_,_,rfl,fun _ _ e=>e⟩
  ·intro h' tk m' kvs vl hns' hd hlen hP st hk
   have kk1:Kps s1.heap h':=fun b o e=>by
    have l:=lt1 e
    exact hk b o (ne2 b l).2.2 (by rw [List.mem_singleton];exact (ne2 b l).1) (ne2 b l).2.1 (up _ _ (kp _ _ e))
   refine ⟨m',hns',fun h'' hs''=>?_⟩
   have kk2:Kps s1.heap h'':=fun b o e=>by
    have l:=lt1 e
    exact hs''.extBut b o (ne2 b l).2.2 (kk1 b o e)
   have hvl:vl=vs.toList:=by
    refine List.ext_getElem? fun j=>?_
    cases q:vl[j]? with
    |some v=>rw [← hP j v q];simp
    |none=>
     have:vl.length≤j:=List.getElem?_eq_none_iff.mp q
     rw [List.getElem?_eq_none_iff.mpr];rw [Array.length_toList];exact lTr (Nat.le_of_eq (Eq.symm hlen)) this
   have nD:I+1∉own:=fun m=>by refine o10 (C1.alive _ m) fun o e=>?_;have l:I+1<I:=lt1 e;exact absurd l (Nat.not_lt.2 (Nat.le_succ _))
   rw [List.filter_eq_self.mpr (by simp),hvl] at st
   refine o01 (K3f (own:=own) (h:=h'') (f:=fun k=>.int (ss.count k)) (hr.keeps kk2) (Mine.StoredAll.mono st fun v y ⟨k,t,u,e1,e2⟩=>⟨k,t,e1,by rw [e2];exact Rd.int⟩)) fun t1 t2=>?_
   refine ⟨DAt.dx ⟨kvs,hd.extBut hs''.extBut (Nat.ne_of_lt (Nat.lt_succ_self (I+1))),t1,t2,by rw [beq_eq_false_iff_ne];exact Nat.ne_of_gt (Nat.lt_succ_of_lt big)⟩ nD,?_⟩
   refine o21 k1 fun _ _ e1 _=>?_;clear k1
   subst e1
   exact xi2 _ _ ⟨rfl,fun b o e=>kk2 b o (Kee.kps ((xi2 _ _ ⟨rfl,by assumption⟩):Keeps s _) _ _ e)⟩
 exact codeAny_compStart_dict (loop _ rfl) (W.self 0 _ _ _ ⟨it0.at (up _),J1o (J1o hl' kp) up⟩ (loop _ rfl))
end
section
variable {prog:Program}{w:World}{A:Around}{E:Value→Shared→Prop}{K:Frag}{C x dx:Addr}{s:Shared}{R:Result→Shared→Prop}{name:Str}{v:Value}
theorem Z1q {ox od od':Obj}{tk:Tok}{es:List DictEntry}{n:Nat}(X:K.In s.heap)(I:InstAt s.heap x ox C (some od))(hd:ox.dict=some dx)(hp:plainOver K C=true)(ht:takerIn K C name=some none)(hh:(clsIn K C).any (·.hasDict)=true)
  (hl:(lookIn name od).isSome=true) (e:Obj.putName name (PyData.keyHash w.params name) (.str name s.toks) v od=od') (e':od'.data = .dict es.toArray n) (hz:es.length≤1000)
  (h:∀ h',h'.get? dx=some od'→(∀ b o,b≠dx→s.heap.get? b=some o→h'.get? b=some o)→R (.ok (.ret .none)) {s with heap:=h',toks:=s.toks+1}) :
  codeAny (model prog w) A (.call (.builtin "object.__setattr__") ⟨[.ref x,.str name tk,v],[]⟩) R s:=by
 refine osa_open X I hp ht fun b=>?_
 refine o11 (any_some hh) fun cd hc hd'=>?_
 have D:s.heap.get? dx=some od:=by have:=I.dict;rw [hd] at this;exact this
 have D':(s.heap.update dx (Obj.putName name (PyData.keyHash w.params name) (.str name s.toks) v)).get? dx=some od':=by
  rw [Heap.get?_update_self _ D (by rw [e];obtain ⟨_,_,_,_⟩:=od';cases e';rfl),e]
 have oth:∀ b o,b≠dx→s.heap.get? b=some o→(s.heap.update dx (Obj.putName name (PyData.keyHash w.params name) (.str name s.toks) v)).get? b=some o:=fun b o n q=>(Heap.get?_update_other _ _ (Ne.symm n)).trans q
 obtain ⟨hx,hcl,hn,-⟩:=I
 obtain ⟨oc,odi,oda,osl⟩:=ox
 dsimp only at hcl hd
 subst hcl hd
 refine wBn (wPu (wBn (wBn (wpAny_loadPart hx (wBn ((looks_clsIn X hc).here ?_))))))
 rw [hd']
 refine wPu (a:=some dx) (wBn (wPu (wBn ?_)))
 unfold nsSet
 refine wBn (wBn (wpAny_askSetting (wPu (wBn (wpAny_mkText (wBn (wpAny_loadPart D ?_)))))))
 unfold lookIn at hl
 split at hl
 ·rename_i es₀ n₀ q
  rw [q]
  dsimp only
  have c:(!es₀.any (·.key.isStr name) && es₀.any (·.refKey))=false:=by
   rw [← Array.any_toList,← Array.any_toList]
   split at hl
   ·rename_i en he
    rw [List.any_eq_true.mpr ⟨en,List.mem_of_find?_eq_some he,List.find?_some he⟩];rfl
   ·split at hl
    ·cases hl
    ·rename_i z;rw [Bool.not_eq_true] at z;rw [z,Bool.and_false]
  rw [aRefKeyMayBeTheName_at,c]
  refine wpAny_updatePart D (wBn (wpAny_lookBehind D' (by rw [e'];exact pastItsLine_dict (by rw [List.size_toArray,sizeLine_eq];exact lTr hz (by decide))) ?_))
  exact wPu (h _ D' oth)
 ·cases hl
end
section
variable {w:World}{A:Around}{env:Env}{ns:List (Str×Bool)}{xs:List (Option X)}{np pos:Pos}{e:Expr}{w0 w1:Int}
theorem K8s (hA:Rm 2 A){own:List Addr}{s:Shared}{l:Value}(C:Cx w own s.heap)(hl:Rd own s.heap l (K1d w0 w1)):wpAny (model PW w) A (call (.ref 119) [l]) (fun v s'=>XIn own s'.heap v (J w0 w1)∧Keeps s s') (fun _ _=>False) s:=by
 obtain ⟨h,g,d,t,os⟩:=s
 have X:=C.glh.K
 refine wpAny_call (make_core (makes_of X (C:=119) rfl) (looks_findIn X (r:=some (.ref 109)) rfl) (fun self=>bind_fn X self rfl) (.inl rfl) ?_)
 have ho1:h.get? h.objs.size=none:=Heap.get?_none_of_le (Nat.le_refl _)
 have ho2:h.get? (h.objs.size+1)=none:=Heap.get?_none_of_le (Nat.le_succ _)
 have hx:((h.push emptyDict).push (instObj 119 h.objs.size)).get? (h.objs.size+1)=some (instObj 119 h.objs.size):=by heap_get
 have hdx:((h.push emptyDict).push (instObj 119 h.objs.size)).get? h.objs.size=some emptyDict:=by heap_get
 have k:Kps h ((h.push emptyDict).push (instObj 119 h.objs.size)):=fun b o e=>Heap.get?_push_of_some _ (Heap.get?_push_of_some _ e)
 have n1:h.objs.size∉own:=C.fresh ho1
 have n2:h.objs.size+1∉own:=C.fresh ho2
 have ne:h.objs.size+1≠h.objs.size:=Nat.succ_ne_self _
 generalize (h.push emptyDict).push (instObj 119 h.objs.size)=h2 at hx hdx k ⊢
 generalize h.objs.size+1=x at ho2 hx n2 ne ⊢
 generalize h.objs.size=dx at ho1 hx hdx n1 ne ⊢
 have hid:Kps (hideAll h own) (hideAll h2 (dx::own)):=J5o (news:=[dx]) k fun b hb=>by rw [List.mem_singleton.mp hb];exact ho1
 have C1:Cx w (dx::own) h2:=C.to hid fun b hb=>by
  rcases mCn hb with rfl|hb
  ·exact ⟨_,hdx⟩
  ·refine o10 (C.alive b hb) fun o e=>?_;exact ⟨o,k _ _ e⟩
 have S:FnStat 109 _ _ [("self",false),("comp_select_list",false)]:=⟨fun _=>(xi3 _ _ _ rfl),fun _=>rfl,rfl,⟨rfl,rfl,rfl,rfl,rfl,rfl⟩,by decide,by decide,by decide⟩
 refine K2v (ys:=[.v (.ref x),.d (K1d w0 w1)]) (j:=0) S (by show A.depth+1<recursionLimit;have:=hA.dp;simp only [recursionLimit];exact Nat.lt_of_le_of_lt (lTr (Nat.add_le_add_left (by decide) _) this) (by decide)) rfl rfl C1 (.cons rfl (.cons (Rd.mono hid hl) .nil)) fun L s3 F3 C3 k3 fr=>?_
 generalize hE:fEnv _ 109 L=env at F3 C3 fr ⊢
 refine wpAny_execs_cons (plainObj_wpAny_Assign_Attribute (J0 ((J2p (Ok.mk (by decide)) (.tail .head):VE w _ env _ [some (.v (.ref x)),some (.d (K1d w0 w1))] (.Name "comp_select_list" _) (.d (K1d w0 w1))).h _ s3 F3 C3) fun v s4 hv k4=>
  J0 ((J2p (Ok.mk (by decide)) .head:VE w _ env _ [some (.v (.ref x)),some (.d (K1d w0 w1))] (.Name "self" _) (.v (.ref x))).h _ s4 (F3.keeps (Kee.kps k4)) (C3.keeps (Kee.kps k4))) fun u s5 hu k5=>?_) rfl)
 obtain rfl:u = .ref x:=hu
 have kk:Kps h2 s5.heap:=(Kee.kps k3).trans ((Kee.kps k4).trans (Kee.kps k5))
 have X5:=(C3.keeps ((Kee.kps k4).trans (Kee.kps k5))).glh.K
 have I5:W.InstAt s5.heap x (instObj 119 dx) 119 (some emptyDict):=⟨kk _ _ hx,rfl,rfl,kk _ _ hdx⟩
 have KK:Keeps ⟨h,g,d,t,os⟩ s5:=Kee.trans (show Keeps ⟨h,g,d,t,os⟩ ⟨h2,g,d,t,os⟩ from (xi2 _ _ ⟨rfl,k⟩)) (Kee.trans k3 (Kee.trans k4 k5))
 have hv5:=Rd.keeps hv (Kee.kps k5)
 refine wBn (wpAny_mkText (wBn (wBn (wBn (I5.type _ _ _ _ (fun _ _ e=>e) (looks_findIn X5 (name:="__setattr__") (t:=.ref 119) (r:=some (.builtin "object.__setattr__")) rfl _ _ _ _ (fun _ _ e=>e) (wpAny_holding ?_)))))))
 rw [PySem.F.store_object.slot.bind]
 refine wBn (wPu (wBn (wpAny_call ?_)))
 refine Z1q (K:=KF w.params) (C:=119) (es:=[⟨PyData.keyHash w.params "comp_select_list",.str "comp_select_list" (s5.toks+1),v⟩]) (n:=1) X5 I5 rfl rfl rfl rfl rfl rfl rfl (lBt rfl) fun h6 hd6 oth=>?_
 refine wPu (wPu (wpAny_execs_nil ⟨rfl,?_⟩))
 have nd:∀ b o,h.get? b=some o→h6.get? b=some o:=fun b o e=>oth b o (fun q=>by rw [q,ho1] at e;cases e) (Kee.kps KK _ _ e)
 obtain ⟨as,rv⟩:Rd own h6 v (K1d w0 w1):=hv5.mono fun b o e=>by
  have nb:b∉frs env++(dx::own):=fun hb=>by rw [hideAll_none _ hb] at e;cases e
  exact hideAll_get _ (oth b o (fun q=>nb (List.mem_append_right _ (by rw [q];exact .head _))) (of_hideAll _ e)) fun hb=>nb (List.mem_append_right _ (.tail _ hb))
 refine o41 (Rd.inv_list hv5) fun la lo lvs ln e9a _=>?_;subst e9a
 obtain ⟨_,_,e5⟩:∃ h' tk,s5 = {(⟨h,g,d,t,os⟩:Shared) with heap:=h',toks:=tk}:=by refine o21 KK fun h' tk e _=>?_;clear KK;exact xi2 h' tk e
 subst e5
 exact ⟨⟨JP.st,x,instObj 119 dx,_,1,.ref la,as,rfl,⟨hideAll_get _ (oth _ _ ne (kk _ _ hx)) n2,rfl,rfl,hideAll_get _ hd6 n1⟩,rfl,rfl,rfl,rv⟩,_,_,rfl,nd⟩
theorem Z2q (hA:Rm 2 A)(hn:VE w A env ns xs (.Name "TupleComp" np) (.v (.ref 119)))(he:VG w A env ns xs [e] [.d (K1d w0 w1)]):VE w A env ns xs (.Call (.Name "TupleComp" np) [e] [] pos) (J w0 w1):=by
 refine ⟨fun own s F C=>?_⟩
 rw [J0o pos env rfl]
 refine wBn (J0 (hn.h own s F C) fun v s1 hv k1=>?_)
 obtain rfl:v = .ref 119:=hv
 refine callWith_of (P:=(KF w.params).In) (first:=[]) (by rw [he.h.1 pos];rfl) (keeps_K (f:=.ref 119) rfl) (wMo (he.h.2 _ own s1 (F.keeps (Kee.kps k1)) (C.keeps (Kee.kps k1)) pos) (fun a s2 z=>?_) fun _ _ z=>z.elim)
 refine o02 z fun z1 z2 k2=>?_;clear z
 obtain ⟨ap,ak⟩:=a
 obtain rfl:ak = []:=z1
 have C2:=(C.keeps (Kee.kps k1)).keeps (Kee.kps k2)
 refine ⟨C2.glh.K,?_⟩
 refine XAll.e1 z2 fun l hl=>?_
 exact wMo (K8s hA C2 hl) (fun v s3 q=>⟨q.1,Kee.trans (Kee.trans k1 k2) q.2⟩) fun _ _ q=>q.elim
end
noncomputable def K1g:List Stmt→List Stmt×Scope
 |[]=>([],default)
 |[.FunctionDef _ _ body _ _ _ scope _ _ _]=>(body,scope)
 |_::r=>K1g r
noncomputable def J1r:List Stmt:=(K1g PW.main.body).1
noncomputable def Z5w:Scope:=(K1g PW.main.body).2
noncomputable def J0y:List Stmt:=match J1r.drop 19 with
 |.For _ _ b _ _::_=>b
 |_=>[]
noncomputable def J0d (q:Str) (cd:Value) (L:Addr):Env:=newEnv Z5w L mainGlobals (cellsFrom (L+1) Z5w.names []) q (some 293) cd none builtinsNs
noncomputable abbrev J1l:List (Str×Bool):=((Str.ofString "script",false):Str×Bool)::((Str.ofString "values",false):Str×Bool)::((Str.ofString "kind",false):Str×Bool)::((Str.ofString "lot",false):Str×Bool)::((Str.ofString "ways",false):Str×Bool)::((Str.ofString "judge",false):Str×Bool)::((Str.ofString "promised",false):Str×Bool)::((Str.ofString "accepted",false):Str×Bool)::((Str.ofString "letters",false):Str×Bool)::((Str.ofString "empty",false):Str×Bool)::((Str.ofString "heard",false):Str×Bool)::((Str.ofString "best",false):Str×Bool)::((Str.ofString "book",false):Str×Bool)::((Str.ofString "own",false):Str×Bool)::((Str.ofString "granted",false):Str×Bool)::((Str.ofString "taken",false):Str×Bool)::((Str.ofString "rests",true):Str×Bool)::((Str.ofString "said",false):Str×Bool)::((Str.ofString "due",false):Str×Bool)::((Str.ofString "hours",false):Str×Bool)::((Str.ofString "rest",false):Str×Bool)::((Str.ofString "turn",false):Str×Bool)::((Str.ofString "figure",false):Str×Bool)::((Str.ofString "who",false):Str×Bool)::((Str.ofString "place",false):Str×Bool)::((Str.ofString "at",false):Str×Bool)::((Str.ofString "ballot",true):Str×Bool)::((Str.ofString "wish",true):Str×Bool)::((Str.ofString "came",false):Str×Bool)::((Str.ofString "told",false):Str×Bool)::((Str.ofString "high",false):Str×Bool)::((Str.ofString "last",false):Str×Bool)::((Str.ofString "come",false):Str×Bool)::((Str.ofString "same",false):Str×Bool)::((Str.ofString "clerks",true):Str×Bool)::((Str.ofString "one",true):Str×Bool)::((Str.ofString "other",false):Str×Bool)::((Str.ofString "names",true):Str×Bool)::((Str.ofString "firsts",false):Str×Bool)::((Str.ofString "name",true):Str×Bool)::((Str.ofString "hints",false):Str×Bool)::[]
theorem Z1z:∃ fd,FnStat 293 fd J1r J1l∧(∀ L,fEnv fd 293 L=J0d (fd.qualname++".<locals>.") fd.code L)∧(∀ vs:List Value,vs.length=1→bindArgs fd ⟨vs,[]⟩=pure ((J1l.map (·.1)).zip vs)):=
 ⟨_,⟨fun _=>(xi3 _ _ _ rfl),fun _=>rfl,rfl,⟨rfl,rfl,rfl,rfl,rfl,rfl⟩,by decide,by decide,by decide⟩,fun _=>rfl,(vs1 fun _=>rfl)⟩
inductive Wk:List (Option X)→List (Option X)→Prop
 |nil:Wk [] []
 |keep {x xs ys}:Wk xs ys→Wk (x::xs) (x::ys)
 |drop {x xs ys}:Wk xs ys→Wk (x::xs) (none::ys)
theorem Wk.sub {xs ys}(k:Wk xs ys):(adrs ys).Sublist (adrs xs):=by
 induction k with
 |nil=>exact .slnil
 |@keep x xs ys _ ih=>cases x with
  |none=>exact ih
  |some x=>exact ih.append_left _
 |@drop x xs ys _ ih=>cases x with
  |none=>exact ih
  |some x=>exact ih.trans (List.sublist_append_right _ _)
theorem Wk.vals {own h f}:∀ {ns xs ys},Wk xs ys→Vals own h f ns xs→Vals own h f ns ys
 |[],_,_,.nil,V=>trivial
 |_::_,_,_,.nil,V=>V.elim
 |[],_,_,.keep _,V=>V.elim
 |[],_,_,.drop _,V=>V.elim
 |_::_,_,_,.keep k,V=>⟨V.1,k.vals V.2⟩
 |_::_,_,_,.drop k,V=>⟨fun _ e=>(nomatch e),k.vals V.2⟩
theorem Wk.rfl':∀ {xs},Wk xs xs
 |[]=>.nil
 |_::_=>.keep Wk.rfl'
theorem Frm.wk {own env ns xs ys h}(F:Frm own env ns xs h)(k:Wk xs ys):Frm own env ns ys h:=⟨F.st,F.kinds,F.nodup,F.mine,F.apart,F.has,let ⟨m,cm,a,b,c⟩:=F.vars;⟨m,cm,a,b,k.vals c⟩⟩
theorem FrM.wk {own env ns xs ys h}(F:FrM own env ns xs h)(k:Wk xs ys):FrM own env ns ys h:=⟨F.f.wk k,fun a ha=>F.mine a (k.sub.subset ha),F.nd.sublist k.sub⟩
theorem GIn.wk {w own env ns xs ys s}(x:GIn w own env ns xs s)(k:Wk xs ys):GIn w own env ns ys s:=⟨x.F.wk k,x.C,x.P,x.t_own,x.t_fr,fun m=>x.t_ad (k.sub.subset m)⟩
inductive Flt1:Option X→Option X→Prop
 |no {x}:Flt1 x none
 |same {x}:x.adr = []→Flt1 (some x) (some x)
 |l {a ds}:Flt1 (some (.l a ds)) (some (.d (.list ds)))
 |ll {a b ds c es}:Flt1 (some (.ll a b ds c es)) (some (.d (.list [.list ds,.list es])))
inductive FltL:List (Option X)→List (Option X)→Prop
 |nil:FltL [] []
 |cons {x y xs ys}:Flt1 x y→FltL xs ys→FltL (x::xs) (y::ys)
theorem FltL.vals {own fr:List Addr}{h f}(sub:∀ b∈fr,b∈own)(nf:∀ b∈fr,∃ o,h.get? b=some o∧NoF o.data):∀ {ns xs ys},FltL xs ys→Vals own h f ns xs→Vals fr h f ns ys
 |[],_,_,.nil,V=>trivial
 |_::_,_,_,.nil,V=>V.elim
 |[],_,_,.cons _ _,V=>V.elim
 |p::ns,x::xs,y::ys,.cons a k,V=>⟨fun z e=>by
   have pl:∀ {a vs},h.PlainList a vs→a∉fr:=fun {a vs} i m=>by
    refine o12 (nf a m) fun o e1 q _=>?_
    refine o10 i fun n e2=>?_;clear i
    rw [e2] at e1;cases e1;exact q _ _ rfl
   have ls:∀ {a vs},h.IsList a vs→a∉fr:=fun {a vs} i m=>by
    refine o12 (nf a m) fun o e1 q _=>?_
    refine o12 i fun o' e2 _ r9a=>o10 r9a fun n d=>?_;clear i
    rw [e2] at e1;cases e1;exact q _ _ d
   have hid:Kps (hideAll h own) (hideAll h fr):=J0e (fun _ _ _ e=>e) sub
   cases a with
   |no=>cases e
   |same ha=>
    cases e
    refine o11 (V.1 _ rfl) fun v h1 h2=>?_
    exact ⟨v,h1,h2.unhide sub⟩
   |l=>
    cases e
    refine o12 (V.1 _ rfl) fun v h1 e9a r9a=>o11 r9a fun vs i q=>?_;subst e9a
    refine o10 (id i) fun n hi=>?_
    exact ⟨_,h1,Rd.list (pl i) hi rfl rfl (q.mono hid)⟩
   |ll=>
    cases e
    refine o14 (V.1 _ rfl) fun v h1 e9a i n9b r9a=>o11 r9a fun us k' p=>?_;subst e9a;obtain ⟨vs,j,q⟩:=n9b
    refine o10 (id j) fun n1 hj=>?_
    refine o10 (id k') fun n2 hk=>?_
    refine o12 (id i) fun o ho hc r9a=>o10 r9a fun n hd=>?_
    exact ⟨_,h1,Rd.list (ls i) ho hc hd (.cons (Rd.list (pl j) hj rfl rfl (q.mono hid)) (.cons (Rd.list (pl k') hk rfl rfl (p.mono hid)) .nil))⟩,k.vals sub nf V.2⟩
theorem Frm.frs_own {own env ns xs h}(F:Frm own env ns xs h):∀ b∈frs env,b∈own:=fun b hb=>by
 rcases mCn hb with rfl|hb
 ·exact F.mine.1
 ·refine o11 (mMp hb) fun p hp e9a=>?_;subst e9a
  exact (F.mine.2 p.1 p.2 (lookup_of_mem_nodup F.apart.2 hp)).1
section
variable {w:World}{A:Around}{env:Env}{ns:List (Str×Bool)}{xs xs' xs'' ys:List (Option X)}{e t:Expr}{st:Stmt}{ss:List Stmt}{R R':Fl→List (Option X)→Prop}{f:Fl}{b:Bool}{pos npos:Pos}{z:X}
theorem GX.weak (h:GX w A env ns xs ss R')(q:∀ f x,R' f x→∃ y,Wk x y∧R f y):GX w A env ns xs ss R:=
 ⟨fun own s x=>wMo (h.h own s x) (fun g s1 ⟨o,f,x',r,z,x2,c⟩=>by
  refine o11 (q _ _ r) fun y k r'=>?_
  exact (xi3 o f y ⟨r',z,x2.wk k,c.same,c.sub,c.hid,c.but,fun b m=>c.new b (k.sub.subset m),c.live⟩)) fun _ _ q=>q⟩
theorem G1.weak (h:G1 w A env ns xs st R')(q:∀ f x,R' f x→∃ y,Wk x y∧R f y):G1 w A env ns xs st R:=
 ⟨fun own s x=>wMo (h.h own s x) (fun g s1 ⟨o,f,x',r,z,x2,c⟩=>by
  refine o11 (q _ _ r) fun y k r'=>?_
  exact (xi3 o f y ⟨r',z,x2.wk k,c.same,c.sub,c.hid,c.but,fun b m=>c.new b (k.sub.subset m),c.live⟩)) fun _ _ q=>q⟩
theorem K4k (k:Wk xs ys)(h:GX w A env ns ys ss R):GX w A env ns xs ss R:=
 ⟨fun own s x=>wMo (h.h own s (x.wk k)) (fun g s1 ⟨o,f,x',r,z,x2,c⟩=>
  (xi3 o f x' ⟨r,z,x2,c.same,c.sub,c.hid,fun b o n=>c.but b o fun m=>n (k.sub.subset m),fun b m=>(c.new b m).imp (fun q=>k.sub.subset q) id,c.live⟩)) fun _ _ q=>q⟩
theorem J9x (h:VX w A env ns xs ss f xs')(k:Wk xs' xs''):VX w A env ns xs ss f xs'':=
 ⟨fun own s F C=>wMo (h.h own s F C) (fun g s1 q=>⟨q.1,q.2.1.wk k,q.2.2⟩) fun _ _ q=>q⟩
theorem V0f (h:VX w A env ns xs ss f xs')(ha:adrs xs'=adrs xs)(r:R f xs'):MX w A env ns xs ss R:=by
 refine ⟨fun own s F C=>wMo (h.h own s F.f C) (fun g s1 z=>?_) fun _ _ q=>q⟩
 refine o02 z fun z1 z2 z3=>?_;clear z
 exact xi3 own f xs' ⟨r,z1,⟨z2,by rw [ha];exact F.mine,by rw [ha];exact F.nd⟩,z3.sto.cx C,.of_chg z3 z2 ha⟩
theorem K5j (k:FltL xs ys)(h:VT w A env ns ys e b):VT w A env ns xs e b:=by
 refine ⟨fun own s F C=>?_⟩
 have so:=F.frs_own
 have F':Frm (frs env) env ns ys s.heap:=⟨F.st,F.kinds,F.nodup,⟨.head _,fun n c q=>⟨.tail _ (List.mem_map_of_mem (f:=(·.2)) (mem_of_lookup q)),(F.mine.2 n c q).2⟩⟩,F.apart,F.has,let ⟨m,cm,a,b,c⟩:=F.vars;⟨m,cm,a,b,k.vals so F.notF c⟩⟩
 exact h.h (frs env) s F' ⟨C.gl.keeps (J0e (fun _ _ _ e=>e) so),fun b hb=>C.alive b (so b hb)⟩
theorem Z6n {d:PyData}{ts:List Expr}{kk:Nat}{tp:Pos}(hn:swapsWithSole [.Tuple ts kk tp] e pos.line env=pure false)(hw:swappedStores [.Tuple ts kk tp] e env=pure none)(he:(assignEach [.Tuple ts kk tp] env).map (·.2) = [assign (.Tuple ts kk tp) env])
  (h:VE w A env ns xs e (.d d)) (u:VU w A env ns xs (.Tuple ts kk tp) d xs'):VS w A env ns xs (.Assign [.Tuple ts kk tp] e pos) .next xs':=by
 refine ⟨fun own s F C=>wpAny_Assign_stores (J0 (h.h own s F C) fun v s1 hv k1=>?_) hn hw⟩
 rw [he]
 show wpAny _ _ (assign (.Tuple ts kk tp) env v) _ _ s1
 refine wMo (u.h own s1 v (F.keeps (Kee.kps k1)) (C.keeps (Kee.kps k1)) hv) (fun _ s2 q=>?_) fun _ _ q=>q.elim
 exact ⟨trivial,q.1,(Chg.of_keeps k1).trans q.2⟩
theorem Z7q {ds es:List PyData}(h1:ds≠[])(h2:es≠[])(hsz:ds.length+es.length≤1000):V2 w A (binaryOp .Add) (T ds) (T es) (T (ds++es)):=by
 refine ⟨pr2 fun own s a b C ha hb=>?_⟩
 refine o22 (J3m ha) fun a vs e9a hl hr=>?_;subst e9a
 refine o22 (J3m hb) fun b us e9a hl2 hr2=>?_;subst e9a
 refine o12 (id hl) fun n9a ho hc r9a=>o10 r9a fun n hd=>?_;obtain ⟨cls,dd,data,sl⟩:=n9a
 refine o12 (id hl2) fun n9a ho2 hc2 r9a=>o10 r9a fun n2 hd2=>?_;obtain ⟨cls2,dd2,data2,sl2⟩:=n9a
 simp only at hc hd hc2 hd2
 subst hc hd hc2 hd2
 have e1:vs.size=ds.length:=by rw [← Array.length_toList,hr.length]
 have e2:us.size=es.length:=by rw [← Array.length_toList,hr2.length]
 have p1:0<ds.length:=List.length_pos_iff.mpr h1
 have p2:0<es.length:=List.length_pos_iff.mpr h2
 refine concat_meets ⟨_,ho,rfl⟩ ⟨_,ho2,rfl⟩ noFill_tuple_add seq_tuple_add PySem.F.slot_tuple_add PySem.F.entry_tuple_add (PySem.F.args_tuple_add_2 _ _)
  (tuple_addW2 a b vs us n n2 dd dd2 sl sl2 (by rw [Array.isEmpty_iff_size_eq_zero];exact Nat.ne_of_gt (Nat.lt_of_lt_of_le p1 (Nat.le_of_eq (Eq.symm e1)))) (by rw [Array.isEmpty_iff_size_eq_zero];exact Nat.ne_of_gt (Nat.lt_of_lt_of_le p2 (Nat.le_of_eq (Eq.symm e2)))) (by rw [e1,e2];exact J0l hsz)) ⟨ho,ho2,?_⟩
 refine ⟨Rd.tuple (J1j C.alive) (Heap.get?_push_size _ rfl) rfl rfl ?_,_,_,rfl,kps_push _⟩
 rw [Array.toList_append]
 exact (hr.append hr2).keeps (kps_push _)
theorem Z2e {t:Nat}(ht:t≤15):V2 w A (binaryOp .Pow) (I 12) (I t) (I (12 ^ t:Nat)):=by
 refine ⟨pr2 fun own s a b C ha hb=>?_⟩
 obtain ⟨u1,rfl⟩:=Rd.inv_int ha
 obtain ⟨u2,rfl⟩:=Rd.inv_int hb
 by_cases h0:t=0
 ·subst h0
  exact AutoIntOps.pow_0 (by decide) (by decide) ⟨Rd.int,kt⟩
 ·have big:∀ n:Fin 16,Builtin.Int.intTooBig (((Builtin.Int.intBits 12:Nat):Int) * (n.val:Int))=false:=by decide +kernel
  have:=big ⟨t,Nat.succ_le_succ ht⟩
  refine AutoIntOps.pow_4 (Int.ofNat_nonneg _) (by simpa using h0) (by decide) (by decide) (by rw [this];decide) ?_
  have e:(12:Int) ^ ((t:Int)).toNat=((12 ^ t:Nat):Int):=by simp
  rw [e]
  exact ⟨Rd.int,kt⟩
end
section
variable {w:World}{A:Around}{env:Env}{ns:List (Str×Bool)}{xs:List (Option X)}{n:Str}{c r:Bool}{a b g:Addr}{ds:List PyData}{np pos p1 p2 p3 p4 p5 p6:Pos}
def AtB (b:Addr)(h:Heap)(v:Value):Prop:=v = .ref b∧∃ o,h.get? b=some o
theorem AtB.st {b}:∀ h h' v,Kps h h'→AtB b h v→AtB b h' v:=fun h h' v k ⟨e,o,q⟩=>⟨e,o,k _ _ q⟩
theorem Z9a (ne:a≠b):V2 w A (compareOp .Is) (.l a ds) (.p (AtB b)) (B false):=⟨pr2 fun own s va vb C ha hb=>by
 refine o01 ha fun e9a r9a=>o11 r9a fun vs n9b _=>?_;subst e9a;obtain ⟨n,hl⟩:=n9b;clear ha
 refine o02 hb fun _ e9a r9a=>o10 r9a fun o ho=>?_;subst e9a;clear hb
 exact wpAny_is_ref_other ne hl (of_hideAll _ ho) (by simp) ⟨Rd.bool,Kee.refl⟩⟩
theorem K8j (ne:a≠b):V2 w A (compareOp .IsNot) (.l a ds) (.p (AtB b)) (B true):=⟨pr2 fun own s va vb C ha hb=>by
 refine o01 ha fun e9a r9a=>o11 r9a fun vs n9b _=>?_;subst e9a;obtain ⟨n,hl⟩:=n9b;clear ha
 refine o02 hb fun _ e9a r9a=>o10 r9a fun o ho=>?_;subst e9a;clear hb
 exact wpAny_isNot_ref_other ne hl (of_hideAll _ ho) (by simp) ⟨Rd.bool,Kee.refl⟩⟩
theorem Z8q (hA:Rm 1 A)(h:a≠b):VF w A (.ref 52) [.l a ds,.p (AtB b)] (B false):=by
 refine J1g (j:=0) (ns:=[("a",false),("b",false)]) ⟨fun _=>(xi3 _ _ _ rfl),fun _=>rfl,rfl,⟨rfl,rfl,rfl,rfl,rfl,rfl⟩,by decide,by decide,by decide⟩ hA.dl ?_ (vs2 fun _ _=>rfl) (by rfl)
 intro env L he
 exact ⟨_,J0i (J0n (w_cmp (Ok.mk (by with_unfolding_all rfl)) (J2p (Ok.mk (by decide)) .head) (J2p (Ok.mk (by decide)) (.tail .head)) (Z9a h)))⟩
theorem K4w (hA:Rm 1 A)(h:a≠b):VF w A (.ref 59) [.l a ds,.p (AtB b)] (B true):=by
 refine J1g (j:=0) (ns:=[("a",false),("b",false)]) ⟨fun _=>(xi3 _ _ _ rfl),fun _=>rfl,rfl,⟨rfl,rfl,rfl,rfl,rfl,rfl⟩,by decide,by decide,by decide⟩ hA.dl ?_ (vs2 fun _ _=>rfl) (by rfl)
 intro env L he
 exact ⟨_,J0i (J0n (w_cmp (Ok.mk (by with_unfolding_all rfl)) (J2p (Ok.mk (by decide)) .head) (J2p (Ok.mk (by decide)) (.tail .head)) (K8j h)))⟩
theorem Z6k {f fl:Expr}(hk:Ok (∀ P,J5 (KF P) g=true))(hg:∀ b,a≠b→VF w A (.ref g) [.l a ds,.p (AtB b)] (B r))(hn1:Ok (nAt f=true))(hn2:Ok (nAt fl=true))
  (hf:VE w A env ns xs f (.v (.ref g))) (hl:VE w A env ns xs fl (.v (.type "list"))) (hx:∀ p,VE w A env ns xs (.Name n p) (.l a ds)) (hsz:ds.length≤1000)
  (he1:Ok (starEach [.Name n p2,.Call fl [.Name n p4] [] p5] env = [(false,eval (.Name n p2) env),(false,eval (.Call fl [.Name n p4] [] p5) env)])) (he2:Ok (starEach [.Name n p4] env = [(false,eval (.Name n p4) env)])) :
  VE w A env ns xs (.Call f [.Name n p2,.Call fl [.Name n p4] [] p5] [] p6) (B r):=by
 refine ⟨fun own s F C=>?_⟩
 rw [J0o p6 env hn1.h]
 refine wBn (J0 (hf.h own s F C) fun v s1 hv k1=>?_)
 obtain rfl:v = .ref g:=hv
 have F1:=F.keeps (Kee.kps k1)
 have C1:=C.keeps (Kee.kps k1)
 refine o21 (J1w C1.glh.K (hk.h _)) fun o fd ho hd=>?_
 rw [he1.h]
 refine callWith_function (o:=o) (fd:=fd) (evalArgs_plain (Calls.spliced_cons (J0 ((hx p2).h own s1 F1 C1) fun v1 s2 hv1 k2=>Calls.spliced_cons ?_)))
 have F2:=F1.keeps (Kee.kps k2)
 have C2:=C1.keeps (Kee.kps k2)
 rw [J0o p5 env hn2.h]
 refine wBn (J0 (hl.h own s2 F2 C2) fun v s3 hv k3=>?_)
 obtain rfl:v = .type "list":=hv
 have F3:=F2.keeps (Kee.kps k3)
 have C3:=C2.keeps (Kee.kps k3)
 rw [he2.h]
 refine PyProof.Rows.callWith_type rfl (evalArgs_plain (Calls.spliced_cons (J0 ((hx p4).h own s3 F3 C3) fun v4 s4 hv4 k4=>spliced_nil ?_)))
 have C4:=C3.keeps (Kee.kps k4)
 have k14:=(Kee.kps k2).trans ((Kee.kps k3).trans (Kee.kps k4))
 obtain rfl:v1 = .ref a:=hv1.1
 refine o01 hv4 fun e9a r9a=>o11 r9a fun vs n9b hr=>?_;subst e9a;obtain ⟨n0,hl0⟩:=n9b;clear hv4
 have hvs:vs.size=ds.length:=by rw [← Array.length_toList,hr.length]
 refine call_list_seq a (.inl rfl) hl0 rfl rfl (fun h' c' hk5 e5=>?_) (by rw [hvs];exact J0l hsz)
 refine spliced_nil ⟨⟨hk5 _ _ (k14 _ _ ho),hd⟩,?_⟩
 have ne:a≠s4.heap.objs.size:=fun q=>Nat.lt_irrefl _ (q▸Heap.lt_size hl0)
 have kk:Keeps s1 {s4 with heap:=h'}:=Kee.trans k2 (Kee.trans k3 (Kee.trans k4 (xi2 _ _ ⟨rfl,hk5⟩)))
 exact J0 ((hg _ ne).h own {s4 with heap:=h'} [.ref a,.ref s4.heap.objs.size] (C4.keeps hk5) (.cons ⟨rfl,vs,⟨n0,hk5 _ _ hl0⟩,hr.keeps hk5⟩ (.cons ⟨AtB.st,rfl,_,hideAll_get _ e5 (J1j C4.alive)⟩ .nil))) fun u s6 hu k6=>⟨hu,Kee.trans k1 (Kee.trans kk k6)⟩
end
structure Gr where
 p:Nat
 b:Bal
 w:Option Int
 l:Option (Bal×Int)
noncomputable def Gr.e (x:Gr):Ent:=⟨x.p,x.w.isSome,x.b,match x.w with|none=>J0m x.l|some v=>.int v⟩
noncomputable abbrev Let:=Bal×Option Int
structure St where
 g:List Gr
 o0:List Let
 o1:List Let
 rs:List Int
 sd:List PyData
noncomputable def gd (g:List Gr):List Ent:=g.map Gr.e
noncomputable def hi (t:Int) (g:List Gr) (p:Nat):Bal:=J7w (gd g) p t
noncomputable def la (g:List Gr) (p:Nat):Option (Bal×Int):=g.foldl (fun a e=>if e.p=p then (match e.w with|some v=>some (e.b,v)|none=>a) else a) none
noncomputable def J3i (b:Bal):PyData:=.str (J0f b.1 b.2)
noncomputable def J5p (t:Int) (g:List Gr):List PyData:=[J3i (hi t g 0),J3i (hi t g 1),J3i (hi t g 2)]
noncomputable def K4l (g:List Gr):List PyData:=[J1n (la g 0),J1n (la g 1),J1n (la g 2)]
noncomputable def J2b (o:List Let):List PyData:=o.map fun x=>.tuple [J3i x.1,wD x.2]
noncomputable def J1e (o:List Let):List PyData:=o.map fun x=>.tuple [bD x.1,wD x.2]
noncomputable def same (g:List Gr) (x:Let):List Gr:=g.filter fun e=>decide (e.b=x.1) && (e.w.isSome == x.2.isSome)
noncomputable def J2j (p:Nat):Str:=⟨#[97+p]⟩
noncomputable def pqS (who:Nat):Str:=⟨#[112+who]⟩
noncomputable def clk (g:List Gr) (x:Let):List Str:=(same g x).map fun e=>J2j e.p
noncomputable def cur (o:List Let):Let:=o.getLast?.getD ((0,0),none)
noncomputable def J0t (g:List Gr) (o:List Let):List (Str×PyData):=J1d (fun k=>.int ((clk g (cur o)).count k)) (clk g (cur o))
noncomputable def bestF (t:Int) (a:Option (Bal×Int)):Option (Bal×Int)→Option (Bal×Int)
 |none=>a
 |some q=>match a with|none=>some q|some r=>if J0p t q.1 r.1 then some q else some r
noncomputable def bestV (t:Int) (g:List Gr) (o:List Let):Option (Bal×Int):=match (cur o).2 with
 |some _=>none
 |none=>(same g (cur o)).foldl (fun a e=>bestF t a e.l) none
noncomputable def nmS (e:Gr):Str:=pqS (e.b.2 - 1)++J2j e.p
noncomputable def J0j (ns:List Str) (rs:List Int) (k:Str):List Int:=((ns.zip rs).filter fun p=>decide (p.1=k)).map (·.2)
noncomputable def J1u (ns:List Str) (rs:List Int) (k:Str):PyData:=.tuple ([((J0j ns rs k).length:Int),(J0j ns rs k).sum,((J0j ns rs k).map fun n=>n * n).sum].map .int)
noncomputable def J6g (g:List Gr) (rs:List Int):List (Str×PyData):=J1d (J1u (g.map nmS) rs) (g.map nmS)
noncomputable def K7i (g:List Gr):List PyData:=g.filterMap fun e=>e.w.map fun v=>.tuple [.int e.p,J3i e.b,.int v]
theorem K5b (g:List Gr)(p:Nat):J1z (gd g) p=J0m (la g p):=by
 unfold J1z la gd
 rw [List.foldl_map]
 have:∀ (l:List Gr) (d:PyData) (a:Option (Bal×Int)),d=J0m a →
   l.foldl (fun a e=>if (Gr.e e).p=p∧(Gr.e e).g=true then .tuple [bD (Gr.e e).b,(Gr.e e).t] else a) d=J0m (l.foldl (fun a e=>if e.p=p then (match e.w with|some v=>some (e.b,v)|none=>a) else a) a):=by
  intro l
  induction l with
  |nil=>intro d a h;exact h
  |cons e l ih=>
   intro d a h
   refine ih _ _ ?_
   obtain ⟨ep,eb,ew,el⟩:=e
   cases ew with
   |none=>by_cases q:ep=p<;>simp [Gr.e,q,h]
   |some v=>by_cases q:ep=p<;>simp [Gr.e,q,h,J0m]
 exact this g .none none rfl
theorem K0r (t:Int)(g:List Gr)(e:Gr)(p:Nat):hi t (g++[e]) p=if e.p=p∧J0p t e.b (hi t g p)=true then e.b else hi t g p:=by
 unfold hi J7w gd;rw [List.map_append,List.foldl_append];rfl
theorem J5x (g:List Gr)(e:Gr)(p:Nat):la (g++[e]) p=if e.p=p then (match e.w with|some v=>some (e.b,v)|none=>la g p) else la g p:=by
 unfold la;rw [List.foldl_append];rfl
theorem K2m {t:Int}{a b:Bal}(ht:t≠0)(h1:J0p t a b=false)(h2:J0p t b a=false):a=b:=by
 obtain ⟨a1,a2⟩:=a;obtain ⟨b1,b2⟩:=b
 unfold J0p J7f at h1 h2
 simp only at h1 h2
 by_cases q:(a1:Int)=b1
 ·rw [if_pos q] at h1;rw [if_pos q.symm] at h2
  have h1:¬ t * (a2:Int) > t * b2:=by simpa using h1
  have h2:¬ t * (b2:Int) > t * a2:=by simpa using h2
  have e:t * (a2:Int)=t * b2:=by lia
  have:(a2:Int)=b2:=Int.eq_of_mul_eq_mul_left ht e
  rw [Int.ofNat_inj] at q this
  rw [q,this]
 ·rw [if_neg q] at h1;rw [if_neg (Ne.symm q)] at h2
  have h1:¬ (a1:Int) > b1:=by simpa using h1
  have h2:¬ (b1:Int) > a1:=by simpa using h2
  lia
theorem J2o {t:Int}{a:Bal}:J0p t a a=false:=by unfold J0p J7f;simp
theorem K6w {t:Int}{g:List Gr}{e:Gr}(ht:t≠0)(hy:J0p t (hi t g e.p) e.b=false)(p:Nat):hi t (g++[e]) p=if e.p=p then e.b else hi t g p:=by
 rw [K0r]
 by_cases q:e.p=p
 ·subst q
  by_cases o:J0p t e.b (hi t g e.p)=true
  ·simp [o]
  ·have o:J0p t e.b (hi t g e.p)=false:=by simpa using o
   rw [if_neg (by simp [o]),if_pos rfl]
   exact K2m ht hy o
 ·simp [q]
theorem p3 {p:Nat}(h:p<3):p=0∨p=1∨p=2:=by lia
@[elab_as_elim] theorem p3_c {P:Nat→Prop}{p:Nat}(hp:p<3)(h0:P 0)(h1:P 1)(h2:P 2):P p:=by rcases p3 hp with rfl|rfl|rfl<;>assumption
theorem K8u {t:Int}{g:List Gr}{e:Gr}(ht:t≠0)(hp:e.p<3)(hy:J0p t (hi t g e.p) e.b=false):J5p t (g++[e])=(J5p t g).set e.p (J3i e.b):=by
 unfold J5p
 rw [K6w ht hy,K6w ht hy,K6w ht hy]
 rcases p3 hp with q|q|q<;>rw [q]<;>simp
theorem Z4j {g:List Gr}{e:Gr}(hp:e.p<3):K4l (g++[e])=setA e.w e.b e.p (K4l g):=by
 unfold K4l
 rw [J5x,J5x,J5x]
 cases hw:e.w with
 |none=>simp [setA]
 |some v=>rcases p3 hp with q|q|q<;>rw [q]<;>simp [setA,J1n]
theorem K7q {t:Int}{g:List Gr}{p:Nat}(hp:p<3):(J5p t g)[p]? = some (.str (J0f (hi t g p).1 (hi t g p).2)):=by
 rcases p3 hp with rfl|rfl|rfl<;>rfl
theorem Z3a {g:List Gr}{p:Nat}(hp:p<3):(K4l g)[p]? = some (J1n (la g p)):=by
 rcases p3 hp with rfl|rfl|rfl<;>rfl
structure Ways (w0 w1:Int):Prop where
 a:w0=1∨w0=3
 b:w1=1∨w1 = -1∨w1=2∨w1 = -3
theorem K2c {l:Nat}(h:l≤2):lrank l=l:=by
 have:l=0∨l=1∨l=2:=by lia
 rcases this with rfl|rfl|rfl<;>rfl
theorem J5n {w0 w1:Int}(W:Ways w0 w1){a b:Bal}(ha:a.2≤2)(hb:b.2≤2) :
  (J0p w1 a b=true∧0<J1k w0 w1 a b∧J1k w0 w1 a b=J4g w0 w1 a b)∨(J0p w1 a b=false∧¬ 0<J1k w0 w1 a b∧J1k w0 w1 a b=if a=b then 0 else -(J4g w0 w1 a b)):=by
 obtain ⟨a1,a2⟩:=a;obtain ⟨b1,b2⟩:=b
 unfold J1k K0w J0p J7f J4g
 simp only at ha hb ⊢
 rw [K2c ha,K2c hb]
 obtain ⟨ha',hb'⟩:=W
 rcases Nat.lt_trichotomy a1 b1 with c|c|c
 ·have n1:¬ (a1:Int)=b1:=mt Int.ofNat.inj (Nat.ne_of_lt c)
  have n2:¬ (a1:Int) > b1:=by lia
  have n3:a1≠b1:=Nat.ne_of_lt c
  have n4:((a1,a2):Bal)≠(b1,b2):=by intro q;cases q;exact Nat.lt_irrefl _ c
  simp only [c,n1,n2,n3,n4,if_true,if_false,ne_eq,not_false_eq_true,decide_false]
  right
  refine ⟨trivial,?_,trivial⟩
  rcases ha' with rfl|rfl<;>decide
 ·subst c
  simp only [Nat.lt_irrefl,if_true,if_false,ne_eq,not_true_eq_false]
  rcases Nat.lt_trichotomy a2 b2 with d|d|d
  ·have n4:((a1,a2):Bal)≠(a1,b2):=by intro q;cases q;exact Nat.lt_irrefl _ d
   simp only [d,n4,if_true,if_false]
   rcases hb' with rfl|rfl|rfl|rfl
   ·right;refine ⟨?_,by decide,by decide⟩;rw [decide_eq_false_iff_not];lia
   ·left;refine ⟨?_,by decide,by decide⟩;rw [decide_eq_true_iff];lia
   ·right;refine ⟨?_,by decide,by decide⟩;rw [decide_eq_false_iff_not];lia
   ·left;refine ⟨?_,by decide,by decide⟩;rw [decide_eq_true_iff];lia
  ·subst d
   right
   simp
  ·have n3:¬ a2<b2:=by lia
   have n4:((a1,a2):Bal)≠(a1,b2):=by intro q;cases q;exact Nat.lt_irrefl _ d
   simp only [d,n3,n4,if_true,if_false]
   rcases hb' with rfl|rfl|rfl|rfl
   ·left;refine ⟨?_,by decide,by decide⟩;rw [decide_eq_true_iff];lia
   ·right;refine ⟨?_,by decide,by decide⟩;rw [decide_eq_false_iff_not];lia
   ·left;refine ⟨?_,by decide,by decide⟩;rw [decide_eq_true_iff];lia
   ·right;refine ⟨?_,by decide,by decide⟩;rw [decide_eq_false_iff_not];lia
 ·have n1:¬ (a1:Int)=b1:=mt Int.ofNat.inj (Nat.ne_of_gt c)
  have n2:(a1:Int) > b1:=Int.ofNat_le.2 c
  have n3:a1≠b1:=Nat.ne_of_gt c
  have n5:¬ a1<b1:=by lia
  simp only [c,n1,n2,n3,n5,if_true,if_false,ne_eq,not_false_eq_true,decide_true]
  left
  refine ⟨trivial,?_,trivial⟩
  rcases ha' with rfl|rfl<;>decide
theorem J2n {w0 w1:Int}(W:Ways w0 w1){a b:Bal}(ha:a.2≤2)(hb:b.2≤2):0<J1k w0 w1 a b↔J0p w1 a b=true:=by
 rcases J5n W ha hb with ⟨h1,h2,_⟩|⟨h1,h2,_⟩
 ·exact ⟨fun _=>h1,fun _=>h2⟩
 ·exact ⟨fun q=>absurd q h2,fun q=>by rw [h1] at q;cases q⟩
theorem K8b {w0 w1:Int}(W:Ways w0 w1){a b:Bal}(ha:a.2≤2)(hb:b.2≤2)(h:J0p w1 a b=true):J1k w0 w1 a b=J4g w0 w1 a b:=by
 rcases J5n W ha hb with ⟨h1,_,h2⟩|⟨h1,_,_⟩
 ·exact h2
 ·rw [h1] at h;cases h
theorem Z2h {w0 w1:Int}(W:Ways w0 w1){a b:Bal}(ha:a.2≤2)(hb:b.2≤2)(h:J0p w1 a b=false):J1k w0 w1 a b=if a=b then 0 else -(J4g w0 w1 a b):=by
 rcases J5n W ha hb with ⟨h1,_,_⟩|⟨_,_,h2⟩
 ·rw [h1] at h;cases h
 ·exact h2
theorem K9z {w0 w1:Int}(W:Ways w0 w1){p:Nat}{h b:Bal}{l:Option (Bal×Int)}{w:Option Int}(ha:h.2≤2)(hb:b.2≤2):K0o w0 w1 p h b l w=J4z p b w h l w0 w1:=by
 unfold K0o J4z
 by_cases o:J0p w1 h b=true
 ·rw [if_pos ((J2n W ha hb).mpr o),if_pos o,K8b W ha hb o]
  try rfl
 ·have o':J0p w1 h b=false:=by simpa using o
  rw [if_neg (fun q=>o ((J2n W ha hb).mp q)),if_neg o,Z2h W ha hb o']
  cases w with
  |none=>cases l<;>rfl
  |some v=>rfl
structure Cfg where
 ns:List Int
 v0:Int
 v1:Int
 kind:Int
 lot:Int
 w0:Int
 w1:Int
structure Ad where
 pr:Addr
 ac:Addr
 le:Addr
 l0:Addr
 l1:Addr
 he:Addr
 be:Addr
 ow:Addr
 o0:Addr
 o1:Addr
 gr:Addr
 ta:Addr
 re:Addr
 sa:Addr
 du:Addr
 ho:Addr
 hl:Addr
noncomputable abbrev FX (w:World) (c:Cfg) (a:Ad) (pm am lt0 lt1:List PyData) (H0 H1:List (Str×PyData)) (bs:List PyData) (bk:List (Str×PyData)) (ow0 ow1 gs tk rs sd du:List PyData) (t:Nat)
  (rest turn figure who place at_ ballot wish came told high last come same clerks:Option X:=none):List (Option X):=
 some (.d (.list (c.ns.map .int)))::some (L [.int c.v0,.int c.v1])::some (I c.kind)::some (I c.lot)::some (T [.int c.w0,.int c.w1])::some (J c.w0 c.w1)::some (.l a.pr pm)::some (.l a.ac am)::some (.ll a.le a.l0 lt0 a.l1 lt1) ::
 some (DX w [])::some (.lp a.he (DicP w H0) (DicP w H1))::some (.l a.be bs)::some (DX w bk)::some (.ll a.ow a.o0 ow0 a.o1 ow1)::some (.l a.gr gs)::some (.l a.ta tk)::some (.l a.re rs)::some (.l a.sa sd)::some (.l a.du du)::some (.it a.ho a.hl 16 t) ::
 rest::turn::figure::who::place::at_::ballot::wish::came::told::high::last::come::same::clerks::none::none::none::none::none::none::[]
noncomputable def fig (lot:Int) (t:Nat):Nat:=((lot.fdiv ((12 ^ t:Nat):Int)).fmod 12).toNat
theorem Z0i (lot:Int)(t:Nat):(lot.fdiv ((12 ^ t:Nat):Int)).fmod 12=(fig lot t:Int):=by
 unfold fig
 have:=Int.emod_nonneg (lot.fdiv ((12 ^ t:Nat):Int)) (by decide:(12:Int)≠0)
 rw [Int.fmod_eq_emod_of_nonneg _ (by decide:(0:Int)≤12)]
 exact Eq.symm (Int.toNat_of_nonneg this)
theorem Z0k (lot:Int)(t:Nat):fig lot t<12:=by
 have h:=Z0i lot t
 have:=Int.fmod_lt_of_pos (lot.fdiv ((12 ^ t:Nat):Int)) (by decide:(0:Int)<12)
 exact Int.ofNat_lt.1 (h▸this)
theorem Z2w (n k:Nat)(hk:0<k):((n:Int)).fmod (k:Int)=((n % k:Nat):Int):=by
 rw [Int.fmod_eq_emod_of_nonneg _ (Int.ofNat_nonneg _)];simp
theorem Z8d (n k:Nat):((n:Int)).fdiv (k:Int)=((n / k:Nat):Int):=by
 rw [Int.fdiv_eq_ediv_of_nonneg _ (Int.ofNat_nonneg _)];simp
theorem J8t (n:Nat)(hn:n<12)(k:Int)(hk:k=3∨k=6):Builtin.divisionGoesByPylong (n:Int) k=false:=by
 have:∀ m:Fin 12,Builtin.divisionGoesByPylong (m.val:Int) 3=false∧Builtin.divisionGoesByPylong (m.val:Int) 6=false:=by decide +kernel
 rcases hk with rfl|rfl
 ·exact (this ⟨n,hn⟩).1
 ·exact (this ⟨n,hn⟩).2
section
variable {w:World}{A:Around}{q:Str}{cd:Value}{L:Addr}{c:Cfg}{a:Ad}{pm am lt0 lt1:List PyData}{H0 H1:List (Str×PyData)}{bs:List PyData}{bk:List (Str×PyData)}{ow0 ow1 gs tk rs sd du:List PyData}{t:Nat}{R:Fl→List (Option X)→Prop}
 {r:Int}
theorem p1a (hA:Rm 8 A)(hfr:A.frames=some [J0d q cd L])(ht:t<16)(hl:(pk (fig c.lot t % 6 / 3) ow0 ow1).length≤1000)
  (k:GX w A (J0d q cd L) J1l (FX w c a pm am lt0 lt1 H0 H1 bs bk ow0 ow1 gs tk rs sd du (t+1) (some (I r)) (some (I t)) (some (I (fig c.lot t))) (some (I (fig c.lot t % 6 / 3:Nat))) (some (I (fig c.lot t % 3:Nat)))
   (some (I ((pk (fig c.lot t % 6 / 3) ow0 ow1).length - 1 - fig c.lot t / 6:Nat))) none none none none none none none none none) (J0y.drop 5) R) :
  GX w A (J0d q cd L) J1l (FX w c a pm am lt0 lt1 H0 H1 bs bk ow0 ow1 gs tk rs sd du t (some (I r))) J0y R:=by
 have hh:A.handled=none:=hA.hd
 have hf:=Z0k c.lot t
 apply J6u
 ·apply K5n
  ·apply Z4t (n:="hours") (c:=false)
   ·x_close
   ·x_close
   ·repeat' x_close
   ·exact ht
   ·repeat (first|exact Upd.hd|apply Upd.tail)
  ·repeat' x_close
  ·rfl
  ·exact ⟨rfl,rfl⟩
  ·rfl
 apply J0w
 ·apply J0h
  ·x_close
  ·refine VE.eq (x:=I ((c.lot.fdiv ((12 ^ t:Nat):Int)).fmod 12)) ?_ (by rw [Z0i])
   apply w_bin
   ·apply w_bin
    ·x_close
    ·apply w_bin
     ·x_close
     ·x_close
     ·exact Z2e (Nat.le_of_succ_le_succ ht)
    ·exact ⟨K1k (by have:(0:Nat)<12 ^ t:=Nat.pow_pos (by decide);exact mt Int.ofNat.inj (Nat.ne_of_gt this)) (by have:=hA.dp;exact Nat.le_of_add_le_add_right this) hfr rfl rfl rfl rfl⟩
   ·x_close
   ·exact J6b (by decide)
  ·repeat' x_close
 ·rfl
 apply J0w
 ·apply J0h
  ·x_close
  ·refine VE.eq (x:=I (((fig c.lot t:Int).fmod 6).fdiv 3)) ?_ (congrArg I ((congrArg (fun z=>Int.fdiv z 3) (Z2w _ 6 (by decide))).trans (Z8d _ 3)))
   apply w_bin
   ·apply w_bin
    ·x_close
    ·x_close
    ·exact J6b (by decide)
   ·x_close
   ·refine Z0n (by decide) ?_
    rw [show ((fig c.lot t:Int).fmod 6)=((fig c.lot t % 6:Nat):Int) from Z2w _ 6 (by decide)]
    exact J8t _ (Nat.lt_of_lt_of_le (Nat.mod_lt _ (Nat.succ_pos _)) (by decide)) 3 (.inl rfl)
  ·repeat' x_close
 ·rfl
 apply J0w
 ·apply J0h
  ·x_close
  ·refine VE.eq (x:=I ((fig c.lot t:Int).fmod 3)) ?_ (congrArg I (Z2w _ 3 (by decide)))
   apply w_bin
   ·x_close
   ·x_close
   ·exact J6b (by decide)
  ·repeat' x_close
 ·rfl
 apply J0w
 ·apply J0h
  ·x_close
  ·refine VE.eq (y:=I ((pk (fig c.lot t % 6 / 3) ow0 ow1).length - 1 - fig c.lot t / 6:Nat)) (x:=I (if ((pk (fig c.lot t % 6 / 3) ow0 ow1).length:Int) - 1 - ((fig c.lot t:Int).fdiv 6) > 0 then ((pk (fig c.lot t % 6 / 3) ow0 ow1).length:Int) - 1 - ((fig c.lot t:Int).fdiv 6) else 0)) ?_ (congrArg I (by
    rw [show ((fig c.lot t:Int).fdiv 6)=((fig c.lot t / 6:Nat):Int) from Z8d _ 6];split<;>omega))
   apply w_callb (id:="max")
   ·x_close
   ·x_close
   ·apply wg_cons
    ·x_close
    ·apply wl_cons
     ·x_close
     ·x_close
     ·apply wl_cons
      ·x_close
      ·apply w_bin
       ·apply w_bin
        ·apply w_callb (id:="len") (ys:=[.l (pk (fig c.lot t % 6 / 3) a.o0 a.o1) (pk (fig c.lot t % 6 / 3) ow0 ow1)])
         ·x_close
         ·x_close
         ·apply wg_cons
          ·x_close
          ·apply wl_cons
           ·x_close
           ·apply w_sub
            ·x_close
            ·x_close
            ·exact J2f (Nat.div_lt_of_lt_mul (Nat.mod_lt _ (by decide))) (Ok.mk rfl)
           ·exact wl_nil
         ·exact K0a .l hl
        ·x_close
        ·exact v_sub
       ·apply w_bin
        ·x_close
        ·x_close
        ·exact Z0n (by decide) (J8t _ hf 6 (.inr rfl))
       ·exact v_sub
      ·exact wl_nil
   ·exact V0l hh
  ·repeat' x_close
 ·rfl
 exact k
end
theorem Ways.abs {w0 w1:Int}(W:Ways w0 w1):w1.natAbs≤3:=by rcases W.b with h|h|h|h<;>rw [h]<;>decide
theorem J9p:∀ n:Fin 18,∀ l:Fin 3,Txt.slice (J0f (n.val+1) l.val) (some 1) none=J0f n.val l.val∧Txt.slice (J0f (n.val+1) l.val) none (some (-1))=K6f (n.val+1):=by decide +kernel
theorem Z1e {n l:Nat}(hn:n≤17)(hl:l≤2):Txt.slice (J0f (n+1) l) (some 1) none=J0f n l:=(J9p ⟨n,Nat.succ_le_succ hn⟩ ⟨l,Nat.succ_le_succ hl⟩).1
theorem Z7o {n l:Nat}(hn:n≤17)(hl:l≤2):Txt.slice (J0f (n+1) l) none (some (-1))=K6f (n+1):=(J9p ⟨n,Nat.succ_le_succ hn⟩ ⟨l,Nat.succ_le_succ hl⟩).2
section
variable {w:World}{A:Around}{q:Str}{cd:Value}{L:Addr}{c:Cfg}{a:Ad}{pm am lt0 lt1:List PyData}{H0 H1:List (Str×PyData)}{bs:List PyData}{bk:List (Str×PyData)}{ow0 ow1 tk rs sd du:List PyData}{t t1 who place at_ fg:Nat}{R:Fl→List (Option X)→Prop}
 {r:Int} {b:Bal} {wi:Option Int} {g:List Gr}
theorem p1b (hA:Rm 8 A)(hfr:A.frames=some [J0d q cd L])(hw:who<2)(hp:place<3)(hat:at_<1000)(h1:(pk who lt0 lt1)[at_]? = some (.tuple [J3i b,wD wi]))(h2:(pk who ow0 ow1)[at_]? = some (.tuple [bD b,wD wi]))
  (hb:(1≤b.1∧b.1≤17)∧1≤b.2∧b.2≤2) (W:Ways c.w0 c.w1) (hh1:(hi c.w1 g place).1≤17) (hh2:(hi c.w1 g place).2≤2) (hh3:J0p c.w1 (hi c.w1 g place) b=true→1≤(hi c.w1 g place).1∧1≤(hi c.w1 g place).2)
  (hla:∀ z∈la g place,z.1.1≤100∧z.1.2≤2) (hpm:pm=J5p c.w1 g) (ham:am=K4l g) (hsd:sd.length≤1000) (hdu:du.length≤1000)
  (k:GX w A (J0d q cd L) J1l (FX w c a (if J0p c.w1 (hi c.w1 g place) b=true then pm else pm.set place (J3i b)) (if J0p c.w1 (hi c.w1 g place) b=true then am else setA wi b place am) lt0 lt1 H0 H1 bs bk ow0 ow1 ((gd g).map Ent.d) tk rs
   (sd++[J4z place b wi (hi c.w1 g place) (la g place) c.w0 c.w1]) (du++[J4z place b wi (hi c.w1 g place) (la g place) c.w0 c.w1]) t1 (some (I r)) (some (I t)) (some (I fg)) (some (I who)) (some (I place)) (some (I at_))
   (some (.d (bD b))) (some (.d (wD wi))) (some (S (J0f (b.1+1) b.2))) (some (.d (J4z place b wi (hi c.w1 g place) (la g place) c.w0 c.w1))) (some (.d (bD (hi c.w1 g place)))) (some (.d (J0m (la g place)))) none none none) (J0y.drop 13) R) :
  GX w A (J0d q cd L) J1l (FX w c a pm am lt0 lt1 H0 H1 bs bk ow0 ow1 ((gd g).map Ent.d) tk rs sd du t1 (some (I r)) (some (I t)) (some (I fg)) (some (I who)) (some (I place)) (some (I at_))) (J0y.drop 5) R:=by
 have hh:A.handled=none:=hA.hd
 apply J0w
 ·apply Z6n (d:=.tuple [bD b,wD wi])
  ·rfl
  ·rfl
  ·rfl
  ·apply w_sub
   ·apply w_sub
    ·x_close
    ·x_close
    ·exact J2f hw (Ok.mk rfl)
   ·x_close
   ·exact J1c .l (⟨Int.ofNat_nonneg _,Int.ofNat_lt.2 (Nat.lt_of_lt_of_le hat (by decide))⟩) (by simpa using h2) (Ok.mk rfl)
  ·apply J2m hh
   ·repeat' x_close
   ·repeat' x_close
 ·rfl
 apply J0w
 ·apply J0h
  ·x_close
  ·apply w_callf (a:=220) (ys:=[S (J0f b.1 b.2),I ((t:Int)+c.kind)])
   ·x_close
   ·x_close
   ·apply wg_cons
    ·x_close
    ·apply wl_cons
     ·x_close
     ·apply w_sub (x:=T [J3i b,wD wi])
      ·apply w_sub
       ·apply w_sub
        ·x_close
        ·x_close
        ·exact J2f hw (Ok.mk rfl)
       ·x_close
       ·exact J1c .l (⟨Int.ofNat_nonneg _,Int.ofNat_lt.2 (Nat.lt_of_lt_of_le hat (by decide))⟩) (by simpa using h1) (Ok.mk rfl)
      ·x_close
      ·exact v_tget (d:=J3i b) (Ok.mk rfl) (Ok.mk rfl)
     ·apply wl_cons
      ·x_close
      ·apply w_bin
       ·x_close
       ·x_close
       ·exact v_add
      ·exact wl_nil
   ·x_close
   ·exact K5v (hA.less (by decide)) hb.1 hb.2
  ·repeat' x_close
 ·rfl
 apply J0w
 ·apply J0g
  ·refine VT.eq (b:=!decide (J0f (b.1+1) b.2=Str.ofString "."++J0f b.1 b.2)) ?_ (by rw [K1a];simp)
   apply wt_cmp
   ·x_close
   ·x_close
   ·apply w_bin
    ·x_close
    ·apply w_callf (a:=248) (ys:=[.d (bD b)])
     ·x_close
     ·x_close
     ·repeat' x_close
     ·x_close
     ·exact J4o (hA.less (by decide)) (lTr hb.1.2 (by decide)) hb.2.2
    ·exact J2c (by rw [J1a];have:(Str.ofString ".").length=1:=K0h;lia)
   ·exact v_nes
  ·exact J0c
 ·rfl
 have hc:MW w A (.ref 241) (frL [J0d q cd L]) (J2w c.w0 c.w1 a.pr a.ac pm am place b wi ((t:Int)+c.kind)) (.d (J4z place b wi (hi c.w1 g place) (la g place) c.w0 c.w1))
   (J2w c.w0 c.w1 a.pr a.ac (if J0p c.w1 (hi c.w1 g place) b=true then pm else pm.set place (J3i b)) (if J0p c.w1 (hi c.w1 g place) b=true then am else setA wi b place am) place b wi ((t:Int)+c.kind)):=by
  have:=K6q (w:=w) (A:=A) (outer:=[J0d q cd L]) (w0:=c.w0) (w1:=c.w1) (turn:=(t:Int)+c.kind) (pa:=a.pr) (aa:=a.ac) (ps:=pm) (as:=am) (p:=place) (hi:=hi c.w1 g place) (b:=b) (wish:=wi) (acc:=la g place) (hA.less (by decide)) hfr
   (fun e he=>by rw [List.mem_singleton.mp he];exact ⟨(by rw [show (J0d q cd L).scope.kind = .function from rfl];decide),L,rfl⟩) (by rw [hpm];exact K7q hp) (by rw [ham];exact Z3a hp) (lTr hp (by decide)) (by rw [hpm];exact lBt rfl) (by rw [ham];exact lBt rfl) hh2 hb.2.2
   (fun hv=>by
    refine o01 (hh3 ((J2n W hh2 hb.2.2).mp hv)) fun z1 z2=>?_
    exact ⟨⟨z1,hh1⟩,z2,hh2⟩) Z3
  rw [K9z W hh2 hb.2.2] at this
  by_cases o:J0p c.w1 (hi c.w1 g place) b=true
  ·rw [if_pos ((J2n W hh2 hb.2.2).mpr o)] at this
   rw [if_pos o,if_pos o];exact this
  ·rw [if_neg (fun z=>o ((J2n W hh2 hb.2.2).mp z))] at this
   rw [if_neg o,if_neg o];exact this
 apply J6u
 ·apply K5n
  ·apply J7m (g:=241) (hc:=hc)
   ·x_close
   ·x_close
   ·apply wg_cons
    ·x_close
    ·apply wl_cons
     ·x_close
     ·x_close
     apply wl_cons
     ·x_close
     ·x_close
     apply wl_cons
     ·x_close
     ·x_close
     apply wl_cons
     ·x_close
     ·x_close
     apply wl_cons
     ·x_close
     ·refine VE.eq (x:=S (Txt.slice (J0f (b.1+1) b.2) (some 1) none)) ?_ (congrArg S (Z1e hb.1.2 hb.2.2))
      apply w_sub
      ·x_close
      ·apply w_slice
       ·apply wq_some;x_close
       ·exact wq_none
      ·exact J7u (by rw [J1a];exact lTr (Nat.succ_le_succ (Nat.succ_le_succ hb.1.2)) (by decide)) (Ok.mk fun _ _=>⟨_,by with_unfolding_all rfl⟩)
     apply wl_cons
     ·x_close
     ·apply w_sub (x:=T [J3i b,wD wi])
      ·apply w_sub
       ·apply w_sub
        ·x_close
        ·x_close
        ·exact J2f hw (Ok.mk rfl)
       ·x_close
       ·exact J1c .l (⟨Int.ofNat_nonneg _,Int.ofNat_lt.2 (Nat.lt_of_lt_of_le hat (by decide))⟩) (by simpa using h1) (Ok.mk rfl)
      ·x_close
      ·exact v_tget (d:=wD wi) (Ok.mk rfl) (Ok.mk rfl)
     apply wl_cons
     ·x_close
     ·apply w_bin
      ·x_close
      ·x_close
      ·exact v_add
     ·exact wl_nil
   ·x_close
   ·iterate 6 apply Rp.keep
    apply Rp.put
    ·exact .tail _ (.head _)
    apply Rp.put
    ·exact .tail _ (.tail _ (.head _))
    repeat (first|apply Rp.keep|apply Rp.none|exact Rp.nil)
   ·intro y hy;exact hy
   ·intro h;exact h
   ·intro y hy
    have:y=L:=mSg hy
    rw [this];exact .head _
  ·repeat' x_close
  ·rfl
  ·exact ⟨rfl,rfl⟩
  ·rfl
 apply J0w
 ·apply J0h
  ·x_close
  ·apply w_callf (a:=269) (ys:=[.l a.gr ((gd g).map Ent.d),I place,I c.w1])
   ·x_close
   ·x_close
   ·apply wg_cons
    ·x_close
    apply wl_cons
    ·x_close
    ·x_close
    apply wl_cons
    ·x_close
    ·x_close
    apply wl_cons
    ·x_close
    ·apply w_sub
     ·x_close
     ·x_close
     ·exact v_tget (d:=.int c.w1) (Ok.mk rfl) (Ok.mk rfl)
    ·exact wl_nil
   ·x_close
   ·exact Z3h (hA.less (by decide)) W.abs .l rfl
  ·repeat' x_close
 ·rfl
 apply J0w
 ·apply J0h
  ·x_close
  ·refine VE.eq (x:=.d (J1z (gd g) place)) ?_ (congrArg X.d (K5b g place))
   apply w_callf (a:=276) (ys:=[.l a.gr ((gd g).map Ent.d),I place])
   ·x_close
   ·x_close
   ·repeat' x_close
   ·x_close
   ·exact Z2v (hA.less (by decide)) .l rfl
  ·repeat' x_close
 ·rfl
 apply J6u
 ·apply J4p (n:="said") (c:=false) (a:=a.sa) (x:=.l a.sa sd) (x':=.l a.sa (sd++[J4z place b wi (hi c.w1 g place) (la g place) c.w0 c.w1])) (id:="list.append")
  ·repeat (first|exact Upd.hd|apply Upd.tail)
  ·rfl
  ·exact .head _
  ·x_close
  ·x_close
  ·x_close
  ·repeat' x_close
  ·exact K4v PySem.F.slot_list_append PySem.F.type_list_append
  ·exact J1b hsd
  ·exact ⟨rfl,rfl⟩
  ·x_close
  ·rfl
  ·rfl
 apply J6u
 ·apply J4p (n:="due") (c:=false) (a:=a.du) (x:=.l a.du du) (x':=.l a.du (du++[J4z place b wi (hi c.w1 g place) (la g place) c.w0 c.w1])) (id:="list.append")
  ·repeat (first|exact Upd.hd|apply Upd.tail)
  ·rfl
  ·exact .head _
  ·x_close
  ·x_close
  ·x_close
  ·apply wg_cons
   ·x_close
   apply wl_cons
   ·x_close
   ·apply w_callf (a:=283) (ys:=[I place,.d (bD b),.d (wD wi),.d (bD (hi c.w1 g place)),.d (J0m (la g place)),T [.int c.w0,.int c.w1]])
    ·x_close
    ·x_close
    ·repeat' x_close
    ·x_close
    ·exact Z5p (hA.less (by decide)) ⟨lTr hb.1.2 (by decide),hb.2.2⟩ ⟨lTr hh1 (by decide),hh2⟩ hla W.abs
   ·exact wl_nil
  ·exact K4v PySem.F.slot_list_append PySem.F.type_list_append
  ·exact J1b hdu
  ·exact ⟨rfl,rfl⟩
  ·x_close
  ·rfl
  ·rfl
 exact k
end
theorem Rp.all (zs:List X):∀ xs,∃ ks,Rp zs xs xs [] ks
 |[]=>⟨_,.nil⟩
 |.none::xs=>let ⟨ks,h⟩:=Rp.all zs xs;⟨ks,.none h⟩
 |.some _::xs=>let ⟨_,h⟩:=Rp.all zs xs;⟨_,.keep h⟩
section
variable {w:World}{A:Around}{env:Env}{ns:List (Str×Bool)}{xs xs':List (Option X)}{x y z:X}{e l r e1 e2:Expr}{pos:Pos}{es:List Expr}{ys:List X}{b:Bool}
theorem K1n {f:Expr}{g:Addr}{F:List Addr}(hn:Ok (nAt f=true))(hf:VE w A env ns xs f (.v (.ref g)))(ha:VG w A env ns xs es ys)(hk:Ok (∀ P,J5 (KF P) g=true))(hc:MQ w A (.ref g) F ys z)
  (hsub:(adrX ys).Sublist (adrs xs)) (hF:∀ b∈F,b∈frs env):ME w A env ns xs (.Call f es [] pos) z xs:=by
 refine ⟨fun own s Fm C=>?_⟩
 rw [J0o pos env hn.h]
 refine wBn (J0 (hf.h own s Fm.f C) fun v s1 hv k1=>?_)
 have hv:v = .ref g:=hv
 subst hv
 have F1:=Fm.keeps (Kee.kps k1)
 have C1:=C.keeps (Kee.kps k1)
 skip
 refine o21 (J1w C1.glh.K (hk.h _)) fun o fd ho hd=>?_
 skip
 refine callWith_function (o:=o) (fd:=fd) (wMo (ha.h.2 _ own s1 F1.f C1 pos) (fun x s2 z=>?_) fun _ _ z=>z.elim)
 refine o02 z fun z1 z2 k2=>?_;clear z
 rw [z1]
 refine ⟨⟨Kee.kps k2 _ _ ho,hd⟩,?_⟩
 have F2:=F1.keeps (Kee.kps k2)
 have C2:=C1.keeps (Kee.kps k2)
 have frsOwn:=F2.f.frs_own
 refine wMo (hc.h own s2 x.pos C2 (fun b hb=>⟨frsOwn b (hF b hb),let ⟨o,e,q⟩:=F2.f.notF b (hF b hb);⟨o,e,q.2⟩⟩) (fun b hb=>⟨(F2.mine b (hsub.subset hb)).1,fun m=>(F2.mine b (hsub.subset hb)).2 (hF b m)⟩) (F2.nd.sublist hsub) z2) (fun u s3 q=>?_) fun _ _ q=>q.elim
 refine ab fun Q q9=>?_
 refine o02 q fun q1 q2 q3=>?_;clear q
 refine o10 (Rp.all ys xs) fun ks rp=>?_
 refine o01 (F2.slt q2 hF (fun b hb=>frsOwn b (hF b hb)) rp (fun _ hb=>hb) q3) fun F3 ch=>?_
 refine q9 ?_
 exact ⟨q1,F3,q2.cx (fun b hb=>frsOwn b (hF b hb)) (fun b hb=>nomatch hb) C2,(ChM.of_keeps (Kee.trans k1 k2)).trans ch⟩
theorem Z6e {op:CmpOp}(hm:Ok (behindInMarks op r=false))(hl:ME w A env ns xs l x xs')(hr:VE w A env ns xs' r y)(p:V2 w A (compareOp op) x y (B b)):MT w A env ns xs (.Compare l [op] [r] pos) b xs':=by
 refine ⟨fun own s F C=>wpAny_isTrue_Compare1 (wMo (hl.h own s F C) (fun a s1 q=>?_) fun _ _ q=>q) hm.h⟩
 skip
 refine o03 q fun ha F1 C1 c1=>?_;clear q
 skip
 refine J0 (hr.h own s1 F1.f C1) fun c s2 hc k2=>?_
 have C2:=C1.keeps (Kee.kps k2)
 refine J0 (p.h own s2 [a,c] C2 (.cons (ha.keeps (Kee.kps k2)) (.cons hc .nil))) fun v s3 hv k3=>?_
 obtain rfl:=Rd.inv_bool hv
 have k23:=Kee.trans k2 k3
 exact wpAny_truthy_bool ⟨rfl,F1.keeps (Kee.kps k23),C1.keeps (Kee.kps k23),c1.trans (.of_keeps k23)⟩
theorem V0c {rest:List Expr}(h1:MT w A env ns xs e1 true xs'):MT w A env ns xs (.BoolOp .Or (e1::rest) pos) true xs':=by
 refine ⟨fun own s F C=>wpAny_isTrue_BoolOp (wpAny_allTrue_Or_cons (wMo (h1.h own s F C) (fun v s1 q=>?_) fun _ _ q=>q))⟩
 refine o03 q fun e9a F1 C1 k1=>?_;subst e9a;clear q
 exact ⟨rfl,F1,C1,k1⟩
end
theorem K5r {who:Nat}(h:who<2):(seqIndex? (who:Int) (Str.ofString "pq").length).bind ((Str.ofString "pq").cps[·]?)=some (112+who):=by
 refine J1t h ?_ ?_<;>decide +kernel
theorem J7h {p:Nat}(h:p<3):(seqIndex? (p:Int) (Str.ofString "abc").length).bind ((Str.ofString "abc").cps[·]?)=some (97+p):=by
 refine p3_c h ?_ ?_ ?_<;>decide +kernel
theorem Z4l {k:Nat}(h:k<1000):(decide ((k:Int) < -(2 ^ 63:Int)) || decide ((k:Int) ≥ 2 ^ 63))=false:=by
 have h1:decide ((k:Int) < -(2 ^ 63:Int))=false:=decide_eq_false (Int.not_lt.2 (Int.le_trans (by decide) (Int.ofNat_nonneg _)))
 have h2:decide ((k:Int) ≥ 2 ^ 63)=false:=decide_eq_false (Int.not_le.2 (Int.ofNat_lt.2 (Nat.lt_of_lt_of_le h (by decide))))
 rw [h1,h2];rfl
theorem J8j {n:Nat}(h:n≤16){b:Int}:IntMulOk (n:Int) b:=by
 have:∀ m:Fin 17,Builtin.Int.intBits (m.val:Int)≤64:=by decide +kernel
 exact IntMulOk.of_left (this ⟨n,Nat.succ_le_succ h⟩)
noncomputable abbrev K3k:PyData:=.str (Str.ofString "yes")
noncomputable def tkN (place:Nat) (b:Bal) (wi:Option Int) (tk:List PyData):List PyData:=match wi with
 |none=>tk
 |some v=>tk++[.tuple [.int place,J3i b,.int v]]
section
variable {w:World}{A:Around}{q:Str}{cd:Value}{L:Addr}{c:Cfg}{a:Ad}{pm am lt0 lt1:List PyData}{H0 H1:List (Str×PyData)}{bs:List PyData}{bk bk':List (Str×PyData)}{ow0 ow1 gs tk rs sd du:List PyData}{t t1 who place at_ fg:Nat}{R:Fl→List (Option X)→Prop}
 {r:Int} {b h:Bal} {wi:Option Int} {l:Option (Bal×Int)} {came told:PyData} {x1 x2 x3 x4:Option X}
theorem p2no {s:Str}{cc:Int}{rr:List PyData}(hne:s≠Str.ofString "yes")(htold:told = .tuple (.str s::.int cc::rr))(hlen:rr.length≤900)
  (k:GX w A (J0d q cd L) J1l (FX w c a pm am lt0 lt1 H0 H1 bs bk ow0 ow1 gs tk rs sd du t1 (some (I r)) (some (I t)) (some (I fg)) (some (I who)) (some (I place)) (some (I at_)) (some (.d (bD b))) (some (.d (wD wi))) (some (.d came)) (some (.d told)) (some (.d (bD h))) (some (.d (J0m l)))) (J0y.drop 14) R) :
  GX w A (J0d q cd L) J1l (FX w c a pm am lt0 lt1 H0 H1 bs bk ow0 ow1 gs tk rs sd du t1 (some (I r)) (some (I t)) (some (I fg)) (some (I who)) (some (I place)) (some (I at_)) (some (.d (bD b))) (some (.d (wD wi))) (some (.d came)) (some (.d told)) (some (.d (bD h))) (some (.d (J0m l)))) (J0y.drop 13) R:=by
 subst htold
 apply J0w
 ·apply J0g
  ·refine VT.eq (b:=decide (s=Str.ofString "yes")) ?_ (decide_eq_false hne)
   apply wt_cmp
   ·x_close
   ·apply w_sub
    ·x_close
    ·x_close
    ·exact J7t (j:=0) (d:=.str s) (Ok.mk rfl) (Ok.mk (by simp [seqIndex?];exact Int.ofNat_lt.2 (Nat.succ_pos (_+1)))) (Ok.mk rfl) (Ok.mk rfl)
   ·x_close
   ·exact v_eqs
  ·exact J0c
 ·rfl
 exact k
theorem Z9g {pr:Option (Bal×Int)}{vd:Int}(hA:Rm 8 A)(hfr:A.frames=some [J0d q cd L])(hw:who<2)(hp:place<3)(htold:told = .tuple [K3k,J1v pr,.int vd])(hpr:wi=none∧True∨∃ v,wi=some v∧pr=some (b,v))
  (hm:Mrg bk (pqS who++J2j place) (.tuple ([1,((16 - t1:Nat):Int),((16 - t1:Nat):Int) * ((16 - t1:Nat):Int)].map .int)) bk') (nd:(bk.map (·.1)).Nodup) (hbk:bk.length≤500) (hrs:rs.length≤1000) (hgs:gs.length≤1000) (htk:tk.length≤1000)
  (k:GX w A (J0d q cd L) J1l (FX w c a pm am lt0 lt1 H0 H1 bs bk' ow0 ow1 (gs++[(Gr.e ⟨place,b,wi,l⟩).d]) (tkN place b wi tk) (rs++[.int r]) sd du t1 (some (I r)) (some (I t)) (some (I fg)) (some (I who)) (some (I place)) (some (I at_)) (some (.d (bD b))) (some (.d (wD wi))) (some (.d came)) (some (.d told)) (some (.d (bD h))) (some (.d (J0m l))) (some (I (16 - t1:Nat)))) (J0y.drop 14) R) :
  GX w A (J0d q cd L) J1l (FX w c a pm am lt0 lt1 H0 H1 bs bk ow0 ow1 gs tk rs sd du t1 (some (I r)) (some (I t)) (some (I fg)) (some (I who)) (some (I place)) (some (I at_)) (some (.d (bD b))) (some (.d (wD wi))) (some (.d came)) (some (.d told)) (some (.d (bD h))) (some (.d (J0m l)))) (J0y.drop 13) R:=by
 subst htold
 apply J2g (xs':=(FX w c a pm am lt0 lt1 H0 H1 bs bk' ow0 ow1 (gs++[(Gr.e ⟨place,b,wi,l⟩).d]) (tkN place b wi tk) (rs++[.int r]) sd du t1 (some (I r)) (some (I t)) (some (I fg)) (some (I who)) (some (I place)) (some (I at_)) (some (.d (bD b))) (some (.d (wD wi))) (some (.d came)) (some (.d (.tuple [K3k,J1v pr,.int vd]))) (some (.d (bD h))) (some (.d (J0m l))) (some (I (16 - t1:Nat)))))
 ·apply J6 (b:=true)
  ·apply MT.of
   refine VT.eq (b:=decide (Str.ofString "yes" = Str.ofString "yes")) ?_ (decide_eq_true rfl)
   apply wt_cmp
   ·x_close
   ·apply w_sub
    ·x_close
    ·x_close
    ·exact v_tget (d:=K3k) (Ok.mk rfl) (Ok.mk rfl)
   ·x_close
   ·exact v_eqs
  ·intro _
   apply J6u
   ·apply K5n
    ·apply K1n (hc:=K4e (d:=99) (m:=16) (k:=t1) (a:=a.ho) (l:=a.hl) (hA.less (by decide)) hfr (fun e he=>by rw [List.mem_singleton.mp he];exact ⟨(by rw [show (J0d q cd L).scope.kind = .function from rfl];decide),L,rfl⟩))
     ·x_close
     ·x_close
     ·repeat' x_close
     ·x_close
     ·show List.Sublist [a.ho,a.hl] ([a.pr,a.ac,a.le,a.l0,a.l1,a.he,a.be,a.ow,a.o0,a.o1,a.gr,a.ta,a.re,a.sa,a.du]++[a.ho,a.hl])
      exact List.sublist_append_right _ _
     ·intro y hy
      have:y=L:=mSg hy
      rw [this];exact .head _
    ·repeat' x_close
    ·rfl
    ·exact ⟨rfl,rfl⟩
    ·rfl
   apply J2g
   ·apply Z5a
    ·apply Z1a (g:=130) (ys:=[DX w bk,DX w [(pqS who++J2j place,.tuple ([1,((16 - t1:Nat):Int),((16 - t1:Nat):Int) * ((16 - t1:Nat):Int)].map .int))]]) (z:=DX w bk')
     ·x_close
     ·x_close
     ·apply wg_cons
      ·x_close
      apply wl_cons
      ·x_close
      ·x_close
      apply wl_cons
      ·x_close
      ·apply K4f
       ·apply w_bin
        ·apply w_sub
         ·x_close
         ·x_close
         ·exact J3b (n:=112+who) (Ok.mk (Z4l (lTr hw (by decide)))) (K5r hw) (Ok.mk rfl)
        ·apply w_sub
         ·x_close
         ·x_close
         ·exact J3b (n:=97+place) (Ok.mk (Z4l (lTr hp (by decide)))) (J7h hp) (Ok.mk rfl)
        ·exact J2c (by show (1:Nat)+1≤1000;decide)
       ·apply w_tuple (ys:=[I 1,I ((16 - t1:Nat):Int),I (((16 - t1:Nat):Int) * ((16 - t1:Nat):Int))])
        ·apply wl_cons
         ·x_close
         ·x_close
         apply wl_cons
         ·x_close
         ·x_close
         apply wl_cons
         ·x_close
         ·apply w_bin
          ·x_close
          ·x_close
          ·exact v_mul (J8j (Nat.sub_le _ _))
         ·exact wl_nil
        ·exact .cons (.cons (.cons .nil))
        ·x_close
      ·exact wl_nil
     ·x_close
     ·exact Z1c (hA.less (by decide)) nd hbk hm
    ·repeat' x_close
    ·rfl
    ·exact ⟨rfl,rfl⟩
    ·rfl
   apply J6u
   ·apply J4p (n:="rests") (c:=true) (a:=a.re) (x:=.l a.re rs) (x':=.l a.re (rs++[.int r])) (id:="list.append")
    ·repeat (first|exact Upd.hd|apply Upd.tail)
    ·rfl
    ·exact .head _
    ·x_close
    ·x_close
    ·x_close
    ·repeat' x_close
    ·exact K4v PySem.F.slot_list_append PySem.F.type_list_append
    ·exact J1b hrs
    ·exact ⟨rfl,rfl⟩
    ·x_close
    ·rfl
    ·rfl
   cases wi with
   |none=>
    apply J6u
    ·apply J4p (n:="granted") (c:=false) (a:=a.gr) (x:=.l a.gr gs) (x':=.l a.gr (gs++[(Gr.e ⟨place,b,none,l⟩).d])) (id:="list.append")
     ·repeat (first|exact Upd.hd|apply Upd.tail)
     ·rfl
     ·exact .head _
     ·x_close
     ·x_close
     ·x_close
     ·apply wg_cons
      ·x_close
      apply wl_cons
      ·x_close
      ·apply J9n
       ·refine VT.eq (b:=isN (wD none)) ?_ rfl
        apply wt_cmp
        ·x_close
        ·x_close
        ·x_close
        ·exact v_isN
       ·refine VE.eq (x:=T [.int place,.str (Str.ofString "ask"),bD b,J0m l]) ?_ rfl
        repeat' x_close
      ·exact wl_nil
     ·exact K4v PySem.F.slot_list_append PySem.F.type_list_append
     ·exact J1b hgs
     ·exact ⟨rfl,rfl⟩
     ·x_close
     ·rfl
     ·rfl
    apply J0w
    ·apply J0g
     ·refine VT.eq (b:=!isN (wD none)) ?_ rfl
      apply wt_cmp
      ·x_close
      ·x_close
      ·x_close
      ·exact v_isnotN
     ·exact J0c
    ·rfl
    exact J2r ⟨rfl,rfl⟩
   |some v=>
    apply J6u
    ·apply J4p (n:="granted") (c:=false) (a:=a.gr) (x:=.l a.gr gs) (x':=.l a.gr (gs++[(Gr.e ⟨place,b,some v,l⟩).d])) (id:="list.append")
     ·repeat (first|exact Upd.hd|apply Upd.tail)
     ·rfl
     ·exact .head _
     ·x_close
     ·x_close
     ·x_close
     ·apply wg_cons
      ·x_close
      apply wl_cons
      ·x_close
      ·apply K0c
       ·refine VT.eq (b:=isN (wD (some v))) ?_ rfl
        apply wt_cmp
        ·x_close
        ·x_close
        ·x_close
        ·exact v_isN
       ·refine VE.eq (x:=T [.int place,.str (Str.ofString "give"),bD b,wD (some v)]) ?_ rfl
        repeat' x_close
      ·exact wl_nil
     ·exact K4v PySem.F.slot_list_append PySem.F.type_list_append
     ·exact J1b hgs
     ·exact ⟨rfl,rfl⟩
     ·x_close
     ·rfl
     ·rfl
    obtain rfl:pr=some (b,v):=by
     rcases hpr with ⟨h,_⟩|⟨v',h,h'⟩
     ·cases h
     ·cases h;exact h'
    apply K0p
    ·apply J6 (b:=true)
     ·apply MT.of
      refine VT.eq (b:=!isN (wD (some v))) ?_ rfl
      apply wt_cmp
      ·x_close
      ·x_close
      ·x_close
      ·exact v_isnotN
     ·intro _
      apply J6u
      ·apply J4p (n:="taken") (c:=false) (a:=a.ta) (x:=.l a.ta tk) (x':=.l a.ta (tk++[.tuple [.int place,J3i b,.int v]])) (id:="list.append")
       ·repeat (first|exact Upd.hd|apply Upd.tail)
       ·rfl
       ·exact .head _
       ·x_close
       ·x_close
       ·x_close
       ·apply wg_cons
        ·x_close
        apply wl_cons
        ·x_close
        ·refine VE.eq (x:=T ([.int place]++[J3i b,.int v])) ?_ rfl
         apply w_bin
         ·apply w_tuple (ys:=[I place])
          ·repeat' x_close
          ·repeat' x_close
          ·x_close
         ·apply w_sub
          ·x_close
          ·x_close
          ·exact v_tget (d:=J1v (some (b,v))) (Ok.mk rfl) (Ok.mk rfl)
         ·exact Z7q (ds:=[.int place]) (es:=[J3i b,.int v]) (by simp) (by simp) (lBt rfl)
        ·exact wl_nil
       ·exact K4v PySem.F.slot_list_append PySem.F.type_list_append
       ·exact J1b htk
       ·exact ⟨rfl,rfl⟩
       ·x_close
       ·rfl
       ·rfl
      exact J2r ⟨rfl,rfl⟩
     ·intro h;cases h
    ·rintro x ⟨_,rfl⟩;exact J2r ⟨rfl,rfl⟩
  ·intro h;cases h
 exact k
end
theorem J9q {α β:Type}(f:α→β)(who:Nat)(x y:α):f (pk who x y)=pk who (f x) (f y):=by unfold pk;split<;>rfl
section
variable {w:World}{A:Around}{q:Str}{cd:Value}{L:Addr}{c:Cfg}{a:Ad}{pm am lt0 lt1:List PyData}{H0 H1:List (Str×PyData)}{bs:List PyData}{bk:List (Str×PyData)}{ow0 ow1 gs tk rs sd du:List PyData}{t t1 who place at_ fg:Nat}{R:Fl→List (Option X)→Prop}
 {r:Int} {b h:Bal} {wi:Option Int} {l:Option (Bal×Int)} {came told:PyData} {x1:Option X}
theorem Z2x {env:Env}{ns:List (Str×Bool)}{xs:List (Option X)}{e:Expr}{ss rest:List Stmt}{pos p2:Pos}(ht:VT w A env ns xs e true)(r:R .cont xs):GX w A env ns xs (.If e (.Continue p2::ss) [] pos::rest) R:=by
 refine J3n (R':=fun f x=>f = .cont∧x=xs) (J6 (MT.of ht) (fun _=>J3n (R':=fun f x=>f = .cont∧x=xs) ?_ (fun x z=>by cases z.1) fun f x _ z=>z) fun z=>(nomatch z)) (fun x z=>by cases z.1) fun f x _ z=>?_
 ·exact ⟨fun own s x=>wpAny_Continue (xi3 own .cont xs ⟨⟨rfl,rfl⟩,trivial,x,.refl⟩)⟩
 ·rw [z.1,z.2];exact r
theorem Z2u (hat:at_≤1000)(hl:(pk who ow0 ow1).length≤1000)(hw:who<2){p1 p2 p3 p4 p5 p6 p7 p8 p9:Pos}{k:Nat}{v:Bool}(hv:decide (at_+1<(pk who ow0 ow1).length)=v) :
  VT w A (J0d q cd L) J1l (FX w c a pm am lt0 lt1 H0 H1 bs bk ow0 ow1 gs tk rs sd du t1 (some (I r)) (some (I t)) (some (I fg)) (some (I who)) (some (I place)) (some (I at_)) (some (.d (bD b))) (some (.d (wD wi))) (some (.d came)) (some (.d told)) (some (.d (bD h))) (some (.d (J0m l))) x1)
   (.Compare (.BinOp (.Name (Str.ofString "at") p1) .Add (.Constant (.int 1) k p2) p3) [.Lt] [.Call (.Name (Str.ofString "len") p4) [.Subscript (.Name (Str.ofString "own") p5) (.Name (Str.ofString "who") p6) p7] [] p8] p9) v:=by
 refine VT.eq (b:=decide ((at_:Int)+1<((pk who ow0 ow1).length:Int))) ?_ (by rw [← hv];congr 1;simp only [eq_iff_iff];exact Int.ofNat_lt (n:=_+1))
 apply wt_cmp
 ·x_close
 ·apply w_bin
  ·x_close
  ·x_close
  ·exact v_add
 ·apply w_callb (id:="len") (ys:=[.l (pk who a.o0 a.o1) (pk who ow0 ow1)])
  ·x_close
  ·x_close
  ·apply wg_cons
   ·x_close
   apply wl_cons
   ·x_close
   ·apply w_sub
    ·x_close
    ·x_close
    ·exact J2f hw (Ok.mk rfl)
   ·exact wl_nil
  ·exact K0a .l hl
 ·exact v_lt
theorem Z0p (hat:at_≤1000)(hl:(pk who ow0 ow1).length≤1000)(hw:who<2)(hlt:at_+1<(pk who ow0 ow1).length)
  (k:R .cont (FX w c a pm am lt0 lt1 H0 H1 bs bk ow0 ow1 gs tk rs sd du t1 (some (I r)) (some (I t)) (some (I fg)) (some (I who)) (some (I place)) (some (I at_)) (some (.d (bD b))) (some (.d (wD wi))) (some (.d came)) (some (.d told)) (some (.d (bD h))) (some (.d (J0m l))) x1)) :
  GX w A (J0d q cd L) J1l (FX w c a pm am lt0 lt1 H0 H1 bs bk ow0 ow1 gs tk rs sd du t1 (some (I r)) (some (I t)) (some (I fg)) (some (I who)) (some (I place)) (some (I at_)) (some (.d (bD b))) (some (.d (wD wi))) (some (.d came)) (some (.d told)) (some (.d (bD h))) (some (.d (J0m l))) x1) (J0y.drop 14) R:=
 Z2x (Z2u hat hl hw (decide_eq_true hlt)) k
theorem Z9z {s:Str}{cc:Int}{rr:List PyData}(hA:Rm 8 A)(hat:at_≤1000)(hl:(pk who ow0 ow1).length≤900)(hlt0:(pk who lt0 lt1).length≤900)(hw:who<2)(hlt:¬ at_+1<(pk who ow0 ow1).length)(hne:s≠Str.ofString "yes")
  (htold:told = .tuple (.str s::.int cc::J3i (h.1+1,h.2)::rr)) (hlen:rr.length≤900) (hh:h.1≤17∧h.2≤2) (hbs:who<bs.length) (hbs2:bs.length≤1000)
  (k:R .cont (FX w c a pm am (pk who (pk who lt0 lt1++[.tuple [J3i (h.1+1,who+1),.none]]) lt0) (pk who lt1 (pk who lt0 lt1++[.tuple [J3i (h.1+1,who+1),.none]])) (pk who [] H0) (pk who H1 []) (bs.set who .none) bk
   (pk who (pk who ow0 ow1++[.tuple [bD (h.1+1,who+1),.none]]) ow0) (pk who ow1 (pk who ow0 ow1++[.tuple [bD (h.1+1,who+1),.none]])) gs tk rs sd du t1 (some (I r)) (some (I t)) (some (I fg)) (some (I who)) (some (I place)) (some (I at_)) (some (.d (bD b))) (some (.d (wD wi))) (some (.d came)) (some (.d told)) (some (.d (bD h))) (some (.d (J0m l))) none none none)) :
  GX w A (J0d q cd L) J1l (FX w c a pm am lt0 lt1 H0 H1 bs bk ow0 ow1 gs tk rs sd du t1 (some (I r)) (some (I t)) (some (I fg)) (some (I who)) (some (I place)) (some (I at_)) (some (.d (bD b))) (some (.d (wD wi))) (some (.d came)) (some (.d told)) (some (.d (bD h))) (some (.d (J0m l)))) (J0y.drop 14) R:=by
 subst htold
 apply J0w
 ·apply J0g
  ·exact Z2u hat (lTr hl (by decide)) hw (decide_eq_false hlt)
  ·exact J0c
 ·rfl
 apply J3n (R':=fun f x=>f = .cont∧x=(FX w c a pm am (pk who (pk who lt0 lt1++[.tuple [J3i (h.1+1,who+1),.none]]) lt0) (pk who lt1 (pk who lt0 lt1++[.tuple [J3i (h.1+1,who+1),.none]])) (pk who [] H0) (pk who H1 []) (bs.set who .none) bk
   (pk who (pk who ow0 ow1++[.tuple [bD (h.1+1,who+1),.none]]) ow0) (pk who ow1 (pk who ow0 ow1++[.tuple [bD (h.1+1,who+1),.none]])) gs tk rs sd du t1 (some (I r)) (some (I t)) (some (I fg)) (some (I who)) (some (I place)) (some (I at_)) (some (.d (bD b))) (some (.d (wD wi))) (some (.d came)) (some (.d (.tuple (.str s::.int cc::J3i (h.1+1,h.2)::rr)))) (some (.d (bD h))) (some (.d (J0m l))) none none none))
 ·apply J6 (b:=true)
  ·apply MT.of
   refine VT.eq (b:=!decide (s=Str.ofString "yes")) ?_ (by rw [decide_eq_false hne];rfl)
   apply wt_cmp
   ·x_close
   ·apply w_sub
    ·x_close
    ·x_close
    ·exact J7t (j:=0) (d:=.str s) (Ok.mk rfl) (Ok.mk (by simp [seqIndex?];exact Int.ofNat_lt.2 (Nat.succ_pos (_+1)))) (Ok.mk rfl) (Ok.mk rfl)
   ·x_close
   ·exact v_nes
  ·intro _
   apply J6u
   ·apply J4f (n:="letters") (c:=false) (x:=.ll a.le a.l0 lt0 a.l1 lt1) (x':=.ll a.le a.l0 (pk who (pk who lt0 lt1++[.tuple [J3i (h.1+1,who+1),.none]]) lt0) a.l1 (pk who lt1 (pk who lt0 lt1++[.tuple [J3i (h.1+1,who+1),.none]])))
     (b:=pk who a.l0 a.l1) (ds:=pk who lt0 lt1) (ds':=pk who lt0 lt1++[.tuple [J3i (h.1+1,who+1),.none]]) (id:="list.append")
    ·repeat (first|exact Upd.hd|apply Upd.tail)
    ·rfl
    ·refine J1t hw ?_ ?_
     ·exact .tail _ (.head _)
     ·exact .tail _ (.tail _ (.head _))
    ·x_close
    ·x_close
    ·x_close
    ·apply wg_cons
     ·x_close
     apply wl_cons
     ·x_close
     ·refine VE.eq (x:=T [.str (K6f (h.1+1)++(⟨#[112+who]⟩:Str)),.none]) ?_ (by
       have e:J1 (who+1)=112+who:=by refine J1t hw ?_ ?_<;>rfl
       rw [← e,K1u])
      apply w_tuple (ys:=[S (K6f (h.1+1)++(⟨#[112+who]⟩:Str)),N])
      ·apply wl_cons
       ·x_close
       ·apply w_bin
        ·refine VE.eq (x:=S (Txt.slice (J0f (h.1+1) h.2) none (some (-1)))) ?_ (congrArg S (Z7o hh.1 hh.2))
         apply w_sub
         ·apply w_sub (z:=.d (J3i (h.1+1,h.2)))
          ·x_close
          ·x_close
          ·exact J7t (j:=2) (d:=J3i (h.1+1,h.2)) (Ok.mk rfl) (Ok.mk (by simp [seqIndex?];exact Int.ofNat_lt.2 (Nat.succ_lt_succ (Nat.succ_lt_succ (Nat.succ_pos _))))) (Ok.mk rfl) (Ok.mk rfl)
         ·apply w_slice
          ·exact wq_none
          ·apply wq_some
           repeat' x_close
         ·exact J7u (by rw [J1a];exact lTr (Nat.succ_le_succ (Nat.succ_le_succ hh.1)) (by decide)) (Ok.mk fun _ _=>⟨_,by with_unfolding_all rfl⟩)
        ·apply w_sub
         ·x_close
         ·x_close
         ·exact J3b (n:=112+who) (Ok.mk (Z4l (lTr hw (by decide)))) (K5r hw) (Ok.mk rfl)
        ·exact J2c (by rw [K2r];show h.1+1+1≤1000;exact lTr (Nat.succ_le_succ (Nat.succ_le_succ hh.1)) (by decide))
       apply wl_cons
       ·x_close
       ·x_close
       ·exact wl_nil
      ·exact .cons (.cons .nil)
      ·x_close
     ·exact wl_nil
    ·exact K4v PySem.F.slot_list_append PySem.F.type_list_append
    ·exact J1b (lTr hlt0 (by decide))
    ·exact fun own h1 h2 v z1 z2 z3 z4 z5=>K4r hw z1 z2 z3 z4 z5
    ·exact ⟨rfl,rfl⟩
    ·apply w_sub
     ·x_close
     ·x_close
     ·exact J2f hw (Ok.mk rfl)
    ·rfl
    ·rfl
   apply J6u
   ·apply J4f (n:="own") (c:=false) (x:=.ll a.ow a.o0 ow0 a.o1 ow1) (x':=.ll a.ow a.o0 (pk who (pk who ow0 ow1++[.tuple [bD (h.1+1,who+1),.none]]) ow0) a.o1 (pk who ow1 (pk who ow0 ow1++[.tuple [bD (h.1+1,who+1),.none]])))
     (b:=pk who a.o0 a.o1) (ds:=pk who ow0 ow1) (ds':=pk who ow0 ow1++[.tuple [bD (h.1+1,who+1),.none]]) (id:="list.append")
    ·repeat (first|exact Upd.hd|apply Upd.tail)
    ·rfl
    ·refine J1t hw ?_ ?_
     ·exact .tail _ (.head _)
     ·exact .tail _ (.tail _ (.head _))
    ·x_close
    ·x_close
    ·x_close
    ·apply wg_cons
     ·x_close
     apply wl_cons
     ·x_close
     ·refine VE.eq (x:=T [.tuple [.int ((h.1:Int)+1),.int ((who:Int)+1)],.none]) ?_ rfl
      apply w_tuple (ys:=[T [.int ((h.1:Int)+1),.int ((who:Int)+1)],N])
      ·apply wl_cons
       ·x_close
       ·apply w_tuple (ys:=[I ((h.1:Int)+1),I ((who:Int)+1)])
        ·apply wl_cons
         ·x_close
         ·apply w_bin
          ·apply w_sub
           ·x_close
           ·x_close
           ·exact v_tget (d:=.int h.1) (Ok.mk rfl) (Ok.mk rfl)
          ·x_close
          ·exact v_add
         apply wl_cons
         ·x_close
         ·apply w_bin
          ·x_close
          ·x_close
          ·exact v_add
         ·exact wl_nil
        ·exact .cons (.cons .nil)
        ·x_close
       apply wl_cons
       ·x_close
       ·x_close
       ·exact wl_nil
      ·exact .cons (.cons .nil)
      ·x_close
     ·exact wl_nil
    ·exact K4v PySem.F.slot_list_append PySem.F.type_list_append
    ·exact J1b (lTr hl (by decide))
    ·exact fun own h1 h2 v z1 z2 z3 z4 z5=>K4r hw z1 z2 z3 z4 z5
    ·exact ⟨rfl,rfl⟩
    ·apply w_sub
     ·x_close
     ·x_close
     ·exact J2f hw (Ok.mk rfl)
    ·rfl
    ·rfl
   apply J2g
   ·apply J8b (n:="heard") (c:=false) (a:=a.he) (P:=DicP w H0) (Q:=DicP w H1) (P':=DicP w []) hw
    ·repeat (first|exact Upd.hd|apply Upd.tail)
    ·apply Z6s;x_close
    ·x_close
    ·x_close
    ·exact ⟨rfl,rfl⟩
    ·rfl
   apply J6u
   ·apply K2o (n:="best") (c:=false) (a:=a.be) (ds:=bs) (i:=who) (d:=.none)
    ·repeat (first|exact Upd.hd|apply Upd.tail)
    ·x_close
    ·x_close
    ·x_close
    ·exact hbs
    ·exact hbs2
    ·exact ⟨rfl,rfl⟩
    ·rfl
   refine J3n (R':=fun f x=>f = .cont∧x=_) ⟨fun own s x=>wpAny_Continue (xi3 own .cont _ ⟨⟨rfl,rfl⟩,trivial,x,.refl⟩)⟩ (fun x z=>by cases z.1) fun f x _ z=>⟨z.1,z.2.trans ?_⟩
   refine J1t hw ?_ ?_<;>rfl
  ·intro z;cases z
 ·rintro x ⟨z,_⟩;cases z
 ·rintro f x _ ⟨rfl,rfl⟩;exact k
end
noncomputable def K5c (b:Bal) (wi:Option Int):PyData→Option PyData
 |.tuple [p,k,bb,t]=>if Spec.same (.tuple [k,bb]) (.tuple [.str (J1h wi.isSome),bD b])=true then some (.tuple [p,k,bb,t]) else none
 |_=>none
theorem Z0c {a b:Bool}:J1h a=J1h b↔a=b:=by
 cases a<;>cases b<;>simp [J1h,J7c,Ne.symm J7c]
theorem K4i {g1 g2:Bool}{b1 b2:Bal}:Spec.same (.tuple [.str (J1h g1),bD b1]) (.tuple [.str (J1h g2),bD b2])=(decide (b1=b2) && (g1 == g2)):=by
 have e:Spec.same (.tuple [.str (J1h g1),bD b1]) (.tuple [.str (J1h g2),bD b2])=(Spec.same (.str (J1h g1)) (.str (J1h g2)) && (Spec.same (bD b1) (bD b2) && true)):=rfl
 rw [e,J5w,J9t]
 by_cases h1:g1=g2<;>by_cases h2:b1=b2<;>simp [h1,h2,Z0c]
theorem K0d {b:Bal}{wi:Option Int}(e:Gr):K5c b wi e.e.d=if (decide (e.b=b) && (e.w.isSome == wi.isSome))=true then some e.e.d else none:=by
 show (if Spec.same (.tuple [.str (J1h e.w.isSome),bD e.b]) (.tuple [.str (J1h wi.isSome),bD b])=true then some e.e.d else none)=_
 rw [K4i]
theorem J8m {b:Bal}{wi:Option Int}:∀ {g:List Gr},((gd g).map Ent.d).filterMap (K5c b wi)=(gd (same g (b,wi))).map Ent.d
 |[]=>rfl
 |e::g=>by
  show (e.e.d::(gd g).map Ent.d).filterMap (K5c b wi)=_
  rw [List.filterMap_cons,K0d,J8m]
  unfold same
  rw [List.filter_cons]
  by_cases h:(decide (e.b=b) && (e.w.isSome == wi.isSome))=true
  ·rw [if_pos h,if_pos h];rfl
  ·rw [if_neg h,if_neg h]
noncomputable def Z8x:PyData→Option PyData
 |.tuple (.int p::_)=>some (.str (J2j p.toNat))
 |_=>none
theorem K1p:∀ {g:List Gr},((gd g).map Ent.d).filterMap Z8x=(g.map fun e=>J2j e.p).map .str
 |[]=>rfl
 |e::g=>by
  show (e.e.d::(gd g).map Ent.d).filterMap Z8x=_
  rw [List.filterMap_cons,K1p];rfl
noncomputable def qfE (e:Ent):Option (Bal×Int):=match e.t with
 |.tuple [.tuple [.int a,.int b],.int v]=>some ((a.toNat,b.toNat),v)
 |_=>none
theorem Z4a (e:Gr)(h:e.w=none):qfE e.e=e.l∧e.e.t=J0m e.l:=by
 obtain ⟨p,b,w,l⟩:=e
 obtain rfl:w=none:=h
 cases l<;>exact ⟨rfl,rfl⟩
theorem Z2n (e:Gr):J1i e.e.t:=by
 obtain ⟨p,b,w,l⟩:=e
 cases w with
 |none=>
  cases l with
  |none=>exact ⟨rfl,lBt rfl⟩
  |some q=>exact ⟨rfl,lBt rfl⟩
 |some v=>exact ⟨rfl,lBt rfl⟩
section
variable {w:World}{A:Around}{q:Str}{cd:Value}{L:Addr}{c:Cfg}{a:Ad}{pm am lt0 lt1:List PyData}{H0 H1:List (Str×PyData)}{bs:List PyData}{bk:List (Str×PyData)}{ow0 ow1 tk rs sd du:List PyData}{t t1 who place at_ fg cm:Nat}{R:Fl→List (Option X)→Prop}
 {r:Int} {b h:Bal} {wi:Option Int} {l pr:Option (Bal×Int)} {vd:Int} {came told:PyData} {g:List Gr}
theorem p4a (hA:Rm 8 A)(hat:at_≤1000)(hl:(pk who ow0 ow1).length≤900)(hw:who<2)(hlt:¬ at_+1<(pk who ow0 ow1).length)(htold:told = .tuple [K3k,J1v pr,.int vd])(hg:g.length≤500)(hgp:∀ e∈g,e.p<3)(W:Ways c.w0 c.w1)
  (k:GX w A (J0d q cd L) J1l (FX w c a pm am lt0 lt1 H0 H1 bs bk (pk who (pk who ow0 ow1++onV (gd (same g (b,wi))) qfE place b wi (pk who c.v0 c.v1) c.w1) ow0) (pk who ow1 (pk who ow0 ow1++onV (gd (same g (b,wi))) qfE place b wi (pk who c.v0 c.v1) c.w1))
   ((gd g).map Ent.d) tk rs sd du t1 (some (I r)) (some (I t)) (some (I fg)) (some (I who)) (some (I place)) (some (I at_)) (some (.d (bD b))) (some (.d (wD wi))) (some (.d came)) (some (.d told)) (some (.d (bD h))) (some (.d (J0m l))) (some (I cm))
   (some (PL ((gd (same g (b,wi))).map Ent.d))) (some (PL ((clk g (b,wi)).map .str)))) (J0y.drop 19) R) :
  GX w A (J0d q cd L) J1l (FX w c a pm am lt0 lt1 H0 H1 bs bk ow0 ow1 ((gd g).map Ent.d) tk rs sd du t1 (some (I r)) (some (I t)) (some (I fg)) (some (I who)) (some (I place)) (some (I at_)) (some (.d (bD b))) (some (.d (wD wi))) (some (.d came)) (some (.d told)) (some (.d (bD h))) (some (.d (J0m l))) (some (I cm))) (J0y.drop 14) R:=by
 have hh:A.handled=none:=hA.hd
 subst htold
 apply J0w
 ·apply J0g
  ·exact Z2u hat (lTr hl (by decide)) hw (decide_eq_false hlt)
  ·exact J0c
 ·rfl
 apply J0w
 ·apply J0g
  ·refine VT.eq (b:=!decide (Str.ofString "yes" = Str.ofString "yes")) ?_ (by rw [decide_eq_true rfl];rfl)
   apply wt_cmp
   ·x_close
   ·apply w_sub
    ·x_close
    ·x_close
    ·exact v_tget (d:=K3k) (Ok.mk rfl) (Ok.mk rfl)
   ·x_close
   ·exact v_nes
  ·exact J0c
 ·rfl
 refine J0w (xs':=FX w c a pm am lt0 lt1 H0 H1 bs bk ow0 ow1 ((gd g).map Ent.d) tk rs sd du t1 (some (I r)) (some (I t)) (some (I fg)) (some (I who)) (some (I place)) (some (I at_)) (some (.d (bD b))) (some (.d (wD wi))) (some (.d came)) (some (.d (.tuple [K3k,J1v pr,.int vd]))) (some (.d (bD h))) (some (.d (J0m l))) (some (I cm)) (some (PL ((gd (same g (b,wi))).map Ent.d)))) ?_ rfl ?_
 ·rw [← J8m]
  refine J7q (cl:=[("wish",L+3),("ballot",L+2)]) (cs:=["ballot","wish"]) (ys:=[.d (bD b),.d (wD wi)]) (x:=.l a.gr ((gd g).map Ent.d)) (ds:=(gd g).map Ent.d) (K5c b wi) ?_ rfl ?_ hh ?_ (J0r .l) ?_ (Ok.mk rfl) (by rw [List.length_map];unfold gd;rw [List.length_map];exact lTr hg (by decide)) (fun C' d hd=>?_) (fun C' d z hd hz=>?_) (Ok.mk fun _=>rfl)
  ·exact ⟨rfl,by decide,rfl,by decide,by decide,fun n hn=>by
    simp only [List.mem_cons,List.not_mem_nil,or_false] at hn
    rcases hn with rfl|rfl<;>rfl,fun p hp=>by
    simp only [List.mem_cons,List.not_mem_nil,or_false] at hp
    rcases hp with rfl|rfl<;>rfl,(by show [Str.ofString "wish",Str.ofString "ballot"].Nodup;decide),fun n hn=>by
    simp only [List.mem_cons,List.not_mem_nil,or_false] at hn
    rcases hn with rfl|rfl
    ·exact ⟨L+2,rfl⟩
    ·exact ⟨L+3,rfl⟩,by decide⟩
  ·repeat' x_close
  ·x_close
  ·refine .cons ?_ (.cons ?_ .nil)
   ·repeat (first|(apply At.hd;exact Ok.mk (by with_reducible rfl))|apply At.tail)
   ·repeat (first|(apply At.hd;exact Ok.mk (by with_reducible rfl))|apply At.tail)
  ·refine o11 (mMp hd) fun e0 he0 e9a=>?_;subst e9a
   refine o11 (mMp he0) fun e _ e9a=>?_;subst e9a
   have e1:(K5c b wi e.e.d).isSome=Spec.same (.tuple [.str (J1h e.w.isSome),bD e.b]) (.tuple [.str (J1h wi.isSome),bD b]):=by
    rw [K4i,K0d];split<;>simp_all
   rw [e1]
   show VI _ _ _ [("entry",false),("ballot",true),("wish",true)] [some (T [.int e.p,.str (J1h e.w.isSome),bD e.b,e.e.t]),some (.d (bD b)),some (.d (wD wi))] _ _
   apply wi_one
   apply wt_cmp
   ·x_close
   ·apply w_sub
    ·x_close
    ·repeat' x_close
    ·exact v_tslice (lo:=some 1) (hi:=some 3) (ds:=[.int e.p,.str (J1h e.w.isSome),bD e.b,e.e.t]) (Ok.mk rfl) (Ok.mk rfl) (Ok.mk fun _ _=>⟨_,by with_unfolding_all rfl⟩)
   ·apply w_tuple (ys:=[S (J1h wi.isSome),.d (bD b)])
    ·apply wl_cons
     ·x_close
     ·cases wi with
      |none=>
       apply J9n
       ·refine VT.eq (b:=isN (wD none)) ?_ rfl
        apply wt_cmp
        ·x_close
        ·x_close
        ·x_close
        ·exact v_isN
       ·exact w_str
      |some v=>
       apply K0c
       ·refine VT.eq (b:=isN (wD (some v))) ?_ rfl
        apply wt_cmp
        ·x_close
        ·x_close
        ·x_close
        ·exact v_isN
       ·exact w_str
     ·apply wl_cons
      ·x_close
      ·x_close
      ·exact wl_nil
    ·exact .cons (.cons .nil)
    ·x_close
   ·refine Z0g .d .d ⟨?_,lBt rfl⟩ ⟨?_,lBt rfl⟩ (hA.less (by decide))
    ·show (PyData.strOk _ && (_ && true))=true
     rw [J7s];rfl
    ·show (PyData.strOk _ && (_ && true))=true
     rw [J7s];rfl
  ·refine o11 (mMp hd) fun e0 he0 e9a=>?_;subst e9a
   refine o11 (mMp he0) fun e _ e9a=>?_;subst e9a
   have e1:z=e.e.d:=by
    rw [K0d] at hz
    split at hz
    ·cases hz;rfl
    ·cases hz
   subst e1
   show VE _ _ _ [("entry",false),("ballot",true),("wish",true)] [some (.d e.e.d),some (.d (bD b)),some (.d (wD wi))] _ _
   x_close
 have hS:∀ e∈same g (b,wi),e∈g:=fun e he=>(List.mem_filter.mp he).1
 have lS:(same g (b,wi)).length≤500:=lTr (List.length_filter_le ..) hg
 have lZ:(onV (gd (same g (b,wi))) qfE place b wi (pk who c.v0 c.v1) c.w1).length≤1:=by
  unfold onV;split
  ·exact Nat.zero_le _
  ·split<;>exact Nat.le_refl _
 apply J6u
 ·apply J4f (n:="own") (c:=false) (x:=.ll a.ow a.o0 ow0 a.o1 ow1) (x':=.ll a.ow a.o0 (pk who (pk who ow0 ow1++onV (gd (same g (b,wi))) qfE place b wi (pk who c.v0 c.v1) c.w1) ow0) a.o1 (pk who ow1 (pk who ow0 ow1++onV (gd (same g (b,wi))) qfE place b wi (pk who c.v0 c.v1) c.w1)))
   (b:=pk who a.o0 a.o1) (ds:=pk who ow0 ow1) (ds':=pk who ow0 ow1++onV (gd (same g (b,wi))) qfE place b wi (pk who c.v0 c.v1) c.w1) (id:="list.extend")
  ·repeat (first|exact Upd.hd|apply Upd.tail)
  ·rfl
  ·refine J1t hw ?_ ?_
   ·exact .tail _ (.head _)
   ·exact .tail _ (.tail _ (.head _))
  ·x_close
  ·x_close
  ·x_close
  ·apply wg_cons
   ·x_close
   apply wl_cons
   ·x_close
   ·apply w_callf (a:=288) (z:=PL (onV (gd (same g (b,wi))) qfE place b wi (pk who c.v0 c.v1) c.w1)) (ys:=[PL ((gd (same g (b,wi))).map Ent.d),I place,.d (bD b),.d (wD wi),I (pk who c.v0 c.v1),I c.w1])
    ·x_close
    ·x_close
    ·apply wg_cons
     ·x_close
     apply wl_cons
     ·x_close
     ·x_close
     apply wl_cons
     ·x_close
     ·x_close
     apply wl_cons
     ·x_close
     ·x_close
     apply wl_cons
     ·x_close
     ·x_close
     apply wl_cons
     ·x_close
     ·apply w_sub
      ·x_close
      ·x_close
      ·exact J1c (ds:=[.int c.v0,.int c.v1]) (d:=.int (pk who c.v0 c.v1)) .d (⟨Int.ofNat_nonneg _,Int.ofNat_lt.2 (Nat.lt_of_lt_of_le hw (by decide))⟩) (by refine J1t hw ?_ ?_<;>rfl) (Ok.mk rfl)
     apply wl_cons
     ·x_close
     ·apply w_sub
      ·x_close
      ·x_close
      ·exact v_tget (d:=.int c.w1) (Ok.mk rfl) (Ok.mk rfl)
     ·exact wl_nil
    ·x_close
    ·refine K6t (qf:=qfE) (hA.less (by decide)) W.abs .p rfl (by unfold gd;rw [List.length_map];exact lTr lS (by decide)) (fun e he=>?_) (fun hwi e he=>?_)
     ·refine o11 (mMp he) fun e _ e9a=>?_;subst e9a
      exact Z2n e
     ·refine o11 (mMp he) fun e he' e9a=>?_;subst e9a
      have hn:e.w=none:=by
       have:=(List.mem_filter.mp he').2
       rw [hwi] at this
       simp only [Option.isSome_none,Bool.and_eq_true,beq_iff_eq] at this
       exact Option.isNone_iff_eq_none.mp (by cases q:e.w<;>simp_all)
      rw [(Z4a e hn).1];exact (Z4a e hn).2
   ·exact wl_nil
  ·exact K4v PySem.F.slot_list_extend PySem.F.type_list_extend
  ·exact K5f (lTr (Nat.add_le_add hl lZ) (by decide))
  ·exact fun own h1 h2 v z1 z2 z3 z4 z5=>K4r hw z1 z2 z3 z4 z5
  ·exact ⟨rfl,rfl⟩
  ·apply w_sub
   ·x_close
   ·x_close
   ·exact J2f hw (Ok.mk rfl)
  ·rfl
  ·rfl
 apply J0w
 ·apply J0h
  ·x_close
  ·refine VE.eq (x:=PL (((gd (same g (b,wi))).map Ent.d).filterMap Z8x)) (y:=PL ((clk g (b,wi)).map .str)) ?_ (congrArg PL K1p)
   refine J2t (cl:=[]) (cs:=[]) (ys:=[]) (x:=PL ((gd (same g (b,wi))).map Ent.d)) (ds:=(gd (same g (b,wi))).map Ent.d) Z8x ?_ hh ?_ (J0r .p) .nil (Ok.mk rfl) (by rw [List.length_map];unfold gd;rw [List.length_map];exact lTr lS (by decide)) (fun C' d hd=>?_) (fun C' d z hd hz=>?_) (Ok.mk fun _=>rfl)
   ·exact ⟨rfl,by decide,rfl,by decide,by decide,fun n hn=>(nomatch hn),fun p hp=>(nomatch hp),.nil,fun n hn=>(nomatch hn),by decide⟩
   ·x_close
   ·refine o11 (mMp hd) fun e0 he0 e9a=>?_;subst e9a
    refine o11 (mMp he0) fun e _ e9a=>?_;subst e9a
    exact wi_nil
   ·refine o11 (mMp hd) fun e0 he0 e9a=>?_;subst e9a
    refine o11 (mMp he0) fun e he e9a=>?_;subst e9a
    have e1:z = .str (J2j e.p):=by cases hz;rfl
    subst e1
    show VE _ _ _ [("entry",false)] [some (T [.int e.p,.str (J1h e.w.isSome),bD e.b,e.e.t])] _ _
    apply w_sub
    ·x_close
    ·apply w_sub
     ·x_close
     ·x_close
     ·exact v_tget (d:=.int e.p) (Ok.mk rfl) (Ok.mk rfl)
    ·have hp:=hgp e (hS e he)
     exact J3b (n:=97+e.p) (Ok.mk (Z4l (lTr hp (by decide)))) (J7h hp) (Ok.mk rfl)
  ·repeat' x_close
 ·rfl
 exact k
end
theorem J7d {α:Type}{l:List α}{i:Nat}{x:α}(h:l[i]? = some x):l.set i x=l:=by
 apply List.ext_getElem?
 intro j
 rw [List.getElem?_set]
 split
 ·rename_i e;subst e
  have:=(List.getElem?_eq_some_iff.mp h).1
  rw [if_pos this,h]
 ·rfl
theorem VA.eq {op w A env ns xs es b c}(h:VA op w A env ns xs es b)(q:b=c):VA op w A env ns xs es c:=q▸h
section
variable {w:World}{A:Around}{q:Str}{cd:Value}{L:Addr}{c:Cfg}{a:Ad}{pm am lt0 lt1:List PyData}{H0 H1:List (Str×PyData)}{bs:List PyData}{bk:List (Str×PyData)}{ow0 ow1 gs tk rs sd du sm:List PyData}{t t1 who place at_ fg cm:Nat}{R:Fl→List (Option X)→Prop}
 {r:Int} {b h:Bal} {wi:Option Int} {l pr:Option (Bal×Int)} {vd:Int} {came told:PyData} {ss:List Str}
theorem p5a (hA:Rm 8 A)(hw:who<2)(hp:place<3)(hm:Mrg (pk who H0 H1) (J2j place) (.int 1) (J1d (fun k=>.int (ss.count k)) ss))(nd:((pk who H0 H1).map (·.1)).Nodup)(hH:(pk who H0 H1).length≤500)(hss:ss.length≤500)
  (k:GX w A (J0d q cd L) J1l (FX w c a pm am lt0 lt1 (pk who (J1d (fun k=>.int (ss.count k)) ss) H0) (pk who H1 (J1d (fun k=>.int (ss.count k)) ss)) bs bk ow0 ow1 gs tk rs sd du t1 (some (I r)) (some (I t)) (some (I fg)) (some (I who)) (some (I place)) (some (I at_)) (some (.d (bD b))) (some (.d (wD wi))) (some (.d came)) (some (.d told)) (some (.d (bD h))) (some (.d (J0m l))) (some (I cm))
   (some (PL sm)) (some (PL (ss.map .str)))) (J0y.drop 21) R) :
  GX w A (J0d q cd L) J1l (FX w c a pm am lt0 lt1 H0 H1 bs bk ow0 ow1 gs tk rs sd du t1 (some (I r)) (some (I t)) (some (I fg)) (some (I who)) (some (I place)) (some (I at_)) (some (.d (bD b))) (some (.d (wD wi))) (some (.d came)) (some (.d told)) (some (.d (bD h))) (some (.d (J0m l))) (some (I cm)) (some (PL sm)) (some (PL (ss.map .str)))) (J0y.drop 19) R:=by
 have hh:A.handled=none:=hA.hd
 refine J2g (xs':=FX w c a pm am lt0 lt1 (pk who (J1d (fun k=>.int (ss.count k)) ss) H0) (pk who H1 (J1d (fun k=>.int (ss.count k)) ss)) bs bk ow0 ow1 gs tk rs sd du t1 (some (I r)) (some (I t)) (some (I fg)) (some (I who)) (some (I place)) (some (I at_)) (some (.d (bD b))) (some (.d (wD wi))) (some (.d came)) (some (.d told)) (some (.d (bD h))) (some (.d (J0m l))) (some (I cm))
   (some (PL sm)) (some (PL (ss.map .str)))) ?_ ?_
 ·apply J8b (n:="heard") (c:=false) (a:=a.he) (P:=DicP w H0) (Q:=DicP w H1) (P':=DicP w (J1d (fun k=>.int (ss.count k)) ss)) hw
  ·repeat (first|exact Upd.hd|apply Upd.tail)
  ·apply Z1a (g:=130) (ys:=[DX w (pk who H0 H1),DX w [(J2j place,.int 1)]]) (z:=DX w (J1d (fun k=>.int (ss.count k)) ss))
   ·x_close
   ·x_close
   ·apply wg_cons
    ·x_close
    apply wl_cons
    ·x_close
    ·refine VE.eq (x:=.p (pk who (DicP w H0) (DicP w H1))) ?_ (congrArg X.p (J9q (DicP w) who H0 H1).symm)
     apply w_sub
     ·x_close
     ·x_close
     ·exact K0e hw (Ok.mk rfl)
    apply wl_cons
    ·x_close
    ·apply K4f
     ·apply w_sub
      ·x_close
      ·x_close
      ·exact J3b (n:=97+place) (Ok.mk (Z4l (lTr hp (by decide)))) (J7h hp) (Ok.mk rfl)
     ·x_close
    ·exact wl_nil
   ·x_close
   ·exact Z1c (hA.less (by decide)) nd hH hm
  ·x_close
  ·x_close
  ·exact ⟨rfl,by refine J1t hw ?_ ?_<;>rfl⟩
  ·rfl
 apply J0w
 ·apply J0g
  ·apply wt_cmp
   ·x_close
   ·refine VE.eq (x:=.p (pk who (DicP w (pk who (J1d (fun k=>.int (ss.count k)) ss) H0)) (DicP w (pk who H1 (J1d (fun k=>.int (ss.count k)) ss))))) (y:=DX w (((dd ss).map fun k=>(k,(ss.count k:Int))).map fun p=>(p.1,.int p.2))) ?_ (by
     refine J1t hw ?_ ?_<;>(show DX w (J1d _ ss)=_;unfold J1d;rw [List.map_map];rfl))
    apply w_sub
    ·x_close
    ·x_close
    ·exact K0e hw (Ok.mk rfl)
   ·refine VE.eq (x:=DX w (J1d (fun k=>.int (ss.count k)) ss)) (y:=DX w (((dd ss).map fun k=>(k,(ss.count k:Int))).map fun p=>(p.1,.int p.2))) ?_ (by unfold J1d;rw [List.map_map];rfl)
    refine Z3z (cl:=[("clerks",L+4)]) ?_ hh ?_ (lTr hss (by decide)) (fun _=>rfl) (fun _=>rfl) rfl (fun _=>rfl) (fun _=>rfl)
    ·exact ⟨rfl,by decide,rfl,by decide,by decide,fun n hn=>by obtain rfl:=mSg hn;rfl,fun p hp=>by obtain rfl:=mSg hp;rfl,(by show [Str.ofString "clerks"].Nodup;decide),fun n hn=>⟨L+4,by obtain rfl:=mSg hn;rfl⟩,by decide⟩
    ·repeat (first|(apply At.hd;exact Ok.mk (by with_reducible rfl))|apply At.tail)
   ·exact Z8k (hA.less (by decide)) (by rw [List.map_map];simpa [Function.comp_def] using J4 ss)
  ·exact J0c
 ·rfl
 exact k
theorem J5f {bs':List PyData}{p1 p2 p3:Pos}{k:Nat}:VE w A (J0d q cd L) J1l (FX w c a pm am lt0 lt1 H0 H1 bs' bk ow0 ow1 gs tk rs sd du t1 (some (I r)) (some (I t)) (some (I fg)) (some (I who)) (some (I place)) (some (I at_)) (some (.d (bD b))) (some (.d (wD wi))) (some (.d came)) (some (.d (.tuple [K3k,J1v pr,.int vd]))) (some (.d (bD h))) (some (.d (J0m l))) (some (I cm)) (some (PL sm)) (some (PL (ss.map .str)))) (.Subscript (.Name (Str.ofString "told") p1) (.Constant (.int 1) k p2) p3) (.d (J1v pr)):=by
 apply w_sub
 ·x_close
 ·x_close
 ·exact v_tget (d:=J1v pr) (Ok.mk rfl) (Ok.mk rfl)
theorem Z4d {d:PyData}{p1 p2 p3:Pos}(hw:who<2)(hb:bs[who]? = some d):VE w A (J0d q cd L) J1l (FX w c a pm am lt0 lt1 H0 H1 bs bk ow0 ow1 gs tk rs sd du t1 (some (I r)) (some (I t)) (some (I fg)) (some (I who)) (some (I place)) (some (I at_)) (some (.d (bD b))) (some (.d (wD wi))) (some (.d came)) (some (.d (.tuple [K3k,J1v pr,.int vd]))) (some (.d (bD h))) (some (.d (J0m l))) (some (I cm)) (some (PL sm)) (some (PL (ss.map .str)))) (.Subscript (.Name (Str.ofString "best") p1) (.Name (Str.ofString "who") p2) p3) (.d d):=by
 apply w_sub
 ·x_close
 ·x_close
 ·exact J1c .l (⟨Int.ofNat_nonneg _,Int.ofNat_lt.2 (Nat.lt_of_lt_of_le hw (by decide))⟩) (by simpa using hb) (Ok.mk rfl)
theorem p5b {bo:Option (Bal×Int)}(hA:Rm 8 A)(hfr:A.frames=some [J0d q cd L])(hw:who<2)(W:Ways c.w0 c.w1)(hbs:bs[who]? = some (J1n bo))(hbl:bs.length=2)(hbo:∀ z∈bo,z.1.2≤2)(hpr:∀ z∈pr,z.1.2≤2)(htold:told = .tuple [K3k,J1v pr,.int vd])
  (k:GX w A (J0d q cd L) J1l (FX w c a pm am lt0 lt1 H0 H1 (if wi=none then bs.set who (J1n (bestF c.w1 bo pr)) else bs) bk ow0 ow1 gs tk rs sd du t1 (some (I r)) (some (I t)) (some (I fg)) (some (I who)) (some (I place)) (some (I at_)) (some (.d (bD b))) (some (.d (wD wi))) (some (.d came)) (some (.d told)) (some (.d (bD h))) (some (.d (J0m l))) (some (I cm)) (some (PL sm)) (some (PL (ss.map .str)))) (J0y.drop 22) R) :
  GX w A (J0d q cd L) J1l (FX w c a pm am lt0 lt1 H0 H1 bs bk ow0 ow1 gs tk rs sd du t1 (some (I r)) (some (I t)) (some (I fg)) (some (I who)) (some (I place)) (some (I at_)) (some (.d (bD b))) (some (.d (wD wi))) (some (.d came)) (some (.d told)) (some (.d (bD h))) (some (.d (J0m l))) (some (I cm)) (some (PL sm)) (some (PL (ss.map .str)))) (J0y.drop 21) R:=by
 subst htold
 cases wi with
 |some v=>
  rw [if_neg (by simp)] at k
  apply J0w
  ·apply J0g
   ·apply J1f
    apply J1s (b:=false) (c:=true)
    ·refine VT.eq (b:=isN (wD (some v))) ?_ rfl
     apply wt_cmp
     ·x_close
     ·x_close
     ·x_close
     ·exact v_isN
    ·intro z;cases z
   ·exact J0c
  ·rfl
  exact k
 |none=>
  rw [if_pos rfl] at k
  cases pr with
  |none=>
   rw [show bestF c.w1 bo none=bo from rfl,J7d hbs] at k
   apply J0w
   ·apply J0g
    ·apply J1f
     refine VA.eq (b:=true && (false && true)) ?_ rfl
     apply J1s
     ·refine VT.eq (b:=isN (wD none)) ?_ rfl
      apply wt_cmp
      ·x_close
      ·x_close
      ·x_close
      ·exact v_isN
     ·intro _
      apply J1s
      ·apply J0v
       ·x_close
       ·refine VE.eq (x:=B (!isN (J1v none))) ?_ rfl
        apply w_callf (a:=59) (ys:=[.d (J1v none),N])
        ·x_close
        ·x_close
        ·apply wg_cons
         ·x_close
         apply wl_cons
         ·x_close
         ·exact J5f
         apply wl_cons
         ·x_close
         ·x_close
         ·exact wl_nil
        ·x_close
        ·exact J2u (hA.less (by decide))
      ·intro z;cases z
    ·exact J0c
   ·rfl
   exact k
  |some z=>
   obtain ⟨zb,zv⟩:=z
   have hzb:zb.2≤2:=hpr _ rfl
   apply J2g (xs':=FX w c a pm am lt0 lt1 H0 H1 (bs.set who (J1n (bestF c.w1 bo (some (zb,zv))))) bk ow0 ow1 gs tk rs sd du t1 (some (I r)) (some (I t)) (some (I fg)) (some (I who)) (some (I place)) (some (I at_)) (some (.d (bD b))) (some (.d (wD none))) (some (.d came)) (some (.d (.tuple [K3k,J1v (some (zb,zv)),.int vd]))) (some (.d (bD h))) (some (.d (J0m l))) (some (I cm)) (some (PL sm)) (some (PL (ss.map .str))))
   ·apply J6 (b:=true)
    ·apply MT.of
     apply J1f
     refine VA.eq (b:=true && (true && true)) ?_ rfl
     apply J1s
     ·refine VT.eq (b:=isN (wD none)) ?_ rfl
      apply wt_cmp
      ·x_close
      ·x_close
      ·x_close
      ·exact v_isN
     ·intro _
      apply J1s
      ·apply J0v
       ·x_close
       ·refine VE.eq (x:=B (!isN (J1v (some (zb,zv))))) ?_ rfl
        apply w_callf (a:=59) (ys:=[.d (J1v (some (zb,zv))),N])
        ·x_close
        ·x_close
        ·apply wg_cons
         ·x_close
         apply wl_cons
         ·x_close
         ·exact J5f
         apply wl_cons
         ·x_close
         ·x_close
         ·exact wl_nil
        ·x_close
        ·exact J2u (hA.less (by decide))
      ·intro _;exact wa_and_nil
    ·intro _
     have st:∀ {p1 p2 p3 p4 p5 p6 p7:Pos} {kk:Nat},M1 w A (J0d q cd L) J1l (FX w c a pm am lt0 lt1 H0 H1 bs bk ow0 ow1 gs tk rs sd du t1 (some (I r)) (some (I t)) (some (I fg)) (some (I who)) (some (I place)) (some (I at_)) (some (.d (bD b))) (some (.d (wD none))) (some (.d came)) (some (.d (.tuple [K3k,J1v (some (zb,zv)),.int vd]))) (some (.d (bD h))) (some (.d (J0m l))) (some (I cm)) (some (PL sm)) (some (PL (ss.map .str)))) (.Assign [.Subscript (.Name (Str.ofString "best") p1) (.Name (Str.ofString "who") p2) p3] (.Subscript (.Name (Str.ofString "told") p4) (.Constant (.int 1) kk p5) p6) p7) (fun f x=>f = .next∧x=FX w c a pm am lt0 lt1 H0 H1 (bs.set who (J1n (some (zb,zv)))) bk ow0 ow1 gs tk rs sd du t1 (some (I r)) (some (I t)) (some (I fg)) (some (I who)) (some (I place)) (some (I at_)) (some (.d (bD b))) (some (.d (wD none))) (some (.d came)) (some (.d (.tuple [K3k,J1v (some (zb,zv)),.int vd]))) (some (.d (bD h))) (some (.d (J0m l))) (some (I cm)) (some (PL sm)) (some (PL (ss.map .str)))):=by
      intros
      apply K2o (n:="best") (c:=false) (a:=a.be) (ds:=bs) (i:=who) (d:=J1v (some (zb,zv)))
      ·repeat (first|exact Upd.hd|apply Upd.tail)
      ·exact J5f
      ·x_close
      ·x_close
      ·exact hbl▸hw
      ·exact lTr (Nat.le_of_eq hbl) (by decide)
      ·exact ⟨rfl,rfl⟩
      ·rfl
     cases bo with
     |none=>
      apply K0p
      ·apply J6 (b:=true)
       ·apply V0c
        apply Z6e
        ·x_close
        ·apply K1n (hc:=K4s (d:=3) (hA.less (by decide)) hfr (fun e he=>by rw [List.mem_singleton.mp he];exact ⟨(by rw [show (J0d q cd L).scope.kind = .function from rfl];decide),L,rfl⟩))
         ·x_close
         ·x_close
         ·apply wg_cons
          ·x_close
          apply wl_cons
          ·x_close
          ·exact Z4d hw hbs
          apply wl_cons
          ·x_close
          ·x_close
          ·exact wl_nil
         ·x_close
         ·exact List.nil_sublist _
         ·intro y hy
          have:y=L:=mSg hy
          rw [this];exact .head _
        ·x_close
        ·exact v_eqi
       ·intro _
        exact J6u st (J2r ⟨rfl,rfl⟩)
       ·intro z;cases z
      ·rintro x ⟨_,rfl⟩;exact J2r ⟨rfl,rfl⟩
     |some z0=>
      obtain ⟨rb,rv⟩:=z0
      have hrb:rb.2≤2:=hbo _ rfl
      apply K0p
      ·apply J6 (b:=J0p c.w1 zb rb)
       ·apply MT.of
        apply J1f
        refine VA.eq (b:=decide ((2:Int)=3) || (decide (J1k c.w0 c.w1 zb rb > 0) || false)) ?_ (by
         rw [decide_eq_false (by decide:¬ (2:Int)=3),Bool.false_or,Bool.or_false]
         by_cases o:J0p c.w1 zb rb=true
         ·rw [o];exact decide_eq_true ((J2n W hzb hrb).mpr o)
         ·rw [Bool.not_eq_true] at o
          rw [o];exact decide_eq_false fun z=>by rw [(J2n W hzb hrb).mp z] at o;cases o)
        apply J8k
        ·refine VT.eq (b:=((2:Nat):Int) == 3) ?_ rfl
         apply wt_cmp
         ·x_close
         ·apply w_callf (a:=95) (ys:=[.d (J1n (some (rb,rv))),I 3])
          ·x_close
          ·x_close
          ·apply wg_cons
           ·x_close
           apply wl_cons
           ·x_close
           ·exact Z4d hw hbs
           apply wl_cons
           ·x_close
           ·x_close
           ·exact wl_nil
          ·x_close
          ·exact J9o (k:=((2:Nat):Int)) (hA.less (by decide)) fun _=>K6m (ds:=[.str (J0f rb.1 rb.2),.int rv]) (lBt rfl)
         ·x_close
         ·exact v_eqi
        ·intro _
         apply J8k
         ·apply J0v
          ·x_close
          ·apply w_callf (a:=45) (ys:=[I (K0w c.w0 c.w1 (lrank zb.2,zb.1) (lrank rb.2,rb.1)),I 0])
           ·x_close
           ·x_close
           ·apply wg_cons
            ·x_close
            apply wl_cons
            ·x_close
            ·apply K6v (a:=(lrank zb.2,zb.1)) (b:=(lrank rb.2,rb.1))
             ·x_close
             ·x_close
             ·x_close
             ·exact hA.less (by decide)
             ·x_close
             ·apply wg_cons
              ·x_close
              apply wl_cons
              ·x_close
              ·apply w_callf (a:=227) (ys:=[S (J0f zb.1 zb.2)])
               ·x_close
               ·x_close
               ·apply wg_cons
                ·x_close
                apply wl_cons
                ·x_close
                ·apply w_sub
                 ·exact J5f
                 ·x_close
                 ·exact v_tget (ds:=[.str (J0f zb.1 zb.2),.int zv]) (d:=.str (J0f zb.1 zb.2)) (Ok.mk rfl) (Ok.mk rfl)
                ·exact wl_nil
               ·x_close
               ·exact J6k (hA.less (by decide)) hzb
              apply wl_cons
              ·x_close
              ·apply w_callf (a:=227) (ys:=[S (J0f rb.1 rb.2)])
               ·x_close
               ·x_close
               ·apply wg_cons
                ·x_close
                apply wl_cons
                ·x_close
                ·apply w_sub
                 ·exact Z4d hw hbs
                 ·x_close
                 ·exact v_tget (ds:=[.str (J0f rb.1 rb.2),.int rv]) (d:=.str (J0f rb.1 rb.2)) (Ok.mk rfl) (Ok.mk rfl)
                ·exact wl_nil
               ·x_close
               ·exact J6k (hA.less (by decide)) hrb
              ·exact wl_nil
            apply wl_cons
            ·x_close
            ·x_close
            ·exact wl_nil
           ·x_close
           ·exact K5m (hA.less (by decide))
         ·intro _;exact wa_or_nil
       ·intro o
        rw [show bestF c.w1 (some (rb,rv)) (some (zb,zv))=some (zb,zv) by simp [bestF,o]]
        exact J6u st (J2r ⟨rfl,rfl⟩)
       ·intro o
        rw [show bestF c.w1 (some (rb,rv)) (some (zb,zv))=some (rb,rv) by simp [bestF,o],J7d hbs]
        exact J2r ⟨rfl,rfl⟩
      ·rintro x ⟨_,rfl⟩;exact J2r ⟨rfl,rfl⟩
    ·intro z;cases z
   ·exact k
end
noncomputable def K8a (v:Int):Option (Bal×Int)→Int
 |none=>v
 |some z=>z.2
noncomputable def K1s (b:Bal) (wi:Option Int) (v:Int) (bo:Option (Bal×Int)):PyData:=match wi with
 |none=>.tuple [J3i b,.int (K8a v bo)]
 |some _=>.tuple [J3i (b.1+1,b.2),.none]
section
variable {w:World}{A:Around}{q:Str}{cd:Value}{L:Addr}{c:Cfg}{a:Ad}{pm am lt0 lt1:List PyData}{H0 H1:List (Str×PyData)}{bs:List PyData}{bk:List (Str×PyData)}{ow0 ow1 gs tk rs sd du sm cl:List PyData}{t t1 who place at_ fg cm:Nat}{R:Fl→List (Option X)→Prop}
 {r:Int} {b h:Bal} {wi:Option Int} {l bo:Option (Bal×Int)} {told:PyData}
theorem K4z {d:PyData}{p1 p2 p3:Pos}(hw:who<2)(hb:bs[who]? = some d):VE w A (J0d q cd L) J1l (FX w c a pm am lt0 lt1 H0 H1 bs bk ow0 ow1 gs tk rs sd du t1 (some (I r)) (some (I t)) (some (I fg)) (some (I who)) (some (I place)) (some (I at_)) (some (.d (bD b))) (some (.d (wD wi))) (some (S (J0f (b.1+1) b.2))) (some (.d told)) (some (.d (bD h))) (some (.d (J0m l))) (some (I cm)) (some (PL sm)) (some (PL cl))) (.Subscript (.Name (Str.ofString "best") p1) (.Name (Str.ofString "who") p2) p3) (.d d):=by
 apply w_sub
 ·x_close
 ·x_close
 ·exact J1c .l (⟨Int.ofNat_nonneg _,Int.ofNat_lt.2 (Nat.lt_of_lt_of_le hw (by decide))⟩) (by simpa using hb) (Ok.mk rfl)
theorem Z1d {n:Nat}{p1 p2 p3 p4 p5 p6 p7 p8:Pos}{k:Nat}{v:Bool}(hA:Rm 8 A)(hw:who<2)(hn:(pk who H0 H1).length=n)(hn1:n≤1000)(hv:decide (2≤n)=v):VT w A (J0d q cd L) J1l (FX w c a pm am lt0 lt1 H0 H1 bs bk ow0 ow1 gs tk rs sd du t1 (some (I r)) (some (I t)) (some (I fg)) (some (I who)) (some (I place)) (some (I at_)) (some (.d (bD b))) (some (.d (wD wi))) (some (S (J0f (b.1+1) b.2))) (some (.d told)) (some (.d (bD h))) (some (.d (J0m l))) (some (I cm)) (some (PL sm)) (some (PL cl))) (.Call (.Name (Str.ofString "ge") p1) [.Call (.Name (Str.ofString "length_hint") p2) [.Subscript (.Name (Str.ofString "heard") p3) (.Name (Str.ofString "who") p4) p5] [] p6,.Constant (.int 2) k p7] [] p8) v:=by
 refine VT.eq (b:=decide ((n:Int) ≥ 2)) ?_ (by rw [← hv];congr 1;simp only [ge_iff_le,eq_iff_iff];exact Int.ofNat_lt (n:=_+1))
 apply J0v
 ·x_close
 ·apply w_callf (a:=38) (ys:=[I n,I 2])
  ·x_close
  ·x_close
  ·apply wg_cons
   ·x_close
   apply wl_cons
   ·x_close
   ·apply w_callf (a:=95) (ys:=[DX w (pk who H0 H1)])
    ·x_close
    ·x_close
    ·apply wg_cons
     ·x_close
     apply wl_cons
     ·x_close
     ·refine VE.eq (x:=.p (pk who (DicP w H0) (DicP w H1))) ?_ (congrArg X.p (J9q (DicP w) who H0 H1).symm)
      apply w_sub
      ·x_close
      ·x_close
      ·exact K0e hw (Ok.mk rfl)
     ·exact wl_nil
    ·x_close
    ·rw [← hn]
     exact K0u (hA.less (by decide)) fun _=>K7r (lTr (Nat.le_of_eq hn) hn1)
   apply wl_cons
   ·x_close
   ·x_close
   ·exact wl_nil
  ·x_close
  ·exact Z2o (hA.less (by decide))
theorem p6a (hA:Rm 8 A)(hw:who<2)(hn:2≤(pk who H0 H1).length)(hn1:(pk who H0 H1).length≤1000)(hbs:bs[who]? = some (J1n bo))(hbl:bs.length=2)(hb:b.1≤17∧b.2≤2)(hlt0:(pk who lt0 lt1).length≤900)
  (k:GX w A (J0d q cd L) J1l (FX w c a pm am (pk who (pk who lt0 lt1++[K1s b wi (pk who c.v0 c.v1) bo]) lt0) (pk who lt1 (pk who lt0 lt1++[K1s b wi (pk who c.v0 c.v1) bo])) (pk who [] H0) (pk who H1 []) (bs.set who .none) bk ow0 ow1 gs tk rs sd du t1 (some (I r)) (some (I t)) (some (I fg)) (some (I who)) (some (I place)) (some (I at_)) (some (.d (bD b))) (some (.d (wD wi))) (some (S (J0f (b.1+1) b.2))) (some (.d told)) (some (.d (bD h))) (some (.d (J0m l))) (some (I cm)) (some (PL sm)) (some (PL cl))) (J0y.drop 23) R):GX w A (J0d q cd L) J1l (FX w c a pm am lt0 lt1 H0 H1 bs bk ow0 ow1 gs tk rs sd du t1 (some (I r)) (some (I t)) (some (I fg)) (some (I who)) (some (I place)) (some (I at_)) (some (.d (bD b))) (some (.d (wD wi))) (some (S (J0f (b.1+1) b.2))) (some (.d told)) (some (.d (bD h))) (some (.d (J0m l))) (some (I cm)) (some (PL sm)) (some (PL cl))) (J0y.drop 22) R:=by
 refine J2g (xs':=FX w c a pm am (pk who (pk who lt0 lt1++[K1s b wi (pk who c.v0 c.v1) bo]) lt0) (pk who lt1 (pk who lt0 lt1++[K1s b wi (pk who c.v0 c.v1) bo])) (pk who [] H0) (pk who H1 []) (bs.set who .none) bk ow0 ow1 gs tk rs sd du t1 (some (I r)) (some (I t)) (some (I fg)) (some (I who)) (some (I place)) (some (I at_)) (some (.d (bD b))) (some (.d (wD wi))) (some (S (J0f (b.1+1) b.2))) (some (.d told)) (some (.d (bD h))) (some (.d (J0m l))) (some (I cm)) (some (PL sm)) (some (PL cl))) ?_ k
 apply J6 (b:=true)
 ·exact MT.of (Z1d hA hw rfl hn1 (decide_eq_true hn))
 ·intro _
  refine J2g (xs':=FX w c a pm am (pk who (pk who lt0 lt1++[K1s b wi (pk who c.v0 c.v1) bo]) lt0) (pk who lt1 (pk who lt0 lt1++[K1s b wi (pk who c.v0 c.v1) bo])) H0 H1 bs bk ow0 ow1 gs tk rs sd du t1 (some (I r)) (some (I t)) (some (I fg)) (some (I who)) (some (I place)) (some (I at_)) (some (.d (bD b))) (some (.d (wD wi))) (some (S (J0f (b.1+1) b.2))) (some (.d told)) (some (.d (bD h))) (some (.d (J0m l))) (some (I cm)) (some (PL sm)) (some (PL cl))) ?_ ?_
  ·cases wi with
   |none=>
    apply J6 (b:=true)
    ·apply MT.of
     refine VT.eq (b:=isN (wD none)) ?_ rfl
     apply wt_cmp
     ·x_close
     ·x_close
     ·x_close
     ·exact v_isN
    ·intro _
     apply J6u
     ·apply J4f (n:="letters") (c:=false) (x:=.ll a.le a.l0 lt0 a.l1 lt1) (x':=.ll a.le a.l0 (pk who (pk who lt0 lt1++[K1s b none (pk who c.v0 c.v1) bo]) lt0) a.l1 (pk who lt1 (pk who lt0 lt1++[K1s b none (pk who c.v0 c.v1) bo])))
       (b:=pk who a.l0 a.l1) (ds:=pk who lt0 lt1) (ds':=pk who lt0 lt1++[K1s b none (pk who c.v0 c.v1) bo]) (id:="list.append")
      ·repeat (first|exact Upd.hd|apply Upd.tail)
      ·rfl
      ·refine J1t hw ?_ ?_
       ·exact .tail _ (.head _)
       ·exact .tail _ (.tail _ (.head _))
      ·x_close
      ·x_close
      ·x_close
      ·apply wg_cons
       ·x_close
       apply wl_cons
       ·x_close
       ·refine VE.eq (x:=T [.str (J0f b.1 b.2),.int (K8a (pk who c.v0 c.v1) bo)]) ?_ rfl
        apply w_tuple (ys:=[S (J0f b.1 b.2),I (K8a (pk who c.v0 c.v1) bo)])
        ·apply wl_cons
         ·x_close
         ·refine VE.eq (x:=S (Txt.slice (J0f (b.1+1) b.2) (some 1) none)) ?_ (congrArg S (Z1e hb.1 hb.2))
          apply w_sub
          ·x_close
          ·apply w_slice
           ·apply wq_some;x_close
           ·exact wq_none
          ·exact J7u (by rw [J1a];exact lTr (Nat.succ_le_succ (Nat.succ_le_succ hb.1)) (by decide)) (Ok.mk fun _ _=>⟨_,by with_unfolding_all rfl⟩)
         apply wl_cons
         ·x_close
         ·cases bo with
          |none=>
           apply J9n
           ·apply J0v
            ·x_close
            ·refine VE.eq (x:=B (isN (J1n none))) ?_ rfl
             apply w_callf (a:=52) (ys:=[.d (J1n none),N])
             ·x_close
             ·x_close
             ·apply wg_cons
              ·x_close
              apply wl_cons
              ·x_close
              ·exact K4z hw hbs
              apply wl_cons
              ·x_close
              ·x_close
              ·exact wl_nil
             ·x_close
             ·exact K1x (hA.less (by decide))
           ·apply w_sub
            ·x_close
            ·x_close
            ·exact J1c (ds:=[.int c.v0,.int c.v1]) (d:=.int (pk who c.v0 c.v1)) .d (⟨Int.ofNat_nonneg _,Int.ofNat_lt.2 (Nat.lt_of_lt_of_le hw (by decide))⟩) (by refine J1t hw ?_ ?_<;>rfl) (Ok.mk rfl)
          |some z=>
           apply K0c
           ·apply J0v
            ·x_close
            ·refine VE.eq (x:=B (isN (J1n (some z)))) ?_ rfl
             apply w_callf (a:=52) (ys:=[.d (J1n (some z)),N])
             ·x_close
             ·x_close
             ·apply wg_cons
              ·x_close
              apply wl_cons
              ·x_close
              ·exact K4z hw hbs
              apply wl_cons
              ·x_close
              ·x_close
              ·exact wl_nil
             ·x_close
             ·exact K1x (hA.less (by decide))
           ·apply w_sub
            ·exact K4z hw hbs
            ·x_close
            ·exact v_tget (ds:=[.str (J0f z.1.1 z.1.2),.int z.2]) (d:=.int z.2) (Ok.mk rfl) (Ok.mk rfl)
         ·exact wl_nil
        ·exact .cons (.cons .nil)
        ·x_close
       ·exact wl_nil
      ·exact K4v PySem.F.slot_list_append PySem.F.type_list_append
      ·exact J1b (lTr hlt0 (by decide))
      ·exact fun own h1 h2 v z1 z2 z3 z4 z5=>K4r hw z1 z2 z3 z4 z5
      ·exact ⟨rfl,rfl⟩
      ·apply w_sub
       ·x_close
       ·x_close
       ·exact J2f hw (Ok.mk rfl)
      ·rfl
      ·rfl
     exact J2r ⟨rfl,rfl⟩
    ·intro z;cases z
   |some v=>
    apply J6 (b:=false)
    ·apply MT.of
     refine VT.eq (b:=isN (wD (some v))) ?_ rfl
     apply wt_cmp
     ·x_close
     ·x_close
     ·x_close
     ·exact v_isN
    ·intro z;cases z
    ·intro _
     apply J6u
     ·apply J4f (n:="letters") (c:=false) (x:=.ll a.le a.l0 lt0 a.l1 lt1) (x':=.ll a.le a.l0 (pk who (pk who lt0 lt1++[K1s b (some v) (pk who c.v0 c.v1) bo]) lt0) a.l1 (pk who lt1 (pk who lt0 lt1++[K1s b (some v) (pk who c.v0 c.v1) bo])))
       (b:=pk who a.l0 a.l1) (ds:=pk who lt0 lt1) (ds':=pk who lt0 lt1++[K1s b (some v) (pk who c.v0 c.v1) bo]) (id:="list.append")
      ·repeat (first|exact Upd.hd|apply Upd.tail)
      ·rfl
      ·refine J1t hw ?_ ?_
       ·exact .tail _ (.head _)
       ·exact .tail _ (.tail _ (.head _))
      ·x_close
      ·x_close
      ·x_close
      ·apply wg_cons
       ·x_close
       apply wl_cons
       ·x_close
       ·refine VE.eq (x:=T [.str (J0f (b.1+1) b.2),.none]) ?_ rfl
        repeat' x_close
       ·exact wl_nil
      ·exact K4v PySem.F.slot_list_append PySem.F.type_list_append
      ·exact J1b (lTr hlt0 (by decide))
      ·exact fun own h1 h2 v z1 z2 z3 z4 z5=>K4r hw z1 z2 z3 z4 z5
      ·exact ⟨rfl,rfl⟩
      ·apply w_sub
       ·x_close
       ·x_close
       ·exact J2f hw (Ok.mk rfl)
      ·rfl
      ·rfl
     exact J2r ⟨rfl,rfl⟩
  apply J2g
  ·apply J8b (n:="heard") (c:=false) (a:=a.he) (P:=DicP w H0) (Q:=DicP w H1) (P':=DicP w []) hw
   ·repeat (first|exact Upd.hd|apply Upd.tail)
   ·apply Z6s;x_close
   ·x_close
   ·x_close
   ·exact ⟨rfl,rfl⟩
   ·rfl
  apply J6u
  ·apply K2o (n:="best") (c:=false) (a:=a.be) (ds:=bs) (i:=who) (d:=.none)
   ·repeat (first|exact Upd.hd|apply Upd.tail)
   ·x_close
   ·x_close
   ·x_close
   ·exact hbl▸hw
   ·exact lTr (Nat.le_of_eq hbl) (by decide)
   ·exact ⟨rfl,rfl⟩
   ·rfl
  refine J2r ⟨rfl,?_⟩
  refine J1t hw ?_ ?_<;>rfl
 ·intro z;cases z
theorem p6b (hA:Rm 8 A)(hw:who<2)(hn:¬ 2≤(pk who H0 H1).length)
  (k:GX w A (J0d q cd L) J1l (FX w c a pm am lt0 lt1 H0 H1 bs bk ow0 ow1 gs tk rs sd du t1 (some (I r)) (some (I t)) (some (I fg)) (some (I who)) (some (I place)) (some (I at_)) (some (.d (bD b))) (some (.d (wD wi))) (some (S (J0f (b.1+1) b.2))) (some (.d told)) (some (.d (bD h))) (some (.d (J0m l))) (some (I cm)) (some (PL sm)) (some (PL cl))) (J0y.drop 23) R):GX w A (J0d q cd L) J1l (FX w c a pm am lt0 lt1 H0 H1 bs bk ow0 ow1 gs tk rs sd du t1 (some (I r)) (some (I t)) (some (I fg)) (some (I who)) (some (I place)) (some (I at_)) (some (.d (bD b))) (some (.d (wD wi))) (some (S (J0f (b.1+1) b.2))) (some (.d told)) (some (.d (bD h))) (some (.d (J0m l))) (some (I cm)) (some (PL sm)) (some (PL cl))) (J0y.drop 22) R:=by
 apply J0w
 ·apply J0g
  ·exact Z1d hA hw rfl (lTr (Nat.le_of_not_lt hn) (by decide)) (decide_eq_false hn)
  ·exact J0c
 ·rfl
 exact k
end
noncomputable def lenF:PyData→Option PyData
 |.list xs=>some (.int xs.length)
 |_=>none
section
variable {w:World}{A:Around}{q:Str}{cd:Value}{L:Addr}{c:Cfg}{a:Ad}{pm am lt0 lt1:List PyData}{H0 H1:List (Str×PyData)}{bs:List PyData}{bk:List (Str×PyData)}{ow0 ow1 gs tk rs sd du sm cl:List PyData}{t t1 who place at_ fg cm:Nat}{R:Fl→List (Option X)→Prop}
 {r:Int} {b h:Bal} {wi:Option Int} {l bo:Option (Bal×Int)} {came told:PyData}
noncomputable abbrev LL (x y:List PyData):PyData:=.list [.list x,.list y]
noncomputable abbrev FL (lt0 lt1 ow0 ow1:List PyData):List (Option X):=
 none::none::none::none::none::none::none::none::some (.d (LL lt0 lt1))::none::none::none::none::some (.d (LL ow0 ow1))::none::none::none::none::none::none ::
 none::none::none::none::none::none::none::none::none::none::none::none::none::none::none::none::none::none::none::none::none::[]
theorem K7a {x y:List PyData}{xs:List (Option X)}{scope:Scope}{ps pp:Pos}{p1 p2 p3 p4:Pos}{n:Str}(hh:A.handled=none)(hx:x.length≤1000)(hy:y.length≤1000)(K:CompOk (J0d q cd L) scope [] (Str.ofString "row") [])
  (hg:∀ C',Gn (compEnvC scope [] C' (J0d q cd L)) (Str.ofString "len")) (hi:VE w A (J0d q cd L) J1l xs (.Name n pp) (.d (LL x y))) (hs:Ok (∀ z,foldedSetIterable (.Name n pp) (J0d q cd L) z=pure z)) :
  VE w A (J0d q cd L) J1l xs (.ListComp (.Call (.Name (Str.ofString "len") p1) [.Name (Str.ofString "row") p2] [] p3) [⟨.Name (Str.ofString "row") p4,.Name n pp,[],0⟩] scope ps) (PL [.int x.length,.int y.length]):=by
 refine VE.eq (x:=PL ([.list x,.list y].filterMap lenF)) ?_ rfl
 refine J2t (cl:=[]) (cs:=[]) (ys:=[]) (x:=.d (LL x y)) (ds:=[.list x,.list y]) lenF K hh hi (J0r .d) .nil (Ok.mk rfl) (lBt rfl) (fun C' d hd=>?_) (fun C' d z hd hz=>?_) hs
 ·simp only [List.mem_cons,List.not_mem_nil,or_false] at hd
  rcases hd with rfl|rfl<;>exact wi_nil
 ·have go:∀ zs:List PyData,zs.length≤1000→VE w A (compEnvC scope [] C' (J0d q cd L)) (cns (Str.ofString "row") []) [some (.d (.list zs))] (.Call (.Name (Str.ofString "len") p1) [.Name (Str.ofString "row") p2] [] p3) (I zs.length):=fun zs hz=>by
   apply w_callb (id:="len") (ys:=[.d (.list zs)])
   ·x_close
   ·exact nm_len (Ok.mk rfl) (hg C')
   ·apply wg_cons
    ·x_close
    apply wl_cons
    ·x_close
    ·exact J2p (Ok.mk (by decide)) .head
    ·exact wl_nil
   ·exact K0a .d hz
  simp only [List.mem_cons,List.not_mem_nil,or_false] at hd
  rcases hd with rfl|rfl
  ·cases hz;exact go x hx
  ·cases hz;exact go y hy
theorem p7 (hA:Rm 8 A)(h0:lt0.length=ow0.length)(h1:lt1.length=ow1.length)(hl0:ow0.length≤1000)(hl1:ow1.length≤1000)
  (k:R .next (FX w c a pm am lt0 lt1 H0 H1 bs bk ow0 ow1 gs tk rs sd du t1 (some (I r)) (some (I t)) (some (I fg)) (some (I who)) (some (I place)) (some (I at_)) (some (.d (bD b))) (some (.d (wD wi))) (some (.d came)) (some (.d told)) (some (.d (bD h))) (some (.d (J0m l))) (some (I cm)) (some (PL sm)) (some (PL cl)))) :
  GX w A (J0d q cd L) J1l (FX w c a pm am lt0 lt1 H0 H1 bs bk ow0 ow1 gs tk rs sd du t1 (some (I r)) (some (I t)) (some (I fg)) (some (I who)) (some (I place)) (some (I at_)) (some (.d (bD b))) (some (.d (wD wi))) (some (.d came)) (some (.d told)) (some (.d (bD h))) (some (.d (J0m l))) (some (I cm)) (some (PL sm)) (some (PL cl))) (J0y.drop 23) R:=by
 have hh:A.handled=none:=hA.hd
 apply J0w
 ·apply J0g
  ·apply K5j (ys:=FL lt0 lt1 ow0 ow1)
   ·repeat (first|exact FltL.nil|(refine FltL.cons ?_ ?_;(first|exact Flt1.ll|exact Flt1.no)))
   ·refine VT.eq (b:=!Spec.same (.list [.int lt0.length,.int lt1.length]) (.list [.int ow0.length,.int ow1.length])) ?_ (by rw [h0,h1,Spec.same_self];rfl)
    apply wt_cmp
    ·x_close
    ·refine K7a (x:=lt0) (y:=lt1) hh (lTr (Nat.le_of_eq h0) hl0) (lTr (Nat.le_of_eq h1) hl1) ⟨rfl,by decide,rfl,by decide,by decide,fun n hn=>(nomatch hn),fun p hp=>(nomatch hp),.nil,fun n hn=>(nomatch hn),by decide⟩ (fun _=>⟨by rfl⟩) ?_ (Ok.mk fun _=>rfl)
     x_close
    ·refine K7a (x:=ow0) (y:=ow1) hh hl0 hl1 ⟨rfl,by decide,rfl,by decide,by decide,fun n hn=>(nomatch hn),fun p hp=>(nomatch hp),.nil,fun n hn=>(nomatch hn),by decide⟩ (fun _=>⟨by rfl⟩) ?_ (Ok.mk fun _=>rfl)
     x_close
    ·exact Z4z .pl .pl ⟨rfl,lBt rfl⟩ ⟨rfl,lBt rfl⟩ (hA.less (by decide))
  ·exact J0c
 ·rfl
 exact J2r k
end
theorem K4h (ss:List Str)(k:Str):Mrg (J1d (fun x=>.int (ss.count x)) ss) k (.int 1) (J1d (fun x=>.int ((ss++[k]).count x)) (ss++[k])):=by
 have e:J8f (J1d (fun x=>.int (ss.count x)) ss) k (.int ((ss++[k]).count k))=J1d (fun x=>.int ((ss++[k]).count x)) (ss++[k]):=
  J7j (f:=fun x=>.int (ss.count x)) (g:=fun x=>.int ((ss++[k]).count x)) fun x _ hx=>by
   rw [List.count_append];simp [List.count_cons,Ne.symm hx]
 rw [← e]
 by_cases h:k∈ss
 ·have c:(((ss++[k]).count k:Nat):Int)=(ss.count k:Int)+1:=by rw [List.count_append];simp
  rw [c]
  exact .int rfl (J7r (f:=fun x=>.int (ss.count x)) h)
 ·have c:(((ss++[k]).count k:Nat):Int)=1:=by rw [List.count_append,List.count_eq_zero_of_not_mem h];simp
  rw [c]
  exact .new (by rw [J8d];simpa using h)
theorem J4j {ns:List Str}{rs:List Int}{k x:Str}{r:Int}(h:ns.length=rs.length):J0j (ns++[k]) (rs++[r]) x=J0j ns rs x++(if k=x then [r] else []):=by
 unfold J0j
 rw [List.zip_append h,List.filter_append,List.map_append]
 by_cases q:k=x<;>simp [q]
theorem K8f {ns:List Str}{rs:List Int}{k:Str}{r:Int}(h:ns.length=rs.length):Mrg (J1d (J1u ns rs) ns) k (.tuple ([1,r,r * r].map .int)) (J1d (J1u (ns++[k]) (rs++[r])) (ns++[k])):=by
 have e:J8f (J1d (J1u ns rs) ns) k (J1u (ns++[k]) (rs++[r]) k)=J1d (J1u (ns++[k]) (rs++[r])) (ns++[k]):=
  J7j (f:=J1u ns rs) (g:=J1u (ns++[k]) (rs++[r])) fun x _ hx=>by
   unfold J1u;rw [J4j h,if_neg (Ne.symm hx),List.append_nil]
 rw [← e]
 have hb:J1u (ns++[k]) (rs++[r]) k = .tuple ((List.zipWith (· + ·) [1,r,r * r] [((J0j ns rs k).length:Int),(J0j ns rs k).sum,((J0j ns rs k).map fun n=>n * n).sum]).map .int):=by
  unfold J1u
  rw [J4j h,if_pos rfl]
  simp only [List.length_append,List.length_singleton,List.map_append,List.map_cons,List.map_nil,List.sum_append,List.sum_cons,List.sum_nil,List.zipWith_cons_cons,List.zipWith_nil_right]
  congr 1
  simp only [List.cons.injEq,PyData.int.injEq,and_true]
  refine ⟨?_,?_,?_⟩<;>lia
 by_cases hk:k∈ns
 ·rw [hb]
  exact .tup rfl (J7r (f:=J1u ns rs) hk) rfl (lBt rfl)
 ·have hn:J0j ns rs k = []:=by
   unfold J0j
   rw [List.map_eq_nil_iff,List.filter_eq_nil_iff]
   intro p hp
   have:p.1∈ns:=(List.of_mem_zip hp).1
   simp only [decide_eq_true_eq]
   intro q;exact hk (q▸this)
  rw [hb,hn]
  simp only [List.length_nil,List.sum_nil,List.map_nil,List.zipWith_cons_cons,List.zipWith_nil_right,Int.natCast_zero,Int.add_zero]
  exact .new (by rw [J8d];simpa using hk)
theorem J8v (g:List Gr)(e:Gr)(x:Let):same (g++[e]) x=same g x++(if decide (e.b=x.1) && (e.w.isSome == x.2.isSome) then [e] else []):=by
 unfold same;rw [List.filter_append];congr 1;rw [List.filter_cons];rfl
noncomputable def J5m (t:Int) (S:List Gr):Option (Bal×Int):=S.foldl (fun a e=>bestF t a e.l) none
theorem V0a {t:Int}{b:Bal}(h:1≤b.1):J0p t b (0,0)=true:=by
 unfold J0p J7f
 simp only
 rw [if_neg (by lia)]
 simp;exact h
theorem K9g {t v:Int}{S:List Gr}(hw:∀ e∈S,e.w=none)(hl:∀ e∈S,∀ z∈e.l,1≤z.1.1):(J6a (gd S) qfE v t).2=K8a v (J5m t S):=by
 have go:∀ (S:List Gr) (a:Bal×Int) (o:Option (Bal×Int)),(∀ e∈S,e.w=none)→(∀ e∈S,∀ z∈e.l,1≤z.1.1)→a=o.getD ((0,0),v) →
   (gd S).foldl (fun h e=>J3t t h (qfE e)) a=(S.foldl (fun a e=>bestF t a e.l) o).getD ((0,0),v):=by
  intro S
  induction S with
  |nil=>intro a o _ _ h;exact h
  |cons e S ih=>
   intro a o h1 h2 h
   show (gd S).foldl _ (J3t t a (qfE e.e))=(S.foldl _ (bestF t o e.l)).getD _
   refine ih _ _ (fun e he=>h1 e (.tail _ he)) (fun e he=>h2 e (.tail _ he)) ?_
   rw [(Z4a e (h1 e (.head _))).1,h]
   have hz:=h2 e (.head _)
   cases hel:e.l with
   |none=>cases o<;>rfl
   |some z=>
    have hz:=hz z hel
    cases o with
    |none=>simp [J3t,bestF,V0a hz]
    |some y=>simp only [J3t,bestF,Option.getD_some];split<;>rfl
 unfold J6a J5m
 rw [go S ((0,0),v) none hw hl rfl]
 cases S.foldl (fun a e=>bestF t a e.l) none<;>rfl
theorem Z3t {p p':Nat}(h:J2j p=J2j p'):p=p':=by
 unfold J2j at h
 injection h with h
 simpa using h
theorem K7 {S:List Gr}{place:Nat}(hm:∃ e∈S,e.p=place):2≤(dd (S.map fun e=>J2j e.p)).length↔S.all (fun e=>e.p == place)=false:=by
 refine o11 hm fun e0 he0 hp0=>?_;clear hm
 have m0:J2j place∈dd (S.map fun e=>J2j e.p):=J2e.mpr (List.mem_map.mpr ⟨e0,he0,by rw [hp0]⟩)
 constructor
 ·intro h
  rw [Bool.eq_false_iff]
  intro ha
  rw [List.all_eq_true] at ha
  have all:∀ k∈dd (S.map fun e=>J2j e.p),k=J2j place:=fun k hk=>by
   refine o11 (mMp (J2e.mp hk)) fun e he e9a=>?_;subst e9a
   have:=ha e he
   rw [beq_iff_eq] at this
   rw [this]
  have nd:=J4 (S.map fun e=>J2j e.p)
  generalize dd (S.map fun e=>J2j e.p)=l at h all nd
  match l,h with
  |a::b::r,_=>
   have e1:=all a (.head _)
   have e2:=all b (.tail _ (.head _))
   rw [List.nodup_cons] at nd
   exact nd.1 (by rw [e1,← e2];exact .head _)
 ·intro h
  refine o11 (List.all_eq_false.mp h) fun e he hne=>?_
  have hne:e.p≠place:=by simpa using hne
  have m1:J2j e.p∈dd (S.map fun e=>J2j e.p):=J2e.mpr (List.mem_map.mpr ⟨e,he,rfl⟩)
  have ne:J2j e.p≠J2j place:=fun q=>hne (Z3t q)
  generalize dd (S.map fun e=>J2j e.p)=l at m0 m1
  match l with
  |[]=>cases m0
  |[a]=>
   rw [List.mem_singleton] at m0 m1
   exact absurd (m1.trans m0.symm) ne
  |a::b::r=>simp
theorem Z8o {S:List Gr}{place:Nat}{b:Bal}{wi:Option Int}{v t:Int}(hm:∃ e∈S,e.p=place)(hw:wi=none→∀ e∈S,e.w=none)(hl:∀ e∈S,∀ z∈e.l,1≤z.1.1) :
  onV (gd S) qfE place b wi v t=if 2≤(dd (S.map fun e=>J2j e.p)).length then J1e [match wi with|some _=>((b.1+1,b.2),none)|none=>(b,some (K8a v (J5m t S)))] else []:=by
 have ha:(gd S).all (fun e=>e.p == place)=S.all (fun e=>e.p == place):=by unfold gd;rw [List.all_map];rfl
 unfold onV
 rw [ha]
 by_cases h:S.all (fun e=>e.p == place)=true
 ·rw [if_pos h,if_neg (fun z=>by rw [(K7 hm).mp z] at h;cases h)]
 ·rw [if_neg h,if_pos ((K7 hm).mpr (by simpa using h))]
  cases wi with
  |none=>rw [← K9g (v:=v) (t:=t) (hw rfl) hl];rfl
  |some v=>rfl
noncomputable def LX (w:World) (c:Cfg) (a:Ad) (st:St) (t:Nat):List (Option X):=
 FX w c a (J5p c.w1 st.g) (K4l st.g) (J2b st.o0) (J2b st.o1) (J0t st.g st.o0) (J0t st.g st.o1) [J1n (bestV c.w1 st.g st.o0),J1n (bestV c.w1 st.g st.o1)] (J6g st.g st.rs) (J1e st.o0) (J1e st.o1) ((gd st.g).map Ent.d) (K7i st.g) (st.rs.map .int) st.sd st.sd t
  none none none none none none none none none none none none none none none
theorem Z8r {w:World}{c:Cfg}{a:Ad}{pm am lt0 lt1:List PyData}{H0 H1:List (Str×PyData)}{bs:List PyData}{bk:List (Str×PyData)}{ow0 ow1 gs tk rs sd du:List PyData}{t:Nat}{x1 x2 x3 x4 x5 x6 x7 x8 x9 x10 x11 x12 x13 x14 x15:Option X} :
  Wk (FX w c a pm am lt0 lt1 H0 H1 bs bk ow0 ow1 gs tk rs sd du t x1 x2 x3 x4 x5 x6 x7 x8 x9 x10 x11 x12 x13 x14 x15) (FX w c a pm am lt0 lt1 H0 H1 bs bk ow0 ow1 gs tk rs sd du t):=by
 iterate 20 apply Wk.keep
 iterate 15 apply Wk.drop
 exact Wk.rfl'
theorem J6w (o:List Let)(y:Let):cur (o++[y])=y:=by simp [cur]
structure OInv (t who:Nat)(o:List Let):Prop where
 ne:o≠[]
 len:o.length≤t+1
 bal:∀ x∈o,(1≤x.1.1∧x.1.1≤t+1)∧x.1.2=who+1
 top:∀ x∈o,x.1.1≤(cur o).1.1
 key:(o.map fun x=>(x.1,x.2.isSome)).Nodup
 ask:(cur o).2=none→∀ x∈o,x.1=(cur o).1→x.2=none
theorem K6l {o:List Let}(h:o≠[]):cur o∈o:=by
 unfold cur
 rw [List.getLast?_eq_some_getLast h]
 exact List.getLast_mem h
theorem OInv.up {t who o}(h:OInv t who o):OInv (t+1) who o:=⟨h.ne,by have:=h.len;exact Nat.le_succ_of_le this,fun x hx=>⟨⟨(h.bal x hx).1.1,by have:=(h.bal x hx).1.2;exact Nat.le_succ_of_le this⟩,(h.bal x hx).2⟩,h.top,h.key,h.ask⟩
theorem OInv.snoc {t who:Nat}{o:List Let}{y:Let}(h:OInv t who o)(h1:y.1.2=who+1)(h2:y.1.1≤t+2)(h3:(cur o).1.1<y.1.1∨(y.1=(cur o).1∧(cur o).2=none∧y.2.isSome=true)):OInv (t+1) who (o++[y]):=by
 have hc:=h.bal _ (K6l h.ne)
 have hge:(cur o).1.1≤y.1.1:=by
  rcases h3 with h3|⟨h3,_⟩
  ·exact Nat.le_of_lt h3
  ·rw [h3];exact Nat.le_refl _
 refine ⟨by simp,by rw [List.length_append];have:=h.len;simp;exact this,fun x hx=>?_,fun x hx=>?_,?_,fun hn x hx hxy=>?_⟩
 ·rcases mAp hx with hx|hx
  ·exact h.up.bal x hx
  ·rw [List.mem_singleton.mp hx];exact ⟨⟨lTr hc.1.1 hge,h2⟩,h1⟩
 ·rw [J6w]
  rcases mAp hx with hx|hx
  ·exact lTr (h.top x hx) hge
  ·rw [List.mem_singleton.mp hx];exact Nat.le_refl _
 ·rw [List.map_append]
  refine List.nodup_append.mpr ⟨h.key,by simp,fun a ha b hb q=>?_⟩
  refine o11 (mMp ha) fun x hx e9a=>?_;subst e9a
  rw [List.map_singleton,List.mem_singleton] at hb
  rw [hb] at q
  have q1:x.1=y.1:=congrArg (·.1) q
  have q2:x.2.isSome=y.2.isSome:=congrArg (·.2) q
  rcases h3 with h3|⟨h3,h4,h5⟩
  ·have:=h.top x hx;rw [q1] at this;exact Nat.not_lt.2 this h3
  ·rw [h.ask h4 x hx (q1.trans h3),h5] at q2;cases q2
 ·rw [J6w] at hn hxy
  rcases h3 with h3|⟨_,_,h5⟩
  ·rcases mAp hx with hx|hx
   ·have:=h.top x hx;rw [hxy] at this;lia
   ·rw [List.mem_singleton.mp hx];exact hn
  ·rw [hn] at h5;cases h5
structure WInv (t:Nat)(st:St):Prop where
 o0:OInv t 0 st.o0
 o1:OInv t 1 st.o1
 gl:st.g.length≤t
 rl:st.rs.length=st.g.length
 sl:st.sd.length=t
 gp:∀ e∈st.g,e.p<3
 gb:∀ e∈st.g,∃ who,who<2∧(e.b,e.w)∈pk who st.o0 st.o1
 gx:∀ e∈st.g,∀ z∈e.l,(1≤z.1.1∧z.1.1≤t+1)∧1≤z.1.2∧z.1.2≤2
theorem WInv.o {t st}(I:WInv t st){who:Nat}(h:who<2):OInv t who (pk who st.o0 st.o1):=by
 refine J1t h ?_ ?_
 ·exact I.o0
 ·exact I.o1
theorem WInv.eb {t st}(I:WInv t st){e:Gr}(he:e∈st.g):(1≤e.b.1∧e.b.1≤t+1)∧1≤e.b.2∧e.b.2≤2:=by
 skip
 refine o11 (I.gb e he) fun who hw hm=>?_
 skip
 have:=(I.o hw).bal _ hm
 have h2:e.b.2=who+1:=this.2
 exact ⟨this.1,lTr (Nat.succ_le_succ (Nat.zero_le _)) (Nat.le_of_eq (Eq.symm this.2)),this.2▸hw⟩
theorem Z5b (t:Int)(p:Nat):∀ g:List Gr,hi t g p=(0,0)∨∃ e∈g,e.p=p∧hi t g p=e.b:=by
 intro g
 rw [← List.reverse_reverse g]
 induction g.reverse with
 |nil=>exact .inl rfl
 |cons e l ih=>
  rw [List.reverse_cons,K0r]
  split
  ·rename_i h;exact .inr ⟨e,by simp,h.1,rfl⟩
  ·rcases ih with h|⟨e',h1,h2,h3⟩
   ·exact .inl h
   ·exact .inr ⟨e',List.mem_append_left _ h1,h2,h3⟩
theorem Z0l (p:Nat):∀ g:List Gr,∀ z∈la g p,∃ e∈g,e.p=p∧e.b=z.1∧e.w=some z.2:=by
 intro g
 rw [← List.reverse_reverse g]
 induction g.reverse with
 |nil=>intro z hz;cases hz
 |cons e l ih=>
  intro z hz
  rw [List.reverse_cons,J5x] at hz
  have old:z∈la l.reverse p→∃ e'∈l.reverse++[e],e'.p=p∧e'.b=z.1∧e'.w=some z.2:=fun h=>by
   refine o11 (ih z h) fun e' h1 h2=>?_
   exact ⟨e',List.mem_append_left _ h1,h2⟩
  rw [List.reverse_cons]
  split at hz
  ·rename_i hp
   cases hw:e.w with
   |none=>rw [hw] at hz;exact old hz
   |some v=>
    rw [hw] at hz
    obtain rfl:(e.b,v)=z:=Option.some.inj hz
    exact ⟨e,by simp,hp,rfl,hw⟩
  ·exact old hz
theorem WInv.hib {t st}(I:WInv t st)(w1:Int)(p:Nat):(hi w1 st.g p).1≤t+1∧(hi w1 st.g p).2≤2∧(∀ b:Bal,1≤b.1→J0p w1 (hi w1 st.g p) b=true→1≤(hi w1 st.g p).1∧1≤(hi w1 st.g p).2):=by
 rcases Z5b w1 p st.g with h|⟨e,he,_,h⟩
 ·rw [h]
  refine ⟨Nat.zero_le _,Nat.zero_le _,fun b hb ho=>?_⟩
  unfold J0p J7f at ho
  simp only at ho
  rw [if_neg (by lia)] at ho
  have:=of_decide_eq_true ho
  lia
 ·rw [h]
  have:=I.eb he
  exact ⟨this.1.2,this.2.2,fun _ _ _=>⟨this.1.1,this.2.1⟩⟩
theorem WInv.lab {t st}(I:WInv t st)(p:Nat):∀ z∈la st.g p,(1≤z.1.1∧z.1.1≤t+1)∧1≤z.1.2∧z.1.2≤2:=fun z hz=>by
 skip
 refine o13 (Z0l p st.g z hz) fun e he _ h _=>?_
 skip
 rw [← h];exact I.eb he
noncomputable def step (c:Cfg) (t:Nat) (st:St):St:=
 let f:=fig c.lot t
 let who:=f % 6 / 3
 let place:=f % 3
 let o:=pk who st.o0 st.o1
 let at_:=o.length - 1 - f / 6
 let x:=o.getD at_ ((0,0),none)
 let h:=hi c.w1 st.g place
 let l:=la st.g place
 let no:=J0p c.w1 h x.1
 let g':=if no=true then st.g else st.g++[⟨place,x.1,x.2,l⟩]
 let new:List Let:=if at_+1<o.length then [] else if no=true then [((h.1+1,who+1),none)] else
  if 2≤(dd (clk g' x)).length then [match x.2 with|some _=>((x.1.1+1,x.1.2),none)|none=>(x.1,some (K8a (pk who c.v0 c.v1) (J5m c.w1 (same g' x))))] else []
 {g:=g',o0:=pk who (o++new) st.o0,o1:=pk who st.o1 (o++new),rs:=if no=true then st.rs else st.rs++[15 - (t:Int)],sd:=st.sd++[J4z place x.1 x.2 h l c.w0 c.w1]}
theorem K9u {t who:Nat}{o:List Let}{i:Nat}{x:Let}(O:OInv t who o)(hx:o[i]? = some x)(hi:i+1<o.length):¬ (x.1=(cur o).1∧x.2.isSome=(cur o).2.isSome):=by
 rintro ⟨h1,h2⟩
 obtain ⟨hl,e⟩:=List.getElem?_eq_some_iff.mp hx
 have hc:cur o=o[o.length - 1]:=by
  unfold cur
  rw [List.getLast?_eq_getElem?,List.getElem?_eq_getElem (Nat.sub_lt (Nat.lt_of_le_of_lt (Nat.zero_le _) hi) Nat.one_pos)];rfl
 have:=List.pairwise_iff_getElem.mp O.key i (o.length - 1) (by simpa using hl) (by simp;exact Nat.sub_lt (Nat.lt_of_le_of_lt (Nat.zero_le _) hi) Nat.one_pos) (Nat.lt_sub_of_add_lt hi)
 rw [List.getElem_map,List.getElem_map,e,← hc] at this
 exact this (by rw [h1,h2])
theorem K4m {o:List Let}{i:Nat}{x:Let}(hx:o[i]? = some x)(hi:¬ i+1<o.length):cur o=x:=by
 refine o10 (List.getElem?_eq_some_iff.mp hx) fun hl e=>?_
 unfold cur
 rw [List.getLast?_eq_getElem?,show o.length - 1=i by omega,hx];rfl
theorem J9m {g:List Gr}{e:Gr}{y:Let}(h:¬ (e.b=y.1∧e.w.isSome=y.2.isSome)):same (g++[e]) y=same g y:=by
 rw [J8v,if_neg (by simpa using h),List.append_nil]
theorem K5w {g:List Gr}{b:Bal}{w:Option Int}{p:Nat}{l:Option (Bal×Int)}:same (g++[⟨p,b,w,l⟩]) (b,w)=same g (b,w)++[⟨p,b,w,l⟩]:=by
 rw [J8v,if_pos (by simp)]
theorem K3j {t who:Nat}{g:List Gr}{o:List Let}{y:Let}(O:OInv t who (o++[y]))(hg:∀ e∈g,e.b.2=who+1→(e.b,e.w)∈o):same g y = []:=by
 unfold same
 rw [List.filter_eq_nil_iff]
 intro e he hq
 simp only [Bool.and_eq_true,decide_eq_true_eq,beq_iff_eq] at hq
 have h2:e.b.2=who+1:=by rw [hq.1];exact (O.bal y (by simp)).2
 have hm:=hg e he h2
 have:=O.key
 rw [List.map_append,List.nodup_append] at this
 exact this.2.2 _ (List.mem_map_of_mem (f:=fun x:Let=>(x.1,x.2.isSome)) hm) (y.1,y.2.isSome) (by simp) (by show (e.b,e.w.isSome)=_;rw [hq.1,hq.2])
theorem WInv.own {t st}(I:WInv t st){who:Nat}(hw:who<2){e:Gr}(he:e∈st.g)(h:e.b.2=who+1):(e.b,e.w)∈pk who st.o0 st.o1:=by
 refine o11 (I.gb e he) fun who' hw' hm=>?_
 have:e.b.2=who'+1:=((I.o hw').bal _ hm).2
 have:who'=who:=Nat.succ.inj (Eq.trans (Eq.symm this) h)
 rwa [this] at hm
structure Turn (c:Cfg)(t:Nat)(st:St)(who place at_:Nat)(x:Let):Prop where
 hw:who<2
 hp:place<3
 hx:(pk who st.o0 st.o1)[at_]? = some x
 ew:fig c.lot t % 6 / 3=who
 ep:fig c.lot t % 3=place
 ea:(pk who st.o0 st.o1).length - 1 - fig c.lot t / 6=at_
theorem K0t {c:Cfg}{t:Nat}{st:St}(I:WInv t st):∃ who place at_ x,Turn c t st who place at_ x:=by
 have hf:=Z0k c.lot t
 have hw:fig c.lot t % 6 / 3<2:=Nat.div_lt_of_lt_mul (Nat.mod_lt _ (by decide))
 have O:=I.o hw
 have hl:0<(pk (fig c.lot t % 6 / 3) st.o0 st.o1).length:=List.length_pos_iff.mpr O.ne
 exact xi4 _ _ _ _ ⟨hw,Nat.mod_lt _ (by decide),List.getElem?_eq_getElem (i:=(pk (fig c.lot t % 6 / 3) st.o0 st.o1).length - 1 - fig c.lot t / 6) (Nat.lt_of_le_of_lt (Nat.sub_le _ _) (Nat.sub_lt hl Nat.one_pos)),rfl,rfl,rfl⟩
noncomputable def J6s (c:Cfg) (t:Nat) (st:St) (who place at_:Nat) (x:Let):List Let:=
 if at_+1<(pk who st.o0 st.o1).length then [] else if J0p c.w1 (hi c.w1 st.g place) x.1=true then [(((hi c.w1 st.g place).1+1,who+1),none)] else
  if 2≤(dd (clk (st.g++[⟨place,x.1,x.2,la st.g place⟩]) x)).length then [match x.2 with|some _=>((x.1.1+1,x.1.2),none)|none=>(x.1,some (K8a (pk who c.v0 c.v1) (J5m c.w1 (same (st.g++[⟨place,x.1,x.2,la st.g place⟩]) x))))] else []
theorem J9u {c:Cfg}{t:Nat}{st:St}{who place at_:Nat}{x:Let}(T:Turn c t st who place at_ x):step c t st =
  {g:=if J0p c.w1 (hi c.w1 st.g place) x.1=true then st.g else st.g++[⟨place,x.1,x.2,la st.g place⟩],o0:=pk who (pk who st.o0 st.o1++J6s c t st who place at_ x) st.o0,o1:=pk who st.o1 (pk who st.o0 st.o1++J6s c t st who place at_ x),
   rs:=if J0p c.w1 (hi c.w1 st.g place) x.1=true then st.rs else st.rs++[15 - (t:Int)],sd:=st.sd++[J4z place x.1 x.2 (hi c.w1 st.g place) (la st.g place) c.w0 c.w1]}:=by
 obtain ⟨hw,hp,hx,rfl,rfl,rfl⟩:=T
 have hg:(pk (fig c.lot t % 6 / 3) st.o0 st.o1).getD ((pk (fig c.lot t % 6 / 3) st.o0 st.o1).length - 1 - fig c.lot t / 6) ((0,0),none)=x:=by rw [List.getD_eq_getElem?_getD,hx];rfl
 unfold step J6s
 simp only [hg]
 by_cases o:J0p c.w1 (hi c.w1 st.g (fig c.lot t % 3)) x.1=true
 ·simp only [o,if_true]
 ·simp only [o,if_false,Bool.false_eq_true]
  try rfl
theorem Turn.mem {c t st who place at_ x}(T:Turn c t st who place at_ x):x∈pk who st.o0 st.o1:=List.mem_of_getElem? T.hx
theorem Z0h {c:Cfg}{t:Nat}{st:St}{who place at_:Nat}{x:Let}(I:WInv t st)(T:Turn c t st who place at_ x):J6s c t st who place at_ x = []∨∃ y,J6s c t st who place at_ x = [y]∧OInv (t+1) who (pk who st.o0 st.o1++[y]):=by
 have O:=I.o T.hw
 have hb:=O.bal x T.mem
 have hh:=I.hib c.w1 place
 unfold J6s
 by_cases hl:at_+1<(pk who st.o0 st.o1).length
 ·rw [if_pos hl];exact .inl rfl
 ·rw [if_neg hl]
  have hc:=K4m T.hx hl
  by_cases o:J0p c.w1 (hi c.w1 st.g place) x.1=true
  ·rw [if_pos o]
   refine .inr ⟨_,rfl,O.snoc rfl (by show (hi c.w1 st.g place).1+1≤t+2;exact Nat.succ_le_succ hh.1) (.inl ?_)⟩
   rw [hc]
   unfold J0p J7f at o
   show x.1.1<(hi c.w1 st.g place).1+1
   split at o
   ·omega
   ·have:=of_decide_eq_true o;exact Nat.lt_succ_of_lt (Int.ofNat_lt.1 this)
  ·rw [if_neg o]
   by_cases h2:2≤(dd (clk (st.g++[⟨place,x.1,x.2,la st.g place⟩]) x)).length
   ·rw [if_pos h2]
    refine .inr ⟨_,rfl,?_⟩
    cases hx2:x.2 with
    |some v=>exact O.snoc hb.2 (by show x.1.1+1≤t+2;exact Nat.succ_le_succ hb.1.2) (.inl (by rw [hc];show x.1.1<x.1.1+1;exact Nat.lt_succ_self _))
    |none=>exact O.snoc hb.2 (by show x.1.1≤t+2;exact Nat.le_succ_of_le hb.1.2) (.inr ⟨by rw [hc],by rw [hc];exact hx2,rfl⟩)
   ·rw [if_neg h2];exact .inl rfl
theorem K9h {c:Cfg}{t:Nat}{st:St}{who place at_:Nat}{x:Let}(I:WInv t st)(T:Turn c t st who place at_ x):OInv (t+1) who (pk who st.o0 st.o1++J6s c t st who place at_ x):=by
 rcases Z0h I T with h|⟨y,h,hO⟩
 ·rw [h,List.append_nil];exact (I.o T.hw).up
 ·rw [h];exact hO
theorem WInv.step {c:Cfg}{t:Nat}{st:St}(I:WInv t st)(ht:t<16):WInv (t+1) (Mine.step c t st):=by
 refine o40 (K0t (c:=c) I) fun who place at_ x T=>?_
 rw [J9u T]
 have hO:=K9h I T
 generalize J6s c t st who place at_ x=new at hO
 have hg:∀ e∈(if J0p c.w1 (hi c.w1 st.g place) x.1=true then st.g else st.g++[⟨place,x.1,x.2,la st.g place⟩]),e∈st.g∨e=⟨place,x.1,x.2,la st.g place⟩:=fun e he=>by
  split at he
  ·exact .inl he
  ·rcases mAp he with he|he
   ·exact .inl he
   ·exact .inr (mSg he)
 refine ⟨?_,?_,?_,?_,?_,?_,?_,?_⟩
 ·rcases who2 T.hw with rfl|rfl
  ·exact hO
  ·exact I.o0.up
 ·rcases who2 T.hw with rfl|rfl
  ·exact I.o1.up
  ·exact hO
 ·show (if _ then _ else _:List Gr).length≤t+1
  have:=I.gl
  split
  ·exact Nat.le_succ_of_le this
  ·rw [List.length_append];simp;exact this
 ·show (if _ then _ else _:List Int).length=(if _ then _ else _:List Gr).length
  have:=I.rl
  split
  ·exact this
  ·rw [List.length_append,List.length_append,this];rfl
 ·show (st.sd++_).length=t+1
  rw [List.length_append,I.sl];rfl
 ·intro e he
  rcases hg e he with he|rfl
  ·exact I.gp e he
  ·exact T.hp
 ·intro e he
  rcases hg e he with he|rfl
  ·refine o11 (I.gb e he) fun who' hw' hm=>?_
   refine ⟨who',hw',?_⟩
   rcases who2 T.hw with rfl|rfl<;>rcases who2 hw' with rfl|rfl
   ·exact List.mem_append_left _ hm
   ·exact hm
   ·exact hm
   ·exact List.mem_append_left _ hm
  ·refine ⟨who,T.hw,?_⟩
   have:=T.mem
   rcases who2 T.hw with rfl|rfl<;>exact List.mem_append_left _ this
 ·intro e he z hz
  rcases hg e he with he|rfl
  ·have:=I.gx e he z hz
   exact ⟨⟨this.1.1,Nat.le_succ_of_le this.1.2⟩,this.2⟩
  ·have:=I.lab place z hz
   exact ⟨⟨this.1.1,Nat.le_succ_of_le this.1.2⟩,this.2⟩
theorem K2p {w:World}{c:Cfg}{a:Ad}{pm am lt0 lt1 pm' am' lt0' lt1':List PyData}{H0 H1 H0' H1':List (Str×PyData)}{bs bs':List PyData}{bk bk':List (Str×PyData)}{ow0 ow1 gs tk rs sd du ow0' ow1' gs' tk' rs' sd' du':List PyData}{t:Nat}{x1 x2 x3 x4 x5 x6 x7 x8 x9 x10 x11 x12 x13 x14 x15:Option X}
  (e1:pm=pm') (e2:am=am') (e3:lt0=lt0') (e4:lt1=lt1') (e5:H0=H0') (e6:H1=H1') (e7:bs=bs') (e8:bk=bk') (e9:ow0=ow0') (e10:ow1=ow1') (e11:gs=gs') (e12:tk=tk') (e13:rs=rs') (e14:sd=sd') (e15:du=du') :
  Wk (FX w c a pm am lt0 lt1 H0 H1 bs bk ow0 ow1 gs tk rs sd du t x1 x2 x3 x4 x5 x6 x7 x8 x9 x10 x11 x12 x13 x14 x15) (FX w c a pm' am' lt0' lt1' H0' H1' bs' bk' ow0' ow1' gs' tk' rs' sd' du' t):=by
 subst e1;subst e2;subst e3;subst e4;subst e5;subst e6;subst e7;subst e8;subst e9;subst e10;subst e11;subst e12;subst e13;subst e14;subst e15
 exact Z8r
noncomputable def J4y (x:Let):PyData:=.tuple [J3i x.1,wD x.2]
noncomputable def K3s (x:Let):PyData:=.tuple [bD x.1,wD x.2]
theorem J8 {α β:Type}(f:α→β){who:Nat}(hw:who<2)(x y:List α)(z:α):pk who (pk who (x.map f) (y.map f)++[f z]) (x.map f)=(pk who (pk who x y++[z]) x).map f:=by
 rcases who2 hw with rfl|rfl<;>simp [pk]
theorem J7 {α β:Type}(f:α→β){who:Nat}(hw:who<2)(x y:List α)(z:α):pk who (y.map f) (pk who (x.map f) (y.map f)++[f z])=(pk who y (pk who x y++[z])).map f:=by
 rcases who2 hw with rfl|rfl<;>simp [pk]
theorem J8l {g:List Gr}{o:List Let}(h:same g (cur o) = []):J0t g o = []:=by
 unfold J0t clk;rw [h];rfl
theorem J2i {g g':List Gr}{o:List Let}(h:same g' (cur o)=same g (cur o)):J0t g' o=J0t g o:=by
 unfold J0t clk;rw [h]
theorem K2i {t:Int}{g:List Gr}{o:List Let}(h:same g (cur o) = []):bestV t g o=none:=by
 unfold bestV;rw [h];split<;>rfl
theorem J3 {t:Int}{g g':List Gr}{o:List Let}(h:same g' (cur o)=same g (cur o)):bestV t g' o=bestV t g o:=by
 unfold bestV;rw [h]
theorem J6m {t who:Nat}{st:St}{g':List Gr}(V:WInv t st)(hg:g'=st.g∨∃ e,g'=st.g++[e]∧e.b.2=who+1){v:Nat}(hv:v<2)(hne:v≠who):same g' (cur (pk v st.o0 st.o1))=same st.g (cur (pk v st.o0 st.o1)):=by
 rcases hg with rfl|⟨e,rfl,he⟩
 ·rfl
 ·refine J9m fun h=>?_
  have:=((V.o hv).bal _ (K6l (V.o hv).ne)).2
  rw [← h.1] at this;exact hne (Nat.succ.inj (Eq.trans (Eq.symm this) he))
theorem J8r {t who:Nat}{st:St}{g':List Gr}{y:Let}{w1:Int}(V:WInv t st)(hw:who<2)(hO:OInv (t+1) who (pk who st.o0 st.o1++[y]))(hg:g'=st.g∨∃ e,g'=st.g++[e]∧e.b.2=who+1∧(e.b,e.w)∈pk who st.o0 st.o1) :
  pk who [] (J0t st.g st.o0)=J0t g' (pk who (pk who st.o0 st.o1++[y]) st.o0)∧pk who (J0t st.g st.o1) []=J0t g' (pk who st.o1 (pk who st.o0 st.o1++[y])) ∧
  [J1n (bestV w1 st.g st.o0),J1n (bestV w1 st.g st.o1)].set who .none = [J1n (bestV w1 g' (pk who (pk who st.o0 st.o1++[y]) st.o0)),J1n (bestV w1 g' (pk who st.o1 (pk who st.o0 st.o1++[y])))]:=by
 have hf:same g' (cur (pk who st.o0 st.o1++[y])) = []:=by
  rw [J6w]
  refine K3j hO fun e he h2=>?_
  rcases hg with rfl|⟨e',rfl,h3,h4⟩
  ·exact V.own hw he h2
  ·rcases mAp he with he|he
   ·exact V.own hw he h2
   ·rw [List.mem_singleton.mp he];exact h4
 have hk:∀ v,v<2→v≠who→same g' (cur (pk v st.o0 st.o1))=same st.g (cur (pk v st.o0 st.o1)):=fun v hv hne=>J6m V (hg.imp id fun ⟨e,h1,h2,_⟩=>⟨e,h1,h2⟩) hv hne
 rcases who2 hw with rfl|rfl
 ·have h1:=hk 1 (by decide) (by decide)
  exact ⟨(J8l hf).symm,(J2i h1).symm,by
   show [PyData.none,J1n (bestV w1 st.g st.o1)] = [J1n (bestV w1 g' (st.o0++[y])),J1n (bestV w1 g' st.o1)]
   rw [K2i (show same g' (cur (st.o0++[y])) = [] from hf),J3 (show same g' (cur st.o1)=same st.g (cur st.o1) from h1)];rfl⟩
 ·have h1:=hk 0 (by decide) (by decide)
  exact ⟨(J2i h1).symm,(J8l hf).symm,by
   show [J1n (bestV w1 st.g st.o0),PyData.none] = [J1n (bestV w1 g' st.o0),J1n (bestV w1 g' (st.o1++[y]))]
   rw [K2i (show same g' (cur (st.o1++[y])) = [] from hf),J3 (show same g' (cur st.o0)=same st.g (cur st.o0) from h1)];rfl⟩
theorem K9r (g:List Gr)(p:Nat)(b:Bal)(wi:Option Int)(l:Option (Bal×Int)):tkN p b wi (K7i g)=K7i (g++[⟨p,b,wi,l⟩]):=by
 unfold tkN K7i
 rw [List.filterMap_append]
 cases wi<;>simp
theorem K8l {p:Nat}{b h:Bal}{wi:Option Int}{l:Option (Bal×Int)}{w0 w1:Int}(ho:J0p w1 h b=false):∃ v,J4z p b wi h l w0 w1 = .tuple [K3k,J1v (accN wi b l),.int v]:=by
 unfold J4z
 rw [if_neg (by rw [ho];decide)]
 cases wi<;>exact ⟨_,rfl⟩
theorem J9z {c:Cfg}{g:List Gr}{place:Nat}{b:Bal}{wi:Option Int}{l:Option (Bal×Int)}(ho:J0p c.w1 (hi c.w1 g place) b=false)(W:Ways c.w0 c.w1)(hp:place<3):(J5p c.w1 g).set place (J3i b)=J5p c.w1 (g++[⟨place,b,wi,l⟩]):=
 (K8u (e:=⟨place,b,wi,l⟩) (by rcases W.b with h|h|h|h<;>rw [h]<;>decide) hp ho).symm
theorem K3a {g:List Gr}{place:Nat}{b:Bal}{wi:Option Int}{l:Option (Bal×Int)}(hp:place<3):setA wi b place (K4l g)=K4l (g++[⟨place,b,wi,l⟩]):=(Z4j (e:=⟨place,b,wi,l⟩) hp).symm
theorem J9j {t:Int}{S:List Gr}{z:Bal×Int}(h:z∈J5m t S):∃ e∈S,z∈e.l:=by
 have go:∀ (S:List Gr) (a:Option (Bal×Int)),z∈S.foldl (fun a e=>bestF t a e.l) a→z∈a∨∃ e∈S,z∈e.l:=by
  intro S
  induction S with
  |nil=>intro a h;exact .inl h
  |cons e S ih=>
   intro a h
   rcases ih _ h with h|⟨e',h1,h2⟩
   ·have h:z∈bestF t a e.l:=h
    cases hl:e.l with
    |none=>rw [hl] at h;exact .inl h
    |some q=>
     rw [hl] at h
     cases a with
     |none=>exact .inr ⟨e,.head _,by rw [hl];exact h⟩
     |some r=>
      unfold bestF at h
      simp only at h
      split at h
      ·exact .inr ⟨e,.head _,by rw [hl];exact h⟩
      ·exact .inl h
   ·exact .inr ⟨e',.tail _ h1,h2⟩
 rcases go S none h with h|h
 ·cases h
 ·exact h
theorem Z3c {p:Nat}{b h:Bal}{wi:Option Int}{l:Option (Bal×Int)}{w0 w1:Int}(ho:J0p w1 h b=true):∃ s c r,J4z p b wi h l w0 w1 = .tuple (.str s::.int c::J3i (h.1+1,h.2)::r)∧s≠Str.ofString "yes"∧r.length≤1:=by
 unfold J4z
 rw [if_pos ho]
 cases wi
 ·exact xi3 _ _ ([_]) ⟨rfl,by decide +kernel,Nat.le_refl _⟩
 ·exact xi3 _ _ ([]) ⟨rfl,by decide +kernel,Nat.zero_le _⟩
noncomputable def bestN (t:Int) (wi:Option Int) (S:List Gr):Option (Bal×Int):=match wi with|some _=>none|none=>J5m t S
noncomputable def Z7g (v t:Int) (b:Bal) (wi:Option Int) (S:List Gr):Let:=match wi with|some _=>((b.1+1,b.2),none)|none=>(b,some (K8a v (J5m t S)))
theorem Z4b {S:List Gr}{place:Nat}{b:Bal}{wi:Option Int}{v t:Int}(hm:∃ e∈S,e.p=place)(hw:wi=none→∀ e∈S,e.w=none)(hl:∀ e∈S,∀ z∈e.l,1≤z.1.1) :
  onV (gd S) qfE place b wi v t=if 2≤(dd (S.map fun e=>J2j e.p)).length then J1e [Z7g v t b wi S] else []:=by
 rw [Z8o hm hw hl];cases wi<;>rfl
theorem Z3v {b:Bal}{wi:Option Int}{v t:Int}{S:List Gr}:K1s b wi v (bestN t wi S)=J4y (Z7g v t b wi S):=by cases wi<;>rfl
theorem K9 {c:Cfg}{t:Nat}{st:St}{who place at_:Nat}{b:Bal}{wi:Option Int}(hl:¬ at_+1<(pk who st.o0 st.o1).length)(ho:¬ J0p c.w1 (hi c.w1 st.g place) b=true)(h2:2≤(dd (clk (st.g++[Gr.mk place b wi (la st.g place)]) (b,wi))).length) :
  J6s c t st who place at_ (b,wi) = [Z7g (pk who c.v0 c.v1) c.w1 b wi (same (st.g++[Gr.mk place b wi (la st.g place)]) (b,wi))]:=by
 unfold J6s Z7g
 rw [if_neg hl,if_neg ho,if_pos h2]
 all_goals (cases wi<;>rfl)
theorem K9c {t:Int}{wi:Option Int}{S:List Gr}{p:Nat}{b:Bal}{l:Option (Bal×Int)}{bs:List PyData}{who:Nat}(h:bs[who]? = some (J1n (bestN t wi S))) :
  (if wi=none then bs.set who (J1n (bestF t (bestN t wi S) (accN wi b l))) else bs)=bs.set who (J1n (bestN t wi (S++[⟨p,b,wi,l⟩]))):=by
 cases wi with
 |some v=>exact (if_neg (fun q=>nomatch q)).trans (J7d h).symm
 |none=>
  rw [if_pos rfl]
  unfold bestN J5m
  rw [List.foldl_append];rfl
theorem K8 {α:Type}{who:Nat}(hw:who<2)(x y:α):pk who (pk who x y) x=x:=J1t hw rfl rfl
theorem K7s {α:Type}{who:Nat}(hw:who<2)(x y:α):pk who y (pk who x y)=y:=J1t hw rfl rfl
theorem Z9c {α:Type}{who:Nat}(hw:who<2)(x y z:α):pk who (pk who z x) (pk who y z)=z:=J1t hw rfl rfl
theorem J9l {t:Int}{g:List Gr}{o:List Let}{b:Bal}{wi:Option Int}(hc:cur o=(b,wi)):bestV t g o=bestN t wi (same g (b,wi)):=by
 unfold bestV;rw [hc];cases wi<;>rfl
theorem Z1v {t:Int}{wi:Option Int}{S:List Gr}(h:∀ e∈S,∀ z∈e.l,z.1.2≤2):∀ z∈bestN t wi S,z.1.2≤2:=fun z hz=>by
 cases wi with
 |some v=>cases hz
 |none=>
  refine o11 (J9j hz) fun e he hz'=>?_
  exact h e he z hz'
theorem Z1y {wi:Option Int}{b:Bal}{l:Option (Bal×Int)}(h:∀ z∈l,z.1.2≤2)(hb:b.2≤2):∀ z∈accN wi b l,z.1.2≤2:=fun z hz=>by
 cases wi with
 |none=>exact h z hz
 |some v=>
  obtain rfl:(b,v)=z:=Option.some.inj hz
  exact hb
theorem Z4g {wi:Option Int}{b:Bal}{l:Option (Bal×Int)}:wi=none∧True∨∃ v,wi=some v∧accN wi b l=some (b,v):=by
 cases wi with|none=>exact .inl ⟨rfl,trivial⟩|some v=>exact .inr ⟨v,rfl,rfl⟩
theorem Z1h {α:Type}{who:Nat}(hw:who<2)(x y z:α):([x,y].set who z)[who]? = some z:=by rcases who2 hw with rfl|rfl<;>rfl
section
variable {w:World}{A:Around}{q:Str}{cd:Value}{L:Addr}{c:Cfg}{a:Ad}{t:Nat}{st:St}
theorem turn (hA:Rm 8 A)(hfr:A.frames=some [J0d q cd L])(W:Ways c.w0 c.w1)(V:WInv t st)(ht:t<16) :
  GX w A (J0d q cd L) J1l (FX w c a (J5p c.w1 st.g) (K4l st.g) (J2b st.o0) (J2b st.o1) (J0t st.g st.o0) (J0t st.g st.o1) [J1n (bestV c.w1 st.g st.o0),J1n (bestV c.w1 st.g st.o1)] (J6g st.g st.rs) (J1e st.o0) (J1e st.o1) ((gd st.g).map Ent.d) (K7i st.g) (st.rs.map .int) st.sd st.sd t
   (some (I (15 - (t:Int)))) none none none none none none none none none none none none none none) J0y (fun f x=>(f = .next∨f = .cont)∧Wk x (LX w c a (step c t st) (t+1))):=by
 refine o40 (K0t (c:=c) V) fun who place at_ n9a T=>?_;obtain ⟨b,wi⟩:=n9a
 have O:=V.o T.hw
 have hb:=O.bal _ T.mem
 have hb1:(1≤b.1∧b.1≤t+1)∧b.2=who+1:=hb
 have hw:=T.hw
 have hp:=T.hp
 have hlo:(pk who st.o0 st.o1).length≤t+1:=O.len
 have eo:pk who (J1e st.o0) (J1e st.o1)=J1e (pk who st.o0 st.o1):=(J9q J1e who st.o0 st.o1).symm
 have el:pk who (J2b st.o0) (J2b st.o1)=J2b (pk who st.o0 st.o1):=(J9q J2b who st.o0 st.o1).symm
 have lo:(J1e (pk who st.o0 st.o1)).length=(pk who st.o0 st.o1).length:=List.length_map ..
 have ll:(J2b (pk who st.o0 st.o1)).length=(pk who st.o0 st.o1).length:=List.length_map ..
 have hat:at_<(pk who st.o0 st.o1).length:=(List.getElem?_eq_some_iff.mp T.hx).1
 have hgl:=V.gl
 have hrl:=V.rl
 have hsl:=V.sl
 refine o02 (V.hib c.w1 place) fun hi1 hi2 hi3=>?_
 apply p1a hA hfr ht (by rw [T.ew,eo,lo];exact lTr hlo (lTr ht (by decide)))
 refine kb2 T.ew T.ep ?_
 refine kb ((congrArg List.length eo).trans lo) ?_
 refine kb T.ea ?_
 apply p1b (b:=b) (wi:=wi) hA hfr hw hp (Nat.lt_of_lt_of_le hat (lTr hlo (lTr (Nat.succ_le_succ (Nat.le_of_lt ht)) (by decide)))) (by rw [el];unfold J2b;rw [List.getElem?_map,T.hx];rfl) (by rw [eo];unfold J1e;rw [List.getElem?_map,T.hx];rfl) ⟨⟨hb1.1.1,lTr hb.1.2 (lTr ht (by decide))⟩,lTr (Nat.succ_le_succ (Nat.zero_le _)) (Nat.le_of_eq (Eq.symm hb.2)),lTr (Nat.le_of_eq hb.2) hw⟩ W (lTr hi1 (lTr ht (by decide))) hi2 (hi3 b hb1.1.1)
  (fun z hz=>by have:=V.lab place z hz;lia) rfl rfl (lTr (Nat.le_of_eq hsl) (lTr (Nat.le_of_lt ht) (by decide))) (lTr (Nat.le_of_eq hsl) (lTr (Nat.le_of_lt ht) (by decide)))
 have hO:=Z0h V T
 have hstep:=J9u T
 by_cases ho:J0p c.w1 (hi c.w1 st.g place) b=true
 ·refine kb2 (if_pos ho) (if_pos ho) ?_
  refine o32 (Z3c (p:=place) (wi:=wi) (l:=la st.g place) (w0:=c.w0) ho) fun s cc rr htold hne hrr=>?_
  apply p2no hne htold (by simp only [List.length_cons];exact Nat.lt_of_le_of_lt hrr (by decide))
  simp only [if_pos ho] at hstep
  by_cases hl:at_+1<(pk who st.o0 st.o1).length
  ·have hn:J6s c t st who place at_ (b,wi) = []:=by unfold J6s;rw [if_pos hl]
   rw [hn,List.append_nil,K8 hw st.o0 st.o1,K7s hw st.o0 st.o1] at hstep
   refine kb hstep ?_
   refine Z0p (lTr (Nat.le_of_lt (Nat.lt_of_succ_lt hl)) (lTr hlo (lTr (Nat.succ_le_succ (Nat.le_of_lt ht)) (by decide)))) (by rw [eo,lo];exact lTr hlo (lTr ht (by decide))) hw (by rw [eo,lo];exact hl) ⟨.inr rfl,?_⟩
   exact Z8r
  ·have hn:J6s c t st who place at_ (b,wi) = [(((hi c.w1 st.g place).1+1,who+1),none)]:=by unfold J6s;rw [if_neg hl,if_pos ho]
   rw [hn] at hstep hO
   refine kb hstep ?_
   refine o11 (hO.resolve_left (by simp)) fun y hy hO=>?_
   obtain rfl:((((hi c.w1 st.g place).1+1,who+1),none):Let)=y:=by simpa using hy
   refine Z9z hA (lTr (Nat.le_of_lt hat) (lTr hlo (lTr (Nat.succ_le_succ (Nat.le_of_lt ht)) (by decide)))) (by rw [eo,lo];exact lTr hlo (lTr ht (by decide))) (by rw [el,ll];exact lTr hlo (lTr ht (by decide))) hw (by rw [eo,lo];exact hl) hne htold (lTr hrr (by decide)) ⟨lTr hi1 (lTr ht (by decide)),hi2⟩ (by show who<2;exact hw) (by show (2:Nat)≤1000;decide) ⟨.inr rfl,?_⟩
   refine o02 (J8r (w1:=c.w1) (g':=st.g) V hw hO (.inl rfl)) fun a1 a2 a3=>?_
   exact K2p rfl rfl (J8 J4y hw st.o0 st.o1 (((hi c.w1 st.g place).1+1,who+1),none)) (J7 J4y hw st.o0 st.o1 (((hi c.w1 st.g place).1+1,who+1),none)) a1 a2 a3 rfl (J8 K3s hw st.o0 st.o1 (((hi c.w1 st.g place).1+1,who+1),none)) (J7 K3s hw st.o0 st.o1 (((hi c.w1 st.g place).1+1,who+1),none)) rfl rfl rfl rfl rfl
 ·have ho':J0p c.w1 (hi c.w1 st.g place) b=false:=by simpa using ho
  refine kb2 (if_neg ho) (if_neg ho) ?_
  refine o10 (K8l (p:=place) (wi:=wi) (l:=la st.g place) (w0:=c.w0) ho') fun vd htold=>?_
  have hr16:((16 - (t+1):Nat):Int)=15 - (t:Int):=by lia
  have hnm:pqS who++J2j place=nmS ⟨place,b,wi,la st.g place⟩:=by
   unfold nmS;rw [show (Gr.mk place b wi (la st.g place)).b.2 - 1=who by show b.2 - 1=who;exact Nat.sub_eq_of_eq_add hb.2]
  have hbk:Mrg (J6g st.g st.rs) (pqS who++J2j place) (.tuple ([1,((16 - (t+1):Nat):Int),((16 - (t+1):Nat):Int) * ((16 - (t+1):Nat):Int)].map .int)) (J6g (st.g++[Gr.mk place b wi (la st.g place)]) (st.rs++[15 - (t:Int)])):=by
   rw [hr16,hnm]
   unfold J6g
   rw [List.map_append]
   exact K8f (by rw [List.length_map];exact Eq.symm hrl)
  apply Z9g (bk':=J6g (st.g++[Gr.mk place b wi (la st.g place)]) (st.rs++[15 - (t:Int)])) (pr:=accN wi b (la st.g place)) (vd:=vd) (l:=la st.g place) hA hfr hw hp htold
   Z4g hbk (by unfold J6g;rw [J5i];exact J4 _) (by unfold J6g J1d;rw [List.length_map];have:=J8z (st.g.map nmS);rw [List.length_map] at this;exact lTr this (lTr hgl (lTr (Nat.le_of_lt ht) (by decide))))
   (by rw [List.length_map];exact lTr (Nat.le_of_eq hrl) (lTr hgl (lTr (Nat.le_of_lt ht) (by decide)))) (by rw [List.length_map];unfold gd;rw [List.length_map];exact lTr hgl (lTr (Nat.le_of_lt ht) (by decide))) (by unfold K7i;have:=List.length_filterMap_le (fun e:Gr=>e.w.map fun v=>PyData.tuple [.int e.p,J3i e.b,.int v]) st.g;exact lTr this (lTr hgl (lTr (Nat.le_of_lt ht) (by decide))))
  have egs:(gd st.g).map Ent.d++[(Gr.e ⟨place,b,wi,la st.g place⟩).d]=(gd (st.g++[Gr.mk place b wi (la st.g place)])).map Ent.d:=by unfold gd;rw [List.map_append,List.map_append];rfl
  have ers:st.rs.map PyData.int++[.int (15 - (t:Int))]=(st.rs++[15 - (t:Int)]).map .int:=by rw [List.map_append];rfl
  refine kb5 egs ers (K9r st.g place b wi (la st.g place)) (J9z (wi:=wi) (l:=la st.g place) ho' W hp) (K3a (l:=la st.g place) hp) ?_
  simp only [if_neg ho] at hstep
  have hE:(Gr.mk place b wi (la st.g place)).b.2=who+1:=hb1.2
  have hother:∀ v,v<2→v≠who→same (st.g++[Gr.mk place b wi (la st.g place)]) (cur (pk v st.o0 st.o1))=same st.g (cur (pk v st.o0 st.o1)):=fun v hv hne=>J6m V (.inr ⟨_,rfl,hE⟩) hv hne
  by_cases hl:at_+1<(pk who st.o0 st.o1).length
  ·have hn:J6s c t st who place at_ (b,wi) = []:=by unfold J6s;rw [if_pos hl]
   rw [hn,List.append_nil,K8 hw st.o0 st.o1,K7s hw st.o0 st.o1] at hstep
   refine kb hstep ?_
   refine Z0p (lTr (Nat.le_of_lt (Nat.lt_of_succ_lt hl)) (lTr hlo (lTr (Nat.succ_le_succ (Nat.le_of_lt ht)) (by decide)))) (by rw [eo,lo];exact lTr hlo (lTr ht (by decide))) hw (by rw [eo,lo];exact hl) ⟨.inr rfl,?_⟩
   have hall:∀ v,v<2→same (st.g++[Gr.mk place b wi (la st.g place)]) (cur (pk v st.o0 st.o1))=same st.g (cur (pk v st.o0 st.o1)):=fun v hv=>by
    by_cases hne:v=who
    ·rw [hne];exact J9m fun h=>K9u O T.hx hl h
    ·exact hother v hv hne
   have k0:same (st.g++[Gr.mk place b wi (la st.g place)]) (cur st.o0)=same st.g (cur st.o0):=hall 0 (by decide)
   have k1:same (st.g++[Gr.mk place b wi (la st.g place)]) (cur st.o1)=same st.g (cur st.o1):=hall 1 (by decide)
   exact K2p rfl rfl rfl rfl (J2i k0).symm (J2i k1).symm (by
    show [J1n (bestV c.w1 st.g st.o0),J1n (bestV c.w1 st.g st.o1)] = [J1n (bestV c.w1 (st.g++[Gr.mk place b wi (la st.g place)]) st.o0),J1n (bestV c.w1 (st.g++[Gr.mk place b wi (la st.g place)]) st.o1)]
    rw [J3 k0,J3 k1]) rfl rfl rfl rfl rfl rfl rfl rfl
  ·have hc:cur (pk who st.o0 st.o1)=(b,wi):=K4m T.hx hl
   have hS:same (st.g++[Gr.mk place b wi (la st.g place)]) (b,wi)=same st.g (b,wi)++[Gr.mk place b wi (la st.g place)]:=K5w
   have hgp:∀ e∈st.g++[Gr.mk place b wi (la st.g place)],e.p<3:=fun e he=>by
    rcases mAp he with he|he
    ·exact V.gp e he
    ·rw [List.mem_singleton.mp he];exact hp
   have hgl:∀ e∈st.g++[Gr.mk place b wi (la st.g place)],∀ z∈e.l,1≤z.1.1∧z.1.2≤2:=fun e he z hz=>by
    rcases mAp he with he|he
    ·have:=V.gx e he z hz;exact ⟨this.1.1,this.2.2⟩
    ·rw [List.mem_singleton.mp he] at hz
     have:=V.lab place z hz;exact ⟨this.1.1,this.2.2⟩
   have hSm:∀ e∈same (st.g++[Gr.mk place b wi (la st.g place)]) (b,wi),e∈st.g++[Gr.mk place b wi (la st.g place)]:=fun e he=>(List.mem_filter.mp he).1
   have hZ:=Z4b (S:=same (st.g++[Gr.mk place b wi (la st.g place)]) (b,wi)) (place:=place) (b:=b) (wi:=wi) (v:=pk who c.v0 c.v1) (t:=c.w1) ⟨_,by rw [hS];exact List.mem_append_right _ (.head _),rfl⟩
    (fun hwi e he=>by
     have:=(List.mem_filter.mp he).2
     rw [hwi] at this
     simp only [Option.isSome_none,Bool.and_eq_true,beq_iff_eq] at this
     exact Option.isNone_iff_eq_none.mp (by cases q:e.w<;>simp_all)) (fun e he z hz=>(hgl e (hSm e he) z hz).1)
   have hck:clk (st.g++[Gr.mk place b wi (la st.g place)]) (b,wi)=clk st.g (b,wi)++[J2j place]:=by unfold clk;rw [hS,List.map_append];rfl
   have hgln:(st.g++[Gr.mk place b wi (la st.g place)]).length≤17:=by rw [List.length_append];have:=V.gl;simp;lia
   have hckl:(clk (st.g++[Gr.mk place b wi (la st.g place)]) (b,wi)).length≤17:=by
    unfold clk;rw [List.length_map];exact lTr (List.length_filter_le ..) hgln
   apply p4a hA (lTr (Nat.le_of_lt hat) (lTr hlo (lTr (Nat.succ_le_succ (Nat.le_of_lt ht)) (by decide)))) (by rw [eo,lo];exact lTr hlo (lTr ht (by decide))) hw (by rw [eo,lo];exact hl) htold (lTr hgln (by decide)) hgp W
   have hhe:pk who (J0t st.g st.o0) (J0t st.g st.o1)=J1d (fun k=>.int ((clk st.g (b,wi)).count k)) (clk st.g (b,wi)):=by
    rw [← J9q (J0t st.g)];unfold J0t;rw [hc]
   apply p5a (ss:=clk (st.g++[Gr.mk place b wi (la st.g place)]) (b,wi)) hA hw hp (by rw [hhe,hck];exact K4h _ _) (by rw [hhe,J5i];exact J4 _) (by
    rw [hhe];unfold J1d;rw [List.length_map]
    have:=J8z (clk st.g (b,wi))
    rw [hck,List.length_append] at hckl
    exact lTr this (lTr (Nat.le_of_lt hckl) (by decide))) (lTr hckl (by decide))
   have hbo:bestV c.w1 st.g (pk who st.o0 st.o1)=bestN c.w1 wi (same st.g (b,wi)):=J9l hc
   have hbm:∀ z∈bestV c.w1 st.g (pk who st.o0 st.o1),z.1.2≤2:=fun z hz=>by
    rw [hbo] at hz
    exact Z1v (fun e he z hz=>(hgl e (List.mem_append_left _ (List.mem_filter.mp he).1) z hz).2) z hz
   have hpr:∀ z∈accN wi b (la st.g place),z.1.2≤2:=Z1y (fun z hz=>(V.lab place z hz).2.2) (lTr (Nat.le_of_eq hb.2) hw)
   have hbs : [J1n (bestV c.w1 st.g st.o0),J1n (bestV c.w1 st.g st.o1)][who]? = some (J1n (bestV c.w1 st.g (pk who st.o0 st.o1))):=J1t hw rfl rfl
   apply p5b hA hfr hw W hbs rfl hbm hpr htold
   have hbn:(if wi=none then [J1n (bestV c.w1 st.g st.o0),J1n (bestV c.w1 st.g st.o1)].set who (J1n (bestF c.w1 (bestV c.w1 st.g (pk who st.o0 st.o1)) (accN wi b (la st.g place)))) else [J1n (bestV c.w1 st.g st.o0),J1n (bestV c.w1 st.g st.o1)])
     = [J1n (bestV c.w1 st.g st.o0),J1n (bestV c.w1 st.g st.o1)].set who (J1n (bestN c.w1 wi (same (st.g++[Gr.mk place b wi (la st.g place)]) (b,wi)))):=by
    rw [hbo] at hbs ⊢
    rw [hS]
    exact K9c hbs
   have lckk:(J1d (fun k=>PyData.int ((clk (st.g++[Gr.mk place b wi (la st.g place)]) (b,wi)).count k)) (clk (st.g++[Gr.mk place b wi (la st.g place)]) (b,wi))).length=(dd (clk (st.g++[Gr.mk place b wi (la st.g place)]) (b,wi))).length:=List.length_map ..
   have lck2:=J8z (clk (st.g++[Gr.mk place b wi (la st.g place)]) (b,wi))
   have hHw:pk who (pk who (J1d (fun k=>PyData.int ((clk (st.g++[Gr.mk place b wi (la st.g place)]) (b,wi)).count k)) (clk (st.g++[Gr.mk place b wi (la st.g place)]) (b,wi))) (J0t st.g st.o0)) (pk who (J0t st.g st.o1) (J1d (fun k=>PyData.int ((clk (st.g++[Gr.mk place b wi (la st.g place)]) (b,wi)).count k)) (clk (st.g++[Gr.mk place b wi (la st.g place)]) (b,wi))))
     = J1d (fun k=>PyData.int ((clk (st.g++[Gr.mk place b wi (la st.g place)]) (b,wi)).count k)) (clk (st.g++[Gr.mk place b wi (la st.g place)]) (b,wi)):=Z9c hw _ _ _
   by_cases h2:2≤(dd (clk (st.g++[Gr.mk place b wi (la st.g place)]) (b,wi))).length
   ·rw [if_pos (show 2≤(dd ((same (st.g++[Gr.mk place b wi (la st.g place)]) (b,wi)).map fun e=>J2j e.p)).length from h2)] at hZ
    have hn:J6s c t st who place at_ (b,wi) = [Z7g (pk who c.v0 c.v1) c.w1 b wi (same (st.g++[Gr.mk place b wi (la st.g place)]) (b,wi))]:=K9 hl ho h2
    rw [hn] at hstep hO
    refine o11 (hO.resolve_left (by simp)) fun y hy hO=>?_
    rw [List.cons.injEq] at hy
    rw [hy.1] at hZ hstep
    refine kb3 hZ hbn hstep ?_
    have hnew:K1s b wi (pk who c.v0 c.v1) (bestN c.w1 wi (same (st.g++[Gr.mk place b wi (la st.g place)]) (b,wi)))=J4y y:=by
     rw [← hy.1];exact Z3v
    refine o02 (J8r (w1:=c.w1) (g':=st.g++[Gr.mk place b wi (la st.g place)]) V hw hO (.inr ⟨_,rfl,hE,T.mem⟩)) fun a1 a2 a3=>?_
    apply p6a (bo:=bestN c.w1 wi (same (st.g++[Gr.mk place b wi (la st.g place)]) (b,wi))) hA hw (by rw [hHw,lckk];exact h2) (by rw [hHw,lckk];exact lTr lck2 (lTr hckl (by decide))) (Z1h hw _ _ _) (by rw [List.length_set];rfl) ⟨lTr hb.1.2 (lTr ht (by decide)),lTr (Nat.le_of_eq hb.2) hw⟩ (by rw [el,ll];exact lTr hlo (lTr ht (by decide)))
    refine kb hnew ?_
    have m1:=J8 J4y hw st.o0 st.o1 y
    have m2:=J7 J4y hw st.o0 st.o1 y
    have m3:=J8 K3s hw st.o0 st.o1 y
    have m4:=J7 K3s hw st.o0 st.o1 y
    have z1:(pk who (pk who (J2b st.o0) (J2b st.o1)++[J4y y]) (J2b st.o0)).length=(pk who (pk who (J1e st.o0) (J1e st.o1)++J1e [y]) (J1e st.o0)).length:=by
     refine (congrArg List.length m1).trans (Eq.trans ?_ (congrArg List.length m3).symm)
     rw [List.length_map,List.length_map]
    have z2:(pk who (J2b st.o1) (pk who (J2b st.o0) (J2b st.o1)++[J4y y])).length=(pk who (J1e st.o1) (pk who (J1e st.o0) (J1e st.o1)++J1e [y])).length:=by
     refine (congrArg List.length m2).trans (Eq.trans ?_ (congrArg List.length m4).symm)
     rw [List.length_map,List.length_map]
    have y1:(pk who (pk who (J1e st.o0) (J1e st.o1)++J1e [y]) (J1e st.o0)).length≤1000:=by
     refine lTr (Nat.le_of_eq (congrArg List.length m3)) ?_
     rw [List.length_map]
     have q0:=V.o0.len;have q1:=V.o1.len
     refine J1t hw ?_ ?_
     ·show (st.o0++[y]).length≤1000;rw [List.length_append,List.length_singleton];exact lTr (Nat.succ_le_succ q0) (lTr (Nat.succ_le_succ ht) (by decide))
     ·show st.o0.length≤1000;exact lTr q0 (lTr ht (by decide))
    have y2:(pk who (J1e st.o1) (pk who (J1e st.o0) (J1e st.o1)++J1e [y])).length≤1000:=by
     refine lTr (Nat.le_of_eq (congrArg List.length m4)) ?_
     rw [List.length_map]
     have q0:=V.o0.len;have q1:=V.o1.len
     refine J1t hw ?_ ?_
     ·show st.o1.length≤1000;exact lTr q1 (lTr ht (by decide))
     ·show (st.o1++[y]).length≤1000;rw [List.length_append,List.length_singleton];exact lTr (Nat.succ_le_succ q1) (lTr (Nat.succ_le_succ ht) (by decide))
    refine p7 hA z1 z2 y1 y2 ⟨.inl rfl,?_⟩
    refine K2p rfl rfl m1 m2 ?_ ?_ ?_ rfl m3 m4 rfl rfl rfl rfl rfl
    ·rw [← a1];exact J1t hw rfl rfl
    ·rw [← a2];exact J1t hw rfl rfl
    ·rw [List.set_set];exact a3
   ·rw [if_neg (show ¬ 2≤(dd ((same (st.g++[Gr.mk place b wi (la st.g place)]) (b,wi)).map fun e=>J2j e.p)).length from h2)] at hZ
    have hn:J6s c t st who place at_ (b,wi) = []:=by unfold J6s;rw [if_neg hl,if_neg ho,if_neg h2]
    rw [hn,List.append_nil,K8 hw st.o0 st.o1,K7s hw st.o0 st.o1] at hstep
    refine kb3 ((congrArg (_++·) hZ).trans (List.append_nil _)) hbn hstep ?_
    refine kb2 (K8 hw (J1e st.o0) (J1e st.o1)) (K7s hw (J1e st.o0) (J1e st.o1)) ?_
    apply p6b hA hw (by rw [hHw,lckk];exact h2)
    have l0:(J1e st.o0).length=st.o0.length:=List.length_map ..
    have l1:(J1e st.o1).length=st.o1.length:=List.length_map ..
    refine p7 hA ((List.length_map ..).trans (List.length_map ..).symm) ((List.length_map ..).trans (List.length_map ..).symm) (by rw [l0];have:=V.o0.len;exact lTr this (lTr ht (by decide))) (by rw [l1];have:=V.o1.len;exact lTr this (lTr ht (by decide))) ⟨.inl rfl,?_⟩
    have hw1:∀ v,v<2→v≠who→J0t (st.g++[Gr.mk place b wi (la st.g place)]) (pk v st.o0 st.o1)=J0t st.g (pk v st.o0 st.o1):=fun v hv hne=>J2i (hother v hv hne)
    have hw3:∀ v,v<2→v≠who→bestV c.w1 (st.g++[Gr.mk place b wi (la st.g place)]) (pk v st.o0 st.o1)=bestV c.w1 st.g (pk v st.o0 st.o1):=fun v hv hne=>J3 (hother v hv hne)
    have hw2:J0t (st.g++[Gr.mk place b wi (la st.g place)]) (pk who st.o0 st.o1)=J1d (fun k=>PyData.int ((clk (st.g++[Gr.mk place b wi (la st.g place)]) (b,wi)).count k)) (clk (st.g++[Gr.mk place b wi (la st.g place)]) (b,wi)):=by unfold J0t;rw [hc]
    have hw4:bestV c.w1 (st.g++[Gr.mk place b wi (la st.g place)]) (pk who st.o0 st.o1)=bestN c.w1 wi (same (st.g++[Gr.mk place b wi (la st.g place)]) (b,wi)):=J9l hc
    refine kb2 hw2.symm hw4.symm ?_
    refine K2p rfl rfl rfl rfl ?_ ?_ ?_ rfl rfl rfl rfl rfl rfl rfl rfl
    ·revert hw1;exact J1t hw (fun _=>rfl) fun hw1=>(hw1 0 (by decide) (by decide)).symm
    ·revert hw1;exact J1t hw (fun hw1=>(hw1 1 (by decide) (by decide)).symm) fun _=>rfl
    ·revert hw3
     refine J1t hw (fun hw3=>?_) fun hw3=>?_
     ·exact congrArg (fun x=>[_,J1n x]) (hw3 1 (by decide) (by decide)).symm
     ·exact congrArg (fun x=>[J1n x,_]) (hw3 0 (by decide) (by decide)).symm
end
noncomputable def Z4y (k:Int):Int:=if k=0 then 1 else 3
noncomputable def Z0x (k:Int):Int:=if k=0 then 1 else if k=1 then -1 else if k=2 then 2 else -3
noncomputable def J0a (ns:List Int):Cfg:=⟨ns,2 * J6c ns 0 17,2 * J6c ns 1 20+1,J6c ns 2 0,J6c ns 3 3141142418517712,Z4y (((J6c ns 2 0).fdiv 4).fmod 2),Z0x ((J6c ns 2 0).fmod 4)⟩
theorem Z3k (ns:List Int):Ways (J0a ns).w0 (J0a ns).w1:=by
 refine ⟨?_,?_⟩
 ·show Z4y _=1∨Z4y _=3
  unfold Z4y;split<;>simp
 ·show Z0x _=1∨Z0x _ = -1∨Z0x _=2∨Z0x _ = -3
  unfold Z0x;repeat' split
  all_goals simp
noncomputable def st0:St:=⟨[],[((1,1),none)],[((1,2),none)],[],[]⟩
theorem Z9f:WInv 0 st0:=by
 refine ⟨⟨by decide,by decide,?_,?_,by decide,?_⟩,⟨by decide,by decide,?_,?_,by decide,?_⟩,Nat.le_refl _,rfl,rfl,?_,?_,?_⟩
 all_goals first|(intro e he;cases he;done)|skip
 all_goals first|(intro x hx;obtain rfl:=mSg hx;decide)|skip
 all_goals (intro _ x hx;obtain rfl:=mSg hx;intro _;rfl)
noncomputable abbrev LH (x1 x2 x3 x4 x5 x6 x7 x8 x9 x10 x11 x12 x13 x14 x15 x16 x17 x18 x19 x20:Option X:=none):List (Option X):=
 x1::x2::x3::x4::x5::x6::x7::x8::x9::x10::x11::x12::x13::x14::x15::x16::x17::x18::x19::x20 ::
 none::none::none::none::none::none::none::none::none::none::none::none::none::none::none::none::none::none::none::none::none::[]
section
variable {w:World}{A:Around}{q:Str}{cd:Value}{L0:Addr}{ns:List Int}{R:Fl→List (Option X)→Prop}
theorem Z7z {l r:Expr}{k:Int}(h:k=0∨k=1)(hs:Ok (nsl r=true)):V2 w A (subscriptTail l r) (T [.int 1,.int 3]) (I k) (I (Z4y k)):=by
 rcases h with rfl|rfl
 ·exact v_tget (Ok.mk rfl) hs
 ·exact v_tget (Ok.mk rfl) hs
theorem Z7c {l r:Expr}{k:Int}(h:k=0∨k=1∨k=2∨k=3)(hs:Ok (nsl r=true)):V2 w A (subscriptTail l r) (T [.int 1,.int (-1),.int 2,.int (-3)]) (I k) (I (Z0x k)):=by
 rcases h with rfl|rfl|rfl|rfl
 ·exact v_tget (Ok.mk rfl) hs
 ·exact v_tget (Ok.mk rfl) hs
 ·exact v_tget (Ok.mk rfl) hs
 ·exact v_tget (Ok.mk rfl) hs
theorem V0m (k:Int):k.fmod 2=0∨k.fmod 2=1:=by
 have h1:=Int.emod_nonneg k (by decide:(2:Int)≠0)
 have h2:=Int.emod_lt_of_pos k (by decide:(0:Int)<2)
 rw [Int.fmod_eq_emod_of_nonneg _ (by decide:(0:Int)≤2)];lia
theorem V0r (k:Int):k.fmod 4=0∨k.fmod 4=1∨k.fmod 4=2∨k.fmod 4=3:=by
 have h1:=Int.emod_nonneg k (by decide:(4:Int)≠0)
 have h2:=Int.emod_lt_of_pos k (by decide:(0:Int)<4)
 rw [Int.fmod_eq_emod_of_nonneg _ (by decide:(0:Int)≤4)];lia
theorem J7i {p:Nat}{f:Int}{xs:List (Option X)}{es:List Expr}{pos np:Pos}(hA:Rm 8 A)(hl:ns.length≤63)(hp:p≤3)
  (ha:VG w A (J0d q cd L0) J1l xs es [.d (.list (ns.map .int)),I p,I f]) :
  VE w A (J0d q cd L0) J1l xs (.Call (.Name "_law_cell" np) es [] pos) (I (J6c ns p f)):=by
 apply w_callf (a:=215)
 ·x_close
 ·x_close
 ·exact ha
 ·exact Ok.mk (fun _=>by with_unfolding_all rfl)
 ·exact Z3x (hA.less (by decide)) .d rfl hp hl
theorem h1 (hA:Rm 8 A)(hfr:A.frames=some [J0d q cd L0])(hl:ns.length≤63)
  (k:GX w A (J0d q cd L0) J1l (LH (some (.d (.list (ns.map .int)))) (some (L [.int (J0a ns).v0,.int (J0a ns).v1])) (some (I (J0a ns).kind)) (some (I (J0a ns).lot)) (some (T [.int (J0a ns).w0,.int (J0a ns).w1])) (some (J (J0a ns).w0 (J0a ns).w1))) (J1r.drop 5) R) :
  GX w A (J0d q cd L0) J1l (LH (some (.d (.list (ns.map .int))))) J1r R:=by
 have hh:A.handled=none:=hA.hd
 apply J0w
 ·apply J0h
  ·x_close
  ·refine show VE w A _ _ _ _ (L [.int (J0a ns).v0,.int (J0a ns).v1]) from ?_
   apply w_list (ys:=[I (2 * J6c ns 0 17),I (2 * J6c ns 1 20+1)])
   ·apply wl_cons
    ·x_close
    ·apply w_bin
     ·x_close
     ·apply J7i (p:=0) (f:=17) hA hl (by decide)
      repeat' x_close
     ·exact v_mul (IntMulOk.of_left (by decide))
    ·apply wl_cons
     ·x_close
     ·apply w_bin
      ·apply w_bin
       ·x_close
       ·apply J7i (p:=1) (f:=20) hA hl (by decide)
        repeat' x_close
       ·exact v_mul (IntMulOk.of_left (by decide))
      ·x_close
      ·exact v_add
     ·exact wl_nil
   ·repeat' x_close
   ·x_close
  ·repeat' x_close
 ·rfl
 apply J0w
 ·apply J0h
  ·x_close
  ·refine show VE w A _ _ _ _ (I (J0a ns).kind) from ?_
   apply J7i (p:=2) (f:=0) hA hl (by decide)
   repeat' x_close
  ·repeat' x_close
 ·rfl
 apply J0w
 ·apply J0h
  ·x_close
  ·refine show VE w A _ _ _ _ (I (J0a ns).lot) from ?_
   apply J7i (p:=3) (f:=3141142418517712) hA hl (by decide)
   repeat' x_close
  ·repeat' x_close
 ·rfl
 apply J0w
 ·apply J0h
  ·x_close
  ·refine show VE w A _ _ _ _ (T [.int (J0a ns).w0,.int (J0a ns).w1]) from ?_
   apply w_tuple (ys:=[I (Z4y (((J0a ns).kind.fdiv 4).fmod 2)),I (Z0x ((J0a ns).kind.fmod 4))])
   ·apply wl_cons
    ·x_close
    ·apply w_sub
     ·repeat' x_close
     ·apply w_bin
      ·apply w_bin
       ·x_close
       ·x_close
       ·exact ⟨K1k (by decide) (by have:=hA.dp;exact Nat.le_of_add_le_add_right this) hfr rfl rfl rfl rfl⟩
      ·x_close
      ·exact J6b (by decide)
     ·exact Z7z (V0m _) (Ok.mk rfl)
    ·apply wl_cons
     ·x_close
     ·apply w_sub
      ·repeat' x_close
      ·apply w_bin
       ·x_close
       ·x_close
       ·exact J6b (by decide)
      ·exact Z7c (V0r _) (Ok.mk rfl)
     ·exact wl_nil
   ·repeat' x_close
   ·x_close
  ·repeat' x_close
 ·rfl
 apply J0w
 ·apply J0h
  ·x_close
  ·apply Z2q (hA.less (by decide)) (w0:=(J0a ns).w0) (w1:=(J0a ns).w1)
   ·repeat' x_close
   ·apply wg_cons
    ·x_close
    ·refine wl_cons (Ok.mk rfl) (x:=.d (K1d (J0a ns).w0 (J0a ns).w1)) (w_list (ys:=[T [.int 1,.int (J0a ns).w0],T [.int 0,.int (J0a ns).w1]]) ?_ (.cons (.cons .nil)) (Ok.mk rfl)) wl_nil
     apply wl_cons
     ·x_close
     ·apply w_tuple
      ·apply wl_cons
       ·x_close
       ·x_close
       ·apply wl_cons
        ·x_close
        ·apply w_sub
         ·x_close
         ·x_close
         ·exact v_tget (Ok.mk rfl) (Ok.mk rfl)
        ·exact wl_nil
      ·repeat' x_close
      ·x_close
     ·apply wl_cons
      ·x_close
      ·apply w_tuple
       ·apply wl_cons
        ·x_close
        ·x_close
        ·apply wl_cons
         ·x_close
         ·apply w_sub
          ·x_close
          ·x_close
          ·exact v_tget (Ok.mk rfl) (Ok.mk rfl)
         ·exact wl_nil
       ·repeat' x_close
       ·x_close
      ·exact wl_nil
  ·repeat' x_close
 ·rfl
 exact k
theorem J2q {α:Type}{env:Env}{nn:List (Str×Bool)}{xs:List (Option X)}{xs':α→List (Option X)}{st:Stmt}{ss:List Stmt}(h:M1 w A env nn xs st (fun f x=>f = .next∧∃ a,x=xs' a))(t:∀ a,GX w A env nn (xs' a) ss R):GX w A env nn xs (st::ss) R:=
 J3n (Z7 h) (fun x q=>by obtain ⟨_,a,rfl⟩:=q;exact t a) fun f x n q=>absurd q.1 n
theorem h2 (hA:Rm 8 A)(k:∀ a,GX w A (J0d q cd L0) J1l (LX w (J0a ns) a st0 0) (J1r.drop 19) R) :
  GX w A (J0d q cd L0) J1l (LH (some (.d (.list (ns.map .int)))) (some (L [.int (J0a ns).v0,.int (J0a ns).v1])) (some (I (J0a ns).kind)) (some (I (J0a ns).lot)) (some (T [.int (J0a ns).w0,.int (J0a ns).w1])) (some (J (J0a ns).w0 (J0a ns).w1))) (J1r.drop 5) R:=by
 have hh:A.handled=none:=hA.hd
 apply J2q (xs':=fun a1=>LH (some (.d (.list (ns.map .int)))) (some (L [.int (J0a ns).v0,.int (J0a ns).v1])) (some (I (J0a ns).kind)) (some (I (J0a ns).lot)) (some (T [.int (J0a ns).w0,.int (J0a ns).w1])) (some (J (J0a ns).w0 (J0a ns).w1)) (some (.l a1 [.str "o",.str "o",.str "o"])))
 ·apply J2d (xs':=fun a1=>LH (some (.d (.list (ns.map .int)))) (some (L [.int (J0a ns).v0,.int (J0a ns).v1])) (some (I (J0a ns).kind)) (some (I (J0a ns).lot)) (some (T [.int (J0a ns).w0,.int (J0a ns).w1])) (some (J (J0a ns).w0 (J0a ns).w1)) (some (.l a1 [.str "o",.str "o",.str "o"]))) (ds:=[.str "o",.str "o",.str "o"])
  ·repeat' x_close
  ·repeat' x_close
  ·x_close
  ·exact fun _=>by repeat (first|exact New.hd|apply New.tail)
  ·exact fun _ _=>⟨rfl,_,rfl⟩
  ·rfl
 intro a1
 apply J2q (xs':=fun a2=>LH (some (.d (.list (ns.map .int)))) (some (L [.int (J0a ns).v0,.int (J0a ns).v1])) (some (I (J0a ns).kind)) (some (I (J0a ns).lot)) (some (T [.int (J0a ns).w0,.int (J0a ns).w1])) (some (J (J0a ns).w0 (J0a ns).w1)) (some (.l a1 [.str "o",.str "o",.str "o"])) (some (.l a2 [.none,.none,.none])))
 ·apply J2d (xs':=fun a2=>LH (some (.d (.list (ns.map .int)))) (some (L [.int (J0a ns).v0,.int (J0a ns).v1])) (some (I (J0a ns).kind)) (some (I (J0a ns).lot)) (some (T [.int (J0a ns).w0,.int (J0a ns).w1])) (some (J (J0a ns).w0 (J0a ns).w1)) (some (.l a1 [.str "o",.str "o",.str "o"])) (some (.l a2 [.none,.none,.none]))) (ds:=[.none,.none,.none])
  ·repeat' x_close
  ·repeat' x_close
  ·x_close
  ·exact fun _=>by repeat (first|exact New.hd|apply New.tail)
  ·exact fun _ _=>⟨rfl,_,rfl⟩
  ·rfl
 intro a2
 apply J2q (xs':=fun z:Addr×Addr×Addr=>LH (some (.d (.list (ns.map .int)))) (some (L [.int (J0a ns).v0,.int (J0a ns).v1])) (some (I (J0a ns).kind)) (some (I (J0a ns).lot)) (some (T [.int (J0a ns).w0,.int (J0a ns).w1])) (some (J (J0a ns).w0 (J0a ns).w1)) (some (.l a1 [.str "o",.str "o",.str "o"])) (some (.l a2 [.none,.none,.none])) (some (.ll z.1 z.2.1 [.tuple [.str ".p",.none]] z.2.2 [.tuple [.str ".q",.none]])))
 ·apply Z7j (xs':=fun a3 a4 a5=>LH (some (.d (.list (ns.map .int)))) (some (L [.int (J0a ns).v0,.int (J0a ns).v1])) (some (I (J0a ns).kind)) (some (I (J0a ns).lot)) (some (T [.int (J0a ns).w0,.int (J0a ns).w1])) (some (J (J0a ns).w0 (J0a ns).w1)) (some (.l a1 [.str "o",.str "o",.str "o"])) (some (.l a2 [.none,.none,.none])) (some (.ll a3 a4 [.tuple [.str ".p",.none]] a5 [.tuple [.str ".q",.none]]))) (ds1:=[.tuple [.str ".p",.none]]) (ds2:=[.tuple [.str ".q",.none]])
  ·repeat' x_close
  ·repeat' x_close
  ·repeat' x_close
  ·repeat' x_close
  ·x_close
  ·x_close
  ·exact fun _ _ _=>by repeat (first|exact New.hd|apply New.tail)
  ·exact fun a b c=>⟨rfl,(a,b,c),rfl⟩
  ·x_close
  ·rfl
 rintro ⟨a3,a4,a5⟩
 apply J0w (xs':=LH (some (.d (.list (ns.map .int)))) (some (L [.int (J0a ns).v0,.int (J0a ns).v1])) (some (I (J0a ns).kind)) (some (I (J0a ns).lot)) (some (T [.int (J0a ns).w0,.int (J0a ns).w1])) (some (J (J0a ns).w0 (J0a ns).w1)) (some (.l a1 [.str "o",.str "o",.str "o"])) (some (.l a2 [.none,.none,.none])) (some (.ll a3 a4 [.tuple [.str ".p",.none]] a5 [.tuple [.str ".q",.none]])) (some (DX w [])))
 ·apply J0h
  ·x_close
  ·exact K3y
  ·repeat' x_close
 ·rfl
 apply J2q (xs':=fun a6=>LH (some (.d (.list (ns.map .int)))) (some (L [.int (J0a ns).v0,.int (J0a ns).v1])) (some (I (J0a ns).kind)) (some (I (J0a ns).lot)) (some (T [.int (J0a ns).w0,.int (J0a ns).w1])) (some (J (J0a ns).w0 (J0a ns).w1)) (some (.l a1 [.str "o",.str "o",.str "o"])) (some (.l a2 [.none,.none,.none])) (some (.ll a3 a4 [.tuple [.str ".p",.none]] a5 [.tuple [.str ".q",.none]])) (some (DX w [])) (some (.lp a6 (DicP w []) (DicP w []))))
 ·apply V1c (xs':=fun a6=>LH (some (.d (.list (ns.map .int)))) (some (L [.int (J0a ns).v0,.int (J0a ns).v1])) (some (I (J0a ns).kind)) (some (I (J0a ns).lot)) (some (T [.int (J0a ns).w0,.int (J0a ns).w1])) (some (J (J0a ns).w0 (J0a ns).w1)) (some (.l a1 [.str "o",.str "o",.str "o"])) (some (.l a2 [.none,.none,.none])) (some (.ll a3 a4 [.tuple [.str ".p",.none]] a5 [.tuple [.str ".q",.none]])) (some (DX w [])) (some (.lp a6 (DicP w []) (DicP w []))))
  ·repeat' x_close
  ·exact fun _=>by repeat (first|exact New.hd|apply New.tail)
  ·exact fun _=>⟨rfl,_,rfl⟩
  ·rfl
 intro a6
 apply J2q (xs':=fun a7=>LH (some (.d (.list (ns.map .int)))) (some (L [.int (J0a ns).v0,.int (J0a ns).v1])) (some (I (J0a ns).kind)) (some (I (J0a ns).lot)) (some (T [.int (J0a ns).w0,.int (J0a ns).w1])) (some (J (J0a ns).w0 (J0a ns).w1)) (some (.l a1 [.str "o",.str "o",.str "o"])) (some (.l a2 [.none,.none,.none])) (some (.ll a3 a4 [.tuple [.str ".p",.none]] a5 [.tuple [.str ".q",.none]])) (some (DX w [])) (some (.lp a6 (DicP w []) (DicP w []))) (some (.l a7 [.none,.none])))
 ·apply J2d (xs':=fun a7=>LH (some (.d (.list (ns.map .int)))) (some (L [.int (J0a ns).v0,.int (J0a ns).v1])) (some (I (J0a ns).kind)) (some (I (J0a ns).lot)) (some (T [.int (J0a ns).w0,.int (J0a ns).w1])) (some (J (J0a ns).w0 (J0a ns).w1)) (some (.l a1 [.str "o",.str "o",.str "o"])) (some (.l a2 [.none,.none,.none])) (some (.ll a3 a4 [.tuple [.str ".p",.none]] a5 [.tuple [.str ".q",.none]])) (some (DX w [])) (some (.lp a6 (DicP w []) (DicP w []))) (some (.l a7 [.none,.none]))) (ds:=[.none,.none])
  ·repeat' x_close
  ·repeat' x_close
  ·x_close
  ·exact fun _=>by repeat (first|exact New.hd|apply New.tail)
  ·exact fun _ _=>⟨rfl,_,rfl⟩
  ·rfl
 intro a7
 apply J0w (xs':=LH (some (.d (.list (ns.map .int)))) (some (L [.int (J0a ns).v0,.int (J0a ns).v1])) (some (I (J0a ns).kind)) (some (I (J0a ns).lot)) (some (T [.int (J0a ns).w0,.int (J0a ns).w1])) (some (J (J0a ns).w0 (J0a ns).w1)) (some (.l a1 [.str "o",.str "o",.str "o"])) (some (.l a2 [.none,.none,.none])) (some (.ll a3 a4 [.tuple [.str ".p",.none]] a5 [.tuple [.str ".q",.none]])) (some (DX w [])) (some (.lp a6 (DicP w []) (DicP w []))) (some (.l a7 [.none,.none])) (some (DX w [])))
 ·apply J0h
  ·x_close
  ·exact K3y
  ·repeat' x_close
 ·rfl
 apply J2q (xs':=fun z:Addr×Addr×Addr=>LH (some (.d (.list (ns.map .int)))) (some (L [.int (J0a ns).v0,.int (J0a ns).v1])) (some (I (J0a ns).kind)) (some (I (J0a ns).lot)) (some (T [.int (J0a ns).w0,.int (J0a ns).w1])) (some (J (J0a ns).w0 (J0a ns).w1)) (some (.l a1 [.str "o",.str "o",.str "o"])) (some (.l a2 [.none,.none,.none])) (some (.ll a3 a4 [.tuple [.str ".p",.none]] a5 [.tuple [.str ".q",.none]])) (some (DX w [])) (some (.lp a6 (DicP w []) (DicP w []))) (some (.l a7 [.none,.none])) (some (DX w [])) (some (.ll z.1 z.2.1 [.tuple [.tuple [.int 1,.int 1],.none]] z.2.2 [.tuple [.tuple [.int 1,.int 2],.none]])))
 ·apply Z7j (xs':=fun a8 a9 a10=>LH (some (.d (.list (ns.map .int)))) (some (L [.int (J0a ns).v0,.int (J0a ns).v1])) (some (I (J0a ns).kind)) (some (I (J0a ns).lot)) (some (T [.int (J0a ns).w0,.int (J0a ns).w1])) (some (J (J0a ns).w0 (J0a ns).w1)) (some (.l a1 [.str "o",.str "o",.str "o"])) (some (.l a2 [.none,.none,.none])) (some (.ll a3 a4 [.tuple [.str ".p",.none]] a5 [.tuple [.str ".q",.none]])) (some (DX w [])) (some (.lp a6 (DicP w []) (DicP w []))) (some (.l a7 [.none,.none])) (some (DX w [])) (some (.ll a8 a9 [.tuple [.tuple [.int 1,.int 1],.none]] a10 [.tuple [.tuple [.int 1,.int 2],.none]]))) (ds1:=[.tuple [.tuple [.int 1,.int 1],.none]]) (ds2:=[.tuple [.tuple [.int 1,.int 2],.none]])
  ·repeat' x_close
  ·repeat' x_close
  ·repeat' x_close
  ·repeat' x_close
  ·x_close
  ·x_close
  ·exact fun _ _ _=>by repeat (first|exact New.hd|apply New.tail)
  ·exact fun a b c=>⟨rfl,(a,b,c),rfl⟩
  ·x_close
  ·rfl
 rintro ⟨a8,a9,a10⟩
 apply J2q (xs':=fun a11=>LH (some (.d (.list (ns.map .int)))) (some (L [.int (J0a ns).v0,.int (J0a ns).v1])) (some (I (J0a ns).kind)) (some (I (J0a ns).lot)) (some (T [.int (J0a ns).w0,.int (J0a ns).w1])) (some (J (J0a ns).w0 (J0a ns).w1)) (some (.l a1 [.str "o",.str "o",.str "o"])) (some (.l a2 [.none,.none,.none])) (some (.ll a3 a4 [.tuple [.str ".p",.none]] a5 [.tuple [.str ".q",.none]])) (some (DX w [])) (some (.lp a6 (DicP w []) (DicP w []))) (some (.l a7 [.none,.none])) (some (DX w [])) (some (.ll a8 a9 [.tuple [.tuple [.int 1,.int 1],.none]] a10 [.tuple [.tuple [.int 1,.int 2],.none]])) (some (.l a11 [])))
 ·apply J2d (xs':=fun a11=>LH (some (.d (.list (ns.map .int)))) (some (L [.int (J0a ns).v0,.int (J0a ns).v1])) (some (I (J0a ns).kind)) (some (I (J0a ns).lot)) (some (T [.int (J0a ns).w0,.int (J0a ns).w1])) (some (J (J0a ns).w0 (J0a ns).w1)) (some (.l a1 [.str "o",.str "o",.str "o"])) (some (.l a2 [.none,.none,.none])) (some (.ll a3 a4 [.tuple [.str ".p",.none]] a5 [.tuple [.str ".q",.none]])) (some (DX w [])) (some (.lp a6 (DicP w []) (DicP w []))) (some (.l a7 [.none,.none])) (some (DX w [])) (some (.ll a8 a9 [.tuple [.tuple [.int 1,.int 1],.none]] a10 [.tuple [.tuple [.int 1,.int 2],.none]])) (some (.l a11 []))) (ds:=[])
  ·repeat' x_close
  ·repeat' x_close
  ·x_close
  ·exact fun _=>by repeat (first|exact New.hd|apply New.tail)
  ·exact fun _ _=>⟨rfl,_,rfl⟩
  ·rfl
 intro a11
 apply J2q (xs':=fun a12=>LH (some (.d (.list (ns.map .int)))) (some (L [.int (J0a ns).v0,.int (J0a ns).v1])) (some (I (J0a ns).kind)) (some (I (J0a ns).lot)) (some (T [.int (J0a ns).w0,.int (J0a ns).w1])) (some (J (J0a ns).w0 (J0a ns).w1)) (some (.l a1 [.str "o",.str "o",.str "o"])) (some (.l a2 [.none,.none,.none])) (some (.ll a3 a4 [.tuple [.str ".p",.none]] a5 [.tuple [.str ".q",.none]])) (some (DX w [])) (some (.lp a6 (DicP w []) (DicP w []))) (some (.l a7 [.none,.none])) (some (DX w [])) (some (.ll a8 a9 [.tuple [.tuple [.int 1,.int 1],.none]] a10 [.tuple [.tuple [.int 1,.int 2],.none]])) (some (.l a11 [])) (some (.l a12 [])))
 ·apply J2d (xs':=fun a12=>LH (some (.d (.list (ns.map .int)))) (some (L [.int (J0a ns).v0,.int (J0a ns).v1])) (some (I (J0a ns).kind)) (some (I (J0a ns).lot)) (some (T [.int (J0a ns).w0,.int (J0a ns).w1])) (some (J (J0a ns).w0 (J0a ns).w1)) (some (.l a1 [.str "o",.str "o",.str "o"])) (some (.l a2 [.none,.none,.none])) (some (.ll a3 a4 [.tuple [.str ".p",.none]] a5 [.tuple [.str ".q",.none]])) (some (DX w [])) (some (.lp a6 (DicP w []) (DicP w []))) (some (.l a7 [.none,.none])) (some (DX w [])) (some (.ll a8 a9 [.tuple [.tuple [.int 1,.int 1],.none]] a10 [.tuple [.tuple [.int 1,.int 2],.none]])) (some (.l a11 [])) (some (.l a12 []))) (ds:=[])
  ·repeat' x_close
  ·repeat' x_close
  ·x_close
  ·exact fun _=>by repeat (first|exact New.hd|apply New.tail)
  ·exact fun _ _=>⟨rfl,_,rfl⟩
  ·rfl
 intro a12
 apply J2q (xs':=fun a13=>LH (some (.d (.list (ns.map .int)))) (some (L [.int (J0a ns).v0,.int (J0a ns).v1])) (some (I (J0a ns).kind)) (some (I (J0a ns).lot)) (some (T [.int (J0a ns).w0,.int (J0a ns).w1])) (some (J (J0a ns).w0 (J0a ns).w1)) (some (.l a1 [.str "o",.str "o",.str "o"])) (some (.l a2 [.none,.none,.none])) (some (.ll a3 a4 [.tuple [.str ".p",.none]] a5 [.tuple [.str ".q",.none]])) (some (DX w [])) (some (.lp a6 (DicP w []) (DicP w []))) (some (.l a7 [.none,.none])) (some (DX w [])) (some (.ll a8 a9 [.tuple [.tuple [.int 1,.int 1],.none]] a10 [.tuple [.tuple [.int 1,.int 2],.none]])) (some (.l a11 [])) (some (.l a12 [])) (some (.l a13 [])))
 ·apply J2d (xs':=fun a13=>LH (some (.d (.list (ns.map .int)))) (some (L [.int (J0a ns).v0,.int (J0a ns).v1])) (some (I (J0a ns).kind)) (some (I (J0a ns).lot)) (some (T [.int (J0a ns).w0,.int (J0a ns).w1])) (some (J (J0a ns).w0 (J0a ns).w1)) (some (.l a1 [.str "o",.str "o",.str "o"])) (some (.l a2 [.none,.none,.none])) (some (.ll a3 a4 [.tuple [.str ".p",.none]] a5 [.tuple [.str ".q",.none]])) (some (DX w [])) (some (.lp a6 (DicP w []) (DicP w []))) (some (.l a7 [.none,.none])) (some (DX w [])) (some (.ll a8 a9 [.tuple [.tuple [.int 1,.int 1],.none]] a10 [.tuple [.tuple [.int 1,.int 2],.none]])) (some (.l a11 [])) (some (.l a12 [])) (some (.l a13 []))) (ds:=[])
  ·repeat' x_close
  ·repeat' x_close
  ·x_close
  ·exact fun _=>by repeat (first|exact New.hd|apply New.tail)
  ·exact fun _ _=>⟨rfl,_,rfl⟩
  ·rfl
 intro a13
 apply J2q (xs':=fun a14=>LH (some (.d (.list (ns.map .int)))) (some (L [.int (J0a ns).v0,.int (J0a ns).v1])) (some (I (J0a ns).kind)) (some (I (J0a ns).lot)) (some (T [.int (J0a ns).w0,.int (J0a ns).w1])) (some (J (J0a ns).w0 (J0a ns).w1)) (some (.l a1 [.str "o",.str "o",.str "o"])) (some (.l a2 [.none,.none,.none])) (some (.ll a3 a4 [.tuple [.str ".p",.none]] a5 [.tuple [.str ".q",.none]])) (some (DX w [])) (some (.lp a6 (DicP w []) (DicP w []))) (some (.l a7 [.none,.none])) (some (DX w [])) (some (.ll a8 a9 [.tuple [.tuple [.int 1,.int 1],.none]] a10 [.tuple [.tuple [.int 1,.int 2],.none]])) (some (.l a11 [])) (some (.l a12 [])) (some (.l a13 [])) (some (.l a14 [])))
 ·apply J2d (xs':=fun a14=>LH (some (.d (.list (ns.map .int)))) (some (L [.int (J0a ns).v0,.int (J0a ns).v1])) (some (I (J0a ns).kind)) (some (I (J0a ns).lot)) (some (T [.int (J0a ns).w0,.int (J0a ns).w1])) (some (J (J0a ns).w0 (J0a ns).w1)) (some (.l a1 [.str "o",.str "o",.str "o"])) (some (.l a2 [.none,.none,.none])) (some (.ll a3 a4 [.tuple [.str ".p",.none]] a5 [.tuple [.str ".q",.none]])) (some (DX w [])) (some (.lp a6 (DicP w []) (DicP w []))) (some (.l a7 [.none,.none])) (some (DX w [])) (some (.ll a8 a9 [.tuple [.tuple [.int 1,.int 1],.none]] a10 [.tuple [.tuple [.int 1,.int 2],.none]])) (some (.l a11 [])) (some (.l a12 [])) (some (.l a13 [])) (some (.l a14 []))) (ds:=[])
  ·repeat' x_close
  ·repeat' x_close
  ·x_close
  ·exact fun _=>by repeat (first|exact New.hd|apply New.tail)
  ·exact fun _ _=>⟨rfl,_,rfl⟩
  ·rfl
 intro a14
 apply J2q (xs':=fun a15=>LH (some (.d (.list (ns.map .int)))) (some (L [.int (J0a ns).v0,.int (J0a ns).v1])) (some (I (J0a ns).kind)) (some (I (J0a ns).lot)) (some (T [.int (J0a ns).w0,.int (J0a ns).w1])) (some (J (J0a ns).w0 (J0a ns).w1)) (some (.l a1 [.str "o",.str "o",.str "o"])) (some (.l a2 [.none,.none,.none])) (some (.ll a3 a4 [.tuple [.str ".p",.none]] a5 [.tuple [.str ".q",.none]])) (some (DX w [])) (some (.lp a6 (DicP w []) (DicP w []))) (some (.l a7 [.none,.none])) (some (DX w [])) (some (.ll a8 a9 [.tuple [.tuple [.int 1,.int 1],.none]] a10 [.tuple [.tuple [.int 1,.int 2],.none]])) (some (.l a11 [])) (some (.l a12 [])) (some (.l a13 [])) (some (.l a14 [])) (some (.l a15 [])))
 ·apply J2d (xs':=fun a15=>LH (some (.d (.list (ns.map .int)))) (some (L [.int (J0a ns).v0,.int (J0a ns).v1])) (some (I (J0a ns).kind)) (some (I (J0a ns).lot)) (some (T [.int (J0a ns).w0,.int (J0a ns).w1])) (some (J (J0a ns).w0 (J0a ns).w1)) (some (.l a1 [.str "o",.str "o",.str "o"])) (some (.l a2 [.none,.none,.none])) (some (.ll a3 a4 [.tuple [.str ".p",.none]] a5 [.tuple [.str ".q",.none]])) (some (DX w [])) (some (.lp a6 (DicP w []) (DicP w []))) (some (.l a7 [.none,.none])) (some (DX w [])) (some (.ll a8 a9 [.tuple [.tuple [.int 1,.int 1],.none]] a10 [.tuple [.tuple [.int 1,.int 2],.none]])) (some (.l a11 [])) (some (.l a12 [])) (some (.l a13 [])) (some (.l a14 [])) (some (.l a15 []))) (ds:=[])
  ·repeat' x_close
  ·repeat' x_close
  ·x_close
  ·exact fun _=>by repeat (first|exact New.hd|apply New.tail)
  ·exact fun _ _=>⟨rfl,_,rfl⟩
  ·rfl
 intro a15
 apply J2q (xs':=fun z:Addr×Addr=>LH (some (.d (.list (ns.map .int)))) (some (L [.int (J0a ns).v0,.int (J0a ns).v1])) (some (I (J0a ns).kind)) (some (I (J0a ns).lot)) (some (T [.int (J0a ns).w0,.int (J0a ns).w1])) (some (J (J0a ns).w0 (J0a ns).w1)) (some (.l a1 [.str "o",.str "o",.str "o"])) (some (.l a2 [.none,.none,.none])) (some (.ll a3 a4 [.tuple [.str ".p",.none]] a5 [.tuple [.str ".q",.none]])) (some (DX w [])) (some (.lp a6 (DicP w []) (DicP w []))) (some (.l a7 [.none,.none])) (some (DX w [])) (some (.ll a8 a9 [.tuple [.tuple [.int 1,.int 1],.none]] a10 [.tuple [.tuple [.int 1,.int 2],.none]])) (some (.l a11 [])) (some (.l a12 [])) (some (.l a13 [])) (some (.l a14 [])) (some (.l a15 [])) (some (.it z.1 z.2 16 0)))
 ·apply V0j (xs':=fun a16 a17=>LH (some (.d (.list (ns.map .int)))) (some (L [.int (J0a ns).v0,.int (J0a ns).v1])) (some (I (J0a ns).kind)) (some (I (J0a ns).lot)) (some (T [.int (J0a ns).w0,.int (J0a ns).w1])) (some (J (J0a ns).w0 (J0a ns).w1)) (some (.l a1 [.str "o",.str "o",.str "o"])) (some (.l a2 [.none,.none,.none])) (some (.ll a3 a4 [.tuple [.str ".p",.none]] a5 [.tuple [.str ".q",.none]])) (some (DX w [])) (some (.lp a6 (DicP w []) (DicP w []))) (some (.l a7 [.none,.none])) (some (DX w [])) (some (.ll a8 a9 [.tuple [.tuple [.int 1,.int 1],.none]] a10 [.tuple [.tuple [.int 1,.int 2],.none]])) (some (.l a11 [])) (some (.l a12 [])) (some (.l a13 [])) (some (.l a14 [])) (some (.l a15 [])) (some (.it a16 a17 16 0))) (k:=16) (by decide) hh
  ·repeat' x_close
  ·repeat' x_close
  ·apply w_callt (T:="range")
   ·x_close
   ·x_close
   ·repeat' x_close
   ·exact J5c
  ·x_close
  ·x_close
  ·decide +kernel
  ·decide +kernel
  ·x_close
  ·x_close
  ·exact fun _ _=>by repeat (first|exact New.hd|apply New.tail)
  ·exact fun a b=>⟨rfl,(a,b),rfl⟩
  ·rfl
 rintro ⟨a16,a17⟩
 exact k ⟨a1,a2,a3,a4,a5,a6,a7,a8,a9,a10,a11,a12,a13,a14,a15,a16,a17⟩
end
noncomputable def run (c:Cfg):Nat→St
 |0=>st0
 |t+1=>step c t (run c t)
theorem J4q (c:Cfg):∀ {t:Nat},t≤16→WInv t (run c t)
 |0,_=>Z9f
 |t+1,h=>(J4q c (t:=t) (Nat.le_of_lt h)).step h
section
variable {w:World}{A:Around}{q:Str}{cd:Value}{L0:Addr}{c:Cfg}{a:Ad}{R:Fl→List (Option X)→Prop}
theorem h3 (hA:Rm 8 A)(hfr:A.frames=some [J0d q cd L0])(W:Ways c.w0 c.w1)(k:GX w A (J0d q cd L0) J1l (LX w c a (run c 16) 16) (J1r.drop 20) R) :
  GX w A (J0d q cd L0) J1l (LX w c a st0 0) (J1r.drop 19) R:=by
 have hh:A.handled=none:=hA.hd
 refine J2g (xs':=LX w c a (run c 16) 16) ?_ k
 apply K7w (a:=15) (b:=-1) (c:=-1) (m:=16) (fun i xs=>xs=LX w c a (run c i) i) hh
 ·apply w_callt (T:="range")
  ·x_close
  ·x_close
  ·repeat' x_close
  ·exact K2s (by decide) (by decide +kernel)
 ·decide +kernel
 ·decide +kernel
 ·rfl
 ·rintro i xs hi rfl
  refine ⟨FX w c a (J5p c.w1 (run c i).g) (K4l (run c i).g) (J2b (run c i).o0) (J2b (run c i).o1) (J0t (run c i).g (run c i).o0) (J0t (run c i).g (run c i).o1) [J1n (bestV c.w1 (run c i).g (run c i).o0),J1n (bestV c.w1 (run c i).g (run c i).o1)] (J6g (run c i).g (run c i).rs) (J1e (run c i).o0) (J1e (run c i).o1) ((gd (run c i).g).map Ent.d) (K7i (run c i).g) ((run c i).rs.map .int) (run c i).sd (run c i).sd i
   (some (I (15 - (i:Int)))) none none none none none none none none none none none none none none,?_,rfl,?_⟩
  ·rw [show (15:Int)+(i:Int) * -1=15 - (i:Int) by lia]
   apply J3o
   repeat' x_close
  ·refine GX.weak (turn hA hfr W (J4q c (Nat.le_of_lt hi)) hi) fun f x hx=>⟨_,hx.2,hx.1,rfl⟩
 ·rintro xs rfl
  exact ⟨rfl,rfl⟩
 ·intro _;rfl
end
theorem K1y {t:Int}{a b:Bal}:J0p t a b=true↔(b.1<a.1∨(a.1=b.1∧t * (b.2:Int)<t * (a.2:Int))):=by
 unfold J0p J7f
 split
 ·rename_i h;exact decide_eq_true_iff.trans ⟨fun q=>.inr ⟨Int.ofNat.inj h,q⟩,fun q=>q.elim (fun q=>absurd (Int.ofNat.inj h) (Nat.ne_of_gt q)) (·.2)⟩
 ·rename_i h;exact decide_eq_true_iff.trans ⟨fun q=>.inl (Int.ofNat_lt.1 q),fun q=>q.elim (fun q=>Int.ofNat_lt.2 q) fun q=>absurd (congrArg _ q.1) h⟩
theorem K0k {t:Int}{a b:Bal}:J0p t a b=false↔¬ (b.1<a.1∨(a.1=b.1∧t * (b.2:Int)<t * (a.2:Int))):=by
 rw [← K1y,Bool.not_eq_true]
theorem K4a {t:Int}{a b:Bal}(h:J0p t a b=false):a.1≤b.1∧(a.1=b.1→t * (a.2:Int)≤t * (b.2:Int)):=
 have h:=K0k.1 h
 ⟨Nat.le_of_not_lt fun q=>h (.inl q),fun e=>Int.not_lt.1 fun q=>h (.inr ⟨e,q⟩)⟩
theorem J2y {t:Int}{a b c:Bal}(h1:J0p t a b=false)(h2:J0p t b c=false):J0p t a c=false:=by
 have p:=K4a h1
 have q:=K4a h2
 refine K0k.2 (Or.rec (fun r=>Nat.not_lt.2 (lTr p.1 q.1) r) fun r=>?_)
 have e:a.1=b.1:=Nat.le_antisymm p.1 (r.1▸q.1)
 exact Int.not_lt.2 (Int.le_trans (p.2 e) (q.2 (e.symm.trans r.1))) r.2
theorem Z7v {t:Int}{a b:Bal}(h:J0p t a b=true):J0p t b a=false:=
 K0k.2 fun q=>(K1y.1 h).elim (fun r=>q.elim (fun q=>Nat.lt_asymm r q) fun q=>Nat.ne_of_gt r q.1.symm) fun r=>q.elim (fun q=>Nat.ne_of_gt q r.1.symm) fun q=>Int.lt_asymm r.2 q.2
def GOK (t:Int)(g:List Gr):Prop:=∀ l e r,g=l++e::r→J0p t (hi t l e.p) e.b=false∧e.l=la l e.p
theorem GOK.pre {t l r}(h:GOK t (l++r)):GOK t l:=fun a e b q=>h a e (b++r) (by rw [q];simp)
theorem GOK.snoc {t:Int}{g:List Gr}{e:Gr}(h:GOK t g)(h1:J0p t (hi t g e.p) e.b=false)(h2:e.l=la g e.p):GOK t (g++[e]):=by
 intro l x r q
 rcases (List.eq_nil_or_concat r).imp id (fun ⟨r',y,e⟩=>(⟨r',y,e.trans (by simp)⟩:∃ r' y,r=r'++[y])) with rfl|⟨r',y,rfl⟩
 ·obtain ⟨e1,e2⟩:=List.append_inj' q rfl
  have e3:e=x:=(List.cons.inj e2).1
  subst e1;subst e3;exact ⟨h1,h2⟩
 ·rw [← List.cons_append,← List.append_assoc] at q
  obtain ⟨e1,_⟩:=List.append_inj' q rfl
  exact h l x r' e1
theorem Z6t {t:Int}{g:List Gr}{p:Nat}:∀ e∈g,e.p=p→J0p t e.b (hi t g p)=false:=by
 rw [← List.reverse_reverse g]
 induction g.reverse with
 |nil=>intro e he;cases he
 |cons x l ih=>
  intro e he hp
  rw [List.reverse_cons] at he ⊢
  rw [K0r]
  rcases mAp he with he|he
  ·have:=ih e he hp
   split
   ·rename_i q
    exact J2y this (Z7v q.2)
   ·exact this
  ·obtain rfl:=mSg he
   split
   ·exact J2o
   ·rename_i q
    have:¬ J0p t e.b (hi t l.reverse p)=true:=fun z=>q ⟨hp,z⟩
    simpa using this
theorem V0z {t:Int}{g:List Gr}{p:Nat}:GOK t g→∀ e∈g,e.p=p→e.w.isSome=true→∃ z,la g p=some z∧J0p t e.b z.1=false:=by
 rw [← List.reverse_reverse g]
 induction g.reverse with
 |nil=>intro _ e he;cases he
 |cons x l ih=>
  intro hG e he hp hw
  rw [List.reverse_cons] at he hG ⊢
  rw [J5x]
  have hx:=hG l.reverse x [] rfl
  rcases mAp he with he|he
  ·refine o11 (ih hG.pre e he hp hw) fun z h1 h2=>?_
   split
   ·rename_i q
    have h3:J0p t e.b x.b=false:=J2y (Z6t e he (hp.trans q.symm)) hx.1
    cases hxw:x.w with
    |none=>exact ⟨z,h1,h2⟩
    |some v=>exact ⟨_,rfl,h3⟩
   ·exact ⟨z,h1,h2⟩
  ·obtain rfl:=mSg he
   rw [if_pos hp]
   refine o10 (Option.isSome_iff_exists.mp hw) fun v hv=>?_
   rw [hv]
   exact ⟨_,rfl,J2o⟩
theorem J7y {t:Int}(a l:Option (Bal×Int)):(∀ z∈a,∃ y∈bestF t a l,J0p t z.1 y.1=false)∧(∀ z∈l,∃ y∈bestF t a l,J0p t z.1 y.1=false):=by
 cases l with
 |none=>exact ⟨fun z hz=>⟨z,hz,J2o⟩,fun z hz=>(nomatch hz)⟩
 |some q=>
  cases a with
  |none=>exact ⟨fun z hz=>(nomatch hz),fun z hz=>⟨q,rfl,by cases hz;exact J2o⟩⟩
  |some r=>
   unfold bestF
   simp only
   split
   ·rename_i o
    exact ⟨fun z hz=>⟨q,rfl,by cases hz;exact Z7v o⟩,fun z hz=>⟨q,rfl,by cases hz;exact J2o⟩⟩
   ·rename_i o
    exact ⟨fun z hz=>⟨r,rfl,by cases hz;exact J2o⟩,fun z hz=>⟨r,rfl,by cases hz;simpa using o⟩⟩
theorem K8i {t:Int}{S:List Gr}{e:Gr}{z:Bal×Int}(he:e∈S)(hz:e.l=some z):∃ y,J5m t S=some y∧J0p t z.1 y.1=false:=by
 have go:∀ (S:List Gr) (a:Option (Bal×Int)),(z∈a∨e∈S)→∃ y,S.foldl (fun a e=>bestF t a e.l) a=some y∧J0p t z.1 y.1=false:=by
  intro S
  induction S with
  |nil=>
   intro a h
   rcases h with h|h
   ·exact ⟨z,h,J2o⟩
   ·cases h
  |cons x S ih=>
   intro a h
   have keep:∀ z',z'∈bestF t a x.l→J0p t z.1 z'.1=false→∃ y,S.foldl (fun a e=>bestF t a e.l) (bestF t a x.l)=some y∧J0p t z.1 y.1=false:=by
    intro z' h1 h2
    have go2:∀ (S:List Gr) (a:Option (Bal×Int)) (z':Bal×Int),z'∈a→J0p t z.1 z'.1=false→∃ y,S.foldl (fun a e=>bestF t a e.l) a=some y∧J0p t z.1 y.1=false:=by
     intro S
     induction S with
     |nil=>intro a z' h1 h2;exact ⟨z',h1,h2⟩
     |cons x S ih=>
      intro a z' h1 h2
      refine o11 ((J7y (t:=t) a x.l).1 z' h1) fun y h3 h4=>?_
      exact ih _ y h3 (J2y h2 h4)
    exact go2 S _ z' h1 h2
   rcases h with h|h
   ·refine o11 ((J7y (t:=t) a x.l).1 z h) fun y h3 h4=>?_
    exact keep y h3 h4
   ·rcases mCn h with rfl|h
    ·refine o11 ((J7y (t:=t) a e.l).2 z hz) fun y h3 h4=>?_
     exact keep y h3 h4
    ·exact ih _ (.inr h)
 exact go S none (.inr he)
def Wit (t:Int)(G:List Gr)(b:Bal)(v v0:Int):Prop:=∃ g1 g2,G=g1++g2∧(∃ e1∈same g1 (b,none),∃ e2∈same g1 (b,none),e1.p≠e2.p)∧v=K8a v0 (J5m t (same g1 (b,none)))∧∀ e∈g1,e.b=b→e.w=none
theorem J6v {g:List Gr}{b:Bal}{e:Gr}(h:e∈same g (b,none)):e∈g∧e.b=b∧e.w=none:=by
 unfold same at h
 refine o01 (List.mem_filter.mp h) fun h1 h2=>?_
 simp only [Bool.and_eq_true,decide_eq_true_eq,beq_iff_eq] at h2
 exact ⟨h1,h2.1,by cases hw:e.w with
  |none=>rfl
  |some v=>rw [hw] at h2;exact absurd h2.2 (by simp)⟩
theorem Z5 {p1 p2 q1 q2:Nat}(a:p1<3)(b:p2<3)(c:q1<3)(d:q2<3)(h1:p1≠p2)(h2:q1≠q2):q1=p1∨q1=p2∨q2=p1∨q2=p2:=
 by
 have h:=(by decide:∀ p1 p2 q1 q2:Fin 3,p1≠p2→q1≠q2→q1=p1∨q1=p2∨q2=p1∨q2=p2) ⟨p1,a⟩ ⟨p2,b⟩ ⟨q1,c⟩ ⟨q2,d⟩ (fun e=>h1 (Fin.mk.inj e)) (fun e=>h2 (Fin.mk.inj e))
 exact h.imp Fin.mk.inj (.imp Fin.mk.inj (.imp Fin.mk.inj Fin.mk.inj))
theorem safe {t:Int}(ht:t≠0){G:List Gr}(hG:GOK t G)(hp:∀ e∈G,e.p<3)(hu:∀ e∈G,∀ e'∈G,e.b=e'.b→∀ v v',e.w=some v→e'.w=some v'→v=v')
  (hW:∀ e∈G,∀ v,e.w=some v→∃ v0,Wit t G e.b v v0) {x1 x2:Gr} (m1:x1∈G) (m2:x2∈G) (hb:x2.b=x1.b) (hpp:x1.p≠x2.p) {v1:Int} (w1:x1.w=some v1) (w2:x2.w.isSome=true) :
  ∀ e∈G,∀ v,e.w=some v→J0p t x1.b e.b=false→v=v1:=by
 have go:∀ (n:Nat) (l:List Gr) (e:Gr) (r:List Gr),l.length=n→G=l++e::r→∀ v,e.w=some v→J0p t x1.b e.b=false→v=v1:=by
  intro n
  induction n using Nat.strongRecOn with
  |ind n ih=>
  intro l e r hn hg v hv ho
  have he:e∈G:=by rw [hg];simp
  by_cases hbb:e.b=x1.b
  ·exact hu e he x1 m1 hbb v v1 hv w1
  have hgt:J0p t e.b x1.b=true:=by
   cases q:J0p t e.b x1.b with
   |true=>rfl
   |false=>exact absurd (K2m ht q ho) hbb
  skip
  refine o33 (hW e he v hv) fun v0 g1 g2 e12 n9a hval hno=>?_;obtain ⟨q1,hq1,q2,hq2,hqq⟩:=n9a
  skip
  have hle:g1.length≤n:=by
   rw [hg] at e12
   rcases List.append_eq_append_iff.mp e12 with ⟨as,h1,h2⟩|⟨as,h1,h2⟩
   ·cases as with
    |nil=>rw [h1,List.append_nil];exact Nat.le_of_eq hn
    |cons a as=>
     have:a=e:=by rw [List.cons_append] at h2;exact (List.cons.inj h2).1.symm
     subst this
     have:=hno a (by rw [h1];simp) rfl
     rw [hv] at this;cases this
   ·rw [← hn,h1,List.length_append];exact Nat.le_add_right _ _
  have core:∀ q∈same g1 (e.b,none),∀ x∈G,x.b=x1.b→q.p=x.p→x.w.isSome=true→v=v1:=by
   intro q hq x hx hxb hqp hxw
   refine o02 (J6v hq) fun hq1 hqb hqw=>?_
   refine o20 (List.append_of_mem hq1) fun l2 r2 hl2=>?_
   have hGq:G=l2++q::(r2++g2):=by rw [e12,hl2];simp
   have hx2:x∈l2:=by
    rw [hGq] at hx
    rcases mAp hx with hx|hx
    ·exact hx
    rcases mCn hx with rfl|hx
    ·rw [hqw] at hxw;cases hxw
    refine o20 (List.append_of_mem hx) fun a b hab=>?_
    have h1:=(hG (l2++q::a) x b (by rw [hGq,hab];simp)).1
    have h2:J0p t q.b (hi t (l2++q::a) x.p)=false:=Z6t q (by simp) hqp
    have h3:=J2y h2 h1
    rw [hqb,hxb,hgt] at h3;cases h3
   have hql:=(hG l2 q (r2++g2) hGq).2
   refine o11 (V0z (t:=t) (p:=q.p) (GOK.pre (hGq▸hG)) x hx2 hqp.symm hxw) fun z hz1 hz2=>?_
   rw [hz1] at hql
   skip
   refine o11 (K8i (t:=t) hq hql) fun y hy1 hy2=>?_
   refine o11 (J9j (t:=t) (S:=same g1 (e.b,none)) (z:=y) hy1) fun e2 he2 hye=>?_
   refine o02 (J6v he2) fun he2m _ _=>?_
   refine o20 (List.append_of_mem he2m) fun l3 r3 hl3=>?_
   skip
   have hG3:G=l3++e2::(r3++g2):=by rw [e12,hl3];simp
   have hel:=(hG l3 e2 (r3++g2) hG3).2
   rw [hel] at hye
   skip
   refine o13 (Z0l e2.p l3 y hye) fun e3 he3 _ hb3 hw3=>?_
   refine o20 (List.append_of_mem he3) fun l4 r4 hl4=>?_
   skip
   have hlt:l4.length<n:=by
    have:l3.length<g1.length:=by rw [hl3,List.length_append,List.length_cons];exact Nat.lt_add_of_pos_right (Nat.succ_pos _)
    have:l4.length<l3.length:=by rw [hl4,List.length_append,List.length_cons];exact Nat.lt_add_of_pos_right (Nat.succ_pos _)
    omega
   have:=ih l4.length hlt l4 e3 (r4++e2::(r3++g2)) rfl (by rw [hG3,hl4];simp) y.2 hw3 (by
    rw [hb3,← hxb];exact J2y hz2 hy2)
   rw [hval,hy1];exact this
  have mm:∀ q∈same g1 (e.b,none),q∈G:=fun q hq=>by rw [e12];exact List.mem_append_left _ (J6v hq).1
  rcases Z5 (hp x1 m1) (hp x2 m2) (hp q1 (mm q1 hq1)) (hp q2 (mm q2 hq2)) hpp hqq with h|h|h|h
  ·exact core q1 hq1 x1 m1 rfl h (by rw [w1];rfl)
  ·exact core q1 hq1 x2 m2 hb h w2
  ·exact core q2 hq2 x1 m1 rfl h (by rw [w1];rfl)
  ·exact core q2 hq2 x2 m2 hb h w2
 intro e he v hv ho
 refine o20 (List.append_of_mem he) fun l r hl=>?_
 exact go l.length l e r rfl hl v hv ho
theorem Wit.ext {t:Int}{G:List Gr}{b:Bal}{v v0:Int}(h:Wit t G b v v0)(r:List Gr):Wit t (G++r) b v v0:=
 let ⟨g1,g2,e,q⟩:=h;⟨g1,g2++r,by rw [e,List.append_assoc],q⟩
structure PInv (c:Cfg)(st:St):Prop where
 ok:GOK c.w1 st.g
 wit:∀ who,who<2→∀ x∈pk who st.o0 st.o1,∀ v,x.2=some v→Wit c.w1 st.g x.1 v (pk who c.v0 c.v1)
theorem Z5j {S:List Gr}(h:2≤(dd (S.map fun e=>J2j e.p)).length):∃ e1∈S,∃ e2∈S,e1.p≠e2.p:=by
 have nd:=J4 (S.map fun e=>J2j e.p)
 have mm:∀ k∈dd (S.map fun e=>J2j e.p),∃ e∈S,J2j e.p=k:=fun k hk=>by
  refine o11 (mMp (J2e.mp hk)) fun e h1 h2=>?_;exact ⟨e,h1,h2⟩
 generalize dd (S.map fun e=>J2j e.p)=l at h nd mm
 match l,h with
 |a::b::r,_=>
  skip
  refine o11 (mm a (.head _)) fun e1 h1 q1=>?_
  refine o11 (mm b (.tail _ (.head _))) fun e2 h2 q2=>?_
  skip
  exact ⟨e1,h1,e2,h2,fun q=>(List.nodup_cons.mp nd).1 (by rw [← q1,q,q2];exact .head _)⟩
theorem Z9o {α:Type}{who v:Nat}(hw:who<2)(hv:v<2){x y new:List α}{z:α}(h:z∈pk v (pk who (pk who x y++new) x) (pk who y (pk who x y++new))):z∈pk v x y∨(v=who∧z∈new):=by
 rcases who2 hw with rfl|rfl<;>rcases who2 hv with rfl|rfl
 ·exact (mAp h).imp id fun h=>⟨rfl,h⟩
 ·exact .inl h
 ·exact .inl h
 ·exact (mAp h).imp id fun h=>⟨rfl,h⟩
theorem PInv.step {c:Cfg}{t:Nat}{st:St}(I:WInv t st)(P:PInv c st):PInv c (Mine.step c t st):=by
 skip
 refine o40 (K0t (c:=c) I) fun who place at_ n9a T=>?_;obtain ⟨b,wi⟩:=n9a
 skip
 have O:=I.o T.hw
 have hb:=(O.bal _ T.mem).2
 rw [J9u T]
 have hg:∃ r,(if J0p c.w1 (hi c.w1 st.g place) b=true then st.g else st.g++[⟨place,b,wi,la st.g place⟩])=st.g++r:=by
  split
  ·exact ⟨[],(List.append_nil _).symm⟩
  ·exact ⟨_,rfl⟩
 have hk:GOK c.w1 (if J0p c.w1 (hi c.w1 st.g place) b=true then st.g else st.g++[⟨place,b,wi,la st.g place⟩]):=by
  split
  ·exact P.ok
  ·rename_i ho
   exact P.ok.snoc (by simpa using ho) rfl
 refine ⟨hk,fun v hv x hx n hn=>?_⟩
 rcases Z9o T.hw hv hx with h|⟨rfl,h⟩
 ·refine o10 hg fun r e=>?_;clear hg
  have:=(P.wit v hv x h n hn).ext r
  rw [← e] at this;exact this
 ·show Wit c.w1 (if J0p c.w1 (hi c.w1 st.g place) b=true then st.g else st.g++[⟨place,b,wi,la st.g place⟩]) x.1 n _
  unfold J6s at h
  split at h
  ·cases h
  rename_i hl
  split at h
  ·rw [List.mem_singleton.mp h] at hn;cases hn
  rename_i ho
  rw [if_neg ho]
  split at h
  ·rename_i h2
   cases wi with
   |some u=>rw [List.mem_singleton.mp h] at hn;cases hn
   |none=>
    rw [List.mem_singleton.mp h] at hn ⊢
    cases hn
    refine xi2 _ ([]) ⟨(List.append_nil _).symm,Z5j h2,rfl,fun e he hbe=>?_⟩
    rcases mAp he with he|he
    ·have hm:=I.own T.hw he (by rw [hbe];exact hb)
     have hc:=K4m T.hx hl
     exact O.ask (by rw [hc]) _ hm (by rw [hc];exact hbe)
    ·rw [List.mem_singleton.mp he]
  ·cases h
theorem Z9i (c:Cfg):PInv c st0:=by
 refine ⟨fun l e r h=>(by cases l<;>cases h),fun who hw x hx v hv=>?_⟩
 rcases who2 hw with rfl|rfl
 ·rw [List.mem_singleton.mp hx] at hv;cases hv
 ·rw [List.mem_singleton.mp hx] at hv;cases hv
theorem K1v (c:Cfg):∀ {t:Nat},t≤16→PInv c (run c t)
 |0,_=>Z9i c
 |t+1,h=>PInv.step (J4q c (t:=t) (Nat.le_of_lt h)) (K1v c (t:=t) (Nat.le_of_lt h))
theorem J9 {α β:Type}{f:α→β}{x y:α}:∀ {l:List α},(l.map f).Nodup→x∈l→y∈l→f x=f y→x=y
 |[],_,h,_,_=>nomatch h
 |a::l,nd,hx,hy,e=>by
  rw [List.map_cons,List.nodup_cons] at nd
  rcases mCn hx with h1|h1<;>rcases mCn hy with h2|h2
  ·rw [h1,h2]
  ·exact absurd (List.mem_map.mpr ⟨y,h2,by rw [← e,h1]⟩) nd.1
  ·exact absurd (List.mem_map.mpr ⟨x,h1,by rw [e,h2]⟩) nd.1
  ·exact J9 nd.2 h1 h2 e
theorem Z6u {c:Cfg}(W:Ways c.w0 c.w1){t:Nat}(h:t≤16){x1 x2 e:Gr}{v1 v2 v:Int}(m1:x1∈(run c t).g)(m2:x2∈(run c t).g)(m:e∈(run c t).g)(hb:x2.b=x1.b)(hp:x2.p≠x1.p)(w1:x1.w=some v1)(w2:x2.w=some v2)(hw:e.w=some v)(hv:v≠v1) :
  J0p c.w1 x1.b e.b=true:=by
 have I:=J4q c h
 have P:=K1v c h
 have ht:c.w1≠0:=by rcases W.b with h|h|h|h<;>rw [h]<;>decide
 cases q:J0p c.w1 x1.b e.b with
 |true=>rfl
 |false=>
  refine absurd (safe ht P.ok I.gp (fun e he e' he' hbb v v' hw hw'=>?_) (fun e he v hw=>?_) m1 m2 hb (Ne.symm hp) w1 (by rw [w2];rfl) e m v hw q) hv
  ·refine o11 (I.gb e he) fun who hwho hm=>?_
   have h2:=((I.o hwho).bal _ hm).2
   have hm':=I.own hwho he' (by rw [← hbb];exact h2)
   have:=J9 (I.o hwho).key hm hm' (by show (e.b,e.w.isSome)=(e'.b,e'.w.isSome);rw [hbb,hw,hw'];rfl)
   have:e.w=e'.w:=congrArg (·.2) this
   rw [hw,hw'] at this;exact Option.some.inj this
  ·refine o11 (I.gb e he) fun who hwho hm=>?_
   exact ⟨_,P.wit who hwho _ hm v hw⟩
noncomputable abbrev Tk:=Nat×Bal×Int
noncomputable def tks (g:List Gr):List Tk:=g.filterMap fun e=>e.w.map fun v=>(e.p,e.b,v)
noncomputable def tkD (x:Tk):PyData:=.tuple [.int x.1,J3i x.2.1,.int x.2.2]
theorem Z2t (g:List Gr):K7i g=(tks g).map tkD:=by
 unfold K7i tks
 rw [List.map_filterMap]
 congr 1
 funext e
 cases e.w<;>rfl
theorem J7o {g:List Gr}{x:Tk}(h:x∈tks g):∃ e∈g,e.p=x.1∧e.b=x.2.1∧e.w=some x.2.2:=by
 unfold tks at h
 skip
 refine o11 (List.mem_filterMap.mp h) fun e he q=>?_
 refine o11 (Option.map_eq_some_iff.mp q) fun v hv e9a=>?_;subst e9a
 skip
 exact ⟨e,he,rfl,rfl,hv⟩
structure TkOk (t:Int)(ts:List Tk):Prop where
 p:∀ x∈ts,x.1<3∧x.2.1.1≤17∧x.2.1.2≤2
 one:∀ x∈ts,∀ y∈ts,y.2.1=x.2.1→y.1≠x.1→∀ z∈ts,z.2.2≠x.2.2→J0p t x.2.1 z.2.1=true
theorem Z8j {c:Cfg}(W:Ways c.w0 c.w1):TkOk c.w1 (tks (run c 16).g):=by
 have I:=J4q c (Nat.le_refl 16)
 refine ⟨fun x hx=>?_,fun x hx y hy hb hp z hz hv=>?_⟩
 ·skip
  refine o13 (J7o hx) fun e he h1 h2 h3=>?_
  skip
  have:=I.eb he
  rw [← h1,← h2]
  exact ⟨I.gp e he,this.1.2,this.2.2⟩
 ·skip
  refine o13 (J7o hx) fun e1 he1 a1 a2 a3=>?_
  refine o13 (J7o hy) fun e2 he2 b1 b2 b3=>?_
  refine o13 (J7o hz) fun e3 he3 c1 c2 c3=>?_
  skip
  rw [← a2,← c2]
  exact Z6u W (Nat.le_refl 16) he1 he2 he3 (by rw [b2,hb,a2]) (by rw [b1,a1];exact hp) a3 b3 c3 hv
theorem J2h {n l:Nat}:PyData.strOk (J0f n l)=true:=by
 unfold PyData.strOk J0f
 rw [List.all_toArray,List.all_eq_true]
 intro k hk
 rw [List.mem_append,List.mem_replicate,List.mem_singleton] at hk
 rcases hk with ⟨_,rfl⟩|rfl
 ·decide
 ·match l with
  |0=>decide
  |1=>decide
  |_+2=>exact (by decide:decide (113<0x110000)=true)
theorem Z4h {b b':Bal}(h:b.2≤2)(h':b'.2≤2)(e:J0f b.1 b.2=J0f b'.1 b'.2):b=b':=by
 obtain ⟨n,l⟩:=b;obtain ⟨n',l'⟩:=b'
 have e1:n+1=n'+1:=by rw [← J1a n l,← J1a n' l'];exact congrArg Str.length e
 have e2:some (J1 l)=some (J1 l'):=by rw [← J4b n l,← J4b n' l'];exact congrArg (fun s:Str=>(seqIndex? (-1) s.length).bind (s.cps[·]?)) e
 have e3:J1 l=J1 l':=Option.some.inj e2
 have e4:l=l':=by
  simp only at h h'
  have:l=0∨l=1∨l=2:=by lia
  have:l'=0∨l'=1∨l'=2:=by lia
  rcases ‹l=0∨l=1∨l=2› with rfl|rfl|rfl<;>rcases ‹l'=0∨l'=1∨l'=2› with rfl|rfl|rfl<;>first|rfl|(exact absurd e3 (by decide))
 rw [e4,show n=n' by lia]
theorem J4m {ds:List PyData}(h:∀ d∈ds,J1i d):J0z ds=true∧PyData.depthAll ds≤8:=by
 induction ds with
 |nil=>exact ⟨rfl,Nat.zero_le _⟩
 |cons d ds ih=>
  refine o01 (ih fun e he=>h e (.tail _ he)) fun h1 h2=>?_
  have h3:=h d (.head _)
  refine ⟨?_,?_⟩
  ·show (nic d && J0z ds)=true
   rw [h3.1,h1];rfl
  ·show max d.depth (PyData.depthAll ds)≤8
   have:=h3.2;exact Nat.max_le.2 ⟨this,h2⟩
theorem J3g {ds:List PyData}(h:∀ d∈ds,J1i d):nicD (.list ds):=by
 refine o01 (J4m h) fun h1 h2=>?_
 exact ⟨h1,by show PyData.depthAll _+1≤64;exact Nat.lt_of_le_of_lt h2 (by decide)⟩
theorem K9m (x:Tk):J1i (tkD x):=by
 refine ⟨?_,?_⟩
 ·show (true && (PyData.strOk _ && (true && true)))=true
  rw [J2h];rfl
 ·exact lBt rfl
noncomputable abbrev ZX (w:World) (c:Cfg) (a:Ad) (pm am lt0 lt1:List PyData) (bk:List (Str×PyData)) (ow0 ow1 gs tk rs sd du:List PyData) (one other names firsts name hints:Option X:=none):List (Option X):=
 none::none::none::none::some (T [.int c.w0,.int c.w1])::none::some (.l a.pr pm)::some (.l a.ac am)::some (.ll a.le a.l0 lt0 a.l1 lt1) ::
 none::none::none::some (DX w bk)::some (.ll a.ow a.o0 ow0 a.o1 ow1)::some (.l a.gr gs)::some (.l a.ta tk)::some (.l a.re rs)::some (.l a.sa sd)::some (.l a.du du)::none ::
 none::none::none::none::none::none::none::none::none::none::none::none::none::none::none::one::other::names::firsts::name::hints::[]
noncomputable def Z4 (r:Str) (p:Int):PyData→Option PyData
 |.tuple [.int p',.str r',v]=>if (decide (r'=r) && ((p' != p) && true))=true then some (.tuple [.int p',.str r',v]) else none
 |_=>none
theorem K0 (r:Str)(p:Int)(y:Tk):Z4 r p (tkD y)=if (decide (J0f y.2.1.1 y.2.1.2=r) && (((y.1:Int) != p) && true))=true then some (tkD y) else none:=rfl
theorem K2q {r:Str}{p:Int}{ts:List Tk}{d:PyData}(h:d∈(ts.map tkD).filterMap (Z4 r p)):∃ y∈ts,d=tkD y∧J0f y.2.1.1 y.2.1.2=r∧(y.1:Int)≠p:=by
 skip
 refine o11 (List.mem_filterMap.mp h) fun d' h1 h2=>?_
 refine o11 (mMp h1) fun y hy e9a=>?_;subst e9a
 skip
 rw [K0] at h2
 split at h2
 ·rename_i q
  simp only [Bool.and_eq_true,decide_eq_true_eq,and_true,bne_iff_ne,ne_eq] at q
  exact ⟨y,hy,(Option.some.inj h2).symm,q.1,q.2⟩
 ·cases h2
section
variable {w:World}{A:Around}{q:Str}{cd:Value}{L:Addr}{c:Cfg}{a:Ad}{pm am lt0 lt1:List PyData}{bk:List (Str×PyData)}{ow0 ow1 gs rs sd du:List PyData}{ts:List Tk}{R:Fl→List (Option X)→Prop}
theorem tl1 (hA:Rm 8 A)(W:Ways c.w0 c.w1)(H:TkOk c.w1 ts)(hz:ts.length≤16)
  (k:GX w A (J0d q cd L) J1l (ZX w c a pm am lt0 lt1 bk ow0 ow1 gs (ts.map tkD) rs sd du) (J1r.drop 21) R) :
  GX w A (J0d q cd L) J1l (ZX w c a pm am lt0 lt1 bk ow0 ow1 gs (ts.map tkD) rs sd du) (J1r.drop 20) R:=by
 have hh:A.handled=none:=hA.hd
 have hw1:c.w1.natAbs≤3:=by rcases W.b with h|h|h|h<;>rw [h]<;>decide
 have hl:(ts.map tkD).length≤1000:=by rw [List.length_map];exact lTr hz (by decide)
 refine J0w (xs':=ZX w c a pm am lt0 lt1 bk ow0 ow1 gs (ts.map tkD) rs sd du) ?_ rfl k
 refine J3e (f:=.next) (x:=.l a.ta (ts.map tkD)) (ds:=ts.map tkD) (fun _=>ZX w c a pm am lt0 lt1 bk ow0 ow1 gs (ts.map tkD) rs sd du) (ts.map tkD).length hh ?_ (J0r .l) rfl (fun i hi=>rfl) (fun i d hi hd=>?_) (.inl ⟨rfl,rfl,rfl⟩) (Ok.mk fun _=>rfl)
 ·x_close
 refine o11 (mMp (List.mem_of_getElem? hd)) fun x hx e9a=>?_;subst e9a
 refine xi2 (ZX w c a pm am lt0 lt1 bk ow0 ow1 gs (ts.map tkD) rs sd du (some (.d (tkD x)))) .next ⟨?_,.inl rfl,?_⟩
 ·apply J3o
  repeat' x_close
 refine J9x (xs':=ZX w c a pm am lt0 lt1 bk ow0 ow1 gs (ts.map tkD) rs sd du (some (.d (tkD x)))) ?_ (by
  iterate 35 apply Wk.keep
  apply Wk.drop
  exact Wk.rfl')
 refine J0b (xs':=ZX w c a pm am lt0 lt1 bk ow0 ow1 gs (ts.map tkD) rs sd du (some (.d (tkD x)))) ?_ J0c
 apply V1b (b:=!Spec.same (.list ((ts.map tkD).filterMap (Z4 (J0f x.2.1.1 x.2.1.2) x.1))) (.list []))
 ·apply wt_cmp (x:=PL ((ts.map tkD).filterMap (Z4 (J0f x.2.1.1 x.2.1.2) x.1))) (y:=Mine.L [])
  ·x_close
  ·refine J2t (cl:=[("one",L+5)]) (cs:=["one"]) (ys:=[.d (tkD x)]) (x:=.l a.ta (ts.map tkD)) (ds:=ts.map tkD) (Z4 (J0f x.2.1.1 x.2.1.2) x.1) ?_ hh ?_ (J0r .l) ?_ (Ok.mk rfl) hl (fun C' d hd=>?_) (fun C' d z hd hz=>?_) (Ok.mk fun _=>rfl)
   ·exact ⟨rfl,by decide,rfl,by decide,by decide,fun n hn=>by obtain rfl:=mSg hn;rfl,fun q hq=>by obtain rfl:=mSg hq;rfl,(by show [Str.ofString "one"].Nodup;decide),fun n hn=>by obtain rfl:=mSg hn;exact ⟨L+5,rfl⟩,by decide⟩
   ·x_close
   ·refine .cons ?_ .nil
    repeat (first|(apply At.hd;exact Ok.mk (by with_reducible rfl))|apply At.tail)
   ·refine o11 (mMp hd) fun y hy e9a=>?_;subst e9a
    have e1:(Z4 (J0f x.2.1.1 x.2.1.2) x.1 (tkD y)).isSome=(decide (J0f y.2.1.1 y.2.1.2=J0f x.2.1.1 x.2.1.2) && (((y.1:Int) != (x.1:Int)) && true)):=by
     rw [K0];split<;>simp_all
    rw [e1]
    show VI _ _ _ [("other",false),("one",true)] [some (T [.int y.1,.str (J0f y.2.1.1 y.2.1.2),.int y.2.2]),some (T [.int x.1,.str (J0f x.2.1.1 x.2.1.2),.int x.2.2])] _ _
    apply wi_one
    apply J1f
    apply J1s
    ·apply wt_cmp
     ·x_close
     ·apply w_sub
      ·x_close
      ·x_close
      ·exact v_tget (d:=.str (J0f y.2.1.1 y.2.1.2)) (Ok.mk rfl) (Ok.mk rfl)
     ·apply w_sub
      ·x_close
      ·x_close
      ·exact v_tget (d:=.str (J0f x.2.1.1 x.2.1.2)) (Ok.mk rfl) (Ok.mk rfl)
     ·exact v_eqs
    ·intro _
     apply J1s
     ·apply wt_cmp
      ·x_close
      ·apply w_sub
       ·x_close
       ·x_close
       ·exact v_tget (d:=.int y.1) (Ok.mk rfl) (Ok.mk rfl)
      ·apply w_sub
       ·x_close
       ·x_close
       ·exact v_tget (d:=.int x.1) (Ok.mk rfl) (Ok.mk rfl)
      ·exact v_nei
     ·intro _
      exact wa_and_nil
   ·refine o11 (mMp hd) fun y hy e9a=>?_;subst e9a
    rw [K0] at hz
    have hz:z=tkD y:=by
     split at hz
     ·exact (Option.some.inj hz).symm
     ·cases hz
    subst hz
    exact J2p (Ok.mk (by decide)) .head
  ·repeat' x_close
  ·refine Z4z .pl .d (J3g fun d hd=>?_) ⟨rfl,lBt rfl⟩ (hA.less (by decide))
   skip
   refine o12 (K2q hd) fun y _ e9a _=>?_;subst e9a
   skip
   exact K9m y
 ·intro hb
  obtain ⟨y,hy,hr,hp⟩:∃ y∈ts,J0f y.2.1.1 y.2.1.2=J0f x.2.1.1 x.2.1.2∧y.1≠x.1:=by
   cases hf:(ts.map tkD).filterMap (Z4 (J0f x.2.1.1 x.2.1.2) x.1) with
   |nil=>rw [hf] at hb;cases hb
   |cons d ds=>
    skip
    refine o13 (K2q (d:=d) (by rw [hf];exact .head _)) fun y hy _ h1 h2=>?_
    skip
    exact ⟨y,hy,h1,fun q=>h2 (by rw [q])⟩
  have hyb:=Z4h (H.p y hy).2.2 (H.p x hx).2.2 hr
  refine J0b (xs':=ZX w c a pm am lt0 lt1 bk ow0 ow1 gs (ts.map tkD) rs sd du (some (.d (tkD x)))) ?_ J0c
  refine J3e (f:=.next) (x:=.l a.ta (ts.map tkD)) (ds:=ts.map tkD) (fun _=>ZX w c a pm am lt0 lt1 bk ow0 ow1 gs (ts.map tkD) rs sd du (some (.d (tkD x)))) (ts.map tkD).length hh ?_ (J0r .l) rfl (fun i hi=>rfl) (fun i d hi hd=>?_) (.inl ⟨rfl,rfl,rfl⟩) (Ok.mk fun _=>rfl)
  ·x_close
  refine o11 (mMp (List.mem_of_getElem? hd)) fun z hzm e9a=>?_;subst e9a
  refine xi2 (ZX w c a pm am lt0 lt1 bk ow0 ow1 gs (ts.map tkD) rs sd du (some (T [.int x.1,.str (J0f x.2.1.1 x.2.1.2),.int x.2.2])) (some (T [.int z.1,.str (J0f z.2.1.1 z.2.1.2),.int z.2.2]))) .next ⟨?_,.inl rfl,?_⟩
  ·apply J3o
   repeat' x_close
  refine J9x (xs':=ZX w c a pm am lt0 lt1 bk ow0 ow1 gs (ts.map tkD) rs sd du (some (T [.int x.1,.str (J0f x.2.1.1 x.2.1.2),.int x.2.2])) (some (T [.int z.1,.str (J0f z.2.1.1 z.2.1.2),.int z.2.2]))) ?_ (by
   iterate 36 apply Wk.keep
   apply Wk.drop
   exact Wk.rfl')
  refine J0b (xs':=ZX w c a pm am lt0 lt1 bk ow0 ow1 gs (ts.map tkD) rs sd du (some (T [.int x.1,.str (J0f x.2.1.1 x.2.1.2),.int x.2.2])) (some (T [.int z.1,.str (J0f z.2.1.1 z.2.1.2),.int z.2.2]))) ?_ J0c
  have hx3:=H.p x hx
  have hz3:=H.p z hzm
  refine J0g (VT.eq (b:=((z.2.2:Int) != x.2.2) && ((!J0p c.w1 x.2.1 z.2.1) && true)) ?_ ?_) J0c
  ·apply J1f
   apply J1s
   ·apply wt_cmp
    ·x_close
    ·apply w_sub
     ·x_close
     ·x_close
     ·exact v_tget (d:=.int z.2.2) (Ok.mk rfl) (Ok.mk rfl)
    ·apply w_sub
     ·x_close
     ·x_close
     ·exact v_tget (d:=.int x.2.2) (Ok.mk rfl) (Ok.mk rfl)
    ·exact v_nei
   ·intro _
    apply J1s
    ·apply wt_not
     apply J0v
     ·x_close
     apply w_callf (a:=262) (ys:=[.d (bD x.2.1),.d (bD z.2.1),I c.w1])
     ·x_close
     ·x_close
     ·apply wg_cons
      ·x_close
      apply wl_cons
      ·x_close
      ·apply w_callf (a:=255) (ys:=[S (J0f x.2.1.1 x.2.1.2)])
       ·x_close
       ·x_close
       ·apply wg_cons
        ·x_close
        apply wl_cons
        ·x_close
        ·apply w_sub
         ·x_close
         ·x_close
         ·exact v_tget (d:=.str (J0f x.2.1.1 x.2.1.2)) (Ok.mk rfl) (Ok.mk rfl)
        ·exact wl_nil
       ·exact Ok.mk (fun _=>by with_unfolding_all rfl)
       ·exact K4y (hA.less (by decide)) (lTr hx3.2.1 (by decide)) hx3.2.2
      apply wl_cons
      ·x_close
      ·apply w_callf (a:=255) (ys:=[S (J0f z.2.1.1 z.2.1.2)])
       ·x_close
       ·x_close
       ·apply wg_cons
        ·x_close
        apply wl_cons
        ·x_close
        ·apply w_sub
         ·x_close
         ·x_close
         ·exact v_tget (d:=.str (J0f z.2.1.1 z.2.1.2)) (Ok.mk rfl) (Ok.mk rfl)
        ·exact wl_nil
       ·exact Ok.mk (fun _=>by with_unfolding_all rfl)
       ·exact K4y (hA.less (by decide)) (lTr hz3.2.1 (by decide)) hz3.2.2
      apply wl_cons
      ·x_close
      ·apply w_sub
       ·x_close
       ·x_close
       ·exact v_tget (d:=.int c.w1) (Ok.mk rfl) (Ok.mk rfl)
      ·exact wl_nil
     ·exact Ok.mk (fun _=>by with_unfolding_all rfl)
     ·exact J4d (hA.less (by decide)) hw1
    ·intro _
     exact wa_and_nil
  ·by_cases hv:z.2.2=x.2.2
   ·rw [hv];simp
   ·rw [H.one x hx y hy hyb hp z hzm hv];simp
 ·intro _
  exact J0c
end
theorem K6x {p:Nat}{b h:Bal}{wi:Option Int}{l:Option (Bal×Int)}{w0 w1:Int}:J1i (J4z p b wi h l w0 w1):=by
 have l1:∀ n,PyData.strOk ⟨#[J1 n]⟩=true:=fun n=>match n with
  |0=>by decide +kernel
  |1=>by decide +kernel
  |_+2=>(by decide +kernel:PyData.strOk ⟨#[113]⟩=true)
 have s1:PyData.strOk (Str.ofString "sender")=true:=by decide +kernel
 have s2:PyData.strOk (Str.ofString "data")=true:=by decide +kernel
 have s3:PyData.strOk (Str.ofString "yes")=true:=by decide +kernel
 unfold J4z
 split
 ·cases wi with
  |none=>
   refine ⟨?_,lBt rfl⟩
   show (PyData.strOk _ && (true && (PyData.strOk _ && (PyData.strOk _ && true))))=true
   rw [s1,J2h,l1];rfl
  |some v=>
   refine ⟨?_,lBt rfl⟩
   show (PyData.strOk _ && (true && (PyData.strOk _ && true)))=true
   rw [s2,J2h];rfl
 ·cases wi with
  |none=>
   cases l with
   |none=>
    refine ⟨?_,lBt rfl⟩
    show (PyData.strOk _ && (true && (true && true)))=true
    rw [s3];rfl
   |some z=>
    refine ⟨?_,lBt rfl⟩
    show (PyData.strOk _ && ((PyData.strOk _ && (true && true)) && (true && true)))=true
    rw [s3,J2h];rfl
  |some v=>
   refine ⟨?_,lBt rfl⟩
   show (PyData.strOk _ && ((PyData.strOk _ && (true && true)) && (true && true)))=true
   rw [s3,J2h];rfl
theorem J8s (c:Cfg):∀ t,∀ d∈(run c t).sd,J1i d
 |0,d,h=>nomatch h
 |t+1,d,h=>by
  rcases mAp (show d∈(run c t).sd++_ from h) with h|h
  ·exact J8s c t d h
  ·rw [List.mem_singleton.mp h];exact K6x
theorem K9a (o:Option Int):J1i (wD o):=by cases o<;>exact ⟨rfl,Nat.zero_le _⟩
theorem K7c (x:Let):J1i (J4y x):=by
 obtain ⟨b,wi⟩:=x
 refine ⟨?_,?_⟩
 ·show (PyData.strOk _ && (nic (wD wi) && true))=true
  rw [J2h,(K9a wi).1];rfl
 ·cases wi<;>exact lBt rfl
noncomputable def K2y:PyData→Option PyData
 |.tuple [.tuple [.int n,.int l],v]=>some (.tuple [.str (J0f n.toNat l.toNat),v])
 |_=>none
theorem K5h (x:Let):K2y (K3s x)=some (J4y x):=rfl
theorem J5j:∀ o:List Let,(J1e o).filterMap K2y=J2b o
 |[]=>rfl
 |x::o=>by
  show ((K3s x)::J1e o).filterMap K2y=J4y x::J2b o
  rw [List.filterMap_cons,K5h,J5j o]
noncomputable def rowF:PyData→Option PyData
 |.list xs=>some (.list (xs.filterMap K2y))
 |_=>none
theorem K2t:∀ o:List Let,J0z (J2b o)=true∧PyData.depthAll (J2b o)≤8:=fun o=>J4m fun d hd=>by
 refine o11 (mMp hd) fun x _ e9a=>?_;subst e9a
 exact K7c x
theorem K6p (o0 o1:List Let):nicD (LL (J2b o0) (J2b o1)):=by
 refine o01 (K2t o0) fun h1 h2=>?_
 refine o01 (K2t o1) fun h3 h4=>?_
 refine ⟨?_,?_⟩
 ·show (J0z (J2b o0) && (J0z (J2b o1) && true))=true
  rw [h1,h3];rfl
 ·show max (PyData.depthAll (J2b o0)+1) (max (PyData.depthAll (J2b o1)+1) 0)+1≤64
  lia
theorem Z9n {w:World}{A:Around}{env:Env}{ns:List (Str×Bool)}{xs:List (Option X)}{e:Expr}{ds:List PyData}(h:VE w A env ns xs e (PL ds)):VE w A env ns xs e (.d (.list ds)):=
 ⟨fun own s F C=>J0 (h.h own s F C) fun v s1 hv k=>⟨PL.rd hv,k⟩⟩
section
variable {w:World}{A:Around}{q:Str}{cd:Value}{L:Addr}{c:Cfg}{a:Ad}{pm am lt0 lt1:List PyData}{bk:List (Str×PyData)}{ow0 ow1 gs tk rs sd du:List PyData}{R:Fl→List (Option X)→Prop}
theorem tl2 (hA:Rm 8 A)(hs:∀ d∈sd,J1i d)
  (k:GX w A (J0d q cd L) J1l (ZX w c a pm am lt0 lt1 bk ow0 ow1 gs tk rs sd sd) (J1r.drop 22) R) :
  GX w A (J0d q cd L) J1l (ZX w c a pm am lt0 lt1 bk ow0 ow1 gs tk rs sd sd) (J1r.drop 21) R:=by
 refine J0w (xs':=ZX w c a pm am lt0 lt1 bk ow0 ow1 gs tk rs sd sd) ?_ rfl k
 refine J0g (VT.eq (b:=!Spec.same (.list sd) (.list sd)) ?_ (by rw [Spec.same_self];rfl)) J0c
 apply wt_cmp (x:=.l a.sa sd) (y:=.l a.du sd)
 ·x_close
 ·x_close
 ·x_close
 ·exact Z4z .l .l (J3g hs) (J3g hs) (hA.less (by decide))
theorem tl3 {o0 o1:List Let}(hA:Rm 8 A)(h0:o0.length≤1000)(h1:o1.length≤1000)(hb:∀ x,x∈o0∨x∈o1→x.1.1≤100∧x.1.2≤2)
  (k:GX w A (J0d q cd L) J1l (ZX w c a pm am (J2b o0) (J2b o1) bk (J1e o0) (J1e o1) gs tk rs sd du) (J1r.drop 23) R) :
  GX w A (J0d q cd L) J1l (ZX w c a pm am (J2b o0) (J2b o1) bk (J1e o0) (J1e o1) gs tk rs sd du) (J1r.drop 22) R:=by
 have hh:A.handled=none:=hA.hd
 refine J0w (xs':=ZX w c a pm am (J2b o0) (J2b o1) bk (J1e o0) (J1e o1) gs tk rs sd du) ?_ rfl k
 refine J0g ?_ J0c
 apply K5j (ys:=FL (J2b o0) (J2b o1) (J1e o0) (J1e o1))
 ·repeat (first|exact FltL.nil|(refine FltL.cons ?_ ?_;(first|exact Flt1.ll|exact Flt1.no)))
 refine VT.eq (b:=!Spec.same (LL (J2b o0) (J2b o1)) (LL (J2b o0) (J2b o1))) ?_ (by rw [Spec.same_self];rfl)
 apply wt_cmp (x:=.d (LL (J2b o0) (J2b o1))) (y:=PL [.list (J2b o0),.list (J2b o1)])
 ·x_close
 ·x_close
 ·rw [← J5j o0,← J5j o1]
  refine VE.eq (x:=PL ([.list (J1e o0),.list (J1e o1)].filterMap rowF)) ?_ rfl
  refine J2t (cl:=[]) (cs:=[]) (ys:=[]) (x:=.d (LL (J1e o0) (J1e o1))) (ds:=[.list (J1e o0),.list (J1e o1)]) rowF ⟨rfl,by decide,rfl,by decide,by decide,fun n hn=>(nomatch hn),fun p hp=>(nomatch hp),.nil,fun n hn=>(nomatch hn),by decide⟩ hh ?_ (J0r .d) .nil (Ok.mk rfl) (lBt rfl) (fun C' d hd=>?_) (fun C' d z hd hz=>?_) (Ok.mk fun _=>rfl)
  ·x_close
  ·simp only [List.mem_cons,List.not_mem_nil,or_false] at hd
   rcases hd with rfl|rfl<;>exact wi_nil
  ·obtain ⟨o,rfl,ho,hx⟩:∃ o:List Let,d = .list (J1e o)∧o.length≤1000∧∀ x∈o,x.1.1≤100∧x.1.2≤2:=by
    simp only [List.mem_cons,List.not_mem_nil,or_false] at hd
    rcases hd with rfl|rfl
    ·exact ⟨o0,rfl,h0,fun x hx=>hb x (.inl hx)⟩
    ·exact ⟨o1,rfl,h1,fun x hx=>hb x (.inr hx)⟩
   obtain rfl:z = .list ((J1e o).filterMap K2y):=(Option.some.inj hz).symm
   show VE _ _ _ [("row",false)] [some (.d (.list (J1e o)))] _ _
   refine Z9n ?_
   refine J2t (cl:=[]) (cs:=[]) (ys:=[]) (x:=.d (.list (J1e o))) (ds:=J1e o) K2y ⟨rfl,by decide,rfl,by decide,by decide,fun n hn=>(nomatch hn),fun p hp=>(nomatch hp),.nil,fun n hn=>(nomatch hn),by decide⟩ hh ?_ (J0r .d) .nil (Ok.mk rfl) (by unfold J1e;rw [List.length_map];exact ho) (fun C2 d hd=>?_) (fun C2 d z hd hz=>?_) (Ok.mk fun _=>rfl)
   ·x_close
   ·refine o11 (mMp hd) fun x _ e9a=>?_;subst e9a
    exact wi_nil
   ·refine o11 (mMp hd) fun x hxm e9a=>?_;subst e9a
    obtain rfl:z=J4y x:=(Option.some.inj hz).symm
    show VE _ _ _ [("pair",false)] [some (T [bD x.1,wD x.2])] _ (T [.str (J0f x.1.1 x.1.2),wD x.2])
    refine o01 (hx x hxm) fun b1 b2=>?_
    apply w_tuple
    ·apply wl_cons
     ·x_close
     ·apply w_callf (a:=248) (ys:=[.d (bD x.1)])
      ·x_close
      ·x_close
      ·apply wg_cons
       ·x_close
       apply wl_cons
       ·x_close
       ·apply w_sub
        ·x_close
        ·x_close
        ·exact v_tget (d:=bD x.1) (Ok.mk rfl) (Ok.mk rfl)
       ·exact wl_nil
      ·exact Ok.mk (fun _=>by with_unfolding_all rfl)
      ·exact J4o (hA.less (by decide)) b1 b2
     apply wl_cons
     ·x_close
     ·apply w_sub
      ·x_close
      ·x_close
      ·exact v_tget (d:=wD x.2) (Ok.mk rfl) (Ok.mk rfl)
     ·exact wl_nil
    ·exact .cons (.cons .nil)
    ·x_close
 ·exact Z4z .d .pl (K6p o0 o1) (K6p o0 o1) (hA.less (by decide))
theorem tl4 (hA:Rm 8 A)(h1:pm.length≤1000)(h2:am.length≤1000)
  (k:GX w A (J0d q cd L) J1l (ZX w c a pm am lt0 lt1 bk ow0 ow1 gs tk rs sd du) (J1r.drop 24) R) :
  GX w A (J0d q cd L) J1l (ZX w c a pm am lt0 lt1 bk ow0 ow1 gs tk rs sd du) (J1r.drop 23) R:=by
 refine J0w (xs':=ZX w c a pm am lt0 lt1 bk ow0 ow1 gs tk rs sd du) ?_ rfl k
 refine J0g (VT.eq (b:=(false != false) || ((true != true) || false)) ?_ rfl) J0c
 apply J1f
 apply J8k
 ·apply wt_cmp
  ·x_close
  ·apply Z6k (a:=a.pr) (ds:=pm) (g:=52)
   ·exact Ok.mk (fun _=>by with_unfolding_all rfl)
   ·exact fun b hb=>Z8q (hA.less (by decide)) hb
   ·x_close
   ·x_close
   ·x_close
   ·x_close
   ·intro p;x_close
   ·exact h1
   ·x_close
   ·x_close
  ·x_close
  ·exact v_isnotB
 ·intro _
  apply J8k
  ·apply wt_cmp
   ·x_close
   ·apply Z6k (a:=a.ac) (ds:=am) (g:=59)
    ·exact Ok.mk (fun _=>by with_unfolding_all rfl)
    ·exact fun b hb=>K4w (hA.less (by decide)) hb
    ·x_close
    ·x_close
    ·x_close
    ·x_close
    ·intro p;x_close
    ·exact h2
    ·x_close
    ·x_close
   ·x_close
   ·exact v_isnotB
  ·intro _
   exact wa_or_nil
end
theorem J8x {k n:Nat}(h:k≤n):lidx none (some (k:Int)) n=List.range k:=by
 have e:sliceBounds none (some (k:Int)) none n=(((0:Nat):Int),((k:Nat):Int),1):=by
  have h1:¬ ((k:Int)<0):=Int.not_lt.2 (Int.le_trans (by decide) (Int.ofNat_nonneg _))
  unfold sliceBounds
  simp only [Option.getD_none,Prod.mk.injEq,h1,if_false]
  refine ⟨rfl,?_,trivial⟩
  show max 0 (min (k:Int) n)=k
  lia
 unfold lidx
 rw [e]
 show sliceRange ((0:Nat):Int) ((k:Nat):Int) 1=_
 rw [sliceRange_one]
 simp
theorem J4s {α:Type}(l:List α):∀ {k:Nat},k≤l.length→pick (List.range k) l=l.take k
 |0,_=>rfl
 |k+1,h=>by
  have ih:=J4s l (k:=k) (Nat.le_of_lt h)
  have hk:=List.getElem?_eq_getElem (l:=l) (i:=k) h
  unfold pick at ih ⊢
  rw [List.range_succ,List.filterMap_append,ih,List.take_add_one,hk]
  simp [hk]
theorem J4l {α:Type}{l:List α}{k:Nat}{x:α}(h:l[k]? = some x):l.take (k+1)=l.take k++[x]:=by
 rw [List.take_add_one,h];rfl
noncomputable def Z0j (ns:List Str):PyData→Option PyData
 |.int k=>match ns[k.toNat]? with|some s=>if (!((ns.take k.toNat).map PyData.str).any fun y=>Spec.same y (.str s))=true then some (.str s) else none|none=>none
 |_=>none
theorem Z1s {l:List Str}{s:Str}:((l.map PyData.str).any fun y=>Spec.same y (.str s))=decide (s∈l):=by
 induction l with
 |nil=>rfl
 |cons x l ih=>
  rw [List.map_cons,List.any_cons,ih,J5w]
  by_cases h:x=s
  ·simp [h]
  ·have:¬ s=x:=fun q=>h q.symm
   simp [h,this]
theorem J9g (ns:List Str):∀ {m:Nat},m≤ns.length→((List.range m).map fun (i:Nat)=>PyData.int ((0:Int)+(i:Int) * 1)).filterMap (Z0j ns)=(dd (ns.take m)).map .str
 |0,_=>rfl
 |m+1,h=>by
  have hk:=List.getElem?_eq_getElem (l:=ns) (i:=m) h
  rw [List.range_succ,List.map_append,List.filterMap_append,J9g ns (m:=m) (Nat.le_of_lt h),J4l hk,J4t]
  have e:((0:Int)+(m:Int) * 1).toNat=m:=congrArg Int.toNat ((Int.zero_add _).trans (Int.mul_one _))
  have e2:Z0j ns (.int ((0:Int)+(m:Int) * 1))=if ns[m]∈dd (ns.take m) then none else some (.str ns[m]):=by
   unfold Z0j
   simp only [e]
   rw [hk]
   simp only [Z1s,J2e]
   split<;>simp_all
  rw [List.map_singleton,List.filterMap_cons,e2]
  by_cases hm:ns[m]∈dd (ns.take m)
  ·simp [hm]
  ·simp [hm]
theorem Z2z (ns:List Str):(rgD 0 1 ns.length).filterMap (Z0j ns)=(dd ns).map .str:=by
 have:=J9g ns (Nat.le_refl _)
 rwa [List.take_length] at this
noncomputable def K0i (ns:List Str) (rs:List Int) (x:Str):PyData→Option PyData
 |.int k=>match ns[k.toNat]?,rs[k.toNat]? with|some s,some r=>if decide (s=x)=true then some (.int r) else none|_,_=>none
 |_=>none
theorem J6j {ns:List Str}{rs:List Int}{x:Str}(hl:ns.length=rs.length):∀ {m:Nat},m≤ns.length→((List.range m).map fun (i:Nat)=>PyData.int ((0:Int)+(i:Int) * 1)).filterMap (K0i ns rs x)=(J0j (ns.take m) (rs.take m) x).map .int
 |0,_=>rfl
 |m+1,h=>by
  have hk:=List.getElem?_eq_getElem (l:=ns) (i:=m) h
  have hr:=List.getElem?_eq_getElem (l:=rs) (i:=m) (hl▸h)
  rw [List.range_succ,List.map_append,List.filterMap_append,J6j hl (m:=m) (Nat.le_of_lt h),J4l hk,J4l hr,J4j (by rw [List.length_take,List.length_take,hl]),List.map_append]
  have e:((0:Int)+(m:Int) * 1).toNat=m:=congrArg Int.toNat ((Int.zero_add _).trans (Int.mul_one _))
  congr 1
  show ([PyData.int ((0:Int)+(m:Int) * 1)]).filterMap _=_
  rw [List.filterMap_cons]
  unfold K0i
  simp only [e]
  rw [hk,hr]
  by_cases q:ns[m]=x<;>simp [q]
theorem K7j {ns:List Str}{rs:List Int}{x:Str}(hl:ns.length=rs.length):(rgD 0 1 ns.length).filterMap (K0i ns rs x)=(J0j ns rs x).map .int:=by
 have:=J6j (x:=x) hl (Nat.le_refl _)
 rwa [List.take_length,hl,List.take_length,← hl] at this
noncomputable def K9p:PyData→Option PyData
 |.tuple [.int p,_,.tuple [_,.int l],_]=>some (.str (pqS (l.toNat - 1)++J2j p.toNat))
 |_=>none
theorem Z2 (e:Gr):K9p e.e.d=some (.str (nmS e)):=rfl
theorem J9a:∀ g:List Gr,((gd g).map Ent.d).filterMap K9p=(g.map nmS).map .str
 |[]=>rfl
 |e::g=>by
  show (e.e.d::(gd g).map Ent.d).filterMap K9p = .str (nmS e)::(g.map nmS).map .str
  rw [List.filterMap_cons,Z2,J9a g]
theorem K9x {k:Nat}(h:k≤5):PyData.strOk (pqS k)=true:=by
 have:∀ m:Fin 6,PyData.strOk (pqS m.val)=true:=by decide +kernel
 exact this ⟨k,Nat.succ_le_succ h⟩
theorem K3w {k:Nat}(h:k≤5):PyData.strOk (J2j k)=true:=by
 have:∀ m:Fin 6,PyData.strOk (J2j m.val)=true:=by decide +kernel
 exact this ⟨k,Nat.succ_le_succ h⟩
theorem K7g {x y:Str}(h1:PyData.strOk x=true)(h2:PyData.strOk y=true):PyData.strOk (x++y)=true:=by
 unfold PyData.strOk at h1 h2 ⊢
 show (x.cps++y.cps).all _=true
 rw [Array.all_append,h1,h2];rfl
theorem K9i {e:Gr}(hp:e.p<3)(hb:e.b.2≤2):J1i (.str (nmS e)):=
 ⟨K7g (K9x (lTr (Nat.sub_le_sub_right hb 1) (by decide))) (K3w (lTr (Nat.le_of_lt hp) (by decide))),Nat.zero_le _⟩
section
variable {w:World}{A:Around}{q:Str}{cd:Value}{L:Addr}{c:Cfg}{a:Ad}{pm am lt0 lt1:List PyData}{bk:List (Str×PyData)}{ow0 ow1 gs tk rs sd du:List PyData}{g:List Gr}{R:Fl→List (Option X)→Prop}{nn:List Str}{rr:List Int}
theorem tl5 (hA:Rm 8 A)(hg:g.length≤16)(hp:∀ e∈g,e.p<3∧1≤e.b.2∧e.b.2≤2)
  (k:GX w A (J0d q cd L) J1l (ZX w c a pm am lt0 lt1 bk ow0 ow1 ((gd g).map Ent.d) tk rs sd du none none (some (PL ((g.map nmS).map .str)))) (J1r.drop 25) R) :
  GX w A (J0d q cd L) J1l (ZX w c a pm am lt0 lt1 bk ow0 ow1 ((gd g).map Ent.d) tk rs sd du) (J1r.drop 24) R:=by
 have hh:A.handled=none:=hA.hd
 refine J0w (xs':=ZX w c a pm am lt0 lt1 bk ow0 ow1 ((gd g).map Ent.d) tk rs sd du none none (some (PL ((g.map nmS).map .str)))) ?_ rfl k
 ·refine J0h (x:=PL ((g.map nmS).map .str)) (c:=true) ?_ ?_ ?_
  ·x_close
  ·rw [← J9a]
   refine J2t (cl:=[]) (cs:=[]) (ys:=[]) (x:=.l a.gr ((gd g).map Ent.d)) (ds:=(gd g).map Ent.d) K9p ⟨rfl,by decide,rfl,by decide,by decide,fun n hn=>(nomatch hn),fun p hp=>(nomatch hp),.nil,fun n hn=>(nomatch hn),by decide⟩ hh ?_ (J0r .l) .nil (Ok.mk rfl) (by rw [List.length_map];unfold gd;rw [List.length_map];exact lTr hg (by decide)) (fun C' d hd=>?_) (fun C' d z hd hz=>?_) (Ok.mk fun _=>rfl)
   ·x_close
   ·refine o11 (mMp hd) fun e0 he0 e9a=>?_;subst e9a
    refine o11 (mMp he0) fun e _ e9a=>?_;subst e9a
    exact wi_nil
   ·refine o11 (mMp hd) fun e0 he0 e9a=>?_;subst e9a
    refine o11 (mMp he0) fun e he e9a=>?_;subst e9a
    obtain rfl:z = .str (nmS e):=(Option.some.inj hz).symm
    refine o02 (hp e he) fun h1 h2 h3=>?_
    show VE _ _ _ [("entry",false)] [some (T [.int e.p,.str (J1h e.w.isSome),bD e.b,e.e.t])] _ (S (pqS (e.b.2 - 1)++J2j e.p))
    apply w_bin
    ·apply w_sub
     ·x_close
     ·refine VE.eq (x:=I ((e.b.2:Int) - 1)) ?_ (show I ((e.b.2:Int) - 1)=I ((e.b.2 - 1:Nat):Int) from congrArg I (by lia))
      apply w_bin
      ·apply w_sub
       ·apply w_sub
        ·x_close
        ·x_close
        ·exact v_tget (d:=bD e.b) (Ok.mk rfl) (Ok.mk rfl)
       ·x_close
       ·exact v_tget (d:=.int e.b.2) (Ok.mk rfl) (Ok.mk rfl)
      ·x_close
      ·exact v_sub
     ·exact J3b (n:=112+(e.b.2 - 1)) (Ok.mk (Z4l (Nat.lt_of_le_of_lt (Nat.sub_le_sub_right h3 1) (by decide)))) (K5r (Nat.lt_of_le_of_lt (Nat.sub_le_sub_right h3 1) (by decide))) (Ok.mk rfl)
    ·apply w_sub
     ·x_close
     ·apply w_sub
      ·x_close
      ·x_close
      ·exact v_tget (d:=.int e.p) (Ok.mk rfl) (Ok.mk rfl)
     ·exact J3b (n:=97+e.p) (Ok.mk (Z4l (lTr h1 (by decide)))) (J7h h1) (Ok.mk rfl)
    ·exact J2c (by show 1+1≤1000;decide)
  ·repeat' x_close
theorem tl6 (hA:Rm 8 A)(hn:nn.length≤16)(hs:∀ s∈nn,J1i (.str s))
  (k:GX w A (J0d q cd L) J1l (ZX w c a pm am lt0 lt1 bk ow0 ow1 gs tk rs sd du none none (some (PL (nn.map .str))) (some (PL ((dd nn).map .str)))) (J1r.drop 26) R) :
  GX w A (J0d q cd L) J1l (ZX w c a pm am lt0 lt1 bk ow0 ow1 gs tk rs sd du none none (some (PL (nn.map .str)))) (J1r.drop 25) R:=by
 have hh:A.handled=none:=hA.hd
 refine J0w (xs':=ZX w c a pm am lt0 lt1 bk ow0 ow1 gs tk rs sd du none none (some (PL (nn.map .str))) (some (PL ((dd nn).map .str)))) ?_ rfl k
 rw [← Z2z nn]
 refine J7q (cl:=[("names",L+6)]) (cs:=["names"]) (ys:=[PL (nn.map .str)]) (x:=Rg 0 nn.length 1) (ds:=rgD 0 1 nn.length) (Z0j nn) ?_ rfl ?_ hh ?_ ⟨J4c (n:=nn.length) ?_ ?_⟩ ?_ (Ok.mk rfl) (by unfold rgD;rw [List.length_map,List.length_range];exact lTr hn (by decide)) (fun C' d hd=>?_) (fun C' d z hd hz=>?_) (Ok.mk fun _=>rfl)
 ·exact ⟨rfl,by decide,rfl,by decide,by decide,fun n hn=>by obtain rfl:=mSg hn;rfl,fun q hq=>by obtain rfl:=mSg hq;rfl,(by show [Str.ofString "names"].Nodup;decide),fun n hn=>by obtain rfl:=mSg hn;exact ⟨L+6,rfl⟩,by decide⟩
 ·repeat' x_close
 ·refine VE.eq (x:=Rg 0 ((nn.map PyData.str).length:Int) 1) ?_ (by rw [List.length_map])
  apply w_callt (T:="range")
  ·x_close
  ·x_close
  ·apply wg_cons
   ·x_close
   apply wl_cons
   ·x_close
   ·apply w_callb (id:="len") (ys:=[PL (nn.map .str)])
    ·x_close
    ·x_close
    ·repeat' x_close
    ·exact K0a .p (by rw [List.length_map];exact lTr hn (by decide))
   ·exact wl_nil
  ·exact J5c
 ·have:∀ m:Fin 17,Builtin.Range.small 0 (m.val:Int) 1=true:=by decide +kernel
  exact this ⟨nn.length,Nat.succ_le_succ hn⟩
 ·have:∀ m:Fin 17,Builtin.Range.rangeSize 0 (m.val:Int) 1=(m.val:Int):=by decide +kernel
  exact this ⟨nn.length,Nat.succ_le_succ hn⟩
 ·refine .cons ?_ .nil
  repeat (first|(apply At.hd;exact Ok.mk (by with_reducible rfl))|apply At.tail)
 ·refine o11 (mMp hd) fun i hi e9a=>?_;subst e9a
  have hi:i<nn.length:=List.mem_range.mp hi
  have hk:=List.getElem?_eq_getElem (l:=nn) (i:=i) hi
  have ei:(0:Int)+(i:Int) * 1=(i:Int):=(Int.zero_add _).trans (Int.mul_one _)
  rw [ei]
  have e1:(Z0j nn (.int i)).isSome = !((pick (lidx none (some (i:Int)) (nn.map PyData.str).length) (nn.map PyData.str)).any fun y=>Spec.same y (.str nn[i])):=by
   rw [J8x (by rw [List.length_map];exact Nat.le_of_lt hi),J4s _ (by rw [List.length_map];exact Nat.le_of_lt hi),← List.map_take]
   unfold Z0j
   simp only [Int.toNat_natCast,hk]
   split<;>simp_all
  rw [e1]
  show VI _ _ _ [("k",false),("names",true)] [some (I i),some (PL (nn.map .str))] _ _
  apply wi_one
  apply wt_cmp (x:=.d (.str nn[i])) (y:=Mine.L (pick (lidx none (some (i:Int)) (nn.map PyData.str).length) (nn.map PyData.str)))
  ·x_close
  ·apply w_sub
   ·x_close
   ·x_close
   ·exact J1c .p (⟨Int.ofNat_nonneg _,Int.ofNat_lt.2 (Nat.lt_of_lt_of_le hi (lTr hn (by decide)))⟩) (by rw [List.getElem?_map,Int.toNat_natCast,hk];rfl) (Ok.mk rfl)
  ·apply w_sub
   ·x_close
   ·repeat' x_close
   ·exact K2g .p (by rw [List.length_map];exact lTr hn (by decide)) (Ok.mk fun _ _=>⟨_,by with_unfolding_all rfl⟩)
  ·have hm:∀ d∈pick (lidx none (some (i:Int)) (nn.map PyData.str).length) (nn.map PyData.str),J1i d:=by
    rw [J8x (by rw [List.length_map];exact Nat.le_of_lt hi),J4s _ (by rw [List.length_map];exact Nat.le_of_lt hi)]
    intro d hd
    refine o11 (mMp (List.mem_of_mem_take hd)) fun s hs' e9a=>?_;subst e9a
    exact hs s hs'
   have hsm:=hs nn[i] (List.getElem_mem hi)
   exact ⟨K7t .d .d ⟨hsm.1,by have:=hsm.2;exact Nat.zero_le _⟩ (J4m hm).1 (hA.less (by decide))⟩
 ·refine o11 (mMp hd) fun i hi e9a=>?_;subst e9a
  have hi:i<nn.length:=List.mem_range.mp hi
  have hk:=List.getElem?_eq_getElem (l:=nn) (i:=i) hi
  have ei:(0:Int)+(i:Int) * 1=(i:Int):=(Int.zero_add _).trans (Int.mul_one _)
  rw [ei] at hz ⊢
  obtain rfl:z = .str nn[i]:=by
   unfold Z0j at hz
   simp only [Int.toNat_natCast,hk] at hz
   split at hz
   ·exact (Option.some.inj hz).symm
   ·cases hz
  show VE _ _ _ [("k",false),("names",true)] [some (I i),some (PL (nn.map .str))] _ _
  apply w_sub
  ·x_close
  ·x_close
  ·exact J1c .p (⟨Int.ofNat_nonneg _,Int.ofNat_lt.2 (Nat.lt_of_lt_of_le hi (lTr hn (by decide)))⟩) (by rw [List.getElem?_map,Int.toNat_natCast,hk];rfl) (Ok.mk rfl)
theorem tl7 {f:Str→PyData}(hA:Rm 8 A)(hn:nn.length≤16)(hs:∀ s∈nn,J1i (.str s))
  (k:GX w A (J0d q cd L) J1l (ZX w c a pm am lt0 lt1 (J1d f nn) ow0 ow1 gs tk rs sd du none none (some (PL (nn.map .str))) (some (PL ((dd nn).map .str)))) (J1r.drop 27) R) :
  GX w A (J0d q cd L) J1l (ZX w c a pm am lt0 lt1 (J1d f nn) ow0 ow1 gs tk rs sd du none none (some (PL (nn.map .str))) (some (PL ((dd nn).map .str)))) (J1r.drop 26) R:=by
 have hh:A.handled=none:=hA.hd
 refine J0w (xs':=ZX w c a pm am lt0 lt1 (J1d f nn) ow0 ow1 gs tk rs sd du none none (some (PL (nn.map .str))) (some (PL ((dd nn).map .str)))) ?_ rfl k
 refine J0g (VT.eq (b:=!Spec.same (.list ((dd nn).map .str)) (.list ((dd nn).map .str))) ?_ (by rw [Spec.same_self];rfl)) J0c
 have hdl:(dd nn).length≤16:=lTr (J8z nn) hn
 have hsm:nicD (.list ((dd nn).map PyData.str)):=J3g fun d hd=>by
  refine o11 (mMp hd) fun s hs' e9a=>?_;subst e9a
  exact hs s (J2e.mp hs')
 have ek:(J1d f nn).map (fun p=>PyData.str p.1)=(dd nn).map .str:=by
  rw [← J5i (f:=f),List.map_map];rfl
 apply wt_cmp (x:=PL ((dd nn).map .str)) (y:=PL ((dd nn).map .str))
 ·x_close
 ·rw [← ek]
  apply w_callt (T:="list") (ys:=[DX w (J1d f nn)])
  ·x_close
  ·x_close
  ·repeat' x_close
  ·exact K6b hh (by unfold J1d;rw [List.length_map];exact lTr hdl (by decide))
 ·x_close
 ·exact Z4z .pl .pl hsm hsm (hA.less (by decide))
end
noncomputable def sqF:PyData→Option PyData
 |.int n=>some (.int (n * n))
 |_=>none
theorem K5t:∀ hs:List Int,(hs.map PyData.int).filterMap sqF=(hs.map fun n=>n * n).map .int
 |[]=>rfl
 |n::hs=>by
  show (PyData.int n::hs.map PyData.int).filterMap sqF = .int (n * n)::(hs.map fun n=>n * n).map .int
  rw [List.filterMap_cons,← K5t hs];rfl
theorem K4c {ns:List Str}{rs:List Int}{k:Str}{r:Int}(h:r∈J0j ns rs k):r∈rs:=by
 refine o11 (mMp h) fun p hp e9a=>?_;subst e9a
 exact (List.of_mem_zip (List.mem_filter.mp hp).1).2
theorem K5l (ns:List Str)(rs:List Int)(k:Str):(J0j ns rs k).length≤ns.length:=by
 unfold J0j
 rw [List.length_map]
 refine lTr (List.length_filter_le _ _) ?_
 rw [List.length_zip];exact Nat.min_le_left _ _
theorem K4d (c:Cfg):∀ t,t≤16→∀ r∈(run c t).rs,0≤r∧r≤16
 |0,_,r,h=>nomatch h
 |t+1,ht,r,h=>by
  have h:r∈(if J0p c.w1 (hi c.w1 (run c t).g (fig c.lot t % 3)) ((pk (fig c.lot t % 6 / 3) (run c t).o0 (run c t).o1).getD ((pk (fig c.lot t % 6 / 3) (run c t).o0 (run c t).o1).length - 1 - fig c.lot t / 6) ((0,0),none)).1=true then (run c t).rs else (run c t).rs++[15 - (t:Int)]):=h
  split at h
  ·exact K4d c t (Nat.le_of_lt ht) r h
  ·rcases mAp h with h|h
   ·exact K4d c t (Nat.le_of_lt ht) r h
   ·rw [List.mem_singleton.mp h];lia
section
variable {w:World}{A:Around}{q:Str}{cd:Value}{L:Addr}{c:Cfg}{a:Ad}{pm am lt0 lt1:List PyData}{ow0 ow1 gs tk sd du:List PyData}{R:Fl→List (Option X)→Prop}{nn:List Str}{rr:List Int}
theorem tl8 (hA:Rm 8 A)(hn:nn.length≤16)(hl:nn.length=rr.length)(hr:∀ r∈rr,0≤r∧r≤16)
  (k:GX w A (J0d q cd L) J1l (ZX w c a pm am lt0 lt1 (J1d (J1u nn rr) nn) ow0 ow1 gs tk (rr.map .int) sd du none none (some (PL (nn.map .str))) (some (PL ((dd nn).map .str)))) (J1r.drop 28) R) :
  GX w A (J0d q cd L) J1l (ZX w c a pm am lt0 lt1 (J1d (J1u nn rr) nn) ow0 ow1 gs tk (rr.map .int) sd du none none (some (PL (nn.map .str))) (some (PL ((dd nn).map .str)))) (J1r.drop 27) R:=by
 have hh:A.handled=none:=hA.hd
 have hdl:(dd nn).length≤16:=lTr (J8z nn) hn
 refine J0w (xs':=ZX w c a pm am lt0 lt1 (J1d (J1u nn rr) nn) ow0 ow1 gs tk (rr.map .int) sd du none none (some (PL (nn.map .str))) (some (PL ((dd nn).map .str)))) ?_ rfl k
 refine J3e (f:=.next) (x:=PL ((dd nn).map .str)) (ds:=(dd nn).map .str) (fun _=>ZX w c a pm am lt0 lt1 (J1d (J1u nn rr) nn) ow0 ow1 gs tk (rr.map .int) sd du none none (some (PL (nn.map .str))) (some (PL ((dd nn).map .str)))) ((dd nn).map PyData.str).length hh ?_ (J0r .p) rfl (fun i hi=>rfl) (fun i d hi hd=>?_) (.inl ⟨rfl,rfl,rfl⟩) (Ok.mk fun _=>rfl)
 ·x_close
 refine o11 (mMp (List.mem_of_getElem? hd)) fun x hx e9a=>?_;subst e9a
 have hx:=J2e.mp hx
 have hhl:(J0j nn rr x).length≤16:=lTr (K5l nn rr x) hn
 refine xi2 (ZX w c a pm am lt0 lt1 (J1d (J1u nn rr) nn) ow0 ow1 gs tk (rr.map .int) sd du none none (some (PL (nn.map .str))) (some (PL ((dd nn).map .str))) (some (S x))) .next ⟨?_,.inl rfl,?_⟩
 ·apply J3o
  repeat' x_close
 refine J9x (xs':=ZX w c a pm am lt0 lt1 (J1d (J1u nn rr) nn) ow0 ow1 gs tk (rr.map .int) sd du none none (some (PL (nn.map .str))) (some (PL ((dd nn).map .str))) (some (S x)) (some (PL ((J0j nn rr x).map .int)))) ?_ (by
  iterate 39 apply Wk.keep
  apply Wk.drop
  apply Wk.drop
  exact Wk.rfl')
 refine J0b (xs':=ZX w c a pm am lt0 lt1 (J1d (J1u nn rr) nn) ow0 ow1 gs tk (rr.map .int) sd du none none (some (PL (nn.map .str))) (some (PL ((dd nn).map .str))) (some (S x)) (some (PL ((J0j nn rr x).map .int)))) ?_ ?_
 ·rw [← K7j hl]
  refine J7q (cl:=[("rests",L+1),("names",L+6),("name",L+7)]) (cs:=["name","names","rests"]) (ys:=[S x,PL (nn.map .str),.l a.re (rr.map .int)]) (x:=Rg 0 nn.length 1) (ds:=rgD 0 1 nn.length) (K0i nn rr x) ?_ rfl ?_ hh ?_ ⟨J4c (n:=nn.length) ?_ ?_⟩ ?_ (Ok.mk rfl) (by unfold rgD;rw [List.length_map,List.length_range];exact lTr hn (by decide)) (fun C' d hd=>?_) (fun C' d z hd hz=>?_) (Ok.mk fun _=>rfl)
  ·exact ⟨rfl,by decide,rfl,by decide,by decide,fun n hn=>by
    simp only [List.mem_cons,List.not_mem_nil,or_false] at hn
    rcases hn with rfl|rfl|rfl<;>rfl,fun p hp=>by
    simp only [List.mem_cons,List.not_mem_nil,or_false] at hp
    rcases hp with rfl|rfl|rfl<;>rfl,(by show [Str.ofString "rests",Str.ofString "names",Str.ofString "name"].Nodup;decide),fun n hn=>by
    simp only [List.mem_cons,List.not_mem_nil,or_false] at hn
    rcases hn with rfl|rfl|rfl
    ·exact ⟨L+7,rfl⟩
    ·exact ⟨L+6,rfl⟩
    ·exact ⟨L+1,rfl⟩,by decide⟩
  ·repeat' x_close
  ·refine VE.eq (x:=Rg 0 ((nn.map PyData.str).length:Int) 1) ?_ (by rw [List.length_map])
   apply w_callt (T:="range")
   ·x_close
   ·x_close
   ·apply wg_cons
    ·x_close
    apply wl_cons
    ·x_close
    ·apply w_callb (id:="len") (ys:=[PL (nn.map .str)])
     ·x_close
     ·x_close
     ·repeat' x_close
     ·exact K0a .p (by rw [List.length_map];exact lTr hn (by decide))
    ·exact wl_nil
   ·exact J5c
  ·have:∀ m:Fin 17,Builtin.Range.small 0 (m.val:Int) 1=true:=by decide +kernel
   exact this ⟨nn.length,Nat.succ_le_succ hn⟩
  ·have:∀ m:Fin 17,Builtin.Range.rangeSize 0 (m.val:Int) 1=(m.val:Int):=by decide +kernel
   exact this ⟨nn.length,Nat.succ_le_succ hn⟩
  ·refine .cons ?_ (.cons ?_ (.cons ?_ .nil))
   ·repeat (first|(apply At.hd;exact Ok.mk (by with_reducible rfl))|apply At.tail)
   ·repeat (first|(apply At.hd;exact Ok.mk (by with_reducible rfl))|apply At.tail)
   ·repeat (first|(apply At.hd;exact Ok.mk (by with_reducible rfl))|apply At.tail)
  ·refine o11 (mMp hd) fun i hi e9a=>?_;subst e9a
   have hi:i<nn.length:=List.mem_range.mp hi
   have hk:=List.getElem?_eq_getElem (l:=nn) (i:=i) hi
   have hk2:=List.getElem?_eq_getElem (l:=rr) (i:=i) (hl▸hi)
   have ei:(0:Int)+(i:Int) * 1=(i:Int):=(Int.zero_add _).trans (Int.mul_one _)
   rw [ei]
   have e1:(K0i nn rr x (.int i)).isSome=decide (nn[i]=x):=by
    unfold K0i
    simp only [Int.toNat_natCast,hk,hk2]
    split<;>simp_all
   rw [e1]
   show VI _ _ _ [("k",false),("name",true),("names",true),("rests",true)] [some (I i),some (S x),some (PL (nn.map .str)),some (.l a.re (rr.map .int))] _ _
   apply wi_one
   apply wt_cmp (x:=S nn[i]) (y:=S x)
   ·x_close
   ·apply w_sub
    ·x_close
    ·x_close
    ·exact J1c .p (⟨Int.ofNat_nonneg _,Int.ofNat_lt.2 (Nat.lt_of_lt_of_le hi (lTr hn (by decide)))⟩) (by rw [List.getElem?_map,Int.toNat_natCast,hk];rfl) (Ok.mk rfl)
   ·x_close
   ·exact v_eqs
  ·refine o11 (mMp hd) fun i hi e9a=>?_;subst e9a
   have hi:i<nn.length:=List.mem_range.mp hi
   have hk:=List.getElem?_eq_getElem (l:=nn) (i:=i) hi
   have hk2:=List.getElem?_eq_getElem (l:=rr) (i:=i) (hl▸hi)
   have ei:(0:Int)+(i:Int) * 1=(i:Int):=(Int.zero_add _).trans (Int.mul_one _)
   rw [ei] at hz ⊢
   obtain rfl:z = .int rr[i]:=by
    unfold K0i at hz
    simp only [Int.toNat_natCast,hk,hk2] at hz
    split at hz
    ·exact (Option.some.inj hz).symm
    ·cases hz
   show VE _ _ _ [("k",false),("name",true),("names",true),("rests",true)] [some (I i),some (S x),some (PL (nn.map .str)),some (.l a.re (rr.map .int))] _ _
   apply w_sub
   ·x_close
   ·x_close
   ·exact J1c .l (⟨Int.ofNat_nonneg _,Int.ofNat_lt.2 (Nat.lt_of_lt_of_le hi (lTr hn (by decide)))⟩) (by rw [List.getElem?_map,Int.toNat_natCast,hk2];rfl) (Ok.mk rfl)
 refine J0b (xs':=ZX w c a pm am lt0 lt1 (J1d (J1u nn rr) nn) ow0 ow1 gs tk (rr.map .int) sd du none none (some (PL (nn.map .str))) (some (PL ((dd nn).map .str))) (some (S x)) (some (PL ((J0j nn rr x).map .int)))) ?_ J0c
 refine J0g (VT.eq (b:=!Spec.same (J1u nn rr x) (.tuple [.int ((J0j nn rr x).length:Int),.int (J0j nn rr x).sum,.int ((J0j nn rr x).map fun n=>n * n).sum])) ?_ (by
  rw [show J1u nn rr x = .tuple [.int ((J0j nn rr x).length:Int),.int (J0j nn rr x).sum,.int ((J0j nn rr x).map fun n=>n * n).sum] from rfl,Spec.same_self];rfl)) J0c
 apply wt_cmp (x:=.d (J1u nn rr x)) (y:=T [.int ((J0j nn rr x).length:Int),.int (J0j nn rr x).sum,.int ((J0j nn rr x).map fun n=>n * n).sum])
 ·x_close
 ·apply w_sub (x:=DX w (J1d (J1u nn rr) nn)) (y:=S x)
  ·x_close
  ·x_close
  ·exact Z4c (J7r hx) (Ok.mk rfl)
 ·apply w_tuple (ys:=[I ((J0j nn rr x).length:Int),I (J0j nn rr x).sum,I ((J0j nn rr x).map fun n=>n * n).sum])
  ·apply wl_cons
   ·x_close
   ·refine VE.eq (x:=I (((J0j nn rr x).map PyData.int).length:Int)) ?_ (by rw [List.length_map])
    apply w_callb (id:="len") (ys:=[PL ((J0j nn rr x).map .int)])
    ·x_close
    ·x_close
    ·repeat' x_close
    ·exact K0a .p (by rw [List.length_map];exact lTr hhl (by decide))
   apply wl_cons
   ·x_close
   ·apply w_callb (id:="sum") (ys:=[PL ((J0j nn rr x).map .int)])
    ·x_close
    ·x_close
    ·repeat' x_close
    ·exact Z2y hh fun A=>J5e .p
   apply wl_cons
   ·x_close
   ·apply w_callb (id:="sum") (ys:=[PL (((J0j nn rr x).map fun n=>n * n).map .int)])
    ·x_close
    ·x_close
    ·apply wg_cons
     ·x_close
     apply wl_cons
     ·x_close
     ·rw [← K5t]
      refine J2t (cl:=[]) (cs:=[]) (ys:=[]) (x:=PL ((J0j nn rr x).map .int)) (ds:=(J0j nn rr x).map .int) sqF ⟨rfl,by decide,rfl,by decide,by decide,fun n hn=>(nomatch hn),fun p hp=>(nomatch hp),.nil,fun n hn=>(nomatch hn),by decide⟩ hh ?_ (J0r .p) .nil (Ok.mk rfl) (by rw [List.length_map];exact lTr hhl (by decide)) (fun C' d hd=>?_) (fun C' d z hd hz=>?_) (Ok.mk fun _=>rfl)
      ·x_close
      ·refine o11 (mMp hd) fun n _ e9a=>?_;subst e9a
       exact wi_nil
      ·refine o11 (mMp hd) fun n hnm e9a=>?_;subst e9a
       obtain rfl:z = .int (n * n):=(Option.some.inj hz).symm
       have hb:=hr n (K4c hnm)
       obtain ⟨m,rfl⟩:∃ m:Nat,n=(m:Int):=⟨n.toNat,Eq.symm (Int.toNat_of_nonneg hb.1)⟩
       show VE _ _ _ [("n",false)] [some (I (m:Int))] _ (I ((m:Int) * (m:Int)))
       apply w_bin
       ·x_close
       ·x_close
       ·exact v_mul (J8j (Int.ofNat_le.1 hb.2))
     ·exact wl_nil
    ·exact Z2y hh fun A=>J5e .p
   ·exact wl_nil
  ·exact .cons (.cons (.cons .nil))
  ·x_close
 ·exact Z4z .d .d ⟨rfl,lBt rfl⟩ ⟨rfl,lBt rfl⟩ (hA.less (by decide))
theorem tl9 {xs:List (Option X)}(r:R (.ret (B true)) xs):GX w A (J0d q cd L) J1l xs (J1r.drop 28) R:=
 V0u (V0f (J0i (J0n w_bool)) rfl r)
end
section
variable {w:World}{A:Around}{q:Str}{cd:Value}{L0:Addr}{ns:List Int}
theorem Z7s {t who:Nat}{o:List Let}(h:OInv t who o)(ht:t≤16)(hw:who<2):o.length≤17∧∀ x∈o,x.1.1≤100∧x.1.2≤2:=by
 refine ⟨by have:=h.len;exact lTr this (Nat.succ_le_succ ht),fun x hx=>?_⟩
 have h1:=(h.bal x hx).1
 have h2:=(h.bal x hx).2
 exact ⟨lTr h1.2 (lTr (Nat.succ_le_succ ht) (by decide)),h2▸hw⟩
theorem Z6p (hA:Rm 8 A)(hfr:A.frames=some [J0d q cd L0])(hl:ns.length≤63) :
  GX w A (J0d q cd L0) J1l (LH (some (.d (.list (ns.map .int))))) J1r (fun f _=>f = .ret (B true)):=by
 apply h1 hA hfr hl
 apply h2 hA
 intro a
 have W:=Z3k ns
 apply h3 hA hfr W
 generalize J0a ns=c at W ⊢
 have I:=J4q c (Nat.le_refl 16)
 have htk:=Z8j W
 have hsd:=J8s c 16
 have hrs:=K4d c 16 (Nat.le_refl 16)
 generalize run c 16=st at I htk hsd hrs ⊢
 have hgp:∀ e∈st.g,e.p<3∧1≤e.b.2∧e.b.2≤2:=fun e he=>⟨I.gp e he,(I.eb he).2⟩
 have hnl:(st.g.map nmS).length≤16:=by rw [List.length_map];exact I.gl
 have hns:∀ s∈st.g.map nmS,J1i (.str s):=fun s hs=>by
  refine o11 (mMp hs) fun e he e9a=>?_;subst e9a
  exact K9i (hgp e he).1 (hgp e he).2.2
 refine K4k (ys:=ZX w c a (J5p c.w1 st.g) (K4l st.g) (J2b st.o0) (J2b st.o1) (J6g st.g st.rs) (J1e st.o0) (J1e st.o1) ((gd st.g).map Ent.d) (K7i st.g) (st.rs.map .int) st.sd st.sd) ?_ ?_
 ·iterate 4 apply Wk.drop
  apply Wk.keep
  apply Wk.drop
  iterate 3 apply Wk.keep
  iterate 3 apply Wk.drop
  iterate 7 apply Wk.keep
  apply Wk.drop
  exact Wk.rfl'
 rw [Z2t]
 apply tl1 hA W htk (by unfold tks;exact lTr (List.length_filterMap_le _ _) I.gl)
 apply tl2 hA hsd
 have l0:=Z7s I.o0 (Nat.le_refl 16) (by decide)
 have l1:=Z7s I.o1 (Nat.le_refl 16) (by decide)
 apply tl3 hA (lTr l0.1 (by decide)) (lTr l1.1 (by decide)) (fun x hx=>by
  rcases hx with hx|hx
  ·exact l0.2 x hx
  ·exact l1.2 x hx)
 apply tl4 hA (lBt rfl) (lBt rfl)
 apply tl5 hA I.gl hgp
 apply tl6 hA hnl hns
 apply tl7 (f:=J1u (st.g.map nmS) st.rs) hA hnl hns
 apply tl8 hA hnl (by rw [List.length_map,I.rl]) hrs
 exact tl9 rfl
end
theorem law_run {w:World}{s:Shared}{v:Value}{ns:List Int}(G:Gl w (hideAll s.heap [tabP]))(P:PlOk s.heap)(hv:Rd [tabP] s.heap v (.list (ns.map .int)))(hl:ns.length≤63) :
  codeAny (model PW w) callerA (.call (.ref 293) ⟨[v],[]⟩) (fun res s'=>res = .ok (.ret (.bool true))∧PlOk s'.heap∧SameG s s'∧∀ b o,b≠tabP→s.heap.get? b=some o→s'.heap.get? b=some o) s:=by
 refine ab fun Q q9=>?_
 obtain ⟨fd,St,hE,hB⟩:=Z1z
 refine q9 ?_
 have C:Cx w [tabP] s.heap:=⟨G,fun b hb=>by rw [List.mem_singleton.mp hb];refine o21 P fun o _ e _=>?_;clear P;exact ⟨o,e⟩⟩
 refine K2v (ys:=[.d (.list (ns.map .int))]) (j:=40) St (by decide) rfl (hB [v] rfl) C (.cons hv .nil) fun L s1 F C1 k fr=>?_
 rw [hE] at F C1 fr ⊢
 have hA:Rm 8 (callerA.deeper (J0d (fd.qualname++".<locals>.") fd.code L)):=⟨rfl,lBt rfl,lBt rfl⟩
 have P1:PlOk s1.heap:=P.keeps fun o e=>Kee.kps k _ _ e
 have tf:tabP∉frs (J0d (fd.qualname++".<locals>.") fd.code L):=fun m=>by
  skip
  refine o21 P fun o _ e _=>?_;clear P
  skip
  have:=fr _ m;rw [e] at this;cases this
 have gx:=Z6p (w:=w) (q:=fd.qualname++".<locals>.") (cd:=fd.code) (L0:=L) hA rfl hl
 refine wMo (gx.h _ s1 ⟨⟨F,fun b hb=>(nomatch hb),.nil⟩,C1,P1,List.mem_append_right _ (.head _),tf,fun m=>(nomatch m)⟩) (fun g s2 z=>?_) fun _ _ q=>q.elim
 skip
 refine o33 z fun own' f xs' e9a z1 z2 z3=>?_;subst e9a;clear z
 skip
 cases g with
 |ret u=>
  obtain rfl:u = .bool true:=Rd.inv_bool z1
  refine ⟨rfl,z2.P,(SameG.of (let ⟨h,t,e,_⟩:=k;⟨h,t,e⟩)).trans z3.same,fun b o n e=>z3.but b o (fun m=>(nomatch m)) (fun m=>?_) n (Kee.kps k _ _ e)⟩
  have:=fr _ m;rw [e] at this;cases this
 |_=>exact z1.elim
theorem J3w {h:Heap}{a:Addr}{m:Str→Option Value}(hn:h.Ns a m)(ha:a≠tabP):(hideAll h [tabP]).Ns a m:=
 let ⟨o,es,ep,e,r⟩:=hn;⟨o,es,ep,hideAll_get _ e (by simpa using ha),r⟩
theorem gl_top {w:World}{p:Program}{loose:List Str}{mean:ExcName→Option Value}{mg mb:Str→Option Value}{h:Heap}(T:Top p loose mean mg mb h)(K:(KF w.params).In h)(hi:importsNone p=true):Gl w (hideAll h [tabP]):=by
 have bi:∀ {m},h.Ns mainGlobals m→m "__builtins__" = some (.ref 4):=fun hm=>mg_of K hm (rfl:nsIn (KF w.params) mainGlobals "__builtins__" = some (some (.ref 4)))
 refine ⟨fun a o e=>hideAll_get _ (K a o e) fun hm=>?_,(xi2 mg mb ⟨J3w T.g (by decide),J3w T.b (by decide),T.builtins⟩),?_,?_,?_⟩
 ·obtain rfl:=mSg hm
  have:(KF w.params).lookup tabP=none:=rfl
  rw [this] at e;cases e
 ·skip
  refine o11 T.nolimit fun mc h1 h2=>?_
  skip
  exact ⟨mc,J3w h1 (by decide),h2⟩
 ·refine ab fun Q q9=>?_
  obtain ⟨⟨mc,a1,a2⟩,⟨mm,b1,b2⟩,⟨mb',c1,c2⟩,mg',bm,ob,d1,d2,d3,d4,d5⟩:=T.seer hi
  refine q9 ?_
  have e:=bi d1
  rw [d2] at e
  obtain rfl:bm=4:=by simpa using e
  exact ⟨⟨mc,J3w a1 (by decide),a2⟩,⟨mm,J3w b1 (by decide),b2⟩,⟨mb',J3w c1 (by decide),c2⟩,mg',4,ob,J3w d1 (by decide),d2,hideAll_get _ d3 (by decide),d4,d5⟩
 ·skip
  refine o25 T.bmain fun bm ob h1 _ h2 h3 h4 h5=>?_
  skip
  have e:=bi T.g
  rw [h1] at e
  obtain rfl:bm=4:=by simpa using e
  exact ⟨ob,hideAll_get _ h2 (by decide),h3,h4,h5⟩
theorem pl_top {w:World}{p:Program}{loose:List Str}{mean:ExcName→Option Value}{mg mb:Str→Option Value}{h:Heap}(T:Top p loose mean mg mb h)(K:(KF w.params).In h)(hr:(recsOf p).any (fun d=>d.name == Str.ofString "add_callers")=true) :
  h.TableAt 129 tabP #[]∧PlOk h:=by
 skip
 refine o11 (List.any_eq_true.mp hr) fun d hd hn=>?_
 refine o55 (T.tab d hd) fun a o fd c P h1 h2 h3 h4 h5 h6=>?_
 skip
 rw [eq_of_beq hn] at h1
 have e1:=mg_of K T.g (rfl:nsIn (KF w.params) mainGlobals "add_callers" = some (some (.ref 130)))
 have e2:(some (Value.ref 130))=some (.ref a):=e1.symm.trans h1
 obtain rfl:130=a:=by simpa using e2
 have e3:=K 130 _ rfl
 rw [h2] at e3
 obtain rfl:=Option.some.inj e3
 cases h3
 obtain rfl:(129:Addr)=c:=by simpa using h4
 refine ab fun Q q9=>?_
 refine o01 (id h6) fun n9a q5=>?_;obtain ⟨oc,vs,q1,q2,q3,q4⟩:=n9a
 refine q9 ?_
 have e5:=K 129 _ rfl
 rw [q1] at e5
 obtain rfl:=Option.some.inj e5
 cases q3
 obtain rfl:(125:Addr)=P:=by simpa using q4
 exact ⟨h6,_,#[],q5,rfl,trivial,rfl⟩
theorem rd_top {h:Heap}{v:Value}{ns:List Int}{as:List Addr}(r:Reads h v (.list (ns.map .int)) as)(P:PlOk h):Rd [tabP] h v (.list (ns.map .int)):=by
 have r:Rd [] h v (.list (ns.map .int)):=⟨as,Reads.keeps (fun b o e=>hideAll_get _ e List.not_mem_nil) r⟩
 skip
 refine o45 (Rd.inv_list r) fun a o vs n e9a _ h1 h2 h3 h4=>?_;subst e9a
 skip
 refine Rd.list (fun m=>?_) h1 h2 h3 (K0y (by rw [h4.length,List.length_map]) fun j v hj=>?_)
 ·obtain rfl:=mSg m
  refine o22 P fun o' ps e d _=>?_;clear P
  rw [h1] at e
  obtain rfl:=Option.some.inj e
  rw [h3] at d;cases d
 ·refine o21 (J7p h4 hj) fun c t e1 e2=>?_
  exact xi2 t c ⟨e1,e2⟩
theorem hdO {d:DefRec}{kwd:List (Str×Expr)}(h1:defOf vw Rx.name=some (d,kwd))(h2:PW.theDef Rx.name=some (d.params,d.body,d.scope))(h3:kwWritten? d.params.kwonlyargs d.params.kw_defaults=some kwd)
  (k:WalkO vw lo (XL vw []) (InK KF) Rx.toRowW d kwd fun f vs=>PySem.call f vs):PySem.Challenge.rw_jc0022_01.Holds:=by
 refine holds_law said fun _=>?_
 refine PySem.W.holds_open (r:=Rx) (q:=vw) (loose:=lo) (Xt:=xt) (XP:=XL vw []) (Yf:=yf) (Ya:=ya) (YP:=InK KF) (N:=4400) left (fun w s e=>InK.of Z6b w s e) InK.keeps
  (fun s e=>xl_of s (Bool.and_eq_true_iff.mp e).1) XL.keeps h1 h2 h3 (fun s e=>recFacts_of (Bool.and_eq_true_iff.mp e).2) (by rfl) ?_ ?_ ⟨rfl,rfl,rfl,rfl,rfl,by decide +kernel⟩ ?_ k
 ·exact row_said said
 ·decide +kernel
 ·exact ⟨[.list [.int 3,.int 1]],by decide +kernel,by decide +kernel⟩
end Mine
theorem PySem.Challenge.cw_jc0022_01_holds : PySem.Challenge.rw_jc0022_01.Holds := by
 refine Mine.hdO (by rfl) (by rfl) (by rfl) ?_
 intro w s₀ s₁ mg mb G Y fa o pm cd doc dV kV ho hd' hcd hD hmg hg args vals as hpre hlay hrd hwl hlo
 have K:(Mine.KF w.params).In s₁.heap:=Y
 have T:=G.T
 have GL:=Mine.gl_top T K (by decide +kernel)
 obtain ⟨tb,P⟩:=Mine.pl_top T K (by decide +kernel)
 have ea:some (PySem.Value.ref 293)=some (.ref fa):=(mg_of K T.g (rfl:nsIn (Mine.KF w.params) mainGlobals "law" = some (some (.ref 293)))).symm.trans hmg
 obtain rfl:293=fa:=by simpa using ea
 clear ho hd' hcd hD hmg ea
 have hsh:=(pre_splitW hpre).1
 have hcond:=(pre_splitW hpre).2
 wrow_hasAll hsh hlay
 rename_i ns _ _ _ _ _
 have hc:=readsAllW_cons_inv hrd
 obtain ⟨v,vs,as1,as2,he,ha,r1,hr⟩:=hc
 have hnil:=(readsAllW_nil_inv hr).1
 subst he
 subst hnil
 have r0:=reads_of_readsW _ r1
 w_cond hcond
 refine enter_call (codeAny_mono (Mine.law_run GL P (ns:=ns) (Mine.rd_top r0 P) (by omega)) fun res s' z=>?_)
 obtain ⟨rfl,P',⟨h',tk,gs,rfl,hgs⟩,k⟩:=z
 have hb:AllBare s₁.gens:=.of_eq hg
 refine ⟨.inl ⟨.bool true,.bool true,[],rfl,fun cls=>rfl,.bool true,?_,fun _=>⟨.nil,fun a h=>(nomatch h)⟩⟩,⟨fun b o e=>?_,fun b o e=>?_⟩,rfl,hgs hb⟩
 ·wrow_post
 ·by_cases q:b=Mine.tabP
  ·subst q
   obtain ⟨o',ps,e1,e2,_,e3⟩:=P'
   have eo:o = {cls:=.none,data:=.fields #[]}:=Option.some.inj (e.symm.trans tb.2)
   subst eo
   exact .inr (.inl ⟨tb.isCodeTable,rfl,#[],ps,rfl,by rw [Array.empty_append];exact e3▸e1⟩)
  ·exact .inl (k b o q e)
 ·by_cases q:b=Mine.tabP
  ·obtain ⟨o',_,e1,_⟩:=P'
   exact ⟨o',q▸e1⟩
  ·exact ⟨o,k b o q e⟩
