import PyProof.Rows.All
import Wide.All
import OpenK.AllK
import Wide.FinOn
import KE.KxBytes
import KE.BytesMake
import KE.KBytesWalk
import KE.KIsNot
import PyProof.Cells
import PyProof.WalksMore
import PyProof.DictIter
import KE.KEqDict
import PySem.Challenge.RW_iw0018_01
open PySem PySem.W PySem.Calls PyProof.Rows
set_option tactic.hygienic false
set_option maxRecDepth 1000000
set_option maxHeartbeats 4000000
set_option linter.unusedVariables false
set_option linter.constructorNameAsVariable false
set_option Elab.async false
set_option compiler.extract_closed false
set_option bootstrap.genMatcherCode false
set_option genSizeOf false
set_option compiler.reuse false
namespace Internal
namespace Mine
noncomputable section
theorem e47 (t:Thread):(endAt 0 t).isSome=through t:=by
 cases t with
 | mk cur code pos st=>cases st with
  | cons=>rfl
  | nil=>cases cur with
   | pure a=>cases a<;>rfl
   | _=>rfl
theorem z37 {tb:String->Option Builtin} {p:Program} {w:World} {n₀:Nat} {ann:Option Value} {n:Nat}: ∀{s s':Shared} {t:Thread} {f:Flow} {c:Code} {q:Pos},
  segRun tb p w n₀ ann 0 n s t=some (f,s',c,q)->topRun tb p w n₀ ann n s t=some s':=by
 induction n with
 | zero=>intro s s' t f c q h;cases h
 | succ n ih=>
  intro s s' t f c q h
  have te:=e47 t
  unfold segRun at h
  unfold topRun
  cases e:endAt 0 t with
  | some g=>rw [e] at h te;rw [<-te];cases h;rfl
  | none=>
   rw [e] at h te
   rw [<-te]
   cases hk:stepOk n₀ ann t with
   | false=>rw [hk] at h;cases h
   | true=>
    rw [hk] at h
    dsimp only at h⊢
    cases hs:step (denote tb) p w s t with
    | halt o s2=>rw [hs] at h;cases h
    | go s2 t2=>rw [hs] at h;exact ih h
def X14 (os:List Obj):BT:=(os.foldl (fun (p:BT×Nat) o=>(p.1.ins p.2 o,p.2+1)) (.nil,0)).1
def T0 (P:Params):BT:=X14 [boot_o_0 P,boot_o_1 P,boot_o_2 P,boot_o_3 P,boot_o_4 P,boot_o_5 P,boot_o_6 P,boot_o_7 P,boot_o_8 P,boot_o_9 P,boot_o_10 P]
theorem f47 (P:Params):absHeap (T0 P) 11 {}=boot_heap P:=by kernel_rfl
def S0 (P:Params) (os:OsState):SharedT:=⟨T0 P,11,{},Array.mk [],boot_drawn,boot_toks,os⟩
def looksAt (p q:Program) (loose:List Str) {α:Type} (Yf:Shared->α) (P:Params) (s:Shared):=
 ((staticsOk (importedModules p.main.body) (boot_heap P) s.heap&&namesBound p s.heap&&gensDone s&&laidKept (boot_heap P) s.heap),openSeen q loose (importedModules p.main.body) (fun _=>true) true s,Yf s)
theorem g47 (w:World):((boot_heap w.params).isNs mainGlobals&&(Array.mk ([]:List GenState)).size==0,(boot_heap w.params).objs.size,(boot_heap w.params).nsMap mainGlobals "__annotations__")=(true,11,some (.ref 6)):=by kernel_rfl
theorem y32 {p q:Program} {loose:List Str} {α:Type} {Yf:Shared->α} {Ya:World->α} {N:Nat} (e:opening p=plainProg p.main.scope.names) (hN:Nat.ble 600 N=true) (f: ∀s,fenceModules? p s=some s)
  (E: ∀w os,(segRunT treeTable p w 11 (some (.ref 6)) 0 N (S0 w.params os) (topStub p)).map (fun r=>looksAt p q loose Yf w.params r.2.1.abs)=some (true,openGood q loose,Ya w)):
  LeftO p q loose (fun _=>true) Yf Ya N:=fun w=>by
 have o:=boot_open e hN f w
 obtain ⟨⟨h,gs,d,k,os⟩,eo,e'⟩:=Option.map_eq_some_iff.mp o
 obtain ⟨rfl,rfl,rfl,rfl⟩:h=boot_heap w.params/\gs=Array.mk []/\d=boot_drawn/\k=boot_toks:=by simpa using e'
 obtain ⟨z1,z2,z3⟩:_/\_/\_:=by simpa only [Prod.mk.injEq] using g47 w
 obtain ⟨⟨fl,s',c,q'⟩,hr,hl⟩:=Option.map_eq_some_iff.mp (E w os)
 have hr':=z37 (segRun_of hr)
 have hab:(S0 w.params os).abs=⟨boot_heap w.params,Array.mk [],boot_drawn,boot_toks,os⟩:=by
  show Shared.mk (absHeap (T0 w.params) 11 {}) _ _ _ _=_
  rw [f47]
  rfl
 rw [hab] at hr'
 obtain ⟨l1,l2,l3⟩:_/\_/\_:=by simpa only [looksAt,Prod.mk.injEq] using hl
 have t:topFrom treeTable p w N ⟨boot_heap w.params,Array.mk [],boot_drawn,boot_toks,os⟩=some s'.abs:=by
  unfold topFrom
  dsimp only
  rw [z1,z2,z3,hr']
  show (match staticsOk (importedModules p.main.body) (boot_heap w.params) s'.abs.heap&&namesBound p s'.abs.heap&&gensDone s'.abs&&laidKept (boot_heap w.params) s'.abs.heap with | true=>_ | false=>_)=_
  rw [l1]
 unfold openEnds
 rw [eo]
 show (topFrom treeTable p w N _).map _=_
 rw [t]
 exact congrArg some (Prod.ext l2 l3)
theorem h47 {w:World} {os:OsState} {p q:Program} {loose:List Str} {α:Type} {Yf:Shared->α} {Ya:Params->α} {N:Nat}
  (E: ∀(b:Bool) (w:World),(PySem.W.Fast.tw10110043849684766642 PySem.W.Fast.tw14364793385576792824 p (w.withFollow "special-get-raises" b) 11 (some (.ref 6)) 0 N (S0 w.params os) (topStub p)).map (fun r=>looksAt p q loose Yf w.params r.2.1.abs)=some (true,openGood q loose,Ya w.params)):
  (segRunT treeTable p w 11 (some (.ref 6)) 0 N (S0 w.params os) (topStub p)).map (fun r=>looksAt p q loose Yf w.params r.2.1.abs)=some (true,openGood q loose,Ya w.params):=by
 rw [PySem.W.Fast.te14364793385576792824,PySem.W.Fast.te10110043849684766642]
 have e:=E (w.params.followText "special-get-raises") w
 rw [World.withFollow_self w "special-get-raises"] at e
 exact e
def pw:Program:=PySem.Challenge.pw_iw0018_01
def rw_:OpenLaw:=PySem.Challenge.rw_iw0018_01
def df (i:Nat) (j:Option Nat):Stmt:=match j with
 | none=>pw.main.body.getD i (.Pass default)
 | some j=>if h:(pw.main.body.getD i (.Pass default)).ctorIdx=2 then Stmt.ClassDef.elim (motive_2:=fun _=>Stmt) (pw.main.body.getD i (.Pass default)) h fun _ _ _ body _ _ _ _ _ _ _=>body.getD j (.Pass default) else pw.main.body.getD i (.Pass default)
def fnO (st:Stmt) (qual:Str) (cl:List (Str×Addr)) (ct dv kv doc pm cd:Value) (bi:Addr) (an:Option Addr):Obj:=if h:st.ctorIdx=0 then Stmt.FunctionDef.elim (motive_2:=fun _=>Obj) st h fun name args body _ _ _ scope _ _ _=>{cls:= .type "function",data:= .func {name,qualname:=qual,params:=args,body:= .stmts body,scope,globals:=3,closure:=cl,defaults:=dv,kwdefaults:=kv,doc,pyModule:=pm,code:=cd,closureTuple:=ct,builtins:=bi,annotations:=an}} else {cls:= .none}
def cdO (r:Nat) (nm q:Str) (t L k T:Nat):Obj:={cls:= .type "code",data:= .fields #[.str nm t,.str q (t+1),.str "/claim/cut.py" (t+2),.int (.ofNat L) 0,.int (.ofNat k) 0,.int 0 0,.int 0 0,.int 3 0,.ref r,.bool true,.int 181 0,.ref (r+1),.none,.ref (r+2),.ref (r+3),.ref (r+4),.int (.ofNat T) 0,.int (.ofNat L) 0,.str "/claim/cut.py" (T+1)]}
def en (P:Params) (name:Str) (tk:Tok) (v:Value):DictEntry:=⟨PyData.keyHash P name,.str name tk,v⟩
def er (P:Params) (name:Str) (tk:Tok) (a:Addr):DictEntry:=en P name tk (.ref a)
def dcO (es:Array DictEntry) (n:Nat):Obj:={cls:= .type "dict",data:= .dict es n}
def clO (nm:Str) (bs mr:List Value) (ns:Addr) (su:List Value) (w x y:Nat):Obj:={cls:= .type "type",data:= .cls {name:=nm,bases:=bs,mro:=mr,ns:=ns,qualname:=nm,hasDict:=true,slotNames:=[],subclasses:=su,abstract:=false,collection:=none,hasDel:=false},slots:= #[some (.ref w),none,some (.str nm x),some (.str nm y),some (.builtin "Exception.__new__"),some (.bool true)]}
def koO (a:Addr) (nm:Str) (ns:Addr) (x y:Nat):Obj:={cls:= .type "type",data:= .cls {name:=nm,bases:=[.type "object"],mro:=[.ref a,.type "object"],ns:=ns,qualname:=nm,hasDict:=true,slotNames:=[],subclasses:=[],abstract:=false,collection:=none,hasDel:=false},slots:= #[none,none,some (.str nm x),some (.str nm y),some (.builtin "object.__new__"),some (.bool true)]}
noncomputable def kf0 (P:Params):List (Addr×Obj):=[
 (0,boot_o_0 P),
 (1,boot_o_1 P),
 (2,{cls:= .none,data:= .dict #[en P "type.__subclasses__.Exception.0" 224 (.int 41 0),en P "type.__subclasses__.Exception.n" 225 (.int 2 0),en P "type.__subclasses__.Exception.1" 288 (.int 87 0)] 3}),
 (3,dcO #[en P "__name__" 165 (.str "law_iw0018_01" 1672),en P "__doc__" 166 .none,en P "__package__" 167 .none,en P "__loader__" 168 (.builtin "__main__.__loader__#opaque"),en P "__spec__" 169 .none,er P "__annotations__" 170 6,er P "__builtins__" 171 4,en P "__file__" 173 (.str "/claim/cut.py" 172),en P "__cached__" 174 .none,er P "_wall" 193 21,er P "PyFATException" 227 41,er P "NotAnLFNEntryException" 243 54,er P "BrokenLFNEntryException" 259 66,er P "NotAFatEntryException" 291 87,er P "errno" 341 100,en P "FAT_OEM_ENCODING" 343 (.str "latin-1" 342),er P "encoded" 349 109,er P "decoded" 355 114,er P "decoded16" 361 119,er P "splitext" 371 126,er P "init_check" 378 133,er P "Octets" 457 193,er P "EightDotThree" 671 316,er P "FATDirectoryEntry" 1088 606,er P "FATLongDirectoryEntry" 1212 681,er P "_readonly_check" 1221 692,er P "PyFat" 1671 936,er P "_law_clean" 1679 947,er P "_law_take" 1688 954,er P "_law_laid" 1699 961,er P "_law_volume" 1712 968,er P "law" 1718 973] 32),
 (25,{cls:=(.type "cell"),data:= .cell (some (.ref 41))}),
 (30,{cls:=(.type "tuple"),data:= .seq #[.none] 0}),
 (37,cdO 32 "__init__" "PyFATException.__init__" 208 7 3 215),
 (38,fnO (df 2 (some 0)) "PyFATException.__init__" [("__class__",25)] (.ref 31) (.ref 30) .none .none (.str "pyfatfs._exceptions" 194) (.ref 37) 0 none),
 (40,dcO #[en P "__module__" 203 (.str "pyfatfs._exceptions" 194),en P "__firstlineno__" 207 (.int 5 206),er P "__init__" 217 38,er P "__static_attributes__" 219 39,er P "__weakref__" 222 42,en P "__doc__" 223 .none] 4),
 (41,clO "PyFATException" [(.type "Exception")] [(.ref 41),(.type "Exception"),(.type "BaseException"),(.type "object")] 40 [(.ref 54),(.ref 66)] 22 196 204),
 (53,dcO #[en P "__module__" 235 (.str "pyfatfs._exceptions" 194),en P "__firstlineno__" 239 (.int 10 238),er P "__static_attributes__" 240 52,en P "__doc__" 241 .none] 2),
 (54,clO "NotAnLFNEntryException" [(.ref 41)] [(.ref 54),(.ref 41),(.type "Exception"),(.type "BaseException"),(.type "object")] 53 [] 45 228 236),
 (65,dcO #[en P "__module__" 251 (.str "pyfatfs._exceptions" 194),en P "__firstlineno__" 255 (.int 12 254),er P "__static_attributes__" 256 64,en P "__doc__" 257 .none] 2),
 (66,clO "BrokenLFNEntryException" [(.ref 41)] [(.ref 66),(.ref 41),(.type "Exception"),(.type "BaseException"),(.type "object")] 65 [] 57 244 252),
 (72,{cls:=(.type "cell"),data:= .cell (some (.ref 87))}),
 (83,cdO 78 "__init__" "NotAFatEntryException.__init__" 272 16 3 279),
 (84,fnO (df 5 (some 0)) "NotAFatEntryException.__init__" [("__class__",72)] (.ref 77) .none .none .none (.str "pyfatfs._exceptions" 194) (.ref 83) 0 none),
 (86,dcO #[en P "__module__" 267 (.str "pyfatfs._exceptions" 194),en P "__firstlineno__" 271 (.int 14 270),er P "__init__" 281 84,er P "__static_attributes__" 283 85,er P "__weakref__" 286 88,en P "__doc__" 287 .none] 4),
 (87,clO "NotAFatEntryException" [(.type "Exception")] [(.ref 87),(.type "Exception"),(.type "BaseException"),(.type "object")] 86 [] 69 260 268),
 (99,dcO #[en P "__module__" 299 (.str "pyfatfs._exceptions" 194),en P "__firstlineno__" 303 (.int 19 302),en P "ENOENT" 305 (.int 2 304),en P "ENXIO" 307 (.int 6 306),en P "E2BIG" 309 (.int 7 308),en P "EFAULT" 311 (.int 14 310),en P "EEXIST" 313 (.int 17 312),en P "ENOTDIR" 315 (.int 20 314),en P "EISDIR" 317 (.int 21 316),en P "EINVAL" 319 (.int 22 318),en P "EMFILE" 321 (.int 24 320),en P "EACCES" 323 (.int 13 322),en P "ENOSPC" 325 (.int 28 324),en P "EROFS" 327 (.int 30 326),en P "ENAMETOOLONG" 329 (.int 36 328),en P "EBADE" 331 (.int 52 330),en P "ETOOMANYREFS" 333 (.int 109 332),er P "__static_attributes__" 334 98,er P "__dict__" 336 101,er P "__weakref__" 338 102,en P "__doc__" 339 .none] 4),
 (100,koO 100 "errno" 99 292 300),
 (108,{cls:=(.type "code"),data:= .fields #[(.str "encoded" 344),(.str "encoded" 345),(.str "/claim/cut.py" 346),(.int 36 0),(.int 1 0),(.int 0 0),(.int 0 0),(.int 3 0),(.ref 105),(.bool true),(.int 181 0),(.ref 106),.none,.none,.none,(.ref 107),(.int 347 0),(.int 36 0),(.str "/claim/cut.py" 348)]}),
 (109,fnO (df 8 none) "encoded" [] .none .none .none .none (.str "pyfatfs._exceptions" 194) (.ref 108) 0 none),
 (125,cdO 120 "splitext" "splitext" 362 56 1 369),
 (126,fnO (df 11 none) "splitext" [] .none .none .none .none (.str "pyfatfs._exceptions" 194) (.ref 125) 0 none),
 (132,cdO 127 "init_check" "init_check" 372 63 1 376),
 (133,fnO (df 12 none) "init_check" [] .none .none .none .none (.str "pyfatfs._exceptions" 194) (.ref 132) 0 none),
 (141,{cls:=(.type "tuple"),data:= .seq #[(.bool true)] 0}),
 (147,cdO 142 "__init__" "Octets.__init__" 391 68 3 397),
 (148,fnO (df 13 (some 0)) "Octets.__init__" [] .none (.ref 141) .none .none (.str "pyfatfs._exceptions" 194) (.ref 147) 0 none),
 (154,cdO 149 "readable" "Octets.readable" 400 73 1 404),
 (155,fnO (df 13 (some 1)) "Octets.readable" [] .none .none .none .none (.str "pyfatfs._exceptions" 194) (.ref 154) 0 none),
 (161,cdO 156 "seekable" "Octets.seekable" 407 76 1 411),
 (162,fnO (df 13 (some 2)) "Octets.seekable" [] .none .none .none .none (.str "pyfatfs._exceptions" 194) (.ref 161) 0 none),
 (168,cdO 163 "writable" "Octets.writable" 414 79 1 418),
 (169,fnO (df 13 (some 3)) "Octets.writable" [] .none .none .none .none (.str "pyfatfs._exceptions" 194) (.ref 168) 0 none),
 (175,cdO 170 "seek" "Octets.seek" 421 82 2 426),
 (176,fnO (df 13 (some 4)) "Octets.seek" [] .none .none .none .none (.str "pyfatfs._exceptions" 194) (.ref 175) 0 none),
 (182,cdO 177 "read" "Octets.read" 429 85 2 435),
 (183,fnO (df 13 (some 5)) "Octets.read" [] .none .none .none .none (.str "pyfatfs._exceptions" 194) (.ref 182) 0 none),
 (189,cdO 184 "write" "Octets.write" 438 90 2 444),
 (190,fnO (df 13 (some 6)) "Octets.write" [] .none .none .none .none (.str "pyfatfs._exceptions" 194) (.ref 189) 0 none),
 (192,dcO #[en P "__module__" 386 (.str "pyfatfs._exceptions" 194),en P "__firstlineno__" 390 (.int 66 389),er P "__init__" 399 148,er P "readable" 406 155,er P "seekable" 413 162,er P "writable" 420 169,er P "seek" 428 176,er P "read" 437 183,er P "write" 446 190,er P "__static_attributes__" 450 191,er P "__dict__" 452 194,er P "__weakref__" 454 195,en P "__doc__" 455 .none] 4),
 (193,koO 193 "Octets" 192 379 387),
 (205,{cls:=(.type "list"),data:= .seq #[(.int 34 474),(.int 42 475),(.int 43 476),(.int 44 477),(.int 46 478),(.int 47 479),(.int 58 480),(.int 59 481),(.int 60 482),(.int 61 483),(.int 62 484),(.int 63 485),(.int 91 486),(.int 92 487),(.int 93 488),(.int 124 489)] 0}),
 (206,{cls:=(.type "tuple"),data:= .seq #[(.str "latin-1" 342)] 0}),
 (212,cdO 207 "__init__" "EightDotThree.__init__" 491 99 2 496),
 (213,fnO (df 15 (some 2)) "EightDotThree.__init__" [] .none (.ref 206) .none .none (.str "pyfatfs.EightDotThree" 458) (.ref 212) 0 none),
 (242,dcO #[en P "__module__" 531 (.str "pyfatfs.EightDotThree" 458),en P "__name__" 534 (.str "_raise_8dot3_nonconformant" 533),en P "__qualname__" 537 (.str "EightDotThree._raise_8dot3_nonconformant" 536),en P "__doc__" 539 .none,er P "__annotations__" 541 244] 5),
 (243,{cls:=(.type "staticmethod"),data:= .fields #[(.ref 241),(.bool false)],dict:=some 242}),
 (244,dcO #[] 0),
 (250,cdO 245 "_set_name" "EightDotThree._set_name" 543 124 2 548),
 (251,fnO (df 15 (some 7)) "EightDotThree._set_name" [] .none .none .none .none (.str "pyfatfs.EightDotThree" 458) (.ref 250) 0 none),
 (257,cdO 252 "set_byte_name" "EightDotThree.set_byte_name" 551 130 2 556),
 (258,fnO (df 15 (some 8)) "EightDotThree.set_byte_name" [] .none .none .none .none (.str "pyfatfs.EightDotThree" 458) (.ref 257) 0 none),
 (264,cdO 259 "set_str_name" "EightDotThree.set_str_name" 559 140 2 564),
 (265,fnO (df 15 (some 9)) "EightDotThree.set_str_name" [] .none .none .none .none (.str "pyfatfs.EightDotThree" 458) (.ref 264) 0 none),
 (278,cdO 273 "_check_characters" "EightDotThree._check_characters" 576 159 2 582),
 (279,fnO (df 15 (some 11)) "EightDotThree._check_characters" [] .none .none .none .none (.str "pyfatfs.EightDotThree" 458) (.ref 278) 0 (some 282)),
 (280,dcO #[en P "__module__" 585 (.str "pyfatfs.EightDotThree" 458),en P "__name__" 588 (.str "_check_characters" 587),en P "__qualname__" 591 (.str "EightDotThree._check_characters" 590),en P "__doc__" 593 .none,er P "__annotations__" 595 282] 5)]
noncomputable def kf1 (P:Params):List (Addr×Obj):=[
 (281,{cls:=(.type "staticmethod"),data:= .fields #[(.ref 279),(.bool false)],dict:=some 280}),
 (282,dcO #[] 0),
 (283,{cls:=(.type "tuple"),data:= .seq #[(.str "latin-1" 342)] 0}),
 (289,cdO 284 "is_8dot3_conform" "EightDotThree.is_8dot3_conform" 597 165 2 605),
 (290,fnO (df 15 (some 12)) "EightDotThree.is_8dot3_conform" [] .none (.ref 283) .none .none (.str "pyfatfs.EightDotThree" 458) (.ref 289) 0 (some 293)),
 (291,dcO #[en P "__module__" 608 (.str "pyfatfs.EightDotThree" 458),en P "__name__" 611 (.str "is_8dot3_conform" 610),en P "__qualname__" 614 (.str "EightDotThree.is_8dot3_conform" 613),en P "__doc__" 616 .none,er P "__annotations__" 618 293] 5),
 (292,{cls:=(.type "staticmethod"),data:= .fields #[(.ref 290),(.bool false)],dict:=some 291}),
 (293,dcO #[] 0),
 (299,cdO 294 "_pad_8dot3_name" "EightDotThree._pad_8dot3_name" 620 182 1 626),
 (300,fnO (df 15 (some 13)) "EightDotThree._pad_8dot3_name" [] .none .none .none .none (.str "pyfatfs.EightDotThree" 458) (.ref 299) 0 (some 303)),
 (301,dcO #[en P "__module__" 629 (.str "pyfatfs.EightDotThree" 458),en P "__name__" 632 (.str "_pad_8dot3_name" 631),en P "__qualname__" 635 (.str "EightDotThree._pad_8dot3_name" 634),en P "__doc__" 637 .none,er P "__annotations__" 639 303] 5),
 (302,{cls:=(.type "staticmethod"),data:= .fields #[(.ref 300),(.bool false)],dict:=some 301}),
 (303,dcO #[] 0),
 (311,dcO #[en P "__module__" 649 (.str "pyfatfs.EightDotThree" 458),en P "__name__" 652 (.str "make_8dot3_name" 651),en P "__qualname__" 655 (.str "EightDotThree.make_8dot3_name" 654),en P "__doc__" 657 .none,er P "__annotations__" 659 313] 5),
 (312,{cls:=(.type "staticmethod"),data:= .fields #[(.ref 310),(.bool false)],dict:=some 311}),
 (313,dcO #[] 0),
 (315,dcO #[en P "__module__" 467 (.str "pyfatfs.EightDotThree" 458),en P "__firstlineno__" 471 (.int 95 470),en P "SFN_LENGTH" 473 (.int 11 472),er P "INVALID_CHARACTERS" 490 205,er P "__init__" 498 213,er P "as_text" 509 220,er P "as_bytes" 516 227,er P "get_unpadded_filename" 523 234,er P "_raise_8dot3_nonconformant" 542 243,er P "_set_name" 550 251,er P "set_byte_name" 558 258,er P "set_str_name" 566 265,er P "checksum" 575 272,er P "_check_characters" 596 281,er P "is_8dot3_conform" 619 292,er P "_pad_8dot3_name" 640 302,er P "make_8dot3_name" 660 312,er P "__static_attributes__" 664 314,er P "__dict__" 666 317,er P "__weakref__" 668 318,en P "__doc__" 669 .none] 4),
 (316,koO 316 "EightDotThree" 315 460 468),
 (328,{cls:=(.type "list"),data:= .seq #[(.str "DIR_Name" 710),(.str "DIR_Attr" 711),(.str "DIR_NTRes" 712),(.str "DIR_CrtTimeTenth" 713),(.str "DIR_CrtTime" 714),(.str "DIR_CrtDate" 715),(.str "DIR_LstAccessDate" 716),(.str "DIR_FstClusHI" 717),(.str "DIR_WrtTime" 718),(.str "DIR_WrtDate" 719),(.str "DIR_FstClusLO" 720),(.str "DIR_FileSize" 721)] 0}),
 (329,{cls:=(.type "tuple"),data:= .seq #[(.str "latin-1" 342),.none,(.bool false),.none] 0}),
 (335,cdO 330 "__init__" "FATDirectoryEntry.__init__" 723 208 17 743),
 (336,fnO (df 17 (some 13)) "FATDirectoryEntry.__init__" [] .none (.ref 329) .none .none (.str "pyfatfs.FATDirectoryEntry" 672) (.ref 335) 0 none),
 (342,cdO 337 "set_size" "FATDirectoryEntry.set_size" 746 232 2 751),
 (343,fnO (df 17 (some 14)) "FATDirectoryEntry.set_size" [] .none .none .none .none (.str "pyfatfs.FATDirectoryEntry" 672) (.ref 342) 0 none),
 (344,{cls:=(.type "tuple"),data:= .seq #[(.int 0 754),(.int 0 755),(.int 0 756),(.int 0 757)] 0}),
 (352,dcO #[en P "__module__" 773 (.str "pyfatfs.FATDirectoryEntry" 672),en P "__name__" 776 (.str "new" 775),en P "__qualname__" 779 (.str "FATDirectoryEntry.new" 778),en P "__doc__" 781 .none,er P "__annotations__" 783 354] 5),
 (353,{cls:=(.type "staticmethod"),data:= .fields #[(.ref 351),(.bool false)],dict:=some 352}),
 (354,dcO #[] 0),
 (383,dcO #[en P "__module__" 814 (.str "pyfatfs.FATDirectoryEntry" 672),en P "__name__" 817 (.str "_combine_dosdatetime" 816),en P "__qualname__" 820 (.str "FATDirectoryEntry._combine_dosdatetime" 819),en P "__doc__" 822 .none,er P "__annotations__" 824 385] 5),
 (384,{cls:=(.type "staticmethod"),data:= .fields #[(.ref 382),(.bool false)],dict:=some 383}),
 (385,dcO #[] 0),
 (398,cdO 393 "set_lfn_entry" "FATDirectoryEntry.set_lfn_entry" 833 260 2 841),
 (399,fnO (df 17 (some 21)) "FATDirectoryEntry.set_lfn_entry" [] .none .none .none .none (.str "pyfatfs.FATDirectoryEntry" 672) (.ref 398) 0 none),
 (419,cdO 414 "set_cluster" "FATDirectoryEntry.set_cluster" 858 276 2 863),
 (420,fnO (df 17 (some 24)) "FATDirectoryEntry.set_cluster" [] .none .none .none .none (.str "pyfatfs.FATDirectoryEntry" 672) (.ref 419) 0 none),
 (561,{cls:=(.type "tuple"),data:= .seq #[(.bool true)] 0}),
 (605,dcO #[en P "__module__" 681 (.str "pyfatfs.FATDirectoryEntry" 672),en P "__firstlineno__" 685 (.int 193 684),en P "FREE_DIR_ENTRY_MARK" 687 (.int 229 686),en P "LAST_DIR_ENTRY_MARK" 689 (.int 0 688),en P "ATTR_READ_ONLY" 691 (.int 1 690),en P "ATTR_HIDDEN" 693 (.int 2 692),en P "ATTR_SYSTEM" 695 (.int 4 694),en P "ATTR_VOLUME_ID" 697 (.int 8 696),en P "ATTR_DIRECTORY" 699 (.int 16 698),en P "ATTR_ARCHIVE" 701 (.int 32 700),en P "ATTR_LONG_NAME" 703 (.int 15 702),en P "ATTR_LONG_NAME_MASK" 705 (.int 63 704),en P "FAT_DIRECTORY_HEADER_SIZE" 707 (.int 32 706),en P "MAX_FILE_SIZE" 709 (.int 4294967295 708),er P "FAT_DIRECTORY_VARS" 722 328,er P "__init__" 745 336,er P "set_size" 753 343,er P "new" 784 353,er P "get_ctime" 791 361,er P "get_mtime" 798 368,er P "get_atime" 805 375,er P "_combine_dosdatetime" 825 384,er P "get_checksum" 832 392,er P "set_lfn_entry" 843 399,er P "get_entry_size" 850 406,er P "get_cluster" 857 413,er P "set_cluster" 865 420,er P "as_bytes" 874 427,er P "_add_parent" 882 434,er P "_get_parent_dir" 890 441,er P "get_full_path" 897 448,er P "get_parent_dir" 904 455,er P "is_special" 911 462,er P "is_read_only" 918 469,er P "is_hidden" 925 476,er P "is_system" 932 483,er P "is_volume_id" 939 490,er P "_verify_is_directory" 946 497,er P "is_directory" 953 504,er P "is_archive" 960 511,er P "is_empty" 967 518,er P "_populate_dirs" 976 525,er P "_get_entries_raw" 983 532,er P "get_entries" 994 539,er P "_search_entry" 1002 546,er P "get_entry" 1010 553,er P "walk" 1017 560,er P "add_subdirectory" 1026 568,er P "mark_empty" 1033 575,er P "remove_dir_entry" 1041 582,er P "as_name" 1048 589,er P "get_short_name" 1055 596,er P "get_long_name" 1062 603,er P "__static_attributes__" 1081 604,er P "__dict__" 1083 607,er P "__weakref__" 1085 608,en P "__doc__" 1086 .none] 4),
 (606,koO 606 "FATDirectoryEntry" 605 674 682),
 (618,{cls:=(.type "list"),data:= .seq #[(.str "LDIR_Ord" 1101),(.str "LDIR_Name1" 1102),(.str "LDIR_Attr" 1103),(.str "LDIR_Type" 1104),(.str "LDIR_Chksum" 1105),(.str "LDIR_Name2" 1106),(.str "LDIR_FstClusLO" 1107),(.str "LDIR_Name3" 1108)] 0}),
 (624,cdO 619 "__init__" "FATLongDirectoryEntry.__init__" 1114 396 1 1118),
 (625,fnO (df 18 (some 3)) "FATLongDirectoryEntry.__init__" [] .none .none .none .none (.str "pyfatfs.FATDirectoryEntry" 672) (.ref 624) 0 none),
 (626,{cls:=(.type "tuple"),data:= .seq #[(.bool false)] 0}),
 (662,dcO #[en P "__module__" 1168 (.str "pyfatfs.FATDirectoryEntry" 672),en P "__name__" 1171 (.str "is_lfn_entry" 1170),en P "__qualname__" 1174 (.str "FATLongDirectoryEntry.is_lfn_entry" 1173),en P "__doc__" 1176 .none,er P "__annotations__" 1178 664] 5),
 (663,{cls:=(.type "staticmethod"),data:= .fields #[(.ref 661),(.bool false)],dict:=some 662}),
 (664,dcO #[] 0),
 (680,dcO #[en P "__module__" 1096 (.str "pyfatfs.FATDirectoryEntry" 672),en P "__firstlineno__" 1100 (.int 391 1099),er P "FAT_LONG_DIRECTORY_VARS" 1109 618,en P "LAST_LONG_ENTRY" 1111 (.int 64 1110),en P "LFN_ENTRY_LENGTH" 1113 (.int 26 1112),er P "__init__" 1120 625,er P "get_entries" 1130 633,er P "mark_empty" 1137 640,er P "as_bytes" 1146 647,er P "as_text" 1156 654,er P "is_lfn_entry" 1179 663,er P "add_lfn_entry" 1195 671,er P "is_lfn_entry_complete" 1203 678,er P "__static_attributes__" 1205 679,er P "__dict__" 1207 682,er P "__weakref__" 1209 683,en P "__doc__" 1210 .none] 4),
 (681,{cls:=(.type "type"),data:= .cls {name:="FATLongDirectoryEntry",bases:=[(.type "object")],mro:=[(.ref 681),(.type "object")],ns:=680,qualname:="FATLongDirectoryEntry",hasDict:=true,slotNames:=[],subclasses:=[],abstract:=false,collection:=none,hasDel:=false},slots:= #[some (.ref 611),none,some (.str "FATLongDirectoryEntry" 1089),some (.str "FATLongDirectoryEntry" 1097),some (.builtin "object.__new__"),some (.bool true)]}),
 (691,cdO 686 "_readonly_check" "_readonly_check" 1215 450 1 1219),
 (692,fnO (df 20 none) "_readonly_check" [] .none .none .none .none (.str "pyfatfs.PyFat" 1213) (.ref 691) 0 none),
 (700,dcO #[⟨12,(.int 12 1244),(.ref 701)⟩,⟨16,(.int 16 1263),(.ref 702)⟩,⟨32,(.int 32 1282),(.ref 703)⟩] 3),
 (701,dcO #[en P "FREE_CLUSTER" 1245 (.int 0 1246),en P "MIN_DATA_CLUSTER" 1247 (.int 2 1248),en P "MAX_DATA_CLUSTER" 1249 (.int 4079 1250),en P "BAD_CLUSTER" 1251 (.int 4087 1252),en P "END_OF_CLUSTER_MIN" 1253 (.int 4088 1254),en P "END_OF_CLUSTER_MAX" 1255 (.int 4095 1256)] 6),
 (702,dcO #[en P "FREE_CLUSTER" 1264 (.int 0 1265),en P "MIN_DATA_CLUSTER" 1266 (.int 2 1267),en P "MAX_DATA_CLUSTER" 1268 (.int 65519 1269),en P "BAD_CLUSTER" 1270 (.int 65527 1271),en P "END_OF_CLUSTER_MIN" 1272 (.int 65528 1273),en P "END_OF_CLUSTER_MAX" 1274 (.int 65535 1275)] 6),
 (703,dcO #[en P "FREE_CLUSTER" 1283 (.int 0 1284),en P "MIN_DATA_CLUSTER" 1285 (.int 2 1286),en P "MAX_DATA_CLUSTER" 1287 (.int 268435439 1288),en P "BAD_CLUSTER" 1289 (.int 268435447 1290),en P "END_OF_CLUSTER_MIN" 1291 (.int 268435448 1292),en P "END_OF_CLUSTER_MAX" 1293 (.int 268435455 1294)] 6),
 (704,{cls:=(.type "tuple"),data:= .seq #[(.str "ibm437" 1315),(.int 0 1316),(.bool true)] 0}),
 (710,cdO 705 "__init__" "PyFat.__init__" 1317 466 4 1324),
 (711,fnO (df 21 (some 11)) "PyFat.__init__" [] .none (.ref 704) .none .none (.str "pyfatfs.PyFat" 1213) (.ref 710) 0 none),
 (717,cdO 712 "_set_fp" "PyFat._set_fp" 1327 484 2 1332),
 (718,fnO (df 21 (some 12)) "PyFat._set_fp" [] .none .none .none .none (.str "pyfatfs.PyFat" 1213) (.ref 717) 0 none),
 (724,cdO 719 "_seek" "PyFat._seek" 1335 489 2 1340),
 (725,fnO (df 21 (some 13)) "PyFat._seek" [] .none .none .none .none (.str "pyfatfs.PyFat" 1213) (.ref 724) 0 none)]
noncomputable def kf2 (P:Params):List (Addr×Obj):=[
 (738,cdO 733 "_get_clean_shutdown_bitmask" "PyFat._get_clean_shutdown_bitmask" 1351 497 1 1355),
 (739,fnO (df 21 (some 15)) "PyFat._get_clean_shutdown_bitmask" [] .none .none .none .none (.str "pyfatfs.PyFat" 1213) (.ref 738) 0 none),
 (745,cdO 740 "_is_dirty" "PyFat._is_dirty" 1358 504 1 1365),
 (746,fnO (df 21 (some 16)) "PyFat._is_dirty" [] .none .none .none .none (.str "pyfatfs.PyFat" 1213) (.ref 745) 0 none),
 (752,cdO 747 "_mark_dirty" "PyFat._mark_dirty" 1368 513 1 1373),
 (753,fnO (df 21 (some 17)) "PyFat._mark_dirty" [] .none .none .none .none (.str "pyfatfs.PyFat" 1213) (.ref 752) 0 none),
 (766,cdO 761 "set_fp" "PyFat.set_fp" 1383 523 2 1388),
 (767,fnO (df 21 (some 19)) "PyFat.set_fp" [] .none .none .none .none (.str "pyfatfs.PyFat" 1213) (.ref 766) 0 none),
 (773,cdO 768 "_get_total_sectors" "PyFat._get_total_sectors" 1391 537 1 1395),
 (774,fnO (df 21 (some 20)) "PyFat._get_total_sectors" [] .none .none .none .none (.str "pyfatfs.PyFat" 1213) (.ref 773) 0 none),
 (780,cdO 775 "_get_fat_size_count" "PyFat._get_fat_size_count" 1398 542 1 1402),
 (781,fnO (df 21 (some 21)) "PyFat._get_fat_size_count" [] .none .none .none .none (.str "pyfatfs.PyFat" 1213) (.ref 780) 0 none),
 (787,cdO 782 "_parse_fat" "PyFat._parse_fat" 1405 550 1 1419),
 (788,fnO (df 21 (some 22)) "PyFat._parse_fat" [] .none .none .none .none (.str "pyfatfs.PyFat" 1213) (.ref 787) 0 none),
 (794,cdO 789 "as_bytes" "PyFat.as_bytes" 1422 598 1 1431),
 (795,fnO (df 21 (some 23)) "PyFat.as_bytes" [] .none .none .none .none (.str "pyfatfs.PyFat" 1213) (.ref 794) 0 none),
 (823,cdO 818 "flush_fat" "PyFat.flush_fat" 1462 627 1 1470),
 (824,fnO (df 21 (some 27)) "PyFat.flush_fat" [] .none .none .none .none (.str "pyfatfs.PyFat" 1213) (.ref 823) 0 none),
 (853,cdO 848 "_fat12_parse_root_dir" "PyFat._fat12_parse_root_dir" 1499 648 1 1508),
 (854,fnO (df 21 (some 31)) "PyFat._fat12_parse_root_dir" [] .none .none .none .none (.str "pyfatfs.PyFat" 1213) (.ref 853) 0 none),
 (860,cdO 855 "_fat32_parse_root_dir" "PyFat._fat32_parse_root_dir" 1511 656 1 1517),
 (861,fnO (df 21 (some 32)) "PyFat._fat32_parse_root_dir" [] .none .none .none .none (.str "pyfatfs.PyFat" 1213) (.ref 860) 0 none),
 (867,cdO 862 "parse_root_dir" "PyFat.parse_root_dir" 1520 662 1 1526),
 (868,fnO (df 21 (some 33)) "PyFat.parse_root_dir" [] .none .none .none .none (.str "pyfatfs.PyFat" 1213) (.ref 867) 0 none),
 (869,{cls:=(.type "tuple"),data:= .seq #[.none,(.int 0 1529)] 0}),
 (882,cdO 877 "_parse_dir_entry" "PyFat._parse_dir_entry" 1541 678 2 1550),
 (883,fnO (df 21 (some 35)) "PyFat._parse_dir_entry" [] .none .none .none .none (.str "pyfatfs.PyFat" 1213) (.ref 882) 0 none),
 (884,{cls:=(.type "tuple"),data:= .seq #[(.int 0 1553),(.int 0 1554),.none] 0}),
 (890,cdO 885 "parse_dir_entries_in_address" "PyFat.parse_dir_entries_in_address" 1555 689 4 1573),
 (891,fnO (df 21 (some 36)) "PyFat.parse_dir_entries_in_address" [] .none (.ref 884) .none .none (.str "pyfatfs.PyFat" 1213) (.ref 890) 0 none),
 (897,cdO 892 "parse_dir_entries_in_cluster_chain" "PyFat.parse_dir_entries_in_cluster_chain" 1576 726 2 1588),
 (898,fnO (df 21 (some 37)) "PyFat.parse_dir_entries_in_cluster_chain" [] .none .none .none .none (.str "pyfatfs.PyFat" 1213) (.ref 897) 0 none),
 (904,cdO 899 "get_data_cluster_address" "PyFat.get_data_cluster_address" 1591 737 2 1597),
 (905,fnO (df 21 (some 38)) "PyFat.get_data_cluster_address" [] .none .none .none .none (.str "pyfatfs.PyFat" 1213) (.ref 904) 0 none),
 (911,{cls:=(.type "code"),data:= .fields #[(.str "get_cluster_chain" 1600),(.str "PyFat.get_cluster_chain" 1601),(.str "/claim/cut.py" 1602),(.int 741 0),(.int 2 0),(.int 0 0),(.int 0 0),(.int 35 0),(.ref 906),(.bool true),(.int 181 0),(.ref 907),.none,(.ref 908),(.ref 909),(.ref 910),(.int 1611 0),(.int 741 0),(.str "/claim/cut.py" 1612)]}),
 (912,fnO (df 21 (some 39)) "PyFat.get_cluster_chain" [] .none .none .none .none (.str "pyfatfs.PyFat" 1213) (.ref 911) 0 none),
 (918,cdO 913 "_determine_fat_type" "PyFat._determine_fat_type" 1614 766 1 1626),
 (919,fnO (df 21 (some 40)) "PyFat._determine_fat_type" [] .none .none .none .none (.str "pyfatfs.PyFat" 1213) (.ref 918) 0 none),
 (925,cdO 920 "parse_header" "PyFat.parse_header" 1629 790 1 1638),
 (926,fnO (df 21 (some 41)) "PyFat.parse_header" [] .none .none .none .none (.str "pyfatfs.PyFat" 1213) (.ref 925) 0 none),
 (935,dcO #[en P "__module__" 1229 (.str "pyfatfs.PyFat" 1213),en P "__firstlineno__" 1233 (.int 453 1232),en P "FAT_TYPE_UNKNOWN" 1235 (.int 0 1234),en P "FAT_TYPE_FAT12" 1237 (.int 12 1236),en P "FAT_TYPE_FAT16" 1239 (.int 16 1238),en P "FAT_TYPE_FAT32" 1241 (.int 32 1240),en P "FAT12_SPECIAL_EOC" 1243 (.int 4080 1242),er P "FAT_CLUSTER_VALUES" 1304 700,en P "FAT16_CLEAN_SHUTDOWN_BIT_MASK" 1306 (.int 32768 1305),en P "FAT16_DRIVE_ERROR_BIT_MASK" 1308 (.int 16384 1307),en P "FAT32_CLEAN_SHUTDOWN_BIT_MASK" 1310 (.int 134217728 1309),en P "FAT32_DRIVE_ERROR_BIT_MASK" 1312 (.int 67108864 1311),en P "FAT_DIRTY_BIT_MASK" 1314 (.int 1 1313),er P "__init__" 1326 711,er P "_set_fp" 1334 718,er P "_seek" 1342 725,er P "read_cluster_contents" 1350 732,er P "_get_clean_shutdown_bitmask" 1357 739,er P "_is_dirty" 1367 746,er P "_mark_dirty" 1375 753,er P "_mark_clean" 1382 760,er P "set_fp" 1390 767,er P "_get_total_sectors" 1397 774,er P "_get_fat_size_count" 1404 781,er P "_parse_fat" 1421 788,er P "as_bytes" 1433 795,er P "_write_data_to_address" 1442 802,er P "free_cluster_chain" 1450 809,er P "write_data_to_cluster" 1461 817,er P "flush_fat" 1472 824,er P "calc_num_clusters" 1481 832,er P "allocate_bytes" 1490 840,er P "update_directory_entry" 1498 847,er P "_fat12_parse_root_dir" 1510 854,er P "_fat32_parse_root_dir" 1519 861,er P "parse_root_dir" 1528 868,er P "parse_lfn_entry" 1540 876,er P "_parse_dir_entry" 1552 883,er P "parse_dir_entries_in_address" 1575 891,er P "parse_dir_entries_in_cluster_chain" 1590 898,er P "get_data_cluster_address" 1599 905,er P "get_cluster_chain" 1613 912,er P "_determine_fat_type" 1628 919,er P "parse_header" 1640 926,er P "_verify_bpb_header" 1647 933,er P "__static_attributes__" 1664 934,er P "__dict__" 1666 937,er P "__weakref__" 1668 938,en P "__doc__" 1669 .none] 4),
 (936,koO 936 "PyFat" 935 1222 1230),
 (946,cdO 941 "_law_clean" "_law_clean" 1674 806 0 1677),
 (947,fnO (df 23 none) "_law_clean" [] .none .none .none .none (.str "law_iw0018_01" 1672) (.ref 946) 0 none),
 (953,cdO 948 "_law_take" "_law_take" 1680 808 3 1686),
 (954,fnO (df 24 none) "_law_take" [] .none .none .none .none (.str "law_iw0018_01" 1672) (.ref 953) 0 none),
 (960,cdO 955 "_law_laid" "_law_laid" 1689 812 3 1697),
 (961,fnO (df 25 none) "_law_laid" [] .none .none .none .none (.str "law_iw0018_01" 1672) (.ref 960) 0 none),
 (967,cdO 962 "_law_volume" "_law_volume" 1700 817 4 1710),
 (968,fnO (df 26 none) "_law_volume" [] .none .none .none .none (.str "law_iw0018_01" 1672) (.ref 967) 0 none),
 (972,{cls:=(.type "code"),data:= .fields #[(.str "law" 1713),(.str "law" 1714),(.str "/claim/cut.py" 1715),(.int 825 0),(.int 1 0),(.int 0 0),(.int 0 0),(.int 3 0),(.ref 969),(.bool true),(.int 181 0),(.ref 970),.none,.none,.none,(.ref 971),(.int 1716 0),(.int 825 0),(.str "/claim/cut.py" 1717)]}),
 (973,fnO (df 27 none) "law" [] .none .none .none .none (.str "law_iw0018_01" 1672) (.ref 972) 0 none)]
noncomputable def KF (P:Params):Frag:=kf0 P++kf1 P++kf2 P
end
end Mine
namespace Mine
open PySem.Spec
noncomputable section
def kas:List Nat:=[0,1,2,3,25,30,37,38,40,41,53,54,65,66,72,83,84,86,87,99,100,108,109,125,126,132,133,141,147,148,154,155,161,162,168,169,175,176,182,183,189,190,192,193,205,206,212,213,242,243,244,250,251,257,258,264,265,278,279,280,281,282,283,289,290,291,292,293,299,300,301,302,303,311,312,313,315,316,328,329,335,336,342,343,344,352,353,354,383,384,385,398,399,419,420,561,605,606,618,624,625,626,662,663,664,680,681,691,692,700,701,702,703,704,710,711,717,718,724,725,738,739,745,746,752,753,766,767,773,774,780,781,787,788,794,795,823,824,853,854,860,861,867,868,869,882,883,884,890,891,897,898,904,905,911,912,918,919,925,926,935,936,946,947,953,954,960,961,967,968,972,973]
def T10:Nat:=pw.main.body.length-1
def qv:Program:={pw with main:={pw.main with body:=pw.main.body.drop T10}}
def loose:List Str:=(pw.main.body.take T10).foldl boundBehind []
def Yf (s:Shared):List (Option Obj)×Nat×Nat:=(kas.map s.heap.get?,s.heap.objs.size,s.toks)
def ya (P:Params):List (Option Obj)×Nat×Nat:=((KF P).map fun p=>some p.2,974,1719)
theorem i47 (P:Params):kas=(KF P).map (·.1):=by kernel_rfl
theorem a55:opening pw=plainProg pw.main.scope.names:=by kernel_rfl
theorem w42 (s:Shared):fenceModules? pw s=some s:=by kernel_rfl
theorem j47 (os:OsState) (w:World):(PySem.W.Fast.tw10110043849684766642 PySem.W.Fast.tw14364793385576792824 pw (w.withFollow "special-get-raises" false) 11 (some (.ref 6)) 0 9000 (S0 w.params os) (topStub pw)).map (fun r=>looksAt pw qv loose Yf w.params r.2.1.abs)=some (true,openGood qv loose,ya w.params):=by kernel_rfl
theorem k47 (os:OsState) (w:World):(PySem.W.Fast.tw10110043849684766642 PySem.W.Fast.tw14364793385576792824 pw (w.withFollow "special-get-raises" true) 11 (some (.ref 6)) 0 9000 (S0 w.params os) (topStub pw)).map (fun r=>looksAt pw qv loose Yf w.params r.2.1.abs)=some (true,openGood qv loose,ya w.params):=by kernel_rfl
theorem u51 (os:OsState) (b:Bool) (w:World):(PySem.W.Fast.tw10110043849684766642 PySem.W.Fast.tw14364793385576792824 pw (w.withFollow "special-get-raises" b) 11 (some (.ref 6)) 0 9000 (S0 w.params os) (topStub pw)).map (fun r=>looksAt pw qv loose Yf w.params r.2.1.abs)=some (true,openGood qv loose,ya w.params):=by
 cases b with
 | false=>exact j47 os w
 | true=>exact k47 os w
theorem l47:LeftO pw qv loose (fun _=>true) Yf (fun w=>ya w.params) 9000:=y32 a55 (by decide+kernel) w42 fun _ os=>h47 (u51 os)
theorem m47:(defOf qv rw_.row.name).isSome=true:=by kernel_rfl
def dk:DefRec×List (Str×PySem.Expr):=(defOf qv rw_.row.name).get m47
theorem n47:defOf qv rw_.row.name=some (dk.1,dk.2):=(Option.some_get m47).symm
theorem b55:rw_.row.prog.theDef rw_.row.name=some (dk.1.params,dk.1.body,dk.1.scope):=by kernel_rfl
theorem c55:kwWritten? dk.1.params.kwonlyargs dk.1.params.kw_defaults=some dk.2:=by kernel_rfl
theorem d55:(chainsOk qv&&opensWell rw_.row.prog&&(frees rw_.row.toRowW&&rw_.row.within.isEmpty))=true:=by kernel_rfl
theorem o47:rw_.row.prog.bare:=⟨rfl,rfl,rfl,rfl,rfl,by decide+kernel⟩
theorem lo1:sreFenced pw.main=true:=by rw [PySem.W.Fast.te11788848310118352699];kernel_rfl
theorem lo2:((moduleNames pw.main.body).isEmpty||lookedIntoSs (moduleNames pw.main.body) pw.main.body)=true:=by kernel_rfl
theorem lo3:namesResolve pw=true:=by rw [PySem.W.Fast.te8377067652309620493];kernel_rfl
theorem lo4:(pw.boundNames.all fun n=>!worldNames.contains n)=true:=by kernel_rfl
theorem lo5:noRoadLSs {strict:=!(importedModules pw.main.body).all cThrough.contains,foot:=none,bare:=(["vars","dir","locals"]:List Str).filter (readsOut pw pw.main.body)} pw.main.body=true:=by rw [PySem.W.Fast.te8326940854005059898];kernel_rfl
theorem lo6:(namesMeet pw pw.main.body fun _ n=>attrL n)=true:=by rw [PySem.W.Fast.te17119622794617984870];kernel_rfl
theorem x42:looksOpen pw=true:=look_both (look_both (look_both (look_both (look_both lo1 lo2) lo3) lo4) lo5) lo6
theorem p47:rw_.row.partSaid=true:=by
 unfold OpenRow.partSaid
 rw [show looksOpen rw_.row.prog=true from x42]
 kernel_rfl
theorem v51:rw_.row.wellSaid=true:=by
 unfold OpenRow.wellSaid
 rw [p47]
 kernel_rfl
theorem lf1:noRoadLSs {strict:=true,foot:=some rw_.bound',writes:=rw_.writes,may:=rw_.may} rw_.footing=true:=by rw [PySem.W.Fast.te8326940854005059898];kernel_rfl
theorem lf2:(namesMeet rw_.prog rw_.above fun _ n=>!rw_.own.contains n)=true:=by rw [PySem.W.Fast.te17119622794617984870];kernel_rfl
theorem lf3:rw_.namesIt=true:=by rw [PySem.W.Fast.te16286561074155671207];kernel_rfl
theorem q47:rw_.wellSaid=true:=by
 unfold OpenLaw.wellSaid
 rw [v51,lf1,lf2,lf3,PySem.W.Fast.te17119622794617984870,PySem.W.Fast.te9558739934217749035,PySem.W.Fast.te10501279942588096481,PySem.W.Fast.te8179353310426384613]
 kernel_rfl
theorem r47:rw_.row.toRowW.promised:=by w_witness2
end
@[elab_as_elim] theorem rwl {α:Sort u} {a b:α} {p:α->Prop} (h:a=b) (g:p b):p a:=h▸g
@[elab_as_elim] theorem rwr {α:Sort u} {a b:α} {p:α->Prop} (h:b=a) (g:p b):p a:=h▸g
theorem no_ns {α:Type u} {a:α} {p:Prop} (h:none=some a):p:=nomatch h
theorem no_sn {α:Type u} {a:α} {p:Prop} (h:some a=none):p:=nomatch h
theorem no_tf {p:Prop} (h:true=false):p:=nomatch h
theorem no_ft {p:Prop} (h:false=true):p:=nomatch h
@[elab_as_elim] theorem iteE {α:Sort u} {c:Prop} {d:Decidable c} {a b:α} {p:α->Prop} (h:c->p a) (g: ¬c->p b):p (@ite α c d a b):=match d with | .isTrue q=>h q | .isFalse q=>g q
theorem oa2 {p1 p2 g:Prop} (h:p1/\p2) (k:p1->p2->g):g:=k h.1 h.2
theorem oa3 {p1 p2 p3 g:Prop} (h:p1/\p2/\p3) (k:p1->p2->p3->g):g:=k h.1 h.2.1 h.2.2
theorem oa4 {p1 p2 p3 p4 g:Prop} (h:p1/\p2/\p3/\p4) (k:p1->p2->p3->p4->g):g:=k h.1 h.2.1 h.2.2.1 h.2.2.2
theorem oa5 {p1 p2 p3 p4 p5 g:Prop} (h:p1/\p2/\p3/\p4/\p5) (k:p1->p2->p3->p4->p5->g):g:=k h.1 h.2.1 h.2.2.1 h.2.2.2.1 h.2.2.2.2
theorem oa6 {p1 p2 p3 p4 p5 p6 g:Prop} (h:p1/\p2/\p3/\p4/\p5/\p6) (k:p1->p2->p3->p4->p5->p6->g):g:=k h.1 h.2.1 h.2.2.1 h.2.2.2.1 h.2.2.2.2.1 h.2.2.2.2.2
theorem oa7 {p1 p2 p3 p4 p5 p6 p7 g:Prop} (h:p1/\p2/\p3/\p4/\p5/\p6/\p7) (k:p1->p2->p3->p4->p5->p6->p7->g):g:=k h.1 h.2.1 h.2.2.1 h.2.2.2.1 h.2.2.2.2.1 h.2.2.2.2.2.1 h.2.2.2.2.2.2
theorem oa9 {p1 p2 p3 p4 p5 p6 p7 p8 p9 g:Prop} (h:p1/\p2/\p3/\p4/\p5/\p6/\p7/\p8/\p9) (k:p1->p2->p3->p4->p5->p6->p7->p8->p9->g):g:=k h.1 h.2.1 h.2.2.1 h.2.2.2.1 h.2.2.2.2.1 h.2.2.2.2.2.1 h.2.2.2.2.2.2.1 h.2.2.2.2.2.2.2.1 h.2.2.2.2.2.2.2.2
theorem oa10 {p1 p2 p3 p4 p5 p6 p7 p8 p9 p10 g:Prop} (h:p1/\p2/\p3/\p4/\p5/\p6/\p7/\p8/\p9/\p10) (k:p1->p2->p3->p4->p5->p6->p7->p8->p9->p10->g):g:=k h.1 h.2.1 h.2.2.1 h.2.2.2.1 h.2.2.2.2.1 h.2.2.2.2.2.1 h.2.2.2.2.2.2.1 h.2.2.2.2.2.2.2.1 h.2.2.2.2.2.2.2.2.1 h.2.2.2.2.2.2.2.2.2
theorem oe1o1 {α1:Sort u1} {P1:α1->Prop} {g:Prop} (h: ∃x1,P1 x1) (k: ∀x1,P1 x1->g):g:=h.elim fun x1 h=>k x1 h
theorem oe1o2 {α1:Sort u1} {P1 P2:α1->Prop} {g:Prop} (h: ∃x1,P1 x1/\P2 x1) (k: ∀x1,P1 x1->P2 x1->g):g:=h.elim fun x1 h=>k x1 h.1 h.2
theorem oe1o3 {α1:Sort u1} {P1 P2 P3:α1->Prop} {g:Prop} (h: ∃x1,P1 x1/\P2 x1/\P3 x1) (k: ∀x1,P1 x1->P2 x1->P3 x1->g):g:=h.elim fun x1 h=>k x1 h.1 h.2.1 h.2.2
theorem oe1o4 {α1:Sort u1} {P1 P2 P3 P4:α1->Prop} {g:Prop} (h: ∃x1,P1 x1/\P2 x1/\P3 x1/\P4 x1) (k: ∀x1,P1 x1->P2 x1->P3 x1->P4 x1->g):g:=h.elim fun x1 h=>k x1 h.1 h.2.1 h.2.2.1 h.2.2.2
theorem oe1o5 {α1:Sort u1} {P1 P2 P3 P4 P5:α1->Prop} {g:Prop} (h: ∃x1,P1 x1/\P2 x1/\P3 x1/\P4 x1/\P5 x1) (k: ∀x1,P1 x1->P2 x1->P3 x1->P4 x1->P5 x1->g):g:=h.elim fun x1 h=>k x1 h.1 h.2.1 h.2.2.1 h.2.2.2.1 h.2.2.2.2
theorem oe1o6 {α1:Sort u1} {P1 P2 P3 P4 P5 P6:α1->Prop} {g:Prop} (h: ∃x1,P1 x1/\P2 x1/\P3 x1/\P4 x1/\P5 x1/\P6 x1) (k: ∀x1,P1 x1->P2 x1->P3 x1->P4 x1->P5 x1->P6 x1->g):g:=h.elim fun x1 h=>k x1 h.1 h.2.1 h.2.2.1 h.2.2.2.1 h.2.2.2.2.1 h.2.2.2.2.2
theorem oe2o1 {α1:Sort u1} {α2:Sort u2} {P1:α1->α2->Prop} {g:Prop} (h: ∃x1 x2,P1 x1 x2) (k: ∀x1 x2,P1 x1 x2->g):g:=h.elim fun x1 h0=>h0.elim fun x2 h=>k x1 x2 h
theorem oe2o2 {α1:Sort u1} {α2:Sort u2} {P1 P2:α1->α2->Prop} {g:Prop} (h: ∃x1 x2,P1 x1 x2/\P2 x1 x2) (k: ∀x1 x2,P1 x1 x2->P2 x1 x2->g):g:=h.elim fun x1 h0=>h0.elim fun x2 h=>k x1 x2 h.1 h.2
theorem oe2o3 {α1:Sort u1} {α2:Sort u2} {P1 P2 P3:α1->α2->Prop} {g:Prop} (h: ∃x1 x2,P1 x1 x2/\P2 x1 x2/\P3 x1 x2) (k: ∀x1 x2,P1 x1 x2->P2 x1 x2->P3 x1 x2->g):g:=h.elim fun x1 h0=>h0.elim fun x2 h=>k x1 x2 h.1 h.2.1 h.2.2
theorem oe2o4 {α1:Sort u1} {α2:Sort u2} {P1 P2 P3 P4:α1->α2->Prop} {g:Prop} (h: ∃x1 x2,P1 x1 x2/\P2 x1 x2/\P3 x1 x2/\P4 x1 x2) (k: ∀x1 x2,P1 x1 x2->P2 x1 x2->P3 x1 x2->P4 x1 x2->g):g:=h.elim fun x1 h0=>h0.elim fun x2 h=>k x1 x2 h.1 h.2.1 h.2.2.1 h.2.2.2
theorem oe2o5 {α1:Sort u1} {α2:Sort u2} {P1 P2 P3 P4 P5:α1->α2->Prop} {g:Prop} (h: ∃x1 x2,P1 x1 x2/\P2 x1 x2/\P3 x1 x2/\P4 x1 x2/\P5 x1 x2) (k: ∀x1 x2,P1 x1 x2->P2 x1 x2->P3 x1 x2->P4 x1 x2->P5 x1 x2->g):g:=h.elim fun x1 h0=>h0.elim fun x2 h=>k x1 x2 h.1 h.2.1 h.2.2.1 h.2.2.2.1 h.2.2.2.2
theorem oe3o1 {α1:Sort u1} {α2:Sort u2} {α3:Sort u3} {P1:α1->α2->α3->Prop} {g:Prop} (h: ∃x1 x2 x3,P1 x1 x2 x3) (k: ∀x1 x2 x3,P1 x1 x2 x3->g):g:=h.elim fun x1 h0=>h0.elim fun x2 h1=>h1.elim fun x3 h=>k x1 x2 x3 h
theorem oe3o2 {α1:Sort u1} {α2:Sort u2} {α3:Sort u3} {P1 P2:α1->α2->α3->Prop} {g:Prop} (h: ∃x1 x2 x3,P1 x1 x2 x3/\P2 x1 x2 x3) (k: ∀x1 x2 x3,P1 x1 x2 x3->P2 x1 x2 x3->g):g:=h.elim fun x1 h0=>h0.elim fun x2 h1=>h1.elim fun x3 h=>k x1 x2 x3 h.1 h.2
theorem oe3o3 {α1:Sort u1} {α2:Sort u2} {α3:Sort u3} {P1 P2 P3:α1->α2->α3->Prop} {g:Prop} (h: ∃x1 x2 x3,P1 x1 x2 x3/\P2 x1 x2 x3/\P3 x1 x2 x3) (k: ∀x1 x2 x3,P1 x1 x2 x3->P2 x1 x2 x3->P3 x1 x2 x3->g):g:=h.elim fun x1 h0=>h0.elim fun x2 h1=>h1.elim fun x3 h=>k x1 x2 x3 h.1 h.2.1 h.2.2
theorem oe3o4 {α1:Sort u1} {α2:Sort u2} {α3:Sort u3} {P1 P2 P3 P4:α1->α2->α3->Prop} {g:Prop} (h: ∃x1 x2 x3,P1 x1 x2 x3/\P2 x1 x2 x3/\P3 x1 x2 x3/\P4 x1 x2 x3) (k: ∀x1 x2 x3,P1 x1 x2 x3->P2 x1 x2 x3->P3 x1 x2 x3->P4 x1 x2 x3->g):g:=h.elim fun x1 h0=>h0.elim fun x2 h1=>h1.elim fun x3 h=>k x1 x2 x3 h.1 h.2.1 h.2.2.1 h.2.2.2
theorem oe3o5 {α1:Sort u1} {α2:Sort u2} {α3:Sort u3} {P1 P2 P3 P4 P5:α1->α2->α3->Prop} {g:Prop} (h: ∃x1 x2 x3,P1 x1 x2 x3/\P2 x1 x2 x3/\P3 x1 x2 x3/\P4 x1 x2 x3/\P5 x1 x2 x3) (k: ∀x1 x2 x3,P1 x1 x2 x3->P2 x1 x2 x3->P3 x1 x2 x3->P4 x1 x2 x3->P5 x1 x2 x3->g):g:=h.elim fun x1 h0=>h0.elim fun x2 h1=>h1.elim fun x3 h=>k x1 x2 x3 h.1 h.2.1 h.2.2.1 h.2.2.2.1 h.2.2.2.2
theorem oe3o9 {α1:Sort u1} {α2:Sort u2} {α3:Sort u3} {P1 P2 P3 P4 P5 P6 P7 P8 P9:α1->α2->α3->Prop} {g:Prop} (h: ∃x1 x2 x3,P1 x1 x2 x3/\P2 x1 x2 x3/\P3 x1 x2 x3/\P4 x1 x2 x3/\P5 x1 x2 x3/\P6 x1 x2 x3/\P7 x1 x2 x3/\P8 x1 x2 x3/\P9 x1 x2 x3) (k: ∀x1 x2 x3,P1 x1 x2 x3->P2 x1 x2 x3->P3 x1 x2 x3->P4 x1 x2 x3->P5 x1 x2 x3->P6 x1 x2 x3->P7 x1 x2 x3->P8 x1 x2 x3->P9 x1 x2 x3->g):g:=h.elim fun x1 h0=>h0.elim fun x2 h1=>h1.elim fun x3 h=>k x1 x2 x3 h.1 h.2.1 h.2.2.1 h.2.2.2.1 h.2.2.2.2.1 h.2.2.2.2.2.1 h.2.2.2.2.2.2.1 h.2.2.2.2.2.2.2.1 h.2.2.2.2.2.2.2.2
theorem oe4o3 {α1:Sort u1} {α2:Sort u2} {α3:Sort u3} {α4:Sort u4} {P1 P2 P3:α1->α2->α3->α4->Prop} {g:Prop} (h: ∃x1 x2 x3 x4,P1 x1 x2 x3 x4/\P2 x1 x2 x3 x4/\P3 x1 x2 x3 x4) (k: ∀x1 x2 x3 x4,P1 x1 x2 x3 x4->P2 x1 x2 x3 x4->P3 x1 x2 x3 x4->g):g:=h.elim fun x1 h0=>h0.elim fun x2 h1=>h1.elim fun x3 h2=>h2.elim fun x4 h=>k x1 x2 x3 x4 h.1 h.2.1 h.2.2
theorem oe4o4 {α1:Sort u1} {α2:Sort u2} {α3:Sort u3} {α4:Sort u4} {P1 P2 P3 P4:α1->α2->α3->α4->Prop} {g:Prop} (h: ∃x1 x2 x3 x4,P1 x1 x2 x3 x4/\P2 x1 x2 x3 x4/\P3 x1 x2 x3 x4/\P4 x1 x2 x3 x4) (k: ∀x1 x2 x3 x4,P1 x1 x2 x3 x4->P2 x1 x2 x3 x4->P3 x1 x2 x3 x4->P4 x1 x2 x3 x4->g):g:=h.elim fun x1 h0=>h0.elim fun x2 h1=>h1.elim fun x3 h2=>h2.elim fun x4 h=>k x1 x2 x3 x4 h.1 h.2.1 h.2.2.1 h.2.2.2
theorem oe4o5 {α1:Sort u1} {α2:Sort u2} {α3:Sort u3} {α4:Sort u4} {P1 P2 P3 P4 P5:α1->α2->α3->α4->Prop} {g:Prop} (h: ∃x1 x2 x3 x4,P1 x1 x2 x3 x4/\P2 x1 x2 x3 x4/\P3 x1 x2 x3 x4/\P4 x1 x2 x3 x4/\P5 x1 x2 x3 x4) (k: ∀x1 x2 x3 x4,P1 x1 x2 x3 x4->P2 x1 x2 x3 x4->P3 x1 x2 x3 x4->P4 x1 x2 x3 x4->P5 x1 x2 x3 x4->g):g:=h.elim fun x1 h0=>h0.elim fun x2 h1=>h1.elim fun x3 h2=>h2.elim fun x4 h=>k x1 x2 x3 x4 h.1 h.2.1 h.2.2.1 h.2.2.2.1 h.2.2.2.2
theorem oe4o6 {α1:Sort u1} {α2:Sort u2} {α3:Sort u3} {α4:Sort u4} {P1 P2 P3 P4 P5 P6:α1->α2->α3->α4->Prop} {g:Prop} (h: ∃x1 x2 x3 x4,P1 x1 x2 x3 x4/\P2 x1 x2 x3 x4/\P3 x1 x2 x3 x4/\P4 x1 x2 x3 x4/\P5 x1 x2 x3 x4/\P6 x1 x2 x3 x4) (k: ∀x1 x2 x3 x4,P1 x1 x2 x3 x4->P2 x1 x2 x3 x4->P3 x1 x2 x3 x4->P4 x1 x2 x3 x4->P5 x1 x2 x3 x4->P6 x1 x2 x3 x4->g):g:=h.elim fun x1 h0=>h0.elim fun x2 h1=>h1.elim fun x3 h2=>h2.elim fun x4 h=>k x1 x2 x3 x4 h.1 h.2.1 h.2.2.1 h.2.2.2.1 h.2.2.2.2.1 h.2.2.2.2.2
theorem oe4o7 {α1:Sort u1} {α2:Sort u2} {α3:Sort u3} {α4:Sort u4} {P1 P2 P3 P4 P5 P6 P7:α1->α2->α3->α4->Prop} {g:Prop} (h: ∃x1 x2 x3 x4,P1 x1 x2 x3 x4/\P2 x1 x2 x3 x4/\P3 x1 x2 x3 x4/\P4 x1 x2 x3 x4/\P5 x1 x2 x3 x4/\P6 x1 x2 x3 x4/\P7 x1 x2 x3 x4) (k: ∀x1 x2 x3 x4,P1 x1 x2 x3 x4->P2 x1 x2 x3 x4->P3 x1 x2 x3 x4->P4 x1 x2 x3 x4->P5 x1 x2 x3 x4->P6 x1 x2 x3 x4->P7 x1 x2 x3 x4->g):g:=h.elim fun x1 h0=>h0.elim fun x2 h1=>h1.elim fun x3 h2=>h2.elim fun x4 h=>k x1 x2 x3 x4 h.1 h.2.1 h.2.2.1 h.2.2.2.1 h.2.2.2.2.1 h.2.2.2.2.2.1 h.2.2.2.2.2.2
theorem oe7o2 {α1:Sort u1} {α2:Sort u2} {α3:Sort u3} {α4:Sort u4} {α5:Sort u5} {α6:Sort u6} {α7:Sort u7} {P1 P2:α1->α2->α3->α4->α5->α6->α7->Prop} {g:Prop} (h: ∃x1 x2 x3 x4 x5 x6 x7,P1 x1 x2 x3 x4 x5 x6 x7/\P2 x1 x2 x3 x4 x5 x6 x7) (k: ∀x1 x2 x3 x4 x5 x6 x7,P1 x1 x2 x3 x4 x5 x6 x7->P2 x1 x2 x3 x4 x5 x6 x7->g):g:=h.elim fun x1 h0=>h0.elim fun x2 h1=>h1.elim fun x3 h2=>h2.elim fun x4 h3=>h3.elim fun x5 h4=>h4.elim fun x6 h5=>h5.elim fun x7 h=>k x1 x2 x3 x4 x5 x6 x7 h.1 h.2
def mNd (k:String) (a:List Lean.Syntax):Lean.Syntax:= .node .none ("Lean.Parser."++k).toName a.toArray
def mAt (s:String):Lean.Syntax:= .atom .none s
def mNu (a:List Lean.Syntax):Lean.Syntax:= .node .none `null a.toArray
def mSeq (l:List Lean.Syntax):Lean.Syntax:=mNd "Tactic.tacticSeq" [mNd "Tactic.tacticSeq1Indented" [mNu ((l.intersperse (mAt ";")))]]
def mPart (w:String) (i:Nat) (lo:Lean.Syntax):Lean.Syntax×List Lean.Syntax:=
 let med:=lo.getArg 0
 let p:=(med.getArg 0).getArg 0
 let z:=(Lean.mkIdent (.mkSimple (w++toString i))).raw
 if p.isOfKind `Lean.Parser.Tactic.rcasesPat.ignore then (mNd "Term.hole" [mAt "_"],[])
 else if p.isOfKind `Lean.Parser.Tactic.rcasesPat.one then (if (p.getArg 0).getId== `rfl then (z,[mNd "Tactic.subst" [mAt "subst",mNu [z]]]) else (p.getArg 0,[]))
 else (z,[mNd "Tactic.obtain" [mAt "obtain",mNu [med],mNu [],mNu [mAt ":=",mNu [z]]]])
def mParts (w:String) (i:Nat):List Lean.Syntax->List Lean.Syntax×List Lean.Syntax
 | []=>([],[])
 | lo::r=>let a:=mPart w i lo;let b:=mParts w (i+1) r;(a.1::b.1,a.2++b.2)
def mObt (med e:Lean.Syntax):Lean.MacroM (Lean.TSyntax `tactic):=
 let p:=(med.getArg 0).getArg 0
 let es:=(p.getArg 1).getSepArgs.toList
 let k:=es.length
 if (med.getArg 0).getNumArgs != 1||!p.isOfKind `Lean.Parser.Tactic.rcasesPat.tuple||k<2||12<k then Lean.Macro.throwUnsupported else
 --a name that comes again is changed first
 let again:=e.isIdent&&(med.find? fun x=>x.isIdent&&x.getId==e.getId).isSome
 let e':=if again then (Lean.mkIdent `zze).raw else e
 let pre:=if again then [mNd "Tactic.revert" [mAt "revert",mNu [e]],mNd "Tactic.intro" [mAt "intro",mNu [e']]] else []
 let w:="z"++(if e.isIdent then e.getId.toString else "")++"_"
 let med1 (l:List Lean.Syntax):Lean.Syntax:=mNd "Tactic.rcasesPatMed" [mNu [mNd "Tactic.rcasesPat.tuple" [mAt "⟨",mNu (l.intersperse (mAt ",")),mAt "⟩"]]]
 --the first names,the rest in one
 let alt (j n:Nat):Lean.Syntax:=
  let ns:=mParts w 0 (if j=k then es else es.take (j-1)++[mNd "Tactic.rcasesPatLo" [med1 (es.drop (j-1)),mNu []]])
  let cl:=if e.isIdent then [mNd "Tactic.tacticTry_" [mAt "try",mSeq [mNd "Tactic.clear" [mAt "clear",mNu [e']]]]] else []
  mSeq (pre++mNd "Tactic.refine" [mAt "refine",mNd "Term.app" [(Lean.mkIdent (.mkStr `Mine (if n=0 then "oa"++toString j else "oe"++toString n++"o"++toString (j-n)))).raw,mNu [e',mNd "Term.fun" [mAt "fun",mNd "Term.basicFun" [mNu ns.1,mNu [],mAt "=>",mNd "Term.syntheticHole" [mAt "?",mAt "_"]]]]]]::(cl++ns.2))
 let fb:=mSeq [mNd "Tactic.rcases" [mAt "rcases",mNu [mNd "Tactic.elimTarget" [mNu [],e]],mNu [mAt "with",mNd "Tactic.rcasesPatLo" [med,mNu []]]]]
 let alts:=((List.range (k-1)).map fun i=>(List.range (min (k-i) 8)).map (alt (k-i))).flatten
 pure ⟨mNd "Tactic.first" [mAt "first",mNu ((alts++[fb]).map fun s=> .node .none `group #[mAt "|",s])]⟩
end Mine
namespace Mine
abbrev d0:=@wpAny_bind
abbrev m0:=@wpAny_pure
abbrev n0:=@Nat.sub_add_cancel
abbrev o0:=@Nat.div_add_mod
abbrev r0:=@Nat.le_antisymm
abbrev t0:=@Int.le_antisymm
abbrev w0:=@List.getD_eq_getElem?_getD
abbrev z0:=@Bool.and_eq_true
abbrev i3:=@Heap.get?_push_of_some
abbrev y3:=@Heap.get?_push_size
abbrev o5:=@List.getElem?_eq_getElem
abbrev v5:=@List.map_cons
abbrev w5:=@Option.some.inj
abbrev y5:=@Int.toNat_of_nonneg
abbrev j6:=@Nat.min_eq_left
abbrev l6:=@Heap.get?_none_of_le
abbrev w6:=@List.length_append
abbrev a7:=@List.length_map
abbrev j7:=@Int.fdiv_eq_ediv_of_nonneg
end Mine
namespace Mine
def mTok (t : Lean.Syntax) (st : List Lean.Syntax) (x : String) : List Lean.Syntax :=
 match x.splitOn "~" with
 | [a] => (Lean.mkIdent a.toName).raw :: st
 | [_, a] => .atom .none a :: st
 | [_, i, n] => .node .none i.toName (st.take n.toNat!).reverse.toArray :: st.drop n.toNat!
 | [_, _, _, a] => (Lean.Syntax.mkStrLit a).raw :: st
 | [_, _, _, _, _] => t :: st
 | _ => .node .none `hygieneInfo #[(Lean.mkIdent .anonymous).raw] :: st
def mAb : List (String × List String) := [("%a", "~null~1 ~Lean.Parser.Tactic.tacticSeq1Indented~1 ~Lean.Parser.Tactic.tacticSeq~1"), ("%b", "~) ~Lean.Parser.Tactic.paren~3"), ("%c", "~Lean.Parser.Tactic.tacticSeq1Indented~1 ~Lean.Parser.Tactic.tacticSeq~1 %b"), ("%d", "~null~0 ~PySem.W.tacticK_call_by______~4 %a ~group~2 ~| ~k_call_by"), ("%e", "~with_reducible ~assumption ~Lean.Parser.Tactic.assumption~1 %a ~Lean.Parser.Tactic.withReducible~2 %a"), ("%f", "~Lean.Parser.Tactic.apply~2 %a ~Lean.Parser.Tactic.withReducible~2 %a %b ~;"), ("%g", "~PyProof.Rows.tacticWalk_at_~2 %a ~Lean.cdot~2 %a %b"), ("%h", "~) ~Lean.Parser.Term.paren~3 ~null~1 ~Lean.Parser.Term.app~2 ~Lean.Parser.Tactic.exact~2 %a ~group~2"), ("%i", "~( ~~~~~ ~Lean.Parser.Term.hygienicLParen~2"), ("%j", "~( ~( ~with_reducible ~apply ~~~~ %f ~( ~· ~Lean.cdotTk~1"), ("%k", "~Lean.Parser.Term.byTactic~2 ~) ~Lean.Parser.Term.paren~3 rfl ~null~2 ~Lean.Parser.Term.app~2 ~Lean.Parser.Tactic.exact~2 %a"), ("%l", "~null~0 ~Lean.Parser.Tactic.optConfig~1"), ("%m", "~Lean.Parser.Tactic.first~2"), ("%n", "~Lean.Parser.Term.syntheticHole~2 ~null~1 ~Lean.Parser.Term.app~2 ~Lean.Parser.Tactic.refine~2 %a ~Lean.Parser.Tactic.withReducible~2 %a %b ~; ~intro ~_ ~Lean.Parser.Term.hole~1 ~null~1 ~Lean.Parser.Tactic.intro~2 ~null~3 %c %a ~Lean.Parser.Tactic.tacticRepeat_~2 %a %b ~; ~intro ~_ ~Lean.Parser.Term.hole~1 ~null~1"), ("%o", "~; ~( ~· ~Lean.cdotTk~1 ~walk_at"), ("%p", "%a ~group~2"), ("%q", "~Lean.Parser.Term.app~2"), ("%r", "~; ~with_reducible ~try ~rfl ~Lean.Parser.Tactic.tacticRfl~1 %a ~Lean.Parser.Tactic.tacticTry_~2 %a ~Lean.Parser.Tactic.withReducible~2 ~null~3 %c %p"), ("%s", "~Lean.Parser.Term.byTactic~2"), ("%t", "~( ~( ~first ~| ~( %e %b %p ~| ~( ~( ~with_reducible ~apply y10 %f"), ("%u", "~Lean.Parser.Tactic.exact~2"), ("%v", "~PyProof.Rows.tacticWalk_at_~2 ~null~3 %c %p ~null~2 %m %a %b %a %b"), ("%w", "~? ~_ ~Lean.Parser.Term.syntheticHole~2 ~null~2 %q ~Lean.Parser.Tactic.refine~2"), ("%x", "~Lean.Parser.Tactic.simpLemma~3 ~, ~null~0 ~null~0"), ("%y", "~assumption ~Lean.Parser.Tactic.assumption~1"), ("%z", "~| ~decide ~- kernel ~Lean.Parser.Tactic.negConfigItem~2 ~Lean.Parser.Tactic.configItem~1 ~null~1 ~Lean.Parser.Tactic.optConfig~1 ~Lean.Parser.Tactic.decide~2 %p"), ("%A", "~intro ~_ ~Lean.Parser.Term.hole~1 ~null~1 ~Lean.Parser.Tactic.intro~2 ~; ~( ~repeat ~( ~( ~with_reducible ~refine h13 ~? ~_ %n ~Lean.Parser.Tactic.intro~2"), ("%B", "~) ~Lean.Parser.Term.paren~3"), ("%C", "~Lean.cdot~2 %a %b"), ("%D", "~Lean.Parser.Tactic.rcasesPat.one~1 ~null~1 ~Lean.Parser.Tactic.rcasesPatMed~1 ~null~0 ~Lean.Parser.Tactic.rcasesPatLo~2"), ("%E", "~omega %l ~Lean.Parser.Tactic.omega~2"), ("%F", "~~~~ ~Lean.Parser.Tactic.rwRule~2 ~null~1 ~] ~Lean.Parser.Tactic.rwRuleSeq~3 ~null~0 ~Lean.Parser.Tactic.rewriteSeq~4"), ("%G", "~simp %l ~null~0 ~null~0 ~null~0 ~null~0 ~Lean.Parser.Tactic.simp~6"), ("%H", "~| ~exact"), ("%I", "~( ~· ~Lean.cdotTk~1"), ("%J", "%p ~| ~( ~( ~with_reducible ~apply"), ("%K", "~walk_at"), ("%L", "~PyProof.Rows.tacticWalk_at_~2"), ("%M", "~_ ~Lean.Parser.Term.hole~1"), ("%N", "~null~1"), ("%O", "~( ~( ~try ~dsimp %l ~null~0 ~only %N ~[ ~null~0 ~null~0 St.back %x I.Z8 %x I.W3 ~Lean.Parser.Tactic.simpLemma~3 ~null~5 ~] ~null~3 ~null~0 ~Lean.Parser.Tactic.dsimp~6 %a ~Lean.Parser.Tactic.tacticTry_~2 %a"), ("%P", "~( ~( ~first ~| ~( %e %b %p"), ("%Q", "%m %a %b %a %b"), ("%R", "~null~3"), ("%S", "%d ~~~s0"), ("%T", "%j %K ~~~hp %g"), ("%U", "~Lean.Parser.Tactic.elimTarget~2 %N ~null~0 ~null~0 ~Lean.Parser.Tactic.cases~4"), ("%V", "%g ~null~5 %c"), ("%W", "%i ~~~~ ~.. ~Lean.Parser.Term.ellipsis~1 %N %q %B %w"), ("%X", "%a ~Lean.Parser.Tactic.withReducible~2"), ("%Y", "%i ~by"), ("%Z", "%i ~fun %M %N ~null~0 ~=> ~? ~_ ~Lean.Parser.Term.syntheticHole~2 ~Lean.Parser.Term.basicFun~4 ~Lean.Parser.Term.fun~2 %B"), ("%0", "~exact rfl %u %a %C"), ("%1", "%H Nat.le_trans %Y %e %s %B %i Nat.le_of_ble_eq_true rfl %N %q %B ~null~2 %q %u %p %H J16 %Y %e %k ~group~2 %H K16 %Y"), ("%2", "%D %R ~⟩ ~Lean.Parser.Tactic.rcasesPat.tuple~3 %N ~Lean.Parser.Tactic.rcasesPatMed~1 %N ~null~0 ~:="), ("%3", "~with_reducible"), ("%4", "~( %G ~; ~done ~Lean.Parser.Tactic.done~1 %R %c"), ("%5", "~null~0"), ("%6", "~null~7 %c"), ("%7", "%s %h %H"), ("%8", "~first"), ("%9", "%Y %y %a %k %C"), ("%!", "~Lean.Parser.Term.dotIdent~2 %Y"), ("%?", "~~~~ %N %q"), ("%*", "~null~2"), ("%+", "%T %o ~~~lk %g ~; %I"), ("%-", "%o ~~~sz"), ("%=", "%R %c"), ("%<", "~( %e %b"), ("%>", "~refine"), ("%/", "%p ~|"), ("%^", "~decide %l ~Lean.Parser.Tactic.decide~2 %a %C"), ("%&", "%d ~~~s18"), ("@a", "~exact"), ("@b", "%N ~) ~Lean.Parser.Term.typeAscription~5"), ("@c", "%H Eq.refl %i some %M %N %q %h %H rfl %u"), ("@d", "~rewrite %l ~["), ("@e", "%a %s"), ("@f", "%N %* ~Lean.Parser.Tactic.obtain~4"), ("@g", "~null~9 %c"), ("@h", "%Y %e %7"), ("@i", "~Lean.Parser.Tactic.refine~2 %/"), ("@j", "~kernel_rfl ~tacticKernel_rfl~1"), ("@k", "%d ~~~s12"), ("@l", "%> Mine.rwl"), ("@m", "%> Mine.rwr"), ("@n", "%o ~~~hp %V"), ("@o", "%o ~~~gp %V"), ("@p", "%Y %E %a %7"), ("@q", "%t %K"), ("@r", "%K ~~~om %L"), ("@s", "%N %q"), ("@t", "~~~~"), ("@u", "%8 ~|"), ("@v", "%a %C"), ("@w", "%j %K ~~~sz %g"), ("@x", "%1 %e %k ~group~2 ~| %E %p"), ("@y", "~Lean.Parser.Term.proj~3"), ("@z", "%8 %H"), ("@A", "%3 ~apply"), ("@B", "%d ~~~s22"), ("@C", "beq_eq_false_iff_ne.mpr"), ("@D", "%i upA %? %h"), ("@E", "i10 %M %M %M %R %q %u"), ("@F", "%r ~| ~("), ("@G", "%? %u %p %H"), ("@H", "~; %I"), ("@I", "%- %g"), ("@J", "%f %I"), ("@K", "%d ~~~s9")].foldl (fun a p => (p.1, ((p.2.splitOn " ").map fun x => (a.lookup x).getD [x]).flatten) :: a) []
def mRead (t : Lean.Syntax) : List String → List Lean.Syntax → Lean.Syntax
 | [], st => st.headD .missing
 | x :: r, st => mRead t r (match mAb.lookup x with | some l => l.foldl (mTok t) st | none => mTok t st x)
def mTab : List (String × String) := [("wR", "~repeat %K ~~~go %L %a ~Lean.Parser.Tactic.tacticRepeat_~2"), ("wo", "~obtain ~⟨ own %D ~, R %2 R @f"), ("wS", "~obtain ~⟨ rfl %D ~, rfl %2 St.mk.injEq ~.. ~Lean.Parser.Term.ellipsis~1 @s ~▸ e %N ~Lean.Parser.Term.subst~3 @f"), ("q0", "@u @l @t %w %/ @l %W %/ @d %5 %F %p %R %m"), ("q1", "@u @m @t %w %/ @m %W %/ @d ~← %N %F %p %R %m"), ("q2", "@u ~( @l @t %w @F @l %W @F @d %5 %F %r %R %m"), ("q3", "@u ~( @m @t %w @F @m %W @F @d ~← %N %F %r %R %m"), ("q4", "@u %> %i ~? ~_ ~Lean.Parser.Term.syntheticHole~2 ~: @t @b @i ~change @t %5 ~Lean.Parser.Tactic.change~3 %p %* %m"), ("q5", "@z Mine.no_ns @G Mine.no_sn @G Mine.no_tf @G Mine.no_ft %? %u %/ ~( ~replace @t ~Lean.Parser.Term.letId~1 %5 %5 ~:= Option.some.inj %? ~Lean.Parser.Term.letIdDecl~5 ~Lean.Parser.Term.letDecl~1 ~Lean.Parser.Tactic.replace~2 ~; ~cases %5 @t %U %= %/ ~subst @t %N ~Lean.Parser.Tactic.subst~2 %/ ~cases %5 %i @t %B %U %p ~null~7 %m"), ("q6", "@u %> Mine.iteE %Z %Z %* %q @i ~split %5 ~at ~⊢ ~token.«⊢»~1 ~patternIgnore~1 ~Lean.Parser.Tactic.locationType~1 %N ~Lean.Parser.Tactic.locationHyp~1 ~Lean.Parser.Tactic.location~2 %N ~Lean.Parser.Tactic.split~3 %p %* %m"), ("q9", "@j"), ("q7", "@z of_decide_eq_true %i Eq.refl true @s %h %z %* %m"), ("ks0", "@A @t ~Lean.Parser.Tactic.apply~2 %X"), ("ks1", "%j %8 @c %/ %y %p %R %m @v %="), ("ks2", "%+ @a o24 %9 @H %0 @g"), ("ks3", "%+ @a j46 %9 %6"), ("ks4", "%j %^ @H @a r40 %9 ~null~5 %c"), ("ks5", "%T %o ~~~lk %g %o ~~~ok %g @H %0 @g"), ("ks6", "%+ @a h46 %9 %6"), ("ks7", "%j @a f54 %Y %y @e %B @s %u @v %="), ("ks8", "%+ @z g54 %Y %y %a %7 h54 %Y %y @e %h %* %m @v %6"), ("ks9", "%T %- %V"), ("ks10", "%j %0 @H %0 @H %^ %o ~~~ok %g @g"), ("ks11", "%T %o ~~~lk %V"), ("ks12", "%j %K ~~~tt %g %="), ("ks13", "%j %K ~~~mul %g %="), ("ks14", "%j @a l42 %9 %- %V"), ("ks15", "%T @H @a l42 %9 @I %6"), ("ks16", "%T %o ~~~ok %V"), ("ks17", "@w %o ~~~dv %V"), ("ks18", "@w %="), ("ks19", "%j %K ~~~mb %g %="), ("ks20", "%T @I %o ~~~lk %g %6"), ("ks21", "%T @I @I %6"), ("ks22", "~( ~( @A @t %f %A %6"), ("ks23", "%j %0 @n"), ("ks24", "%j ~( ~unfold R14 %N %5 ~Lean.Parser.Tactic.unfold~3 ~; %K ~~~ok %L %= @v ~; %A @g"), ("ks25", "%T %="), ("ks26", "%T %o ~~~hp %g @I %6"), ("ks27", "%T ~; %A @g"), ("ks28", "%j %0 @H %0 @I %6"), ("ks29", "@w %- %V"), ("ks30", "%j %y @v @n"), ("ks31", "%j %0 @I ~; %A ~null~11 %c"), ("whp", "%P ~| %3 @a @E %X %J b15 @J %K ~~~ne %g @n %p %H @E %p ~null~4 %Q"), ("wne", "~( ~( @z Ap.ne @h Ne.symm %i Ap.ne %Y %e %s %B @s %h ~| %< %J i11 @J %< @v @n %J Ne.symm %f ~( @A i11 %f %< ~; %K ~~~hp %L %6 %J b49 %f ~( %< %a %b ~; ~( %< %a %b ~; ~( ~intro e %N ~Lean.Parser.Tactic.intro~2 ~; ~cases %5 e %U %= %6 %p ~null~6 %Q"), ("wok", "%P ~| ~( ~rw %l ~[ %5 %Y %y @e ~: Row %M @s @b ~. k @y ~Lean.Parser.Tactic.rwRule~2 %N ~] ~Lean.Parser.Tactic.rwRuleSeq~3 %5 ~Lean.Parser.Tactic.rwSeq~4 ~; @j %= %p %* %Q"), ("wom", "%P @x ~null~5 %Q"), ("wsz", "%P %z @x %H Nat.le_of_ble_eq_true rfl @s %u %/ %4 %/ ~( %G ~; %E %= %p ~null~9 %Q"), ("wgp", "~( ~( @u %3 @a a15 %u %X %J t34 @J %K ~~~hp %g @o %J r34 @J %K ~~~nn %g @o %J s34 @J %4 @v @o %J r44 @J @z ~. inl %! %e %7 ~. inr %! %4 @e %h %* %m @v @o %p %H k42 %Y %e %s %h ~null~6 %Q"), ("wlp", "~( ~( @u %3 @a s44 %u %X %/ %3 @a s38 %u %X %J t38 @J @z rfl %u %/ %y %p %* %m @v %o ~~~lp %V %p %R %Q"), ("wgp0", "%O %b ~; %K ~~~gp %L %="), ("wlp0", "%O %b ~; %K ~~~lp %L %="), ("wgo", "~( ~( @u ~k_call_by ~~~s0 z52 %d ~~~s1 a53 %S r23 %d ~~~s2 t12 %S o55 %d ~~~s3 e30 %d ~~~s4 k26 %d ~~~s5 o15 %d ~~~s6 y44 %d ~~~s7 z38 %d ~~~s8 a39 @K f35 %d ~~~s10 c50 %d ~~~s10 f45 %S q49 %d ~~~s11 j30 %S j49 %S p55 %S n53 @k c30 @k d30 %S U15 %S e53 %d ~~~s13 f53 %S f49 %d ~~~s14 d26 %d ~~~s14 v23 %d ~~~s15 w34 %d ~~~s16 c26 %d ~~~s15 o28 %S q55 %S r55 %S s55 %S o53 %S v38 %S w44 %S l49 %d ~~~s17 c49 %& g53 %S z49 %S e50 %S u49 %& d49 %& h53 %S e49 %S i53 %& t23 %d ~~~s19 y41 %d ~~~s13 g49 %S h49 %S j53 %S k53 %S l53 %S i49 @k x44 @k n49 @k z41 %d ~~~s11 w14 %d ~~~s20 w11 @K m26 @K c24 %d ~~~s21 m11 %d ~~~s21 y12 @B a50 @B d45 %d ~~~s23 b50 %d ~~~s23 e45 @K h45 %& e35 @B b39 @B c39 %d ~~~s24 i45 %S j45 %d ~~~s26 x14 %& w17 %d ~~~s27 h50 %& d50 %d ~~~s28 g50 %d ~~~s29 n26 %d ~~~s25 g35 %S r53 %S r49 %d ~~~s30 b53 %d ~~~s30 c53 %d ~~~s31 p53 %d ~~~s31 q53 %5 ~PySem.W.tacticK_call_by______~4 %p ~null~86 %Q"), ("wtt", "~( ~( @z rfl %u %/ %< %p %H decide_eq_true @h decide_eq_false @h beq_iff_eq.mpr @h @C @h bne_iff_ne.mpr @h decide_eq_true @p decide_eq_false @p beq_iff_eq.mpr @p @C @p bne_iff_ne.mpr %Y %E @e %h ~| ~( ~simp %l %5 ~only %N ~[ %5 %5 decide_eq_true_eq %x decide_eq_false_iff_not %x beq_iff_eq %x bne_iff_ne %x beq_eq_false_iff_ne %x bne_eq_false_iff_eq %x Bool.not_eq_true' %x Bool.not_eq_false' %x ne_eq ~Lean.Parser.Tactic.simpLemma~3 ~null~17 ~] %R %5 ~Lean.Parser.Tactic.simp~6 ~; %E %= %p ~null~13 %Q"), ("wnn", "%t %< %= %J y10 %f ~( @A y10 %f %< ~null~5 %c %p %R %Q"), ("wnx1", "%t %< %= %p %* %Q"), ("wnx2", "@q ~~~nx1 %v"), ("wnx3", "@q ~~~nx2 %v"), ("wnx4", "@q ~~~nx3 %v"), ("wnx5", "@q ~~~nx4 %v"), ("wnx6", "@q ~~~nx5 %v"), ("wnx7", "@q ~~~nx6 %v"), ("wnx8", "@q ~~~nx7 %v"), ("wnx9", "@q ~~~nx8 %v"), ("wnx10", "@q ~~~nx9 %v"), ("wnx", "@q ~~~nx9 %v"), ("wna", "%P %H %i l10 %Y %K ~~~nx %L @e %B @s %B ~. ~1 ~fieldIdx~1 @y %u %p %* %Q"), ("wlk", "%P %H Eq.refl none @s %u %p @c %p ~null~4 %Q"), ("wmul", "%P %z %H b45 %Y @r %a %7 c45 %Y @r @e %h ~null~4 %Q"), ("wdv", "%P %z %H PyProof.noPylong_small %Y @r @e %h %R %Q"), ("wmb", "%P %H ~⟨ ~by %G @e ~, ~by %E @e ~, ~by %E @e ~, ~. inl %! %G @e %B @s ~null~7 ~⟩ ~Lean.Parser.Term.anonymousCtor~3 %u %/ @r %p %R %Q"), ("kend", "~( @z z10 @D %H c12 @D %H s49 @D %R %m %a %b"), ("q8", "~( @t %c")]
def mSay (s : String) (t : Lean.Syntax) : Lean.Syntax := mRead t (((mTab.lookup s).getD "").splitOn " ") []
def mGo (s : String) (t : Lean.Syntax) : Lean.MacroM (Lean.TSyntax `tactic) := if (mTab.lookup s).isSome then pure ⟨mSay s t⟩ else Lean.Macro.throwUnsupported
def mRws : List Lean.Syntax → List Lean.Syntax
 | [] => []
 | [r] => [mSay (if (r.getArg 0).isNone then "q2" else "q3") (r.getArg 1)]
 | r :: l => mSay (if (r.getArg 0).isNone then "q0" else "q1") (r.getArg 1) :: .atom .none ";" :: mRws l
def mRw (s : Lean.Syntax) : Lean.TSyntax `tactic := ⟨mSay "q8" (Lean.mkNullNode (mRws (s.getArg 1).getSepArgs.toList).toArray)⟩
def mDot (k : String) (a : List Lean.Syntax) : Lean.Syntax := mNd "Term.app" [mNd "Term.dotIdent" [mAt ".", (Lean.mkIdent (.mkSimple k)).raw], mNu a]
def mNum (l : List Char) : Lean.Syntax × List Char :=
 let d := l.takeWhile Char.isDigit
 let r := l.dropWhile Char.isDigit
 let n := (Lean.Syntax.mkNumLit (if d.isEmpty then "1" else String.ofList d)).raw
 match r with
 | '^' :: r => (.node .none (.mkSimple "term_^_") #[n, mAt "^", (Lean.Syntax.mkNumLit (String.ofList (r.takeWhile Char.isDigit))).raw], r.dropWhile Char.isDigit)
 | r => (n, r)
def mInt : List Char → Lean.Syntax × List Char
 | '-' :: l => let p := mNum l; (.node .none (.mkSimple "term-_") #[mAt "-", p.1], p.2)
 | l => mNum l
def mLet : List (Char × String × String) := [('h', "h", "IXX"), ('o', "o", "IX"), ('x', "l", "XX"), ('y', "s", "XX"), ('z', "e", "XX"), ('j', "nl", "XX"), ('k', "ns", "XX"), ('L', "L", "XX"), ('S', "S", "XX"), ('E', "E", "XX"), ('J', "nL", "XX"), ('K', "nS", "XX"), ('v', "v", "I"), ('n', "n", "I"), ('a', "a", "XX"), ('m', "m", "XX"), ('g', "g", "X"), ('l', "l", "IX"), ('r', "r", "IX"), ('w', "w", "X")]
def mFk : Nat → List Char → Lean.Syntax × List Char
 | f + 1, c :: l => match mLet.lookup c with
  | some (k, a) => let p := a.toList.foldl (fun (p : List Lean.Syntax × List Char) x => let q := if x == 'I' then mInt p.2 else mFk f p.2; (q.1 :: p.1, q.2)) ([], l); (mDot k (if c == 'r' then p.1 else p.1.reverse), p.2)
  | none => if c == 'F' then (mNd "Term.dotIdent" [mAt ".", (Lean.mkIdent `f).raw], l) else (mDot "v" [(Lean.Syntax.mkNumLit (toString ("ABCDGHIMNOPQRT".toList.findIdx (· == c)))).raw], l)
 | _, l => (.missing, l)
def mBy (t : Lean.Syntax) : Lean.Syntax := mNd "Term.byTactic" [mAt "by", mSeq [t]]
def mStr (l : List Char) : Lean.Syntax := match l with
 | ['.'] => mBy (mSay "q9" .missing)
 | '-' :: r => mBy (.node .none `PyProof.Rows.tacticWalk_at_ #[mAt "walk_at", (Lean.Syntax.mkStrLit (String.ofList r)).raw])
 | _ => (mFk 99 l).1
def mCode (s : String) : Nat := s.foldl (fun n c => n * 128 + c.toNat) 0
end Mine
local macro_rules | `(s! $x:interpolatedStr) => pure (Mine.mStr (((x.raw.getArg 0).isInterpolatedStrLit?.getD "").toList))
local macro_rules | `(tactic| walk_at $s:str) => Mine.mGo ("w" ++ s.getString) .missing
local macro_rules | `(tactic| k_call_by $s:str $t) => Mine.mGo ("k" ++ s.getString) t
local macro_rules | `(tactic| rw $s:rwRuleSeq) => pure (Mine.mRw s)
local macro_rules | `(tactic| show $t) => Mine.mGo "q4" t
local macro_rules | `(tactic| cases $h:ident) => Mine.mGo "q5" h
local macro_rules | `(tactic| split) => Mine.mGo "q6" .missing
local macro_rules | `(tactic| decide) => Mine.mGo "q7" .missing
local macro_rules | `(tactic| obtain $p:rcasesPatMed := $e:term) => Mine.mObt p e
local macro_rules | `(tactic| obtain $p:rcasesPatMed : $t := $e:term) => do Mine.mObt p (← `(($e : $t)))
local macro_rules | `(term| $n:quotedName) => pure (Lean.Syntax.mkNatLit (Mine.mCode (((n.raw.getArg 0).isNameLit?.getD .anonymous).toString (escape := false))))
namespace Mine
set_option genInjectivity false in
inductive QN | v (i:Nat) | n (k:Nat) | a (x y:QN) | l (k:Nat) (x:QN) | r (x:QN) (k:Nat)
set_option genInjectivity false in
inductive QZ | v (i:Nat) | n (k:Int) | a (x y:QZ) | m (x y:QZ) | g (x:QZ) | l (k:Int) (x:QZ) | r (x:QZ) (k:Int) | w (x:QN)
set_option genInjectivity false in
inductive QF | l (x y:QN) | s (x y:QN) | e (x y:QN) | nl (x y:QN) | ns (x y:QN) | L (x y:QZ) | S (x y:QZ) | E (x y:QZ) | nL (x y:QZ) | nS (x y:QZ) | f
set_option genInjectivity false in
inductive QH | o (c:Int) (f:QF) | h (c:Int) (f:QF) (r:QH)
noncomputable def U8 {α:Type} [Inhabited α]:List α->Nat->α
 | [],_=>default
 | x::_,0=>x
 | _::l,i+1=>U8 l i
section
variable (I:List Int) (M:List Nat)
noncomputable def QN.d:QN->Nat
 | .v i=>U8 M i
 | .n k=>k
 | .a x y=>x.d+y.d
 | .l k x=>k*x.d
 | .r x k=>x.d*k
noncomputable def QZ.d:QZ->Int
 | .v i=>U8 I i
 | .n k=>k
 | .a x y=>x.d+y.d
 | .m x y=>x.d-y.d
 | .g x=> -x.d
 | .l k x=>k*x.d
 | .r x k=>x.d*k
 | .w x=>(x.d M:Int)
def QF.d:QF->Prop
 | .l x y=>x.d M<=y.d M
 | .s x y=>x.d M<y.d M
 | .e x y=>x.d M=y.d M
 | .nl x y=> ¬x.d M<=y.d M
 | .ns x y=> ¬x.d M<y.d M
 | .L x y=>x.d I M<=y.d I M
 | .S x y=>x.d I M<y.d I M
 | .E x y=>x.d I M=y.d I M
 | .nL x y=> ¬x.d I M<=y.d I M
 | .nS x y=> ¬x.d I M<y.d I M
 | .f=>False
def QH.d:QH->Prop
 | .o _ f=>f.d I M
 | .h _ f r=>f.d I M->r.d
end
structure QA where
 i:List Int
 n:List Int
 k:Int
noncomputable def S10:List Int->Nat->Int->List Int
 | [],0,c=>[c]
 | [],i+1,c=>0::S10 [] i c
 | x::l,0,c=>(x+c)::l
 | x::l,i+1,c=>x::S10 l i c
noncomputable def QN.p:QN->Int->QA->QA
 | .v i,c,s=>⟨s.i,S10 s.n i c,s.k⟩
 | .n k,c,s=>⟨s.i,s.n,s.k+c*k⟩
 | .a x y,c,s=>y.p c (x.p c s)
 | .l k x,c,s=>x.p (c*k) s
 | .r x k,c,s=>x.p (c*k) s
noncomputable def QZ.p:QZ->Int->QA->QA
 | .v i,c,s=>⟨S10 s.i i c,s.n,s.k⟩
 | .n k,c,s=>⟨s.i,s.n,s.k+c*k⟩
 | .a x y,c,s=>y.p c (x.p c s)
 | .m x y,c,s=>y.p (-c) (x.p c s)
 | .g x,c,s=>x.p (-c) s
 | .l k x,c,s=>x.p (c*k) s
 | .r x k,c,s=>x.p (c*k) s
 | .w x,c,s=>x.p c s
noncomputable def W13 (c:Int) (s:QA):QA:=⟨s.i,s.n,s.k-c⟩
noncomputable def QF.p (c:Int) (s:QA):QF->QA
 | .l x y=>x.p (-c) (y.p c s)
 | .s x y=>W13 c (x.p (-c) (y.p c s))
 | .e x y=>x.p (-c) (y.p c s)
 | .nl x y=>W13 c (y.p (-c) (x.p c s))
 | .ns x y=>y.p (-c) (x.p c s)
 | .L x y=>x.p (-c) (y.p c s)
 | .S x y=>W13 c (x.p (-c) (y.p c s))
 | .E x y=>x.p (-c) (y.p c s)
 | .nL x y=>W13 c (y.p (-c) (x.p c s))
 | .nS x y=>y.p (-c) (x.p c s)
 | .f=>s
noncomputable def QF.neg:QF->QF
 | .l x y=> .nl x y
 | .s x y=> .ns x y
 | .L x y=> .nL x y
 | .S x y=> .nS x y
 | _=> .f
noncomputable def QF.eq:QF->Bool
 | .e _ _=>true
 | .E _ _=>true
 | _=>false
noncomputable def M15 (s:QA):Bool:=s.i.all (fun x=>x==0)&&s.n.all (fun x=>decide (x<=0))&&decide (s.k<0)
noncomputable def QF.goal:QF->Bool
 | .l _ _=>true
 | .s _ _=>true
 | .L _ _=>true
 | .S _ _=>true
 | .f=>true
 | _=>false
noncomputable def QH.p:QH->QA->Bool
 | .o c f,s=>f.goal&&decide (0<=c)&&M15 (f.neg.p c s)
 | .h c f r,s=>(f.eq||decide (0<=c))&&r.p (f.p c s)
section
variable {I:List Int} {M:List Nat}
noncomputable def T3 (l:List Int) (f:Nat->Int):Int:=match l with
 | []=>0
 | c::l=>c*f 0+T3 l fun i=>f (i+1)
theorem o22 (l:List Int): ∀(i:Nat) (c:Int) (f:Nat->Int),T3 (S10 l i c) f=T3 l f+c*f i:=by
 induction l with
 | nil=>
  intro i
  induction i with
  | zero=>intro c f;exact Int.add_comm _ _
  | succ i ih=>intro c f;exact (congrArg (0*f 0+ ·) (ih c _)).trans (by rw [Int.zero_mul,Int.zero_add];rfl)
 | cons x l ih=>
  intro i c f;cases i with
  | zero=>show (x+c)*f 0+_=x*f 0+_+c*f 0;rw [Int.add_mul,Int.add_right_comm]
  | succ i=>show x*f 0+T3 (S10 l i c) _=x*f 0+_+c*f (i+1);rw [ih,Int.add_assoc]
noncomputable def QA.d (I:List Int) (M:List Nat) (s:QA):Int:=T3 s.i (U8 I)+T3 s.n (fun i=>(U8 M i:Nat))+s.k
theorem QN.ok (x:QN): ∀(c:Int) (s:QA),(x.p c s).d I M=s.d I M+c*(x.d M:Nat):=by
 induction x with
 | v i=>intro c s;show T3 s.i _+T3 (S10 s.n i c) _+s.k=T3 s.i (U8 I)+T3 s.n (fun i=>(U8 M i:Nat))+s.k+c*(U8 M i:Nat);rw [o22,<-Int.add_assoc,Int.add_right_comm (_+_) (c*_)]
 | n k=>intro c s;exact (Int.add_assoc _ _ _).symm
 | a x y hx hy=>intro c s;show (y.p c (x.p c s)).d I M=s.d I M+c*((x.d M+y.d M:Nat):Int);rw [hy,hx,Int.natCast_add,Int.mul_add,Int.add_assoc]
 | l k x hx=>intro c s;show (x.p (c*k) s).d I M=s.d I M+c*((k*x.d M:Nat):Int);rw [hx,Int.natCast_mul,Int.mul_assoc]
 | r x k hx=>intro c s;show (x.p (c*k) s).d I M=s.d I M+c*((x.d M*k:Nat):Int);rw [hx,Int.natCast_mul,Int.mul_comm (x.d M:Int),Int.mul_assoc]
theorem QZ.ok (x:QZ): ∀(c:Int) (s:QA),(x.p c s).d I M=s.d I M+c*x.d I M:=by
 induction x with
 | v i=>intro c s;show T3 (S10 s.i i c) _+T3 s.n _+s.k=T3 s.i (U8 I)+T3 s.n (fun i=>(U8 M i:Nat))+s.k+c*U8 I i;rw [o22,Int.add_right_comm (T3 _ _) (c*_) (T3 _ _),Int.add_right_comm _ (c*_)]
 | n k=>intro c s;exact (Int.add_assoc _ _ _).symm
 | a x y hx hy=>intro c s;show (y.p c (x.p c s)).d I M=s.d I M+c*(x.d I M+y.d I M);rw [hy,hx,Int.mul_add,Int.add_assoc]
 | m x y hx hy=>intro c s;show (y.p (-c) (x.p c s)).d I M=s.d I M+c*(x.d I M-y.d I M);rw [hy,hx,Int.mul_sub,Int.neg_mul,Int.add_assoc,Int.sub_eq_add_neg]
 | g x hx=>intro c s;show (x.p (-c) s).d I M=s.d I M+c*(-x.d I M);rw [hx,Int.neg_mul,Int.mul_neg]
 | l k x hx=>intro c s;show (x.p (c*k) s).d I M=s.d I M+c*(k*x.d I M);rw [hx,Int.mul_assoc]
 | r x k hx=>intro c s;show (x.p (c*k) s).d I M=s.d I M+c*(x.d I M*k);rw [hx,Int.mul_comm (x.d I M),Int.mul_assoc]
 | w x=>intro c s;exact x.ok c s
theorem z19 (c:Int) (s:QA):(W13 c s).d I M=s.d I M-c:=(Int.add_sub_assoc ..).symm
theorem Z13 {c a b:Int} (hc:0<=c) (h:a<=b) {s:Int} (q:0<=s):0<=s+c*b+ -c*a:=by
 have:=Int.mul_nonneg hc (Int.sub_nonneg_of_le h);rw [Int.mul_sub] at this;rw [Int.neg_mul,Int.add_assoc];exact Int.add_nonneg q this
theorem Q9 {c a b:Int} (hc:0<=c) (h:a<b) {s:Int} (q:0<=s):0<=s+c*b+ -c*a-c:=by
 have:=Z13 hc (Int.add_one_le_of_lt h) q;rw [Int.mul_add,Int.mul_one,<-Int.add_assoc] at this;exact this
theorem H16 {c a b:Int} (h:a=b) {s:Int} (q:0<=s):0<=s+c*b+ -c*a:=by
 subst h;rw [Int.neg_mul,Int.add_neg_cancel_right];exact q
theorem l29 (l:List Int) (h:l.all (fun x=>x==0)=true): ∀f:Nat->Int,T3 l f=0:=by
 induction l with
 | nil=>exact fun _=>rfl
 | cons x l ih=>
  rw [List.all_cons,z0] at h;intro f;show x*f 0+T3 l _=0;rw [ih h.2,eq_of_beq h.1,Int.zero_mul];rfl
theorem z32 (l:List Int) (h:l.all (fun x=>decide (x<=0))=true): ∀f:Nat->Int,(∀i,0<=f i)->T3 l f<=0:=by
 induction l with
 | nil=>exact fun _ _=>Int.le_refl 0
 | cons x l ih=>
  rw [List.all_cons,z0] at h;intro f hf;exact Int.add_le_add (Int.mul_nonpos_of_nonpos_of_nonneg (of_decide_eq_true h.1) (hf 0)) (ih h.2 _ fun i=>hf _)
theorem y42 {s:QA} (h:M15 s=true) (q:0<=s.d I M):False:=by
 unfold M15 at h;rw [z0,z0] at h;unfold QA.d at q;rw [l29 _ h.1.1,Int.zero_add] at q;exact Int.not_le.mpr (of_decide_eq_true h.2) (Int.le_trans q (Int.le_trans (Int.add_le_add_right (z32 _ h.1.2 _ fun i=>Int.natCast_nonneg _) _) (Int.le_of_eq (Int.zero_add _))))
theorem QF.ok (f:QF) {c:Int} {s:QA} (hc:f.eq=true\/0<=c) (h:f.d I M) (q:0<=s.d I M):0<=(f.p c s).d I M:=by
 have ge: ∀{x y:Int},¬x<=y->y<x:=Int.not_le.mp;cases f with
 | l x y=>rw [QF.p,QN.ok,QN.ok];exact Z13 (hc.resolve_left Bool.false_ne_true) (Int.ofNat_le.mpr h) q
 | s x y=>rw [QF.p,z19,QN.ok,QN.ok];exact Q9 (hc.resolve_left Bool.false_ne_true) (Int.ofNat_lt.mpr h) q
 | e x y=>rw [QF.p,QN.ok,QN.ok];exact H16 (congrArg Int.ofNat h) q
 | nl x y=>rw [QF.p,z19,QN.ok,QN.ok];exact Q9 (hc.resolve_left Bool.false_ne_true) (Int.ofNat_lt.mpr (Nat.lt_of_not_le h)) q
 | ns x y=>rw [QF.p,QN.ok,QN.ok];exact Z13 (hc.resolve_left Bool.false_ne_true) (Int.ofNat_le.mpr (Nat.le_of_not_lt h)) q
 | L x y=>rw [QF.p,QZ.ok,QZ.ok];exact Z13 (hc.resolve_left Bool.false_ne_true) h q
 | S x y=>rw [QF.p,z19,QZ.ok,QZ.ok];exact Q9 (hc.resolve_left Bool.false_ne_true) h q
 | E x y=>rw [QF.p,QZ.ok,QZ.ok];exact H16 h q
 | nL x y=>rw [QF.p,z19,QZ.ok,QZ.ok];exact Q9 (hc.resolve_left Bool.false_ne_true) (ge h) q
 | nS x y=>rw [QF.p,QZ.ok,QZ.ok];exact Z13 (hc.resolve_left Bool.false_ne_true) (Int.not_lt.mp h) q
 | f=>exact h.elim
theorem QF.T16 (f:QF) (hg:f.goal=true) (h: ¬f.d I M) {c:Int} {s:QA} (hc:0<=c) (q:0<=s.d I M):0<=(f.neg.p c s).d I M:=by
 cases f with
 | l x y=>exact (QF.nl x y).ok (.inr hc) h q
 | s x y=>exact (QF.ns x y).ok (.inr hc) h q
 | L x y=>exact (QF.nL x y).ok (.inr hc) h q
 | S x y=>exact (QF.nS x y).ok (.inr hc) h q
 | f=>exact q
 | _=>cases hg
theorem QH.ok (r:QH): ∀s:QA,0<=s.d I M->r.p s=true->r.d I M:=by
 induction r with
 | o c f=>
  intro s q h;rw [QH.p,z0,z0] at h;exact Classical.byContradiction fun n=>y42 h.2 (f.T16 h.1.1 n (of_decide_eq_true h.1.2) q)
 | h c f r ih=>
  intro s q h hf;rw [QH.p,z0,Bool.or_eq_true] at h;exact ih _ (f.ok (h.1.imp id of_decide_eq_true) hf q) h.2
end
theorem qd1 (x k:Nat):k*(x / k)<=x:=Nat.mul_div_le x k
theorem qd2 (x k:Nat) (h:Nat.blt 0 k=true):x<k*(x / k)+k:=Nat.lt_mul_div_succ x (Nat.le_of_ble_eq_true h)
theorem qm1 (x k:Nat) (h:Nat.blt 0 k=true):x % k<k:=Nat.mod_lt _ (Nat.le_of_ble_eq_true h)
theorem Qd1 (x:Int) (k:Int) (h:decide (0<k)=true):k*(x / k)<=x:=Int.mul_ediv_self_le (Int.ne_of_gt (of_decide_eq_true h))
theorem Qd2 (x:Int) (k:Int) (h:decide (0<k)=true):x<k*(x / k)+k:=Int.lt_mul_ediv_self_add (of_decide_eq_true h)
theorem Qm1 (x:Int) (k:Int) (h:decide (0<k)=true):0<=x % k:=Int.emod_nonneg _ (Int.ne_of_gt (of_decide_eq_true h))
theorem Qm2 (x:Int) (k:Int) (h:decide (0<k)=true):x % k<k:=Int.emod_lt_of_pos _ (of_decide_eq_true h)
theorem Qcd (n k:Nat):((n / k:Nat):Int)=(n:Int) / (k:Int):=rfl
theorem Qcm (n k:Nat):((n % k:Nat):Int)=(n:Int) % (k:Int):=rfl
theorem J16 {x k:Int} (h:0<x/\x<=k) (e:decide (k<9223372036854775808)=true): -9223372036854775808<x/\x<9223372036854775808:=⟨Int.lt_trans (by decide) h.1,Int.lt_of_le_of_lt h.2 (of_decide_eq_true e)⟩
theorem K16 {x k:Int} (h:0<=x/\x<=k) (e:decide (k<9223372036854775808)=true): -9223372036854775808<x/\x<9223372036854775808:=⟨Int.lt_of_lt_of_le (by decide) h.1,Int.lt_of_le_of_lt h.2 (of_decide_eq_true e)⟩
theorem fk (h:QH) (I:List Int) (M:List Nat) (e:h.p ⟨[],[],0⟩=true):h.d I M:=h.ok ⟨[],[],0⟩ (Int.le_refl 0) e
noncomputable def κ0:QH:=s!"hLn1AoLn0A"
noncomputable def κ1:QH:=s!"oLn0wA"
noncomputable def κ2:QH:=s!"h-zABhyCBoyCA"
noncomputable def κ3:QH:=s!"hSn0AoSn0A"
noncomputable def κ4:QH:=s!"h-zAaAn1o0F"
noncomputable def κ5:QH:=s!"hSn0AoLn0A"
noncomputable def κ6:QH:=s!"oLaaABCaaACB"
noncomputable def κ7:QH:=s!"h-zl8Aal12Bn4h12xCBh4xl2Dl3Co8xDA"
noncomputable def κ8:QH:=s!"hyn0Aoxn1A"
noncomputable def κ9:QH:=s!"h8xAn16777216h-zl8Aal12Bn4h12xCBo12SwCn2^63"
noncomputable def κ10:QH:=s!"hxaABCoxAC"
noncomputable def κ11:QH:=s!"hLn0AoLn0an1A"
noncomputable def κ12:QH:=s!"h20zAaBn1hxaCl20aBn1n980oyCn1000"
noncomputable def κ13:QH:=s!"hzaAaBn1aCn1h-zaDBaCn1oyAD"
noncomputable def κ14:QH:=s!"hxABoxaAn1aBn1"
noncomputable def κ15:QH:=s!"hLn0aawAgwBgn1hLn0agwAwBo0F"
noncomputable def κ16:QH:=s!"hzAn11oxAn16777216"
noncomputable def κ17:QH:=s!"hLAn10000oLAn1000000"
noncomputable def κ18:QH:=s!"hxAn256oxAn100000"
noncomputable def κ19:QH:=s!"hLn0agwAwBhLn0aawAgwBgn1o0F"
noncomputable def κ20:QH:=s!"h8xAn16777216h-zl8Al32Bh32xCBo32SwCn2^63"
noncomputable def κ21:QH:=s!"hSAn1000000000oSAn2^40"
noncomputable def κ22:QH:=s!"h-8EwAAhzl8Al16Bh-EBl16wChSBr8Ao16Ln0aawBgwCgn1"
noncomputable def κ23:QH:=s!"h-8EwAAhzl8Al32Bh-EBl32wChSBr8Ao32Ln0aawBgwCgn1"
noncomputable def QF.le:QF->QF
 | .e x y=> .l x y
 | .E x y=> .L x y
 | z=>z
noncomputable def QF.ge:QF->QF
 | .e x y=> .l y x
 | .E x y=> .L y x
 | z=>z
noncomputable def QH.le:QH->QH
 | .o c f=> .o c f.le
 | .h c f r=> .h c f r.le
noncomputable def QH.ge:QH->QH
 | .o c f=> .o c f.ge
 | .h c f r=> .h (-c) f r.ge
theorem QH.both {I:List Int} {M:List Nat} (q:QH):q.le.d I M->q.ge.d I M->q.d I M:=by
 induction q with
 | o c f=>cases f with
  | e x y=>exact r0
  | E x y=>exact t0
  | _=>exact fun a _=>a
 | h c f r ih=>exact fun a b h=>ih (a h) (b h)
theorem fe (q:QH) (I:List Int) (M:List Nat) (e:(q.le.p ⟨[],[],0⟩&&q.ge.p ⟨[],[],0⟩)=true):q.d I M:=q.both (fk _ I M ((z0 _ _).mp e).1) (fk _ I M ((z0 _ _).mp e).2)
theorem ng {G:Prop} (h:(G->False)->False):G:=Classical.byContradiction h
theorem ide {α β:Type} {E:α->β->Prop}: ∀a b,E a b->E a b:=fun a b x=>x
theorem U0 {α1:Type} {A1 A2:α1->Prop} {g:Prop} (h: ∃x1,A1 x1/\A2 x1) (k: ∀x1,A1 x1->A2 x1->g):g:=h.elim fun x1 q=>k x1 q.1 q.2
theorem T12 {α1:Type} {A1 A2 A3:α1->Prop} {g:Prop} (h: ∃x1,A1 x1/\A2 x1/\A3 x1) (k: ∀x1,A1 x1->A2 x1->A3 x1->g):g:=h.elim fun x1 q=>k x1 q.1 q.2.1 q.2.2
theorem H9 {α1 α2:Type} {A1 A2 A3 A4:α1->α2->Prop} {g:Prop} (h: ∃x1,∃x2,A1 x1 x2/\A2 x1 x2/\A3 x1 x2/\A4 x1 x2) (k: ∀x1 x2,A1 x1 x2->A2 x1 x2->A3 x1 x2->A4 x1 x2->g):g:=h.elim fun x1 q=>q.elim fun x2 q=>k x1 x2 q.1 q.2.1 q.2.2.1 q.2.2.2
theorem Y9 {α1 α2 α3:Type} {A1:α1->α2->α3->Prop} {g:Prop} (h: ∃x1,∃x2,∃x3,A1 x1 x2 x3) (k: ∀x1 x2 x3,A1 x1 x2 x3->g):g:=h.elim fun x1 q=>q.elim fun x2 q=>q.elim fun x3 q=>k x1 x2 x3 q
noncomputable def J12:Nat->Nat->List Nat->List Nat
 | 0,_,acc=>acc
 | f+1,n,acc=>if n=0 then acc else J12 f (n / 128) (n % 128::acc)
noncomputable def W6 (l:List Nat):Nat:=l.foldl (fun s d=>s*128+d) 0
noncomputable def N (n:Nat):Str:=⟨(J12 (n+1) n []).toArray⟩
set_option tactic.hygienic true in
theorem b19: ∀(f n:Nat) (acc:List Nat),n<128^f->W6 (J12 f n acc)=n*128^acc.length+W6 acc:=by
 intro f
 induction f with
 | zero=>intro n acc h;simp at h;subst h;show W6 acc=0*_+_;rw [Nat.zero_mul,Nat.zero_add]
 | succ f ih=>
  intro n acc h;show W6 (if n=0 then acc else J12 f (n / 128) (n % 128::acc))=_
  split
  ·rename_i h0;subst h0;simp
  ·rw [ih]
   ·have e:W6 (n % 128::acc)=(n % 128)*128^acc.length+W6 acc:=by
     have g: ∀(l:List Nat) (s:Nat),l.foldl (fun s d=>s*128+d) s=s*128^l.length+l.foldl (fun s d=>s*128+d) 0:=by
      intro l
      induction l with
      | nil=>intro s;simp
      | cons a l ih2=>intro s;rw [List.foldl_cons,ih2,List.foldl_cons,ih2 (0*128+a),List.length_cons,Nat.pow_succ,Nat.add_mul];simp only [Nat.zero_mul,Nat.zero_add];rw [Nat.mul_assoc,Nat.mul_comm 128];(exact fe (.o 1 (.e (.a (.a (.v 0) (.v 1)) (.v 2)) (.a (.v 0) (.a (.v 1) (.v 2))))) [] [_,_,_] rfl)
     show (n % 128::acc).foldl (fun s d=>s*128+d) 0=_;rw [List.foldl_cons,g];simp [W6]
    rw [e,List.length_cons,Nat.pow_succ,<-Nat.add_assoc];congr 1;have hd:=o0 n 128;generalize n / 128=q at*;generalize n % 128=r at*;subst hd;rw [Nat.add_mul,Nat.mul_comm 128 q,Nat.mul_assoc,Nat.mul_comm 128]
   ·rw [Nat.pow_succ] at h;exact Nat.div_lt_of_lt_mul (by rw [Nat.mul_comm];exact h)
theorem o14 {a b:Nat} (h:N a=N b):a=b:=by
 have lt (n:Nat):n<128^(n+1):=by
  induction n with
  | zero=>simp
  | succ n ih=>rw [Nat.pow_succ];(exact fk s!"h128yABoyaAn1r128B" [] [_,_] rfl ih)
 have e:J12 (a+1) a []=J12 (b+1) b []:=by
  have:=congrArg (fun s:Str=>s.cps.toList) h;simpa [N] using this
 have h1:=b19 (a+1) a [] (lt a);have h2:=b19 (b+1) b [] (lt b);rw [e,h2] at h1;simpa [W6] using h1.symm
theorem z54 {a b:Nat}:(N a=N b)=(a=b):=propext ⟨o14,fun h=>h▸rfl⟩
inductive AV
 | none | bool (b:Bool) | int (i:Int) | str (s:Str) | bytes (l:List UInt8) | type (n:String) | builtin (n:String) | ref (a:Nat) | other
 deriving DecidableEq,Inhabited
noncomputable def ab:Value->AV
 | .none=> .none
 | .bool b=> .bool b
 | .int i _=> .int i
 | .str s _=> .str s
 | .bytes b _=> .bytes b.toList
 | .type n=> .type n
 | .builtin n=> .builtin n
 | .ref a=> .ref a
 | _=> .other
theorem o10 {V:Value} {i:Int} (h:ab V= .int i): ∃t,.int i t=V:=by cases V with | int j t=>exact ⟨t,congrArg (Value.int · t) (AV.int.inj h).symm⟩ | _=>exact AV.noConfusion h
theorem p11 {V:Value} {x:Str} (h:ab V= .str x): ∃t,.str x t=V:=by cases V with | str j t=>exact ⟨t,congrArg (Value.str · t) (AV.str.inj h).symm⟩ | _=>exact AV.noConfusion h
theorem h11 {V:Value} {l:List UInt8} (h:ab V= .bytes l): ∃t,.bytes l.toArray t=V:=by cases V with | bytes j t=>exact ⟨t,congrArg (fun l=>Value.bytes l.toArray t) (AV.bytes.inj h).symm⟩ | _=>exact AV.noConfusion h
theorem a33 {V:Value} {b:Bool} (h:ab V= .bool b): .bool b=V:=by cases V with | bool j=>exact congrArg Value.bool (AV.bool.inj h).symm | _=>exact AV.noConfusion h
theorem x13 {V:Value} (h:ab V= .none): .none=V:=by cases V with | none=>rfl | _=>exact AV.noConfusion h
theorem t10 {V:Value} {a:Nat} (h:ab V= .ref a): .ref a=V:=by cases V with | ref j=>exact congrArg Value.ref (AV.ref.inj h).symm | _=>exact AV.noConfusion h
theorem x11 {V:Value} {n:String} (h:ab V= .type n): .type n=V:=by cases V with | type j=>exact congrArg Value.type (AV.type.inj h).symm | _=>exact AV.noConfusion h
theorem d11 {V:Value} {n:String} (h:ab V= .builtin n): .builtin n=V:=by cases V with | builtin j=>exact congrArg Value.builtin (AV.builtin.inj h).symm | _=>exact AV.noConfusion h
noncomputable abbrev NS:=List (Nat×AV)
inductive W0
 | inst (C:Nat) (fs:NS)
 | exc (C:Value) (cx:Bool) (fs:NS)
 | list (xs:List AV)
 | tuple (xs:List AV)
 | dictS (es:NS)
 | dictI (es:List (Int×AV))
 | bytearray (l:List UInt8)
 | cell (v:Option AV)
 | range (a b c:Int)
 | listIter (l:Nat) (i:Nat)
 | rangeIter (x left step:Int)
 | seqIter (cls:String) (x:AV) (i:Nat)
 | gen (k:Nat)
 | genS (k:Nat) (y:GenState) (L:Nat) (l:NS)
 | zip (l m:Nat)
 | fields (cls:String) (vs:List AV)
 | enum (l:Nat) (i:Nat)
 | dictK (es:NS) (ep:Nat)
 | keyIter (d i n ep:Nat)
 deriving Inhabited
structure St where
 h:Nat->Option W0
 loc:NS
 deriving Inhabited
def NsA (h:Heap) (d:Nat) (l:NS):Prop:= ∃m,h.Ns d m/\ ∀c v,l.lookup c=some v-> ∃V,m (N c)=some V/\ab V=v
noncomputable def holders:List String:=["bytearray.__contains__","bytearray.__mod__","bytearray.__rmod__","_struct.pack_into.held","bytearray.find.held"]++Builtin.Bytes.decodersThatHold
noncomputable def okC:Code->Bool | .builtin id _=>!(holders.contains id) | _=>true
def Below (Γ:Ctx):Prop:= ∀x∈Γ.below,okC x.1=true
def wpZ (Z:Bool) {α:Type} (M:Model) (A:Around) (t:Sem α) (Q:α->Shared->Prop) (E:Value->Shared->Prop) (s:Shared):Prop:=
 ∀Γ p,Γ.In A->(Z=true->okC Γ.code=true/\Below Γ)->Sem.wp M Γ t (fun a _ s'=>Q a s') (fun e _ s'=>E e s') p s
def K1 (Z:Bool) (M:Model) (A:Around) (c:Code) (R:Result->Shared->Prop) (s:Shared):Prop:=
 ∀Γ p,Γ.code=c->Γ.Below A->(Z=true->Below Γ)->wpCode M Γ R p s
section
variable {Z:Bool} {α β:Type} {M:Model} {A:Around} {E:Value->Shared->Prop} {s:Shared} {env:Env}
theorem of {t:Sem α} {Q:α->Shared->Prop} (h:wpAny M A t Q E s):wpZ Z M A t Q E s:=fun Γ p hΓ _=>h Γ p hΓ
theorem ofC {c:Code} {R:Result->Shared->Prop} (h:codeAny M A c R s):K1 Z M A c R s:=fun Γ p hc hΓ _=>h Γ p hc hΓ
theorem Q8 {t:Sem α} {Q:α->Shared->Prop} (h:wpZ false M A t Q E s):wpAny M A t Q E s:=fun Γ p hΓ=>h Γ p hΓ (fun z=>by cases z)
theorem Y8 {c:Code} {R:Result->Shared->Prop} (h:K1 false M A c R s):codeAny M A c R s:=fun Γ p hc hΓ=>h Γ p hc hΓ (fun z=>by cases z)
theorem c10 {t:Sem α} {Q Q':α->Shared->Prop} {E':Value->Shared->Prop} (h:wpZ Z M A t Q E s) (hQ: ∀a s,Q a s->Q' a s) (hE: ∀e s,E e s->E' e s):wpZ Z M A t Q' E' s:=
 fun Γ p hΓ hz=>Sem.wp_mono M Γ t (fun a _ s=>hQ a s) (fun e _ s=>hE e s) p s (h Γ p hΓ hz)
theorem a10 {m:Sem α} {f:α->Sem β} {Q:β->Shared->Prop} (h:wpZ Z M A m (fun a s'=>wpZ Z M A (f a) Q E s') E s):wpZ Z M A (m>>=f) Q E s:=fun Γ p hΓ hz=>by
 rw [Sem.wp_bind'];exact Sem.wp_mono M Γ m (fun a p' s' h'=>h' Γ p' hΓ hz) (fun _ _ _ h'=>h') p s (h Γ p hΓ hz)
theorem m10 {a:α} {Q:α->Shared->Prop} (h:Q a s):wpZ Z M A (pure a) Q E s:=of (m0 h)
theorem p12 {m:Sem α} {k:Value->Sem Unit} {Q:α->Shared->Prop} (h:wpZ Z M A m Q (fun e s'=>wpZ Z M A (k e) (fun _ s''=>E e s'') E s') s):wpZ Z M A (m.onRaise k) Q E s:=fun Γ p hΓ hz=>by
 rw [Sem.wp_onRaise];exact Sem.wp_mono M Γ m (fun _ _ _ h'=>h') (fun e p' s' h'=>h' Γ p' hΓ hz) p s (h Γ p hΓ hz)
theorem w16 {m:Sem α} {Q:Except Value α->Shared->Prop} (h:wpZ Z M A m (fun a=>Q (.ok a)) (fun e=>Q (.error e)) s):wpZ Z M A m.attempt Q E s:=fun Γ p hΓ hz=>by rw [Sem.wp_attempt];exact h Γ p hΓ hz
theorem j10 {vs:List Value} {m:Sem α} {Q:α->Shared->Prop} (h:wpZ Z M A m Q E s):wpZ Z M A (holding vs m) Q E s:=fun Γ p hΓ hz=>by rw [Sem.wp_holding];exact h Γ p hΓ hz
theorem y11 {vs:List Value} {m:Sem Value} {Q:Value->Shared->Prop} (h:wpZ Z M A m Q E s):wpZ Z M A (operate vs m) Q E s:=fun Γ p hΓ hz=>by rw [Sem.wp_operate];exact h Γ p hΓ hz
theorem h14 {x:Str} {v:Value} {Q:Unit->Shared->Prop} (h:wpZ Z M A (storeName env x v) Q E s):wpZ Z M A (bindName env x v) Q E s:=fun Γ p hΓ hz=>by rw [Sem.wp_bindName];exact h Γ p hΓ hz
theorem r10 {p':Pos} {k:Unit->Sem α} {Q:α->Shared->Prop} (h:wpZ Z M A (k ()) Q E s):wpZ Z M A (standAt p'>>=k) Q E s:=a10 (of (wpAny_standAt h))
theorem p22 {vs keep:List Value} {k:Unit->Sem α} {Q:α->Shared->Prop} (h:wpZ Z M A (k ()) Q E s):wpZ Z M A (release vs keep>>=k) Q E s:=a10 (of (wpAny_release h))
theorem b33 {t:Sem α} {a:α} {k:α->Sem β} {Q:β->Shared->Prop} (e:t=pure a) (h:wpZ Z M A (k a) Q E s):wpZ Z M A (t>>=k) Q E s:=a10 (of (wpAny_of_eq e h))
theorem m41 {c:Code} {h:Option Value} {Q:Flow->Shared->Prop} (hc:K1 Z M (A.mark h) c (fun r s'=>match r with | .ok f=>Q f s' | .error e=>E e s') s) (hnb:h≠some byPass:=by intro x;cases x):wpZ Z M A (run c h) Q E s:=
 fun Γ p hΓ hz=>by
  rw [Sem.wp_run];refine hc _ p rfl (hΓ.enter c h p hnb) fun z x hx=>?_;rcases List.mem_cons.mp hx with rfl | hx
  ·exact (hz z).1
  ·exact (hz z).2 x hx
theorem m29 {c:Code} {Q:Value->Shared->Prop} (hc:K1 Z M A c (fun r s'=>match r with | .ok (.ret v)=>Q v s' | .ok _=>False | .error e=>E e s') s):wpZ Z M A (runValue c) Q E s:=
 fun Γ p hΓ hz=>by
  rw [Sem.wp_runValue];refine hc _ p rfl (hΓ.enter c none p (by intro x;cases x)) fun z x hx=>?_;rcases List.mem_cons.mp hx with rfl | hx
  ·exact (hz z).1
  ·exact (hz z).2 x hx
theorem q22 {f:Value} {pos:List Value} {kw:List (Str×Value)} {Q:Value->Shared->Prop} (hc:K1 Z M A (.call f ⟨pos,kw⟩) (fun r s'=>match r with | .ok (.ret v)=>Q v s' | .ok _=>False | .error e=>E e s') s):wpZ Z M A (call f pos kw) Q E s:=m29 hc
theorem g13 {c:Code} {R R':Result->Shared->Prop} (h:K1 Z M A c R s) (hR: ∀r s,R r s->R' r s):K1 Z M A c R' s:=fun Γ p hc hΓ hz=>wpCode_mono hR (h Γ p hc hΓ hz)
theorem j11 {c:Code} {R:Result->Shared->Prop} (hk:okC c=true)
  (h:wpZ Z M (A.under c) (M.den c) (fun fin s'=>match fin with | .done f=>R (.ok f) s' | .again c'=>c'.quiet=true/\K1 Z M A c' R s') (fun e s'=>R (.error e) s') s):K1 Z M A c R s:=fun Γ p hc hΓ hz=>by
 rw [wpCode_iff_wp,hc];refine Sem.wp_mono M Γ _ (fun fin p' s' h'=>?_) (fun _ _ _ h'=>h') p s (h Γ p (hc▸hΓ.in) fun z=>⟨by rw [hc];exact hk,hz z⟩);cases fin with
 | done f=>exact h'
 | again c'=>exact ⟨h'.1,h'.2 (Γ.goto c') p' rfl (hΓ.goto c') hz⟩
theorem l15 {c:Code} {R:Result->Shared->Prop} (hk:okC c=true) (hq:c.quiet=true) (I:Nat->Shared->Prop)
  (turn: ∀n s,I n s->wpZ Z M (A.under c) (M.den c) (fun fin s'=>match fin with | .done f=>R (.ok f) s' | .again c'=>(c'=c/\ ∃m,m<n/\I m s')\/(c'.quiet=true/\K1 Z M A c' R s')) (fun e s'=>R (.error e) s') s)
  (n:Nat) (h:I n s):K1 Z M A c R s:=by
 induction n using Nat.strongRecOn generalizing s with
 | ind n ih=>
  refine j11 hk (c10 (turn n s h) (fun fin s' hf=>?_) fun _ _ h'=>h');cases fin with
  | done f=>exact hf
  | again c'=>
   rcases hf with ⟨rfl,m,hm,hI⟩ | ⟨h1,h2⟩
   ·exact ⟨hq,ih m hm hI⟩
   ·exact ⟨h1,h2⟩
theorem m16 {c:Code} {h:Option Value} {Q:Flow->Shared->Prop} (hc:K1 Z M (A.mark h) c (fun r s'=>match r with | .ok f=>Q f s' | .error e=>cameBackBy M A env E e s') s) (hnb:h≠some byPass:=by intro x;cases x):wpZ Z M A (runOwn c env h) Q E s:=by
 unfold runOwn;refine p12 (c10 (m41 (E:=cameBackBy M A env E) hc hnb) (ide) fun e s' x=>?_);exact of x
theorem p14 {m:Sem α} {Q:α->Shared->Prop} (h:wpZ Z M A m Q (notedBy M A env E) s):wpZ Z M A (m.onRaise fun x=>do noteFrame x env;theTreesLotGoes x) Q E s:=
 p12 (c10 h (fun _ _ q=>q) fun _ _ hx=>of (d0 (wpAny_mono hx (fun _ _ e=>wpAny_theTreesLotGoes e) fun _ _ e=>e)))
end
section
variable {Z:Bool} {M:Model} {A:Around} {E:Value->Shared->Prop} {s:Shared} {env:Env}
theorem n41 {x:Str} {pos:Pos} {Q:Value->Shared->Prop} (h:wpZ Z M A (loadName env x) Q E s) (hd:(x==("__debug__":Str))=false):wpZ Z M A (eval (.Name x pos) env) Q E s:=by
 rw [eval_Name env x pos hd];exact r10 h
theorem z42 {l r:Expr} {op:Operator} {pos:Pos} {Q:Value->Shared->Prop}
  (h:wpZ Z M A (eval l env) (fun a s1=>wpZ Z M A (eval r env) (fun b s2=>wpZ Z M A (binaryOp op a b) Q E s2) E s1) E s):wpZ Z M A (eval (.BinOp l op r pos) env) Q E s:=by
 rw [eval_BinOp];exact a10 (c10 h (fun a s1 h1=>a10 (j10 (c10 h1 (fun b s2 h2=>r10 (y11 h2)) ide))) ide)
theorem c33 {op:UnaryOp} {x:Expr} {pos:Pos} {Q:Value->Shared->Prop} (h:wpZ Z M A (eval x env) (fun v s1=>wpZ Z M A (unaryOp op v) Q E s1) E s):wpZ Z M A (eval (.UnaryOp op x pos) env) Q E s:=by
 rw [arm_eval_UnaryOp];exact a10 (c10 h (fun v s1 h1=>r10 (j10 h1)) ide)
theorem n29 {l r:Expr} {op:CmpOp} {pos:Pos} {Q:Value->Shared->Prop}
  (h:wpZ Z M A (eval l env) (fun a s1=>wpZ Z M A (eval r env) (fun b s2=>wpZ Z M A (compareOp op a b) Q E s2) E s1) E s) (hm:behindInMarks op r=false):wpZ Z M A (eval (.Compare l [op] [r] pos) env) Q E s:=by
 rw [eval_Compare1];refine a10 (c10 h (fun a s1 h1=>?_) ide);simp only [markedBehindIn_of_false hm];exact a10 (j10 (c10 h1 (fun b s2 h2=>r10 (y11 h2)) ide))
theorem a43 {test body orelse:Expr} {pos:Pos} {Q:Value->Shared->Prop}
  (h:wpZ Z M A (isTrue test env (eval test env)) (fun b s1=>if b then wpZ Z M A (eval body env) Q E s1 else wpZ Z M A (eval orelse env) Q E s1) E s):wpZ Z M A (eval (.IfExp test body orelse pos) env) Q E s:=by
 rw [arm_eval_IfExp];refine a10 (c10 h (fun b s1 h1=>?_) ide);cases b<;>exact h1
theorem r22 {x:Expr} {pos:Pos} {whole:Sem Value} {Q:Bool->Shared->Prop} (h:wpZ Z M A (isTrue x env (eval x env)) (fun b s1=>Q (!b) s1) E s):wpZ Z M A (isTrue (.UnaryOp .Not x pos) env whole) Q E s:=by
 rw [arm_isTrue_UnaryOp];exact a10 (c10 h (fun b s1 h1=>m10 h1) ide)
theorem m15 {l r:Expr} {op:CmpOp} {pos:Pos} {whole:Sem Value} {Q:Bool->Shared->Prop}
  (h:wpZ Z M A (eval l env) (fun a s1=>wpZ Z M A (eval r env) (fun b s2=>wpZ Z M A (compareOp op a b) (fun c s3=>wpZ Z M A (truthy c) Q E s3) E s2) E s1) E s) (hm:behindInMarks op r=false):wpZ Z M A (isTrue (.Compare l [op] [r] pos) env whole) Q E s:=by
 rw [isTrue_Compare1];refine a10 (c10 h (fun a s1 h1=>?_) ide);simp only [markedBehindIn_of_false hm];exact a10 (j10 (c10 h1 (fun b s2 h2=>r10 (a10 (y11 (c10 h2 (fun c s3 h3=>j10 h3) ide)))) ide))
theorem x16 {op:BoolOp} {values:List Expr} {pos:Pos} {whole:Sem Value} {Q:Bool->Shared->Prop} (h:wpZ Z M A (allTrue op values env) Q E s):wpZ Z M A (isTrue (.BoolOp op values pos) env whole) Q E s:=by rw [arm_isTrue_BoolOp];exact h
theorem t22 {x:Expr} {rest:List Expr} {Q:Bool->Shared->Prop} (h:wpZ Z M A (isTrue x env (eval x env)) (fun b s1=>if b then Q true s1 else wpZ Z M A (allTrue .Or rest env) Q E s1) E s):wpZ Z M A (allTrue .Or (x::rest) env) Q E s:=by
 show wpZ Z M A (do match BoolOp.Or,<-isTrue x env (eval x env) with | .And,false=>pure false | .Or,true=>pure true | _,_=>allTrue .Or rest env) Q E s;refine a10 (c10 h (fun b s1 h1=>?_) ide);cases b
 ·exact h1
 ·exact m10 h1
theorem a20 {x:Expr} {rest:List Expr} {Q:Bool->Shared->Prop} (h:wpZ Z M A (isTrue x env (eval x env)) (fun b s1=>if b then wpZ Z M A (allTrue .And rest env) Q E s1 else Q false s1) E s):wpZ Z M A (allTrue .And (x::rest) env) Q E s:=by
 show wpZ Z M A (do match BoolOp.And,<-isTrue x env (eval x env) with | .And,false=>pure false | .Or,true=>pure true | _,_=>allTrue .And rest env) Q E s;refine a10 (c10 h (fun b s1 h1=>?_) ide);cases b
 ·exact m10 h1
 ·exact h1
theorem v22 {pos:Pos} {e:Expr} {rest:List Expr} {Q:List Value->Shared->Prop}
  (h:wpZ Z M A (eval e env) (fun v s1=>wpZ Z M A (spliced (backTo pos (starEach rest env))) (fun vs s2=>Q (v::vs) s2) E s1) E s) (he:starEach (e::rest) env=(false,eval e env)::starEach rest env):wpZ Z M A (spliced (backTo pos (starEach (e::rest) env))) Q E s:=by
 rw [he];show wpZ Z M A (do
  let v<-eval e env
  let here<-(pure [v]:Sem (List Value))
  return here++(<-holding here (spliced (backTo pos (starEach rest env))))) Q E s
 exact a10 (c10 h (fun v s1 h1=>a10 (m10 (a10 (j10 (c10 h1 (fun vs s2 h2=>m10 h2) ide))))) ide)
theorem b43 {elts:List Expr} {k:Nat} {pos:Pos} {Q:Value->Shared->Prop}
  (h:wpZ Z M A (spliced (backTo pos (starEach elts env))) (fun vs s1=>vs.length<=sizeLine/\Q (.ref s1.heap.objs.size) {s1 with heap:=s1.heap.push {cls:= .type "tuple",data:= .seq vs.toArray}}) E s):wpZ Z M A (eval (.Tuple elts k pos) env) Q E s:=by
 rw [arm_eval_Tuple];exact r10 (a10 (c10 h (fun vs s1 h1=>of (wpAny_newObj_type h1.2 (by show vs.toArray.size<=sizeLine;rw [List.size_toArray];exact h1.1))) ide))
theorem s47 {elts:List Expr} {pos:Pos} {Q:Value->Shared->Prop}
  (h:wpZ Z M A (spliced (backTo pos (starEach elts env))) (fun vs s1=>vs.length<=sizeLine/\Q (.ref s1.heap.objs.size) {s1 with heap:=s1.heap.push {cls:= .type "list",data:= .seq vs.toArray}}) E s):wpZ Z M A (eval (.List elts pos) env) Q E s:=by
 rw [arm_eval_List];exact r10 (a10 (c10 h (fun vs s1 h1=>of (wpAny_newObj_type h1.2 (by show vs.toArray.size<=sizeLine;rw [List.size_toArray];exact h1.1))) ide))
theorem d33 {lower upper step:Option Expr} {p:Pos} {Q:Value->Shared->Prop}
  (h:wpZ Z M A (evalPart lower env) (fun l s1=>wpZ Z M A (evalPart upper env) (fun u s2=>wpZ Z M A (evalPart step env) (fun st s3=>Q (.ref s3.heap.objs.size) {s3 with heap:=s3.heap.push {cls:= .type "slice",data:= .fields #[l,u,st]}}) E s2) E s1) E s):wpZ Z M A (eval (.Slice lower upper step p) env) Q E s:=by
 rw [arm_eval_Slice];refine a10 (c10 h (fun l s1 h1=>a10 (j10 (c10 h1 (fun u s2 h2=>a10 (j10 (c10 h2 (fun st s3 h3=>?_) ide))) ide))) ide);exact of (wpAny_newObj_type h3)
theorem k25 {v:Value} {Q:Value->Shared->Prop} (h:wpZ Z M A (truthy v) (fun b s1=>Q (.bool (!b)) s1) E s):wpZ Z M A (unaryOp .Not v) Q E s:=by
 unfold unaryOp;refine j10 ?_;show wpZ Z M A (do return .bool (!(<-truthy v))) Q E s;exact a10 (c10 h (fun b s1 h1=>m10 h1) ide)
theorem w22 {st:Stmt} {rest:List Stmt} {Q:Flow->Shared->Prop} (h:wpZ Z M A (exec st env) (fun f s'=>match f with | .next=>wpZ Z M A (execs rest env) Q E s' | f=>Q f s') E s):wpZ Z M A (execs (st::rest) env) Q E s:=by
 rw [execs_cons];refine a10 (c10 h (fun f s1 h1=>?_) ide);cases f<;>first | exact h1 | exact m10 h1
theorem b20 {e:Expr} {pos:Pos} {Q:Flow->Shared->Prop} (h:wpZ Z M A (eval e env) (fun v=>Q (.ret v)) E s):wpZ Z M A (exec (.Return (some e) pos) env) Q E s:=by
 rw [exec_Return_some];exact r10 (a10 (c10 h (fun v s1 h1=>m10 h1) ide))
theorem e55 {test:Expr} {body orelse:List Stmt} {pos:Pos} {Q:Flow->Shared->Prop}
  (h:wpZ Z M A (isTrue test env (eval test env)) (fun b s2=>if b then wpZ Z M A (execs body env) Q E s2 else wpZ Z M A (execs orelse env) Q E s2) E s):wpZ Z M A (exec (.If test body orelse pos) env) Q E s:=by
 rw [exec_If];refine r10 (a10 (c10 h (fun b s1 h1=>?_) ide));cases b<;>exact h1
theorem c20 {x:Str} {pos:Pos} {v:Value} {Q:Unit->Shared->Prop} (h:wpZ Z M A (storeName env x v) Q E s):wpZ Z M A (assign (.Name x pos) env v) Q E s:=by
 rw [PySem.assign_Name];exact r10 (h14 h)
theorem y16 {targets:List Expr} {value:Expr} {pos:Pos} {Q:Flow->Shared->Prop}
  (h:wpZ Z M A (eval value env) (fun v s1=>wpZ Z M A (assignAll v ((assignEach targets env).map (·.2))) (fun _=>Q .next) E s1) E s)
  (hs:swapsWithSole targets value pos.line env=pure false) (hw:swappedStores targets value env=pure none):wpZ Z M A (exec (.Assign targets value pos) env) Q E s:=by
 rw [exec_Assign_arm];refine r10 ?_;rw [hs];refine a10 (m10 ?_);rw [if_neg (by decide)];refine a10 (c10 h (fun v s1 h1=>?_) ide);rw [hw];refine a10 (m10 ?_);show wpZ Z M A (do assignAll v ((assignEach targets env).map (·.2));pure .next) Q E s1;exact a10 (c10 h1 (fun _ _ x=>m10 x) ide)
theorem a16 {x:Str} {op:Operator} {value:Expr} {pos' pos:Pos} {Q:Flow->Shared->Prop}
  (h:wpZ Z M A (loadName env x) (fun old s1=>wpZ Z M A (eval value env) (fun v s2=>wpZ Z M A (inplaceOp op old v) (fun r s3=>wpZ Z M A (storeName env x r) (fun _=>Q .next) E s3) E s2) E s1) E s):wpZ Z M A (exec (.AugAssign (.Name x pos') op value pos) env) Q E s:=by
 rw [exec_AugAssign_Name];exact r10 (a10 (c10 h (fun old s1 h1=>a10 (j10 (c10 h1 (fun v s2 h2=>r10 (a10 (y11 (c10 h2 (fun r s3 h3=>r10 (a10 (h14 (c10 h3 (fun _ _ x=>m10 x) ide)))) ide)))) ide))) ide))
theorem b16 {o value:Expr} {attr:Str} {tpos pos:Pos} {op:Operator} {Q:Flow->Shared->Prop}
  (h:wpZ Z M A (eval o env) (fun ov s1=>wpZ Z M A (getAttr ov attr true) (fun old s2=>wpZ Z M A (eval value env) (fun v s3=>wpZ Z M A (inplaceOp op old v) (fun new s4=>wpZ Z M A (setAttr ov attr new) (fun _=>Q .next) E s4) E s3) E s2) E s1) E s):wpZ Z M A (exec (.AugAssign (.Attribute o attr tpos) op value pos) env) Q E s:=by
 have e:exec (.AugAssign (.Attribute o attr tpos) op value pos) env=(do
   standAt pos
   let ov<-eval o env
   let new<-holding [ov] do
    standAt tpos.atName
    let old<-getAttr ov attr true
    let v<-holding [old] (eval value env)
    standAt pos
    operate [old,v] (inplaceOp op old v)
   standAt tpos.atName
   holding [new,ov] (setAttr ov attr new)
   release [new,ov] []
   pure .next):=rfl
 rw [e];refine r10 (a10 (c10 h (fun ov s1 h1=>?_) ide));refine a10 (j10 (r10 (a10 (c10 h1 (fun old s2 h2=>?_) ide))));refine a10 (j10 (c10 h2 (fun v s3 h3=>?_) ide));refine r10 (y11 (c10 h3 (fun new s4 h4=>?_) ide));exact r10 (a10 (j10 (c10 h4 (fun _ _ h5=>p22 (m10 h5)) ide)))
theorem z16 {o i value:Expr} {tpos pos:Pos} {op:Operator} {Q:Flow->Shared->Prop}
  (h:wpZ Z M A (eval o env) (fun ov s1=>wpZ Z M A (eval i env) (fun iv s2=>wpZ Z M A (getItem ov iv) (fun old s3=>wpZ Z M A (eval value env) (fun v s4=>wpZ Z M A (inplaceOp op old v) (fun new s5=>wpZ Z M A (setItem ov iv new) (fun _=>Q .next) E s5) E s4) E s3) E s2) E s1) E s)
  (hi: ∀ov iv new,augStore i ov iv new=(do holding [new,ov,iv] (setItem ov iv new);release [new,ov,iv] [];pure .next)):wpZ Z M A (exec (.AugAssign (.Subscript o i tpos) op value pos) env) Q E s:=by
 have e:exec (.AugAssign (.Subscript o i tpos) op value pos) env=(do
   standAt pos
   let ov<-eval o env
   let iv<-holding [ov] (eval i env)
   let new<-holding [ov,iv] do
    standAt tpos
    let old<-getItem ov iv
    let v<-holding [old] (eval value env)
    standAt pos
    operate [old,v] (inplaceOp op old v)
   standAt tpos
   augStore i ov iv new):=rfl
 rw [e];refine r10 (a10 (c10 h (fun ov s1 h1=>?_) ide));refine a10 (j10 (c10 h1 (fun iv s2 h2=>?_) ide));refine a10 (j10 (r10 (a10 (c10 h2 (fun old s3 h3=>?_) ide))));refine a10 (j10 (c10 h3 (fun v s4 h4=>?_) ide));refine r10 (y11 (c10 h4 (fun new s5 h5=>?_) ide));refine r10 ?_;rw [hi];exact a10 (j10 (c10 h5 (fun _ _ h6=>p22 (m10 h6)) ide))
theorem c43 {test:Expr} {body orelse:List Stmt} {pos:Pos} {Q:Flow->Shared->Prop}
  (h:K1 Z M A (.whileLoop test body orelse env) (fun r s'=>match r with | .ok f=>Q f s' | .error e=>cameBackBy M A env E e s') s):wpZ Z M A (exec (.While test body orelse pos) env) Q E s:=by
 rw [exec_While];exact r10 (m16 h)
theorem t47 {target iter:Expr} {body orelse:List Stmt} {pos:Pos} {Q:Flow->Shared->Prop}
  (h:wpZ Z M A (eval iter env) (fun x s1=>wpZ Z M A (pyIter x) (fun it s2=>K1 Z M A (.forLoop target it body orelse env) (fun r s'=>match r with | .ok f=>Q f s' | .error e=>cameBackBy M A env E e s') s2) E s1) E s)
  (hs: ∀x,foldedSetIterable iter env x=pure x):wpZ Z M A (exec (.For target iter body orelse pos) env) Q E s:=by
 rw [exec_For];exact r10 (a10 (c10 h (fun x s1 h1=>b33 (hs x) (r10 (a10 (j10 (c10 h1 (fun it s2 h2=>m16 h2) fun _ _ h'=>h'))))) fun _ _ h'=>h'))
theorem l18 {e:Value} {Q:Flow->Shared->Prop} (h:wpZ Z M A (passOn "try.no-clause-matches" e env) Q E s):wpZ Z M A (handleBy e env []) Q E s:=by
 unfold handleBy;exact h
theorem a17 {e:Value} {t:Expr} {name:Option Str} {body:List Stmt} {pos:Pos} {rest:List ExceptHandler} {Q:Flow->Shared->Prop}
  (h:K1 Z M (A.mark (some e)) (.handlers e [.ExceptHandler (some t) none [] pos] env) (fun r s1=>match r with
   | .ok .brk=>K1 Z M (A.mark (some e)) (.handlers e [.ExceptHandler none name body pos] env) (fun r s2=>match r with
     | .ok f=>(match name with
      | none=>Q f s2
      | some n=>wpZ Z M A (do bindName env n .none;unbindBehindTheSuite env n pos) (fun _ s3=>Q f s3) E s2)
     | .error x=>cameBackBy M A env E x s2) s1
   | .ok _=>wpZ Z M A (handleBy e env rest) Q E s1
   | .error x=>cameBackBy M A env E x s1) s) (hnb:e≠byPass):wpZ Z M A (handleBy e env (.ExceptHandler (some t) name body pos::rest)) Q E s:=by
 rw [handleBy];have hnb':(some e:Option Value)≠some byPass:=fun x=>hnb (w5 x);refine a10 (j10 (m16 (g13 h (fun r s1 h1=>?_)) hnb'));cases r with
 | error x=>exact h1
 | ok f=>
  cases f with
  | brk=>
   refine a10 (m10 ?_);simp only [Bool.not_true,Bool.false_eq_true,if_false];refine a10 (j10 (m16 (g13 h1 (fun r s2 h2=>?_)) hnb'));cases r with
   | error x=>exact h2
   | ok f=>
    cases name with
    | none=>exact m10 h2
    | some n=>exact a10 (j10 (c10 h2 (fun _ s3 h3=>m10 h3) ide))
  | _=>
   refine a10 (m10 ?_);simp only [Bool.not_false,if_true];exact h1
theorem e33 {body orelse:Sem Flow} {h0:ExceptHandler} {hs:List ExceptHandler} {Q:Flow->Shared->Prop}
  (h:wpZ Z M A body (fun f s1=>match f with | .next=>wpZ Z M A orelse Q E s1 | f=>Q f s1) (fun e s1=>wpZ Z M A (noteFrame e env) (fun _ s2=>wpZ Z M A (setFlight e none) (fun _ s3=>wpZ Z M A (handleBy e env (h0::hs)) Q E s3) E s2) E s1) s):wpZ Z M A (tryStmt false body (h0::hs) orelse [] env) Q E s:=by
 unfold tryStmt;simp -iota only [List.isEmpty_nil,if_true,List.isEmpty_cons,Bool.false_and,Bool.false_eq_true,if_false];refine a10 (w16 (c10 h (fun f s1 h1=>?_) fun e s1 h1=>?_))
 ·cases f<;>first | exact h1 | exact m10 h1
 ·exact a10 (c10 h1 (fun _ _ h2=>a10 h2) ide)
end
section
variable {Z:Bool} {prog:Program} {w:World} {A:Around} {E:Value->Shared->Prop} {s:Shared} {env:Env} {R:Result->Shared->Prop}
theorem w51 {body orelse:List Stmt} {h0:ExceptHandler} {hs:List ExceptHandler} {pos:Pos} {Q:Flow->Shared->Prop}
  (h:wpZ Z (model prog w) A (execs body env) (fun f s1=>match f with | .next=>wpZ Z (model prog w) A (execs orelse env) Q E s1 | f=>Q f s1)
   (fun e s1=>wpZ Z (model prog w) A (noteFrame e env) (fun _ s2=>wpZ Z (model prog w) A (setFlight e none) (fun _ s3=>wpZ Z (model prog w) A (handleBy e env (h0::hs)) Q E s3) E s2) E s1) s):wpZ Z (model prog w) A (exec (.Try body (h0::hs) orelse [] pos) env) Q E s:=by
 rw [arm_exec_Try];exact r10 (e33 h)
theorem l25 {stmts:List Stmt} (h:wpZ Z (model prog w) A (execs stmts env) (fun f s'=>R (.ok f) s') (notedBy (model prog w) A env fun e s'=>R (.error e) s') s):K1 Z (model prog w) A (.block stmts env) R s:=by
 refine j11 rfl ?_;show wpZ _ _ _ (do return Fin.done (<-(execs stmts env).onRaise (fun x=>do noteFrame x env;theTreesLotGoes x))) _ _ s;exact a10 (p14 (c10 h (fun f s' h'=>m10 h') fun _ _ h'=>h'))
theorem m25 {test:Expr} {body orelse:List Stmt} (I:Nat->Shared->Prop)
  (turn: ∀n s,I n s->wpZ Z (model prog w) A (isTrue test env (eval test env)) (fun b s2=>
    if b then wpZ Z (model prog w) A (execs body env) (fun f s3=>match f with
      | .next | .cont=> ∃m,m<n/\I m s3
      | .brk=>R (.ok .next) s3
      | .ret v=>R (.ok (.ret v)) s3) (notedBy (model prog w) A env fun e s'=>R (.error e) s') s2
    else wpZ Z (model prog w) A (execs orelse env) (fun f s3=>R (.ok f) s3) (notedBy (model prog w) A env fun e s'=>R (.error e) s') s2)
    (notedBy (model prog w) A env fun e s'=>R (.error e) s') s)
  (n:Nat) (h:I n s):K1 Z (model prog w) A (.whileLoop test body orelse env) R s:=by
 refine l15 rfl rfl I (fun n s hI=>?_) n h;show wpZ _ _ A ((whileTurn test body orelse env).onRaise (fun x=>do noteFrame x env;theTreesLotGoes x)) _ _ s;refine p14 ?_;simp only [whileTurn];refine a10 (c10 (turn n s hI) (fun b s2 h2=>?_) fun _ _ h'=>h');cases b with
 | false=>
  simp only [Bool.false_eq_true,if_false] at h2⊢;exact a10 (c10 h2 (fun f s3 h3=>m10 h3) fun _ _ h'=>h')
 | true=>
  simp only [if_true] at h2⊢;refine a10 (c10 h2 (fun f s3 h3=>?_) fun _ _ h'=>h');cases f with
  | next=>exact m10 (.inl ⟨rfl,h3⟩)
  | cont=>exact m10 (.inl ⟨rfl,h3⟩)
  | brk=>exact m10 h3
  | ret v=>exact m10 h3
theorem x22 {target:Expr} {it:Value} {body orelse:List Stmt} (I:Nat->Shared->Prop)
  (turn: ∀n s,I n s->wpZ Z (model prog w) A (pyNext it) (fun r s1=>match r with
   | none=>wpZ Z (model prog w) A (execs orelse env) (fun f s3=>R (.ok f) s3) (notedBy (model prog w) A env fun e s'=>R (.error e) s') s1
   | some v=>wpZ Z (model prog w) A (letOwnedTupleGo target it v) (fun _ s1'=>wpZ Z (model prog w) A (assign target env v) (fun _ s2=>wpZ Z (model prog w) A (execs body env) (fun f s3=>match f with
     | .next | .cont=> ∃m,m<n/\I m s3
     | .brk=>R (.ok .next) s3
     | .ret v=>R (.ok (.ret v)) s3) (notedBy (model prog w) A env fun e s'=>R (.error e) s') s2) (notedBy (model prog w) A env fun e s'=>R (.error e) s') s1') (notedBy (model prog w) A env fun e s'=>R (.error e) s') s1) (notedBy (model prog w) A env fun e s'=>R (.error e) s') s)
  (n:Nat) (h:I n s):K1 Z (model prog w) A (.forLoop target it body orelse env) R s:=by
 refine l15 rfl rfl I (fun n s hI=>?_) n h;show wpZ _ _ _ ((forTurn target it body orelse env).onRaise (fun x=>do noteFrame x env;theTreesLotGoes x)) _ _ s;refine p14 ?_;simp only [forTurn];refine r10 (a10 (p12 (c10 (turn n s hI) (fun r s1 h1=>?_) fun _ _ h'=>of (wpAny_standAt h'))));cases r with
 | none=>exact m10 (.inr ⟨rfl,l25 h1⟩)
 | some v=>
  refine a10 (c10 h1 (fun _ s1' h1'=>a10 (c10 h1' (fun _ s2 h2=>a10 (c10 h2 (fun f s3 h3=>?_) fun _ _ h'=>h')) fun _ _ h'=>h')) fun _ _ h'=>h');cases f with
  | next=>exact m10 (.inl ⟨rfl,h3⟩)
  | cont=>exact m10 (.inl ⟨rfl,h3⟩)
  | brk=>exact m10 h3
  | ret v=>exact m10 h3
theorem c19 {body:List Stmt}
  (h:wpZ Z (model prog w) (A.deeper env) (execs body env) (fun f s'=>R (.ok (.ret (match f with | .ret v=>v | _=> .none))) s')
   (fun e s'=>wpAny (model prog w) (A.deeper env) (leaving env e) (fun _ s''=>R (.error e) s'') (fun e' s''=>R (.error e') s'') s') s):K1 Z (model prog w) A (.func body env) R s:=by
 refine j11 rfl ?_;show wpZ _ _ (A.deeper env) (do point;match<-(execs body env).onRaise (leaving env) with | .ret v=>ret v | _=>ret .none) _ _ s;refine a10 (of (wpAny_point (a10 (p12 (c10 h (fun f s' h'=>?_) fun _ _ h'=>of h')))));cases f<;>exact m10 h'
theorem o29 {e:Value} {t:Expr} {pos:Pos}
  (h:wpZ Z (model prog w) A (eval t env) (fun c s1=>wpZ Z (model prog w) A (excMatches e c) (fun b s2=>R (.ok (if b then .brk else .next)) s2) (notedBy (model prog w) A env fun x s2=>R (.error x) s2) s1) (notedBy (model prog w) A env fun x s1=>R (.error x) s1) s):
  K1 Z (model prog w) A (.handlers e [.ExceptHandler (some t) none [] pos] env) R s:=by
 refine j11 rfl ?_;show wpZ _ _ A (do return Fin.done (<-(handleWith e env [.ExceptHandler (some t) none [] pos]).onRaise (fun x=>do noteFrame x env;theTreesLotGoes x))) _ _ s;refine a10 (p14 ?_);unfold handleWith;refine r10 (a10 (c10 h (fun c s1 h1=>r10 (a10 (c10 h1 (fun b s2 h2=>m10 (m10 ?_)) ide))) ide));exact h2
theorem n25 {e:Value} {b0:Stmt} {body:List Stmt} {pos:Pos}
  (h:wpZ Z (model prog w) A (setFlight e none) (fun _ s1=>wpZ Z (model prog w) A (execs (b0::body) env) (fun f s2=>R (.ok f) s2) (notedBy (model prog w) A env fun x s2=>R (.error x) s2) s1) (notedBy (model prog w) A env fun x s1=>R (.error x) s1) s):
  K1 Z (model prog w) A (.handlers e [.ExceptHandler none none (b0::body) pos] env) R s:=by
 refine j11 rfl ?_;show wpZ _ _ A (do return Fin.done (<-(handleWith e env [.ExceptHandler none none (b0::body) pos]).onRaise (fun x=>do noteFrame x env;theTreesLotGoes x))) _ _ s;refine a10 (p14 ?_);unfold handleWith;exact r10 (a10 (c10 h (fun _ s1 h1=>c10 h1 (fun f s2 h2=>m10 h2) ide) ide))
theorem m18 {e:Value} {n:Str} {b0:Stmt} {body:List Stmt} {pos:Pos}
  (h:wpZ Z (model prog w) A (setFlight e none) (fun _ s1=>wpZ Z (model prog w) A (storeName env n e) (fun _ s2=>wpZ Z (model prog w) A (execs (b0::body) env) (fun f s3=>R (.ok f) s3)
     (fun x s3=>wpZ Z (model prog w) A (noteFrame x env) (fun _ s3'=>wpZ Z (model prog w) A (do bindName env n .none;unbindBehindTheSuite env n pos)
       (fun _ s4=>wpZ Z (model prog w) A (passOn "try.except-as" x env:Sem Flow) (fun _ _=>False) (notedBy (model prog w) A env fun x s'=>R (.error x) s') s4)
       (fun y s4=>wpZ Z (model prog w) A (setFlight x none) (fun _ s5=>(notedBy (model prog w) A env fun x s'=>R (.error x) s') y s5) (notedBy (model prog w) A env fun x s'=>R (.error x) s') s4) s3') (notedBy (model prog w) A env fun x s'=>R (.error x) s') s3) s2)
    (notedBy (model prog w) A env fun x s'=>R (.error x) s') s1) (notedBy (model prog w) A env fun x s'=>R (.error x) s') s):
  K1 Z (model prog w) A (.handlers e [.ExceptHandler none (some n) (b0::body) pos] env) R s:=by
 refine j11 rfl ?_;show wpZ _ _ A (do return Fin.done (<-(handleWith e env [.ExceptHandler none (some n) (b0::body) pos]).onRaise (fun x=>do noteFrame x env;theTreesLotGoes x))) _ _ s;refine a10 (p14 ?_);unfold handleWith;refine r10 (a10 (c10 h (fun _ s1 h1=>?_) ide));refine a10 (h14 (c10 h1 (fun _ s2 h2=>?_) ide));refine a10 (w16 (c10 h2 (fun f s3 h3=>m10 (m10 h3)) fun x s3 h3=>?_));refine a10 (c10 h3 (fun _ s3' h4=>?_) fun _ _ y=>y);refine a10 (j10 (p12 (c10 h4 (fun _ s4 h5=>?_) fun _ _ y=>y)));exact c10 h5 (fun _ _ hf=>hf.elim) fun _ _ y=>y
theorem n18 {a:Addr} {o:Obj} {fd:FuncData} {body:List Stmt} {args:Args} {binds:List (Str×Value)}
  (hroom:A.depth<recursionLimit) (ho:s.heap.get? a=some o) (hdata:o.data= .func fd) (hlim:s.heap.NoLimit) (hcd:s.heap.CodeRec fd.code fd.qualname)
  (hbody:fd.body= .stmts body) (hbind:BindsTo s fd args binds) (hcell: ∀x∈fd.scope.names,x.2≠ .cell) (hloc: ∀x∈binds,fd.scope.names.lookup x.1=some .local)
  (h: ∀h0,h0.Ns s.heap.objs.size (fun x=>binds.reverse.lookup x)->(∀b o,s.heap.get? b=some o->h0.get? b=some o)->
   wpZ Z (model prog w) (A.deeper (callEnv fd s.heap.objs.size a)) (execs body (callEnv fd s.heap.objs.size a)) (fun f s'=>R (.ok (.ret (match f with | .ret v=>v | _=> .none))) s')
    (fun e s'=>wpAny (model prog w) (A.deeper (callEnv fd s.heap.objs.size a)) (leaving (callEnv fd s.heap.objs.size a) e) (fun _ s''=>R (.error e) s'') (fun e' s''=>R (.error e') s'') s')
    {s with heap:=h0,toks:=s.toks+binds.length})
  (hco:fd.scope.isCoroutine=false) (hgen:fd.scope.isGenerator=false) (hk:fd.scope.kind= .function):K1 Z (model prog w) A (.call (.ref a) args) R s:=by
 refine j11 rfl ?_;show wpZ _ _ A.in1 (callAny (.ref a) args) _ _ s;show wpZ _ _ A.in1 (load a>>=_) _ _ s;refine a10 (of (wpAny_load ho ?_));obtain ⟨c,oc,vs,tq,hc,hoc,hdc,hq⟩:=hcd;dsimp only;rw [hdata];dsimp only;unfold callFunction;rw [hco,hgen,hbody,hc];dsimp only;refine a10 (m:=field (.ref c) 1) (of (wpAny_field hoc hdc hq (a10 (m10 ?_))));rw [<-hc];refine a10 (of (hbind _ _ _ _ (a10 (of (wpAny_newFunctionEnv hcell hloc (fun h0 hns0 hsb0=>a10 (of (wpAny_enterFrame (hlim.fresh _ hsb0) hroom (m10 (And.intro rfl (c19 (h h0 hns0 fun b o e=>?_))))))) hk)))));exact hsb0.extBut b o (Nat.ne_of_lt (Heap.lt_size e)) (i3 _ e)
theorem y22 {k v:Sem Value} {rest:List (Sem Value×Sem Value)} {Q:List (Value×Value)->Shared->Prop}
  (h:wpZ Z (model prog w) A k (fun kv s1=>wpZ Z (model prog w) A v (fun vv s2=>wpZ Z (model prog w) A (evalPairs rest) (fun vs s3=>Q ((kv,vv)::vs) s3) E s2) E s1) E s):wpZ Z (model prog w) A (evalPairs ((k,v)::rest)) Q E s:=by
 rw [evalPairs];refine a10 (c10 h (fun kv s1 h1=>?_) fun _ _ e=>e);refine a10 (j10 (c10 h1 (fun vv s2 h2=>?_) fun _ _ e=>e));exact a10 (j10 (c10 h2 (fun vs s3 h3=>m10 h3) fun _ _ e=>e))
theorem c16 {k v:Expr} {ks:List (Option Expr)} {vs:List Expr} {pos:Pos} {Q:List (Value×Value)->Shared->Prop}
  (h:wpZ Z (model prog w) A (eval k env) (fun kv s1=>wpZ Z (model prog w) A (eval v env) (fun vv s2=>wpZ Z (model prog w) A (evalPairs (pairTrees ks vs env pos)) (fun r s3=>Q ((kv,vv)::r) s3) E s2) E s1) E s):wpZ Z (model prog w) A (evalPairs (pairTrees (some k::ks) (v::vs) env pos)) Q E s:=
 y22 (c10 h (fun _ _ h1=>a10 (c10 h1 (fun _ _ h2=>r10 (m10 h2)) fun _ _ e=>e)) fun _ _ e=>e)
theorem o25 {pairs:List (Sem Value×Sem Value)} {Q:List (Value×Value)->Shared->Prop} (h:wpZ Z (model prog w) A (evalPairs pairs) Q E s):wpZ Z (model prog w) A (evalPairs pairs) (fun vs s'=>vs.length=pairs.length/\Q vs s') E s:=
 fun Γ p hΓ hz=>wp_evalPairs_len _ Γ pairs _ _ p s (h Γ p hΓ hz)
variable {K:Type} [DecidableEq K] {knd:PySem.KeyKind prog w K}
theorem f33 {pairs:List (Sem Value×Sem Value)} {Q:Addr->Shared->Prop} (hlen:pairs.length<=15)
  (h:wpZ Z (model prog w) A (evalPairs pairs) (fun vs s1=> ∃kvs,Carries knd vs kvs/\s1.heap.DictOf knd s.heap.objs.size []/\
   ∀h',h'.DictOf knd s.heap.objs.size (merged [] kvs)->Heap.SameBut s.heap.objs.size s1.heap h'->Q s.heap.objs.size {s1 with heap:=h',toks:=s1.toks+vs.length}) E
   {s with heap:=s.heap.push {cls:= .type "dict",data:= .dict #[]}}):wpZ Z (model prog w) A (subDict pairs) Q E s:=by
 unfold subDict;refine a10 (of (wpAny_alloc ?_));refine a10 (j10 ?_);rw [if_pos hlen];refine a10 (c10 (o25 h) (fun vs s1 h1=>?_) fun _ _ e=>e);obtain ⟨hvl,kvs,hc,hm,hQ⟩:=h1;have hsz:([]:List (K×Value)).length+kvs.length<=sizeLine:=by
  have e:=hc.length;rw [sizeLine_eq,List.length_nil];(exact fk s!"hxAn15hzBAhzCBoxan0Cn16777216" [] [_,_,_] rfl hlen hvl e)
 exact j10 (a10 (of (wpAny_storeAll (knd:=knd) vs kvs [] s1 _ hc hm hsz fun h' hm' hs'=>m10 (m10 (hQ h' hm' hs')))))
theorem o41 {keys:List (Option Expr)} {values:List Expr} {pos:Pos} {Q:Value->Shared->Prop}
  (hall:keys.all (·.isSome)=true) (hl:keys.length=values.length) (h0:keys≠[]) (hlen:keys.length<=15)
  (h:wpZ Z (model prog w) A (evalPairs (pairTrees keys values env pos)) (fun vs s1=> ∃kvs,Carries knd vs kvs/\s1.heap.DictOf knd s.heap.objs.size []/\
   ∀h',h'.DictOf knd s.heap.objs.size (merged [] kvs)->Heap.SameBut s.heap.objs.size s1.heap h'->Q (.ref s.heap.objs.size) {s1 with heap:=h',toks:=s1.toks+vs.length}) E
   {s with heap:=s.heap.push {cls:= .type "dict",data:= .dict #[]}}):wpZ Z (model prog w) A (eval (.Dict keys values pos) env) Q E s:=by
 have hn:=pairTrees_length keys values env pos hall hl;have he:pairTrees keys values env pos≠[]:=by
  intro he;rw [he] at hn;exact h0 (List.length_eq_zero_iff.mp hn.symm)
 rw [arm_eval_Dict,zip_pairTrees keys values env pos hall hl,dictDisplay_pairs _ he (by exact fk s!"hxAn15hzBAoyBn17" [] [_,_] rfl hlen hn)];exact r10 (a10 (f33 (knd:=knd) (Q:=fun d s'=>wpZ Z (model prog w) A (pure (Value.ref d)) Q E s') (by exact fk s!"hxAn15hzBAoxBn15" [] [_,_] rfl hlen hn)
  (c10 h (fun vs s1 h1=>by obtain ⟨kvs,hc,hm,hq⟩:=h1;exact ⟨kvs,hc,hm,fun h' a b=>m10 (hq h' a b)⟩) fun _ _ e=>e)))
end
section
variable {Z:Bool} {M:Model} {A:Around} {E:Value->Shared->Prop} {s:Shared}
theorem u47 {vs:List Value} {m:Sem Value} {Q:Value->Shared->Prop} (h:wpZ Z M A m Q E s):wpZ Z M A (m.keep vs) Q E s:=fun Γ p hΓ hz=>by rw [Sem.wp_keep];exact h Γ p hΓ hz
theorem p29 {f:Value} {first:List Value} {pos:Pos} {args:List (Bool×Sem Value)} {keywords:List (Option Str×Sem Value)} {Q:Value->Shared->Prop} (hplain:(args.any (·.1)||keywords.any (·.1.isNone))=false)
  (h:wpZ Z M A (evalArgs f true args keywords) (fun a s1=>(∃k,(k=Keeper.frame\/k=Keeper.machine\/k=Keeper.boundFrame)/\Looks M s1.heap (keeperOf f) k)/\wpZ Z M A (call f (first++a.pos) a.kw) Q E s1) E s):wpZ Z M A (callWith pos f first args keywords) Q E s:=by
 unfold callWith;refine a10 (j10 (c10 h (fun a s1 h1=>r10 ?_) ide));obtain ⟨⟨k,hk,L⟩,h2⟩:=h1;simp -iota only [hplain];refine a10 (of (L.here ?_));have tail: ∀{t:Sem Value},wpZ Z M A t Q E s1->wpZ Z M A (t>>=fun r=>holding [r] point>>=fun _=>pure r) Q E s1:=
  fun ht=>a10 (c10 ht (fun r s2 hr=>a10 (j10 (of (wpAny_point (m10 hr))))) ide)
 have marked (mk:Value):wpZ Z M A (callMarked mk f (first++a.pos) a.kw) Q E s1:=by unfold callMarked;exact u47 h2
 rcases hk with rfl | rfl | rfl<;>dsimp only<;>first | exact tail h2 | (split<;>first | exact tail h2 | exact tail (marked _))
end
def W12 (Z:Bool) (M:Model) (A:Around) (E:Value->Shared->Prop) (use:Option (Value->Sem Unit)) (Q:Value->Shared->Prop) (acc:Value) (C:Addr) (r:Result) (s':Shared):Prop:=
 match r,use with
 | .ok _,none=> ∃m,s'.heap.Ns C m/\ ∀h',Heap.SameBut C s'.heap h'->Q acc {s' with heap:=h'}
 | .ok _,some u=>wpZ Z M A (u acc) (fun _ s''=> ∃m,s''.heap.Ns C m/\ ∀h',Heap.SameBut C s''.heap h'->Q .none {s'' with heap:=h'}) E s'
 | .error x,_=> ∃m,s'.heap.Ns C m/\ ∀h',Heap.SameBut C s'.heap h'-> ∀cenv:Env,cenv.locals=C->wpAny M A (passOn "comprehension.variables-let-go" x cenv:Sem Value) (fun _ _=>False) E {s' with heap:=h'}
section
variable {Z:Bool} {M:Model} {A:Around} {E:Value->Shared->Prop} {s:Shared} {env:Env} {α:Type}
theorem g33 {c:Prop} [Decidable c] {pos:Pos} {k:PUnit->Sem α} {Q:α->Shared->Prop} (h:wpZ Z M A (k ()) Q E s):wpZ Z M A (if c then (standAt pos>>=k) else k ()) Q E s:=by
 split
 ·exact r10 h
 ·exact h
theorem b17 {e:Expr} {scope:Scope} {pos:Pos} {newAcc first:Sem Value} {g:Comprehension} {gs:List Comprehension} {cl:List (Str×Addr)} {use:Option (Value->Sem Unit)} {Q:Value->Shared->Prop}
  (hcl:clausesOf e=g::gs) (hs: ∀x,foldedSetIterable g.iter env x=pure x) (hclos:closureFor scope env=pure cl) (hkind:scope.kind= .function) (hnames: ∀x∈scope.names,x.2= .local->scope.names.lookup x.1=some .local)
  (h:wpZ Z M A first (fun x s1=>wpZ Z M A (pyIter x) (fun it s2=>wpZ Z M A newAcc (fun acc s3=>wpZ Z M A (newFunctionEnv scope env.globals cl [] env.qual none .none (some env)) (fun cenv s4=>
    K1 Z M A (.compStart e 0 it acc {cenv with scope:=relabel scope env}) (W12 Z M A E use Q acc cenv.locals) s4) E s3) E s2) E s1) E s):wpZ Z M A (comprehension e scope env pos newAcc false first use) Q E s:=by
 unfold comprehension;rw [hclos,hcl];refine a10 (c10 h (fun x s1 h1=>r10 (b33 (hs x) (a10 (j10 (c10 h1 (fun it s2 h2=>g33 (a10 (c10 h2 (fun acc s3 h3=>a10 (m10 (a10 (c10 h3 (fun cenv s4 h4=>?_) ide)))) ide))) ide))))) ide);dsimp only;have look: ∀l:List (Str×NameKind),(∀x∈l,x∈scope.names)-> ∀x∈l,x.2= .local->Env.kindOf {cenv with scope:=relabel scope env} x.1=some .local:=fun l hl x hx e=>lookup_relabel_local (hnames x (hl x hx) e);have sub: ∀x∈(scope.names.filter fun x=>(x.2== .local||x.2== .cell)&&x.1 != (".0":Str)).reverse,x∈scope.names:=fun x hx=>(List.mem_filter.mp (List.mem_reverse.mp hx)).1;have hv:=look _ sub;have hv':=look ((scope.names.filter fun x=>(x.2== .local||x.2== .cell)&&x.1 != (".0":Str)).reverse.drop 1++(scope.names.filter fun x=>(x.2== .local||x.2== .cell)&&x.1 != (".0":Str)).reverse.take 1) fun x hx=>(List.mem_append.mp hx).elim (fun y=>sub x (List.mem_of_mem_drop y)) fun y=>sub x (List.mem_of_mem_take y);refine j10 (a10 (w16 (j10 (m41 (g13 h4 fun r s' hr=>?_)))));cases r with
 | ok f=>
  cases use with
  | none=>
   obtain ⟨m,hn,hr⟩:=hr;exact a10 (j10 (of (wpAny_comp_letGo (cenv:={cenv with scope:=relabel scope env}) hkind _ s' m hv hn fun h' m' _ hs'=>m10 (hr h' hs'))))
  | some u=>
   refine a10 (of (wpAny_rule (a10 (j10 (c10 hr (fun _ s'' hr'=>?_) ide)))));obtain ⟨m,hn,hr'⟩:=hr';exact a10 (of (wpAny_comp_letGo (cenv:={cenv with scope:=relabel scope env}) hkind _ s'' m hv' hn fun h' m' _ hs'=>m10 (hr' h' hs')))
 | error x=>
  have hr': ∃m,s'.heap.Ns cenv.locals m/\ ∀h',Heap.SameBut cenv.locals s'.heap h'-> ∀cenv':Env,cenv'.locals=cenv.locals->wpAny M A (passOn "comprehension.variables-let-go" x cenv':Sem Value) (fun _ _=>False) E {s' with heap:=h'}:=by cases use<;>exact hr
  obtain ⟨m,hn,hr⟩:=hr';exact a10 (j10 (of (wpAny_comp_letGo (cenv:={cenv with scope:=relabel scope env}) hkind _ s' m hv hn fun h' m' _ hs'=>of (wpAny_mono (hr h' hs' _ rfl) (fun _ _ f=>f.elim) fun _ _ y=>y))))
end
section
variable {Z:Bool} {prog:Program} {w:World} {A:Around} {E:Value->Shared->Prop} {s:Shared} {env:Env} {R:Result->Shared->Prop}
theorem c17 {elt target iter:Expr} {ifs:List Expr} {rest:List Comprehension} {scope:Scope} {pos:Pos} {it acc:Value}
  (h0:K1 Z (model prog w) A (.compLoop (.ListComp elt (⟨target,iter,ifs,0⟩::rest) scope pos) 0 it acc env) R s)
  (h:wpZ Z (model prog w) A (pyIter it) (fun it' s'=>K1 Z (model prog w) A (.compLoop (.ListComp elt (⟨target,iter,ifs,0⟩::rest) scope pos) 0 it' acc env) R s') (notedBy (model prog w) A env fun x s'=>R (.error x) s') s):
  K1 Z (model prog w) A (.compStart (.ListComp elt (⟨target,iter,ifs,0⟩::rest) scope pos) 0 it acc env) R s:=by
 refine j11 rfl ?_;show wpZ _ _ _ ((compStart (.ListComp elt (⟨target,iter,ifs,0⟩::rest) scope pos) 0 it acc env).onRaise (fun x=>do noteFrame x env;standAt theWindowsPlace)) _ _ s;refine p12 (c10 (E:=notedBy (model prog w) A env fun x s'=>R (.error x) s') ?_ (fun _ _ q=>q) fun _ _ hx=>of (d0 (wpAny_mono hx (fun _ _ e=>wpAny_standAt e) fun _ _ e=>e)));unfold compStart;show wpZ _ _ _ (ask>>=_) _ _ s;refine a10 (of (wpAny_askSetting ?_))
 split
 ·first
   | exact a10 (m10 (m10 (And.intro rfl h0)))
   | exact m10 (And.intro rfl h0)
 ·refine a10 (of (wpAny_rule ?_));show wpZ _ _ _ (standAt iter.pos>>=_) _ _ s;exact r10 (a10 (c10 h (fun it' s' h'=>m10 (And.intro rfl h')) ide))
theorem o18 {elt target iter:Expr} {ifs:List Expr} {scope:Scope} {pos:Pos} {it acc:Value} (I:Nat->Shared->Prop)
  (turn: ∀n s,I n s->wpZ Z (model prog w) A (pyNext it) (fun r s1=>match r with
   | none=>R (.ok .next) s1
   | some v=>wpZ Z (model prog w) A (assign target env v) (fun _ s2=>
     wpZ Z (model prog w) A (forIn ifs true fun c r=>if r=true then do let ok<-isTrue c env (eval c env);pure (ForInStep.yield ok) else pure (ForInStep.yield r)) (fun ok s3=>
      if ok=true then wpZ Z (model prog w) A (eval elt env) (fun x s4=>wpZ Z (model prog w) A (call (.builtin "list.append") [acc,x]) (fun _ s5=> ∃m,m<n/\I m s5) (notedBy (model prog w) A env fun e s'=>R (.error e) s') s4) (notedBy (model prog w) A env fun e s'=>R (.error e) s') s3
      else∃m,m<n/\I m s3) (notedBy (model prog w) A env fun e s'=>R (.error e) s') s2) (notedBy (model prog w) A env fun e s'=>R (.error e) s') s1) (notedBy (model prog w) A env fun e s'=>R (.error e) s') s)
  (n:Nat) (h:I n s) (ht: ∀v,letOwnedTupleGo target it v=pure ()):K1 Z (model prog w) A (.compLoop (.ListComp elt [⟨target,iter,ifs,0⟩] scope pos) 0 it acc env) R s:=by
 refine l15 rfl rfl I (fun n s hI=>?_) n h;show wpZ _ _ A ((compTurn (.ListComp elt [⟨target,iter,ifs,0⟩] scope pos) 0 it acc env).onRaise (fun x=>do noteFrame x env;theTreesLotGoes x)) _ _ s;refine p14 ?_;rw [compTurn_list];refine r10 (a10 (c10 (turn n s hI) (fun r s1 h1=>?_) fun _ _ h'=>h'));cases r with
 | none=>exact m10 h1
 | some v=>
  refine b33 (ht v) ?_;refine a10 (c10 h1 (fun _ s2 h2=>a10 (c10 h2 (fun ok s3 h3=>?_) fun _ _ h'=>h')) fun _ _ h'=>h');cases ok with
  | false=>exact m10 (.inl ⟨rfl,h3⟩)
  | true=>exact a10 (a10 (c10 h3 (fun x s4 h4=>a10 (c10 h4 (fun _ s5 h5=>m10 (m10 (.inl ⟨rfl,h5⟩))) fun _ _ h'=>h')) fun _ _ h'=>h'))
end
theorem ltN {h:Heap} {a:Nat} {o:Obj} (e:h.get? a=some o):a<h.objs.size:=Heap.lt_size e
set_option genInjectivity false in
structure Cx where
 prog:Program
 w:World
 K:Frag
 h₀:Heap
 os:OsState
 mg:Str->Option Value
 mb:Str->Option Value
 inK:K.In h₀
 lim:h₀.NoLimit
 gns:h₀.Ns mainGlobals mg
 bns:h₀.Ns builtinsNs mb
 live:Bool
 bts:live=true-> ∀x:Str,x≠"__name__"->mb x=bootBuiltins x
 gens:Nat->Option GenState
 Z:Bool
noncomputable def Cx.off (X:Cx):Cx:={X with Z:=false}
noncomputable abbrev Cx.M (X:Cx):Model:=model X.prog X.w
def I11 (e:DictEntry) (p:Nat×AV):Prop:=(∃t,e.key= .str (N p.1) t)/\ab e.val=p.2
inductive I8 {α β:Type} (R:α->β->Prop):List α->List β->Prop
 | nil:I8 R [] []
 | cons {a b as bs}:R a b->I8 R as bs->I8 R (a::as) (b::bs)
def K8 (h:Heap) (d:Nat) (l:NS):Prop:= ∃es n,h.get? d=some (dictOf es n)/\I8 I11 es l
def Q14 (X:Cx) (g:Array GenState):Prop:= ∀i:Nat,match X.gens i with | some y=>g[i]? =some y | none=> ∀y,g[i]? =some y->y.bare=true
noncomputable def NoG:W0->Prop | .genS .. =>False | _=>True
def K14 (σh:Nat->Option W0) (g:Array GenState):Prop:=(∀a k y L l,σh a=some (.genS k y L l)->g[k]? =some y)/\ ∀a a' k y y' L L' l l',σh a=some (.genS k y L l)->σh a'=some (.genS k y' L' l')->a=a'
def G9 (X:Cx) (σh:Nat->Option W0) (g:Array GenState):Prop:=Q14 X g/\K14 σh g
theorem K14.less {σh σh':Nat->Option W0} {g:Array GenState} (x:K14 σh g) (h: ∀a o,σh' a=some o->NoG o\/σh a=some o):K14 σh' g:=
 ⟨fun a k y L l e=>x.1 a k y L l ((h _ _ e).resolve_left id),fun a a' k y y' L L' l l' e e'=>x.2 a a' k y y' L L' l l' ((h _ _ e).resolve_left id) ((h _ _ e').resolve_left id)⟩
theorem G9.less {X:Cx} {σh σh':Nat->Option W0} {g:Array GenState} (x:G9 X σh g) (h: ∀a o,σh' a=some o->NoG o\/σh a=some o):G9 X σh' g:=⟨x.1,x.2.less h⟩
variable (X:Cx)
def Holds (own:Nat->Option Nat) (h:Heap) (a:Nat):W0->Prop
 | .inst C fs=> ∃dx sl,own dx=some a/\dx≠a/\h.get? a=some ⟨.ref C,some dx,.plain,sl⟩/\K8 h dx fs
 | .exc C args fs=> ∃vs dd sl,h.get? a=some ⟨C,dd,.fields vs,sl⟩/\vs.size=6/\(args=true->vs[2]? =some .none)/\
   (vs[1]? =some .none\/ ∃T ts oT,vs[1]? =some (.ref T)/\own T=some a/\T≠a/\h.get? T=some oT/\oT.data= .fields ts/\3<ts.size)/\
   (match dd with | none=>fs=[] | some dx=>(own dx=some a/\dx≠a/\fs≠[]/\K8 h dx fs)\/((∃n,C= .type n)/\fs=[]))
 | .list xs=> ∃items,h.PlainList a items/\items.toList.map ab=xs
 | .tuple xs=> ∃items,IsTup h a items/\items.toList.map ab=xs
 | .dictS es=> ∃kvs,h.DictOf (strKind X.prog X.w) a kvs/\kvs.map (fun p=>(p.1,ab p.2))=es.map (fun p=>(N p.1,p.2))
 | .dictI es=> ∃kvs,h.DictOf (intKind X.prog X.w) a kvs/\kvs.map (fun p=>(p.1,ab p.2))=es
 | .bytearray l=> ∃b,h.get? a=some {cls:= .type "bytearray",data:= .bytearray b 0}/\b.toList=l
 | .cell v=> ∃V,h.IsCell a V/\V.map ab=v
 | .range x y z=> ∃t u v,IsRange h a x y z t u v
 | .listIter l i=>h.IsListIter a l i
 | .rangeIter x left step=>IsRangeIter h a x left step
 | .seqIter cls x i=> ∃v o,h.get? a=some o/\o.cls= .type cls/\o.data= .fields #[v,.int i 0]/\ab v=x
 | .gen k=>h.IsGen a k
 | .genS k y L l=>h.IsGen a k/\own L=some a/\L≠a/\NsA h L l/\X.gens k=none/\y.bare=true
 | .zip l m=> ∃TI TO i1 i2,(own TI=some a/\own TO=some a/\own i1=some a/\own i2=some a)/\(TI≠a/\TO≠a/\i1≠a/\i2≠a/\TI≠TO/\TI≠i1/\TI≠i2/\TO≠i1/\TO≠i2/\i1≠i2)/\
   IsZip h a TI TO .none/\IsPair h TI (.ref i1) (.ref i2)/\IsPair h TO .none .none/\h.IsListIter i1 l 0/\h.IsListIter i2 m 0
 | .fields cls vs=> ∃vs',h.get? a=some {cls:= .type cls,data:= .fields vs'}/\vs'.toList.map ab=vs
 | .enum l i=> ∃it old,own it=some a/\it≠a/\IsEnum h a it i old/\h.IsListIter it l i
 | .dictK es ep=> ∃kvs,h.DictAt (strKind X.prog X.w) a kvs ep/\kvs.map (fun p=>(p.1,ab p.2))=es.map (fun p=>(N p.1,p.2))
 | .keyIter d i n ep=>h.IsKeyIter a d i n ep
theorem NsA.move {h h':Heap} {d:Nat} {l:NS} (x:NsA h d l) (k: ∀o,h.get? d=some o->h'.get? d=some o):NsA h' d l:=
 by obtain ⟨m,⟨o,es,ep,ho,r⟩,e⟩:=x;exact ⟨m,⟨o,es,ep,k _ ho,r⟩,e⟩
theorem K8.move {h h':Heap} {d:Nat} {l:NS} (x:K8 h d l) (k: ∀o,h.get? d=some o->h'.get? d=some o):K8 h' d l:=
 by obtain ⟨es,n,e,r⟩:=x;exact ⟨es,n,k _ e,r⟩
variable {X}
theorem Holds.move {own own':Nat->Option Nat} {h h':Heap} {a:Nat} {o:W0} (x:Holds X own h a o) (ha:own a=some a)
  (k: ∀q y,own q=some a->h.get? q=some y->h'.get? q=some y) (k2: ∀q,own q=some a->own' q=some a):Holds X own' h' a o:=by
 cases o with
 | inst C fs=>obtain ⟨dx,sl,h1,h2,h3,h4⟩:=x;exact ⟨dx,sl,k2 _ h1,h2,k _ _ ha h3,h4.move fun o=>k _ _ h1⟩
 | exc C args fs=>
  obtain ⟨vs,dd,sl,h1,h2,h5,h6,h7⟩:=x;refine ⟨vs,dd,sl,k _ _ ha h1,h2,h5,?_,?_⟩
  ·rcases h6 with h6 | ⟨T,ts,oT,a1,a2,a3,a4,a5⟩
   ·exact .inl h6
   ·exact .inr ⟨T,ts,oT,a1,k2 _ a2,a3,k _ _ a2 a4,a5⟩
  ·cases dd with
   | none=>exact h7
   | some dx=>exact h7.imp (fun h7=>⟨k2 _ h7.1,h7.2.1,h7.2.2.1,h7.2.2.2.move fun o=>k _ _ h7.1⟩) id
 | list xs=>obtain ⟨items,⟨n,ho⟩,e⟩:=x;exact ⟨items,⟨n,k _ _ ha ho⟩,e⟩
 | tuple xs=>obtain ⟨items,⟨o,ho,r⟩,e⟩:=x;exact ⟨items,⟨o,k _ _ ha ho,r⟩,e⟩
 | dictS es=>obtain ⟨kvs,⟨o,es',ep,ho,r⟩,e⟩:=x;exact ⟨kvs,⟨o,es',ep,k _ _ ha ho,r⟩,e⟩
 | dictI es=>obtain ⟨kvs,⟨o,es',ep,ho,r⟩,e⟩:=x;exact ⟨kvs,⟨o,es',ep,k _ _ ha ho,r⟩,e⟩
 | bytearray l=>obtain ⟨b,e,r⟩:=x;exact ⟨b,k _ _ ha e,r⟩
 | cell v=>obtain ⟨V,⟨o,ho,r⟩,e⟩:=x;exact ⟨V,⟨o,k _ _ ha ho,r⟩,e⟩
 | range=>obtain ⟨t,u,v,e⟩:=x;exact ⟨t,u,v,k _ _ ha e⟩
 | listIter l i=>obtain ⟨o,ho,r⟩:=x;exact ⟨o,k _ _ ha ho,r⟩
 | rangeIter=>exact k _ _ ha x
 | seqIter=>obtain ⟨v,o,e,r⟩:=x;exact ⟨v,o,k _ _ ha e,r⟩
 | gen=>obtain ⟨o,nm,qn,ho,r⟩:=x;exact ⟨o,nm,qn,k _ _ ha ho,r⟩
 | genS=>obtain ⟨⟨o,nm,qn,ho,r⟩,h1,h2,h3,h4⟩:=x;exact ⟨⟨o,nm,qn,k _ _ ha ho,r⟩,k2 _ h1,h2,h3.move fun o=>k _ _ h1,h4⟩
 | zip l m=>
  obtain ⟨TI,TO,i1,i2,⟨o1,o2,o3,o4⟩,hn,h1,h2,h3,⟨p,hp,r⟩,⟨q,hq,r'⟩⟩:=x;exact ⟨TI,TO,i1,i2,⟨k2 _ o1,k2 _ o2,k2 _ o3,k2 _ o4⟩,hn,k _ _ ha h1,k _ _ o1 h2,k _ _ o2 h3,⟨p,k _ _ o3 hp,r⟩,⟨q,k _ _ o4 hq,r'⟩⟩
 | fields=>obtain ⟨vs,e,r⟩:=x;exact ⟨vs,k _ _ ha e,r⟩
 | enum l i=>obtain ⟨it,old,h1,h2,h3,o,ho,r⟩:=x;exact ⟨it,old,k2 _ h1,h2,k _ _ ha h3,o,k _ _ h1 ho,r⟩
 | dictK=>obtain ⟨kvs,⟨o,es',ho,r⟩,e⟩:=x;exact ⟨kvs,⟨o,es',k _ _ ha ho,r⟩,e⟩
 | keyIter=>obtain ⟨o,ho,r⟩:=x;exact ⟨o,k _ _ ha ho,r⟩
structure Z0 (X:Cx) (own:Nat->Option Nat) (fs:List (Nat×NS)) (σh:Nat->Option W0) (s:Shared):Prop where
 base: ∀b o,X.h₀.get? b=some o->s.heap.get? b=some o
 objs: ∀a o,σh a=some o->own a=some a/\Holds X own s.heap a o
 frs: ∀p∈fs,own p.1=some p.1/\σh p.1=none/\NsA s.heap p.1 p.2
 nodup:(fs.map (·.1)).Nodup
 owned: ∀q a,own q=some a->(∃y,s.heap.get? q=some y)/\X.h₀.get? q=none
 os:s.os=X.os
 bare:G9 X σh s.gens
def Rel (X:Cx) (fs:List (Nat×NS)) (σh:Nat->Option W0) (s:Shared):Prop:= ∃own,Z0 X own fs σh s
section
variable {own:Nat->Option Nat} {fs:List (Nat×NS)} {σh:Nat->Option W0} {s:Shared}
theorem Z0.free (R:Z0 X own fs σh s) {a:Nat} {o:W0} (e:σh a=some o):X.h₀.get? a=none:=(R.owned a a (R.objs a o e).1).2
theorem Z0.fresh (R:Z0 X own fs σh s) {a:Nat} (e:s.heap.get? a=none):σh a=none/\own a=none/\X.h₀.get? a=none:=by
 refine ⟨?_,?_,?_⟩
 ·cases q:σh a with
  | none=>rfl
  | some o=>obtain ⟨y,hy⟩:=(R.owned a a (R.objs a o q).1).1;rw [e] at hy;cases hy
 ·cases q:own a with
  | none=>rfl
  | some o=>obtain ⟨y,hy⟩:=(R.owned a o q).1;rw [e] at hy;cases hy
 ·cases q:X.h₀.get? a with
  | none=>rfl
  | some o=>have:=R.base a o q;rw [e] at this;cases this
theorem Z0.keeps (R:Z0 X own fs σh s) {h':Heap} {tk:Nat} {d:Drawn} {g:Array GenState} (k: ∀b o,s.heap.get? b=some o->h'.get? b=some o) (hg:G9 X σh g):
  Z0 X own fs σh ⟨h',g,d,tk,s.os⟩ where
 base b o e:=k b o (R.base b o e)
 objs a o e:=by obtain ⟨h2,h3⟩:=R.objs a o e;exact ⟨h2,h3.move h2 (fun _ _ _=>k _ _) fun _ x=>x⟩
 frs p hp:=by obtain ⟨h1,h2,h4⟩:=R.frs p hp;exact ⟨h1,h2,h4.move fun _=>k _ _⟩
 nodup:=R.nodup
 owned q a e:=by obtain ⟨⟨y,hy⟩,h2⟩:=R.owned q a e;exact ⟨⟨y,k _ _ hy⟩,h2⟩
 os:=R.os
 bare:=hg
theorem Z0.toks (R:Z0 X own fs σh s) (tk:Nat):Z0 X own fs σh {s with toks:=tk}:=R.keeps (fun _ _ e=>e) R.bare
theorem Z0.push (R:Z0 X own fs σh s) (o:Obj) (tk:Nat):Z0 X own fs σh {s with heap:=s.heap.push o,toks:=tk}:=
 R.keeps (fun _ _ e=>i3 o e) R.bare
noncomputable def upd {α:Type} (f:Nat->Option α) (a:Nat) (o:α):Nat->Option α:=fun b=>if b=a then some o else f b
theorem i10 {α:Type} (f:Nat->Option α) (a:Nat) (o:α):upd f a o a=some o:=if_pos rfl
theorem c11 {α:Type} (f:Nat->Option α) {a b:Nat} (o:α) (h:b≠a):upd f a o b=f b:=if_neg h
theorem y13 {α:Type} (f:Nat->Option α) (a:Nat) (o o':α):upd (upd f a o) a o'=upd f a o':=by funext b;unfold upd;split at⊢ <;>rfl
set_option tactic.hygienic true in
theorem Z0.alloc (R:Z0 X own fs σh s) {h':Heap} {tk:Nat} {a:Nat} {o:W0} (priv:List Nat) (k: ∀b o,s.heap.get? b=some o->h'.get? b=some o) (ha:s.heap.get? a=none) (ha': ∃y,h'.get? a=some y)
  (hp: ∀q∈priv,s.heap.get? q=none/\(∃y,h'.get? q=some y)/\q≠a) (H: ∀own',own' a=some a->(∀q∈priv,own' q=some a)->Holds X own' h' a o) (ng:NoG o:=by exact trivial):
  ∃own',Z0 X own' fs (upd σh a o) ⟨h',s.gens,s.drawn,tk,s.os⟩:=by
 let own':Nat->Option Nat:=fun q=>if q=a\/q∈priv then some a else own q
 have old: ∀q x,own q=some x->own' q=some x:=fun q x e=>by
  obtain ⟨⟨y,hy⟩,_⟩:=R.owned q x e;show (if q=a\/q∈priv then some a else own q)=_;rw [if_neg,e]
  rintro (h2 | h2)
  ·subst h2;rw [ha] at hy;cases hy
  ·have:=(hp q h2).1;rw [this] at hy;cases hy
 refine ⟨own',⟨fun b o e=>k b o (R.base b o e),fun b x e=>?_,fun p hp'=>?_,R.nodup,fun q x e=>?_,R.os,R.bare.less fun b x e=>by (unfold upd at e;split at e;(cases e;exact .inl ng);exact .inr e)⟩⟩
 ·unfold upd at e
  split at e
  ·rename_i hb;subst hb;cases e;exact ⟨if_pos (.inl rfl),H own' (if_pos (.inl rfl)) fun q hq=>if_pos (.inr hq)⟩
  ·obtain ⟨h2,h3⟩:=R.objs b x e;exact ⟨old _ _ h2,h3.move h2 (fun _ _ _=>k _ _) fun q hq=>old _ _ hq⟩
 ·obtain ⟨h1,h2,h4⟩:=R.frs p hp';refine ⟨old _ _ h1,?_,h4.move fun _=>k _ _⟩;obtain ⟨⟨y,hy⟩,_⟩:=R.owned _ _ h1;rw [c11 _ _ (fun q=>by rw [q,ha] at hy;cases hy)];exact h2
 ·by_cases hq:q=a\/q∈priv
  ·rcases hq with rfl | hq
   ·exact ⟨ha',(R.fresh ha).2.2⟩
   ·exact ⟨(hp q hq).2.1,(R.fresh (hp q hq).1).2.2⟩
  ·have e':own' q=own q:=if_neg hq;rw [e'] at e;obtain ⟨⟨y,hy⟩,h2⟩:=R.owned q x e;exact ⟨⟨y,k _ _ hy⟩,h2⟩
set_option tactic.hygienic true in
theorem Z0.O11 (R:Z0 X own fs σh s) {h':Heap} {tk:Nat} {a:Nat} {o₀ o:W0} (priv:List Nat) (h0:σh a=some o₀) (k: ∀b x,own b≠some a->s.heap.get? b=some x->h'.get? b=some x) (ke: ∀q,own q=some a-> ∃y,h'.get? q=some y)
  (hp: ∀q∈priv,s.heap.get? q=none/\ ∃y,h'.get? q=some y) (H: ∀own',(∀q,own q=some a->own' q=some a)->(∀q∈priv,own' q=some a)->Holds X own' h' a o) (ng:NoG o:=by exact trivial):
  ∃own',Z0 X own' fs (upd σh a o) ⟨h',s.gens,s.drawn,tk,s.os⟩/\(∀q,own q=some a->own' q=some a):=by
 let own':Nat->Option Nat:=fun q=>if q∈priv then some a else own q
 have old: ∀q x,own q=some x->own' q=some x:=fun q x e=>by
  obtain ⟨⟨y,hy⟩,_⟩:=R.owned q x e;show (if q∈priv then some a else own q)=_;rw [if_neg,e];intro h2;have:=(hp q h2).1;rw [this] at hy;cases hy
 refine ⟨own',⟨fun b x e=>k b x (fun q=>?_) (R.base b x e),fun b x e=>?_,fun p hp'=>?_,R.nodup,fun q x e=>?_,R.os,R.bare.less fun b x e=>by (unfold upd at e;split at e;(cases e;exact .inl ng);exact .inr e)⟩,fun q e=>old q a e⟩
 ·have:=(R.owned b a q).2;rw [e] at this;cases this
 ·unfold upd at e
  split at e
  ·rename_i hb;subst hb;cases e;exact ⟨old _ _ (R.objs _ _ h0).1,H own' (fun q e=>old q _ e) fun q hq=>if_pos hq⟩
  ·rename_i hb;obtain ⟨h2,h3⟩:=R.objs b x e;exact ⟨old _ _ h2,h3.move h2 (fun q y hq hy=>k q y (fun z=>hb (w5 (hq.symm.trans z))) hy) fun q hq=>old _ _ hq⟩
 ·obtain ⟨h1,h2,h4⟩:=R.frs p hp';have hne:p.1≠a:=fun z=>by rw [z,h0] at h2;cases h2
  refine ⟨old _ _ h1,by rw [c11 _ _ hne];exact h2,h4.move fun o ho=>k _ _ (fun z=>?_) ho⟩;rw [h1] at z;exact hne (w5 z)
 ·by_cases hq:q∈priv
  ·exact ⟨(hp q hq).2,(R.fresh (hp q hq).1).2.2⟩
  ·have e':own' q=own q:=if_neg hq;rw [e'] at e;obtain ⟨⟨y,hy⟩,h2⟩:=R.owned q x e;refine ⟨?_,h2⟩;by_cases hx:own q=some a
   ·exact ke q hx
   ·exact ⟨y,k _ _ hx hy⟩
set_option tactic.hygienic true in
theorem Z0.update (R:Z0 X own fs σh s) {h':Heap} {tk:Nat} {a:Nat} {o₀ o:W0} (h0:σh a=some o₀) (k: ∀b x,own b≠some a->s.heap.get? b=some x->h'.get? b=some x) (ke: ∀q,own q=some a-> ∃y,h'.get? q=some y)
  (H:Holds X own h' a o) (ng:NoG o:=by exact trivial):Z0 X own fs (upd σh a o) ⟨h',s.gens,s.drawn,tk,s.os⟩ where
 base b x e:=k b x (fun q=>by have:=(R.owned b a q).2;rw [e] at this;cases this) (R.base b x e)
 objs b x e:=by
  unfold upd at e
  split at e
  ·rename_i hb;subst hb;cases e;exact ⟨(R.objs _ _ h0).1,H⟩
  ·rename_i hb;obtain ⟨h2,h3⟩:=R.objs b x e;exact ⟨h2,h3.move h2 (fun q y hq hy=>k q y (fun z=>hb (w5 (hq.symm.trans z))) hy) fun _ x=>x⟩
 frs p hp:=by
  obtain ⟨h1,h2,h4⟩:=R.frs p hp;have hne:p.1≠a:=fun z=>by rw [z,h0] at h2;cases h2
  refine ⟨h1,by rw [c11 _ _ hne];exact h2,h4.move fun o ho=>k _ _ (fun z=>?_) ho⟩;rw [h1] at z;exact hne (w5 z)
 nodup:=R.nodup
 owned q x e:=by
  obtain ⟨⟨y,hy⟩,h2⟩:=R.owned q x e;refine ⟨?_,h2⟩;by_cases hx:own q=some a
  ·exact ke q hx
  ·exact ⟨y,k _ _ hx hy⟩
 os:=R.os
 bare:=R.bare.less fun b x e=>by (unfold upd at e;split at e;(cases e;exact .inl ng);exact .inr e)
theorem z22 {h:Heap} {d:Nat} {f:Obj->Obj} {o:Obj} (ho:h.get? d=some o) (hf:(f o).isFreed=false) (b:Nat) {y:Obj} (hy:h.get? b=some y): ∃z,(h.update d f).get? b=some z:=by
 by_cases e:b=d
 ·subst e;exact ⟨_,Heap.get?_update_self f ho hf⟩
 ·exact ⟨y,(Heap.get?_update_other _ _ (Ne.symm e)).trans hy⟩
set_option tactic.hygienic true in
theorem Z0.drop (R:Z0 X own fs σh s) {h':Heap} {tk:Nat} {a:Nat} {o₀:W0} (h0:σh a=some o₀) (k: ∀b x,own b≠some a->s.heap.get? b=some x->h'.get? b=some x):
  ∃own',Z0 X own' fs (fun b=>if b=a then none else σh b) ⟨h',s.gens,s.drawn,tk,s.os⟩:=by
 have sub: ∀q x,(if own q=some a then none else own q)=some x->own q=some x/\x≠a:=fun q x e=>by
  split at e
  ·cases e
  ·rename_i hn;exact ⟨e,fun z=>hn (z▸e)⟩
 have sup: ∀q x,own q=some x->x≠a->(if own q=some a then none else own q)=some x:=fun q x e hx=>by
  rw [if_neg,e];intro z;rw [e] at z;exact hx (w5 z)
 refine ⟨fun q=>if own q=some a then none else own q,fun b x e=>k b x (fun q=>?_) (R.base b x e),fun b x e=>?_,fun p hp=>?_,R.nodup,fun q x e=>?_,R.os,R.bare.less fun b x e=>by (split at e;cases e;exact .inr e)⟩
 ·have:=(R.owned b a q).2;rw [e] at this;cases this
 ·split at e
  ·cases e
  ·rename_i hb;obtain ⟨h2,h3⟩:=R.objs b x e;exact ⟨sup _ _ h2 hb,h3.move h2 (fun q y hq hy=>k q y (fun z=>hb (w5 (hq.symm.trans z))) hy) fun q hq=>sup _ _ hq hb⟩
 ·obtain ⟨h1,h2,h4⟩:=R.frs p hp;have hne:p.1≠a:=fun z=>by rw [z,h0] at h2;cases h2
  refine ⟨sup _ _ h1 hne,by rw [if_neg hne];exact h2,h4.move fun o ho=>k _ _ (fun z=>?_) ho⟩;rw [h1] at z;exact hne (w5 z)
 ·obtain ⟨e1,e2⟩:=sub q x e;obtain ⟨⟨y,hy⟩,h2⟩:=R.owned q x e1;exact ⟨⟨y,k _ _ (fun z=>e2 (w5 (e1.symm.trans z))) hy⟩,h2⟩
theorem Z0.forget (R:Z0 X own fs σh s) {σh':Nat->Option W0} (h: ∀a o,σh' a=some o->σh a=some o):Z0 X own fs σh' s where
 base:=R.base
 objs a o e:=R.objs a o (h a o e)
 frs p hp:=by obtain ⟨h1,h2,h4⟩:=R.frs p hp;exact ⟨h1,(by
  cases q:σh' p.1 with
  | none=>rfl
  | some o=>rw [h _ _ q] at h2;cases h2),h4⟩
 nodup:=R.nodup
 owned:=R.owned
 os:=R.os
 bare:=R.bare.less fun b x e=> .inr (h b x e)
theorem Z0.frame {L:Nat} {l l':NS} (R:Z0 X own ((L,l)::fs) σh s) {h':Heap} {tk:Nat} (k:Heap.SameBut L s.heap h') (H:NsA h' L l'):Z0 X own ((L,l')::fs) σh ⟨h',s.gens,s.drawn,tk,s.os⟩:=by
 have hL:=R.frs _ (.head _);have hL0:=(R.owned _ _ hL.1).2;have kk: ∀b x,b≠L->s.heap.get? b=some x->h'.get? b=some x:=fun b x hb e=>(k.2 b hb).trans e;refine ⟨fun b x e=>kk b x (fun z=>?_) (R.base b x e),fun b x e=>?_,fun p hp=>?_,R.nodup,fun q x e=>?_,R.os,R.bare⟩
 ·subst z;rw [e] at hL0;cases hL0
 ·obtain ⟨h2,h3⟩:=R.objs b x e;refine ⟨h2,h3.move h2 (fun q y hq hy=>kk q y (fun z=>?_) hy) fun _ x=>x⟩;subst z;rw [hL.1] at hq;cases hq;rw [e] at hL;cases hL.2.1
 ·rcases List.mem_cons.mp hp with rfl | hp
  ·exact ⟨hL.1,hL.2.1,H⟩
  ·obtain ⟨h1,h2,h4⟩:=R.frs p (.tail _ hp);refine ⟨h1,h2,h4.move fun o=>kk _ _ fun z=>?_⟩;have nd:=R.nodup;rw [v5,List.nodup_cons] at nd;exact nd.1 (List.mem_map.mpr ⟨p,hp,z⟩)
 ·obtain ⟨⟨y,hy⟩,h2⟩:=R.owned q x e;refine ⟨?_,h2⟩;by_cases z:q=L
  ·subst z;obtain ⟨m,⟨o,_,_,ho,_⟩,_⟩:=H;exact ⟨o,ho⟩
  ·exact ⟨y,kk _ _ z hy⟩
theorem Z0.enter (R:Z0 X own fs σh s) {h':Heap} {tk:Nat} {L:Nat} {l:NS} (k: ∀b o,s.heap.get? b=some o->h'.get? b=some o) (hL:s.heap.get? L=none) (H:NsA h' L l):
  ∃own',Z0 X own' ((L,l)::fs) σh ⟨h',s.gens,s.drawn,tk,s.os⟩:=by
 let own':Nat->Option Nat:=fun q=>if q=L then some L else own q
 have old: ∀q x,own q=some x->own' q=some x:=fun q x e=>by
  obtain ⟨⟨y,hy⟩,_⟩:=R.owned q x e;show (if q=L then some L else own q)=_;rw [if_neg (fun z=>by subst z;rw [hL] at hy;cases hy),e]
 refine ⟨own',⟨fun b o e=>k b o (R.base b o e),fun b x e=>?_,fun p hp'=>?_,?_,fun q x e=>?_,R.os,R.bare⟩⟩
 ·obtain ⟨h2,h3⟩:=R.objs b x e;exact ⟨old _ _ h2,h3.move h2 (fun _ _ _=>k _ _) fun q hq=>old _ _ hq⟩
 ·rcases List.mem_cons.mp hp' with rfl | hp'
  ·exact ⟨if_pos rfl,(R.fresh hL).1,H⟩
  ·obtain ⟨h1,h2,h4⟩:=R.frs p hp';exact ⟨old _ _ h1,h2,h4.move fun _=>k _ _⟩
 ·rw [v5,List.nodup_cons];refine ⟨fun hm=>?_,R.nodup⟩;obtain ⟨p,hp,e⟩:=List.mem_map.mp hm;have h1:=(R.frs p hp).1;rw [e] at h1;rw [(R.fresh hL).2.1] at h1;cases h1
 ·by_cases hq:q=L
  ·subst hq;obtain ⟨m,⟨o,_,_,ho,_⟩,_⟩:=H;exact ⟨⟨o,ho⟩,(R.fresh hL).2.2⟩
  ·have e':own' q=own q:=if_neg hq;rw [e'] at e;obtain ⟨⟨y,hy⟩,h2⟩:=R.owned q x e;exact ⟨⟨y,k _ _ hy⟩,h2⟩
theorem Z0.leave {L:Nat} {l:NS} (R:Z0 X own ((L,l)::fs) σh s):Z0 X own fs σh s:=
 ⟨R.base,R.objs,fun p hp=>R.frs p (.tail _ hp),(List.nodup_cons.mp (by have:=R.nodup;rwa [v5] at this)).2,R.owned,R.os,R.bare⟩
end
end Mine
namespace Mine
set_option genInjectivity false in
structure Cf where
 n:Nat
 env:Env
 ks:List (Nat×NameKind)
 cs:List (Nat×Nat)
 fr:List Env
 nss:List (Nat×NS)
 hd:Option Value
 deriving Inhabited
structure Cf.Ok (c:Cf):Prop where
 fn:c.env.scope.kind= .function
 ks: ∀x k,c.ks.lookup x=some k->c.env.kindOf (N x)=some k
 cs: ∀x a,c.cs.lookup x=some a->c.env.cells.lookup (N x)=some a
 gl:c.env.globals=mainGlobals
 bi:c.env.builtins=builtinsNs
 top: ∃e r,c.fr=e::r/\e.frame=c.env.frame
 frs: ∀e∈c.fr,e.scope.kind≠ .module/\ ∃L,e.frame=some L/\L∈c.env.locals::c.nss.map (·.1)
structure Cf.Good (c:Cf) (A:Around):Prop where
 ok:c.Ok
 frames:A.frames=some c.fr
 depth:A.depth+20*c.n<=980
 units:A.units+200*c.n<=9700
 hd:A.handled=c.hd
section
variable {X:Cx} {c:Cf} {α β γ δ:Type}
def O1 (X:Cx) (c:Cf) (σ:St) (s:Shared):Prop:=Rel X ((c.env.locals,σ.loc)::c.nss) σ.h s
def Exn (X:Cx) (c:Cf) (E:Nat->St->Prop) (V:Value) (s:Shared):Prop:= ∃a σ,V= .ref a/\(∃C args fs,σ.h a=some (.exc C args fs))/\O1 X c σ s/\E a σ
theorem Exn.mono {E E':Nat->St->Prop} (hE: ∀a σ,E a σ->E' a σ) {V:Value} {s:Shared} (h:Exn X c E V s):Exn X c E' V s:=
 by obtain ⟨a,σ',e,x,R,q⟩:=h;exact ⟨a,σ',e,x,R,hE _ _ q⟩
def WT (X:Cx) (c:Cf) (t:Sem α) (f:α->β) (Q:β->St->Prop) (E:Nat->St->Prop) (σ:St):Prop:=
 ∀A s,c.Good A->O1 X c σ s->wpZ X.Z X.M A t (fun v s'=> ∃σ',O1 X c σ' s'/\Q (f v) σ') (Exn X c E) s
variable {Q:β->St->Prop} {E:Nat->St->Prop} {σ:St}
theorem WT.mono {t:Sem α} {f:α->β} {Q':β->St->Prop} {E':Nat->St->Prop} (h:WT X c t f Q E σ) (hQ: ∀b σ,Q b σ->Q' b σ) (hE: ∀a σ,E a σ->E' a σ):WT X c t f Q' E' σ:=
 fun A s g R=>c10 (h A s g R) (fun u1 u2 hp3=>U0 hp3 fun σ' R' q=>⟨σ',R',hQ _ _ q⟩) fun _ _=>Exn.mono hE
theorem WT.pure {v:α} {f:α->β} (h:Q (f v) σ):WT X c (pure v) f Q E σ:=fun _ _ _ R=>m10 ⟨σ,R,h⟩
theorem WT.bind {t:Sem α} {k:α->Sem γ} {f:α->β} {g:γ->δ} {Q:δ->St->Prop} (h:WT X c t f (fun b σ'=> ∀v,f v=b->WT X c (k v) g Q E σ') E σ):WT X c (t>>=k) g Q E σ:=
 fun A s gd R=>a10 (c10 (h A s gd R) (fun v s' hp4=>U0 hp4 fun u5 R' q=>q v rfl A s' gd R') ide)
theorem WT.holding {t:Sem α} {f:α->β} {vs:List Value} (h:WT X c t f Q E σ):WT X c (holding vs t) f Q E σ:=fun A s g R=>j10 (h A s g R)
theorem WT.standAt {k:Unit->Sem α} {f:α->β} {p:Pos} (h:WT X c (k ()) f Q E σ):WT X c (standAt p>>=k) f Q E σ:=fun A s g R=>a10 (of <| wpAny_standAt (h A s g R))
theorem WT.release {k:Unit->Sem α} {f:α->β} {vs keep:List Value} (h:WT X c (k ()) f Q E σ):WT X c (release vs keep>>=k) f Q E σ:=fun A s g R=>a10 (of <| wpAny_release (h A s g R))
theorem WT.operate {t:Sem Value} {vs:List Value} {Q:AV->St->Prop} (h:WT X c t ab Q E σ):WT X c (operate vs t) ab Q E σ:=
 WT.bind (WT.holding (h.mono (fun b σ' q v hv=>WT.release (WT.pure (hv▸q))) ide))
def St.ge (σ σ':St):Prop:=(∀a o,σ'.h a=some o->σ.h a=some o)/\ ∀x v,σ'.loc.lookup x=some v->σ.loc.lookup x=some v
theorem St.ge.rfl {σ:St}:σ.ge σ:=⟨fun _ _ e=>e,fun _ _ e=>e⟩
def Up (Q:St->Prop):St->Prop:=fun σ=> ∃σ',σ.ge σ'/\Q σ'
def UpE (a:Nat) (Q:St->Prop):St->Prop:=fun σ=> ∃σ',σ.ge σ'/\(∃C args fs,σ'.h a=some (.exc C args fs))/\Q σ'
theorem Up.same {Q:St->Prop} {σ:St} (h:Q σ):Up Q σ:=⟨σ,.rfl,h⟩
theorem Up.mono {Q Q':St->Prop} {σ:St} (h:Up Q σ) (k: ∀σ,Q σ->Q' σ):Up Q' σ:=by obtain ⟨_,g,q⟩:=h;exact ⟨_,g,k _ q⟩
theorem NsA.less {h:Heap} {d:Nat} {l l':NS} (x:NsA h d l) (k: ∀x v,l'.lookup x=some v->l.lookup x=some v):NsA h d l':=by obtain ⟨m,hm,hl⟩:=x;exact ⟨m,hm,fun c v e=>hl c v (k c v e)⟩
theorem O1.down {σ σ':St} {s:Shared} (R:O1 X c σ s) (h:σ.ge σ'):O1 X c σ' s:=by
 walk_at "o";have R2:=R.forget h.1;refine ⟨own,R2.base,R2.objs,fun p hp=>?_,R2.nodup,R2.owned,R2.os,R2.bare⟩;rcases List.mem_cons.mp hp with rfl | hp
 ·obtain ⟨h1,h2,h3⟩:=R2.frs _ (.head _);exact ⟨h1,h2,h3.less h.2⟩
 ·exact R2.frs _ (.tail _ hp)
theorem WT.down {t:Sem α} {f:α->β} {σ':St} (h:WT X c t f Q E σ') (hs:σ.ge σ'):WT X c t f Q E σ:=fun A s g R=>h A s g (R.down hs)
def WE (X:Cx) (c:Cf) (e:Expr) (Q:AV->St->Prop) (E:Nat->St->Prop) (σ:St):Prop:=WT X c (eval e c.env) ab Q E σ
def WTe (X:Cx) (c:Cf) (e:Expr) (Q:Bool->St->Prop) (E:Nat->St->Prop) (σ:St):Prop:=WT X c (isTrue e c.env (eval e c.env)) id Q E σ
inductive Fl | next | brk | cont | ret (v:AV)
noncomputable def abF:Flow->Fl
 | .next=> .next | .brk=> .brk | .cont=> .cont | .ret v=> .ret (ab v)
def WX (X:Cx) (c:Cf) (st:Stmt) (Q:Fl->St->Prop) (E:Nat->St->Prop) (σ:St):Prop:=WT X c (exec st c.env) abF Q E σ
def WXs (X:Cx) (c:Cf) (st:List Stmt) (Q:Fl->St->Prop) (E:Nat->St->Prop) (σ:St):Prop:=WT X c (execs st c.env) abF Q E σ
def Z5 (X:Cx) (c:Cf) (op:Operator) (a b:AV) (Q:AV->St->Prop) (E:Nat->St->Prop) (σ:St):Prop:= ∀x y,ab x=a->ab y=b->WT X c (binaryOp op x y) ab Q E σ
def WIn (X:Cx) (c:Cf) (op:Operator) (a b:AV) (Q:AV->St->Prop) (E:Nat->St->Prop) (σ:St):Prop:= ∀x y,ab x=a->ab y=b->WT X c (inplaceOp op x y) ab Q E σ
def WUn (X:Cx) (c:Cf) (op:UnaryOp) (a:AV) (Q:AV->St->Prop) (E:Nat->St->Prop) (σ:St):Prop:= ∀x,ab x=a->WT X c (unaryOp op x) ab Q E σ
def U4 (X:Cx) (c:Cf) (op:CmpOp) (a b:AV) (Q:AV->St->Prop) (E:Nat->St->Prop) (σ:St):Prop:= ∀x y,ab x=a->ab y=b->WT X c (compareOp op x y) ab Q E σ
def X7 (X:Cx) (c:Cf) (a:AV) (Q:Bool->St->Prop) (E:Nat->St->Prop) (σ:St):Prop:= ∀x,ab x=a->WT X c (truthy x) id Q E σ
def WLd (X:Cx) (c:Cf) (x:Str) (Q:AV->St->Prop) (E:Nat->St->Prop) (σ:St):Prop:=WT X c (loadName c.env x) ab Q E σ
def WSt (X:Cx) (c:Cf) (x:Str) (a:AV) (Q:St->Prop) (E:Nat->St->Prop) (σ:St):Prop:= ∀v,ab v=a->WT X c (storeName c.env x v) id (fun _=>Q) E σ
def WAs (X:Cx) (c:Cf) (t:Expr) (a:AV) (Q:St->Prop) (E:Nat->St->Prop) (σ:St):Prop:= ∀v,ab v=a->WT X c (assign t c.env v) id (fun _=>Q) E σ
def WGA (X:Cx) (c:Cf) (a:AV) (x:Str) (Q:AV->St->Prop) (E:Nat->St->Prop) (σ:St):Prop:= ∀v ex,ab v=a->WT X c (getAttr v x ex) ab Q E σ
def WSA (X:Cx) (c:Cf) (a:AV) (x:Str) (b:AV) (Q:St->Prop) (E:Nat->St->Prop) (σ:St):Prop:= ∀v w,ab v=a->ab w=b->WT X c (setAttr v x w) id (fun _=>Q) E σ
def WGI (X:Cx) (c:Cf) (a b:AV) (Q:AV->St->Prop) (E:Nat->St->Prop) (σ:St):Prop:= ∀v w,ab v=a->ab w=b->WT X c (getItem v w) ab Q E σ
def WSI (X:Cx) (c:Cf) (a b d:AV) (Q:St->Prop) (E:Nat->St->Prop) (σ:St):Prop:= ∀u v w,ab u=a->ab v=b->ab w=d->WT X c (setItem u v w) id (fun _=>Q) E σ
def J2 (X:Cx) (c:Cf) (f:AV) (as:List AV) (kw:List (Str×AV)) (Q:AV->St->Prop) (E:Nat->St->Prop) (σ:St):Prop:=
 ∀F vs ks,ab F=f->vs.map ab=as->ks.map (fun p=>(p.1,ab p.2))=kw->WT X c (call F vs ks) ab Q E σ
end
section
variable {X:Cx} {c:Cf} {E:Nat->St->Prop} {σ:St} {Q:AV->St->Prop}
theorem v47 {i:Int} {k:Nat} {p:Pos} (h:Q (.int i) σ):WE X c (.Constant (.int i) k p) Q E σ:=fun u7 s u8 hp9=>hp9.elim fun own R=>of <| wpAny_Constant_int ⟨σ,⟨own,R.toks _⟩,h⟩
theorem d43 {x:Str} {k:Nat} {p:Pos} (h:Q (.str x) σ):WE X c (.Constant (.str x) k p) Q E σ:=fun u10 s u11 hp12=>hp12.elim fun own R=>of <| wpAny_Constant_str ⟨σ,⟨own,R.toks _⟩,h⟩
theorem w47 {b:Bool} {k:Nat} {p:Pos} (h:Q (.bool b) σ):WE X c (.Constant (.bool b) k p) Q E σ:=fun _ s _ R=>of <| wpAny_Constant_bool ⟨σ,R,h⟩
theorem x47 {k:Nat} {p:Pos} (h:Q .none σ):WE X c (.Constant .none k p) Q E σ:=fun _ s _ R=>of <| wpAny_Constant_none ⟨σ,R,h⟩
theorem U11 {b:List UInt8} {k:Nat} {p:Pos} (h:Q (.bytes b) σ):WE X c (.Constant (.bytes b) k p) Q E σ:=fun u13 s u14 hp15=>hp15.elim fun own R=>
 a10 (of <| wpAny_fresh (m10 ⟨σ,⟨own,R.toks _⟩,by first | exact h | simpa [ab] using h⟩))
theorem T7 {x:Str} {p:Pos} (h:WLd X c x Q E σ) (hd:(x==("__debug__":Str))=false):WE X c (.Name x p) Q E σ:=fun A s g R=>n41 (h A s g R) hd
theorem x51 {l r:Expr} {op:Operator} {p:Pos} (h:WE X c l (fun a=>WE X c r (fun b=>Z5 X c op a b Q E) E) E σ):WE X c (.BinOp l op r p) Q E σ:=fun A s g R=>
 z42 (c10 (h A s g R) (fun a s1 hp16=>U0 hp16 fun u17 R1 q=>c10 (q A s1 g R1) (fun b s2 hp18=>U0 hp18 fun u19 R2 q2=>q2 a b rfl rfl A s2 g R2) ide) ide)
theorem y51 {e:Expr} {op:UnaryOp} {p:Pos} (h:WE X c e (fun a=>WUn X c op a Q E) E σ):WE X c (.UnaryOp op e p) Q E σ:=fun A s g R=>
 c33 (c10 (h A s g R) (fun a s1 hp20=>U0 hp20 fun u21 R1 q=>q a rfl A s1 g R1) ide)
theorem z51 {l r:Expr} {op:CmpOp} {p:Pos} (h:WE X c l (fun a=>WE X c r (fun b=>U4 X c op a b Q E) E) E σ) (hm:behindInMarks op r=false):WE X c (.Compare l [op] [r] p) Q E σ:=fun A s g R=>
 n29 (c10 (h A s g R) (fun a s1 hp22=>U0 hp22 fun u23 R1 q=>c10 (q A s1 g R1) (fun b s2 hp24=>U0 hp24 fun u25 R2 q2=>q2 a b rfl rfl A s2 g R2) ide) ide) hm
theorem e43 {t b o:Expr} {p:Pos} (h:WTe X c t (fun v σ1=>if v=true then WE X c b Q E σ1 else WE X c o Q E σ1) E σ):WE X c (.IfExp t b o p) Q E σ:=fun A s g R=>
 a43 (c10 (h A s g R) (fun v s1 hp26=>U0 hp26 fun u27 R1 q=>by
  cases v with
  | true=>exact (if_pos rfl:(if (id true)=true then _ else _)=_)▸q A s1 g R1
  | false=>exact q A s1 g R1) ide)
theorem f43 {Qb:Bool->St->Prop} {e:Expr} (h:WE X c e (fun a=>X7 X c a Qb E) E σ) (hv:isTrue e c.env (eval e c.env)=(do let v<-eval e c.env;standAt e.pos;holding [v] (truthy v))):WTe X c e Qb E σ:=by
 unfold WTe;rw [hv];exact WT.bind (h.mono (fun a σ' q v hvv=>WT.standAt (WT.holding (q v hvv))) ide)
end
section
variable {X:Cx} {c:Cf} {E:Nat->St->Prop} {σ:St} {Q:AV->St->Prop}
theorem g28 {x:Nat} {v:AV} (hk:c.ks.lookup x=some .local) (e:σ.loc.lookup x=some v) (h:Q v σ):WLd X c (N x) Q E σ:=fun A s g hp1=>hp1.elim fun own R=>by
 obtain ⟨m,hm,hl⟩:=(R.frs _ (.head _)).2.2;obtain ⟨V,hV,hv⟩:=hl _ _ e;exact of <| wpAny_loadName_local g.ok.fn (g.ok.ks _ _ hk) hm hV ⟨σ,⟨own,R⟩,hv▸h⟩
theorem g43 {x a:Nat} {v:AV} (hk:c.ks.lookup x=some .cell) (hc:c.cs.lookup x=some a) (e:σ.h a=some (.cell (some v))) (h:Q v σ):WLd X c (N x) Q E σ:=fun A s g hp2=>hp2.elim fun own R=>by
 obtain ⟨V,hV,hv⟩:=(R.objs _ _ e).2;cases V with
 | none=>cases hv
 | some V=>exact of <| wpAny_loadName_cell g.ok.fn (g.ok.ks _ _ hk) (g.ok.cs _ _ hc) hV ⟨σ,⟨own,R⟩,w5 hv▸h⟩
theorem h43 {x a:Nat} {v:AV} (hk:c.ks.lookup x=some .free) (hc:c.cs.lookup x=some a) (e:σ.h a=some (.cell (some v))) (h:Q v σ) (hd:(N x==Str.ofString "__classdict__")=false):WLd X c (N x) Q E σ:=fun A s g hp3=>hp3.elim fun own R=>by
 obtain ⟨V,hV,hv⟩:=(R.objs _ _ e).2;cases V with
 | none=>cases hv
 | some V=>exact of <| wpAny_loadName_free g.ok.fn (g.ok.ks _ _ hk) (g.ok.cs _ _ hc) hV ⟨σ,⟨own,R⟩,w5 hv▸h⟩ hd
def Glo (X:Cx) (x:Nat) (v:AV):Prop:= ∃V,ab V=v/\(X.mg (N x)=some V\/X.mg (N x)=none/\X.mb (N x)=some V)
theorem y47 {x:Nat} {v:AV} (hk:c.ks.lookup x=some .globalImplicit) (e:Glo X x v) (h:Q v σ):WLd X c (N x) Q E σ:=fun A s g hp4=>hp4.elim fun own R=>by
 obtain ⟨V,hv,hV⟩:=e;have hg:s.heap.Ns c.env.globals X.mg:=by rw [g.ok.gl];exact X.gns.keeps R.base
 have hb:s.heap.Ns c.env.builtins X.mb:=by rw [g.ok.bi];exact X.bns.keeps R.base
 have hq:(fun v s'=> ∃σ',O1 X c σ' s'/\Q (ab v) σ') V s:=⟨σ,⟨own,R⟩,hv▸h⟩;refine of ?_;unfold loadName;simp only [Env.blockKind,g.ok.fn,g.ok.ks _ _ hk,ScopeKind.isAnnotationScope,Bool.false_and,Bool.false_eq_true,if_false];rcases hV with hV | ⟨h1,hV⟩
 ·exact loadGlobal_global hg hV hq
 ·exact loadGlobal_builtin hg h1 hb hV hq
noncomputable def put (l:NS) (x:Nat) (v:AV):NS:=match l with
 | []=>[(x,v)]
 | (y,w)::r=>if x=y then (x,v)::r else (y,w)::put r x v
theorem l11 {α:Type} (x:Nat) (v:α) (l:List (Nat×α)):((x,v)::l).lookup x=some v:=by rw [List.lookup_cons,beq_self_eq_true]
theorem x12 {α:Type} {x y:Nat} (v:α) (l:List (Nat×α)) (h: ¬y=x):((x,v)::l).lookup y=l.lookup y:=by rw [List.lookup_cons,show (y==x)=false from by rw [beq_eq_false_iff_ne];exact h]
noncomputable def St.put (σ:St) (x:Nat) (v:AV):St:={σ with loc:=(x,v)::σ.loc}
theorem n16 {x:Nat} {v:AV} {Q:St->Prop} (hk:c.ks.lookup x=some .local) (h:Q (σ.put x v)):WSt X c (N x) v Q E σ:=fun V hV A s g hp5=>hp5.elim fun own R=>by
 obtain ⟨m,hm,hl⟩:=(R.frs _ (.head _)).2.2;refine of <| wpAny_storeName_local (g.ok.ks _ _ hk) hm (fun h' hn hs=>⟨σ.put x v,⟨own,R.frame hs ⟨_,hn,fun y w hw=>?_⟩⟩,h⟩) (by rw [g.ok.fn];rfl);have hw':((x,v)::σ.loc).lookup y=some w:=hw;by_cases e:y=x
 ·subst e;rw [l11] at hw';cases hw';exact ⟨V,if_pos rfl,hV⟩
 ·rw [x12 _ _ e] at hw';obtain ⟨W,h1,h2⟩:=hl y w hw';exact ⟨W,(if_neg fun q=>e (o14 q)).trans h1,h2⟩
theorem i43 {x a:Nat} {v:AV} {v₀:Option AV} {Q:St->Prop} (hk:c.ks.lookup x=some .cell) (hc:c.cs.lookup x=some a) (e:σ.h a=some (.cell v₀))
  (h:Q {σ with h:=upd σ.h a (.cell (some v))}):WSt X c (N x) v Q E σ:=fun V hV A s g hp6=>hp6.elim fun own R=>by
 obtain ⟨V₀,hV₀,_⟩:=(R.objs _ _ e).2;refine of <| wpAny_storeName_cell g.ok.fn (g.ok.ks _ _ hk) (g.ok.cs _ _ hc) hV₀ fun h' hi hs=>⟨_,⟨own,R.update e (o:= .cell (some v)) (fun b y hb hy=>(hs.2 b fun q=>?_).trans hy) (fun q hq=>?_) ⟨some V,hi,?_⟩⟩,h⟩
 ·subst q;exact hb (R.objs _ _ e).1
 ·by_cases z:q=a
  ·subst z;obtain ⟨o,ho,_⟩:=hi;exact ⟨o,ho⟩
  ·obtain ⟨y,hy⟩:=(R.owned q a hq).1;exact ⟨y,(hs.2 q z).trans hy⟩
 ·rw [<-hV];rfl
theorem a52 {e:Expr} {p:Pos} {Q:Bool->St->Prop} (h:WTe X c e (fun b=>Q (!b)) E σ):WTe X c (.UnaryOp .Not e p) Q E σ:=fun A s g R=>
 r22 (h A s g R)
theorem b52 {l r:Expr} {op:CmpOp} {p:Pos} {Q:Bool->St->Prop} (h:WE X c l (fun a=>WE X c r (fun b=>U4 X c op a b (fun v=>X7 X c v Q E) E) E) E σ) (hm:behindInMarks op r=false):WTe X c (.Compare l [op] [r] p) Q E σ:=fun A s g R=>
 m15 (c10 (h A s g R) (fun a s1 hp7=>U0 hp7 fun u8 R1 q=>c10 (q A s1 g R1) (fun b s2 hp9=>U0 hp9 fun u10 R2 q2=>c10 (q2 a b rfl rfl A s2 g R2) (fun v s3 hp11=>U0 hp11 fun u12 R3 q3=>q3 v rfl A s3 g R3) ide) ide) ide) hm
def WAl (X:Cx) (c:Cf) (op:BoolOp) (es:List Expr) (Q:Bool->St->Prop) (E:Nat->St->Prop) (σ:St):Prop:=WT X c (allTrue op es c.env) id Q E σ
theorem p41 {op:BoolOp} {es:List Expr} {p:Pos} {Q:Bool->St->Prop} (h:WAl X c op es Q E σ):WTe X c (.BoolOp op es p) Q E σ:=fun A s g R=>x16 (h A s g R)
theorem q29 {Q:Bool->St->Prop} (h:Q true σ):WAl X c .And [] Q E σ:=fun A s g R=>of <| wpAny_allTrue_And_nil ⟨σ,R,h⟩
theorem h33 {Q:Bool->St->Prop} (h:Q false σ):WAl X c .Or [] Q E σ:=fun A s g R=>of <| wpAny_allTrue_Or_nil ⟨σ,R,h⟩
theorem z47 {e:Expr} {es:List Expr} {Q:Bool->St->Prop} (h:WTe X c e (fun b σ1=>if b=true then WAl X c .And es Q E σ1 else Q false σ1) E σ):WAl X c .And (e::es) Q E σ:=fun A s g R=>
 a20 (c10 (h A s g R) (fun b s1 hp13=>U0 hp13 fun u14 R1 q=>by
  cases b with
  | true=>exact q A s1 g R1
  | false=>exact ⟨_,R1,q⟩) ide)
theorem c52 {e:Expr} {es:List Expr} {Q:Bool->St->Prop} (h:WTe X c e (fun b σ1=>if b=true then Q true σ1 else WAl X c .Or es Q E σ1) E σ):WAl X c .Or (e::es) Q E σ:=fun A s g R=>
 t22 (c10 (h A s g R) (fun b s1 hp15=>U0 hp15 fun u16 R1 q=>by
  cases b with
  | true=>exact ⟨_,R1,q⟩
  | false=>exact q A s1 g R1) ide)
def WEs (X:Cx) (c:Cf) (p:Pos) (es:List Expr) (Q:List AV->St->Prop) (E:Nat->St->Prop) (σ:St):Prop:=WT X c (spliced (backTo p (starEach es c.env))) (List.map ab) Q E σ
theorem a48 {p:Pos} {Q:List AV->St->Prop} (h:Q [] σ):WEs X c p [] Q E σ:=fun A s g R=>of <| wpAny_items_nil ⟨σ,R,h⟩
theorem j43 {p:Pos} {e:Expr} {es:List Expr} {Q:List AV->St->Prop} (h:WE X c e (fun a=>WEs X c p es (fun as=>Q (a::as)) E) E σ) (he:starEach (e::es) c.env=(false,eval e c.env)::starEach es c.env):WEs X c p (e::es) Q E σ:=fun A s g R=>
 v22 (c10 (h A s g R) (fun a s1 hp17=>U0 hp17 fun u18 R1 q=>q A s1 g R1) ide) he
theorem b48 {e:Expr} {x:Str} {p:Pos} (h:WE X c e (fun a=>WGA X c a x Q E) E σ) (hb:attributeBase e x c.env (eval e c.env)=eval e c.env):WE X c (.Attribute e x p) Q E σ:=by
 unfold WE;have e0:eval (.Attribute e x p) c.env=(do
   let o<-attributeBase e x c.env (eval e c.env)
   standAt p.atName
   let r<-holding [o] (getAttr o x true)
   letTemporaryGo e o r
   pure r):=rfl
 rw [e0,hb];exact WT.bind (h.mono (fun a σ' q v hv=>WT.standAt (WT.bind (WT.holding ((q v true hv).mono (fun b σ2 q2 w hw A s g R=>a10 (of <| wpAny_letTemporaryGo (m10 ⟨σ2,R,hw▸q2⟩))) ide)))) ide)
def O6 (X:Cx) (c:Cf) (a:AV) (σ:St):Prop:= ∃T id,typeLookup (.type T) "__getitem__"=pure (some (.builtin id))/\ ∀v s,ab v=a->O1 X c σ s->s.TypeIs v T
theorem O6.asks {a:AV} (h:O6 X c a σ) {v:Value} {s:Shared} {A:Around} {Q:Bool->Shared->Prop} {E:Value->Shared->Prop} (hv:ab v=a) (R:O1 X c σ s) (q:Q false s):wpZ X.Z X.M A (getitemInPython v) Q E s:=by
 obtain ⟨T,id,hl,hT⟩:=h;rw [getitemInPython_of_ne (hT v s hv R).not_modules];exact a10 (of <| wpAny_specialOf (hT v s hv R) hl (m10 q))
theorem d52 {e i:Expr} {p:Pos} (h:WE X c e (fun a=>WE X c i (fun b σ'=>O6 X c a σ'/\WGI X c a b Q E σ') E) E σ):WE X c (.Subscript e i p) Q E σ:=fun A s g R=>by
 rw [eval_Subscript];refine a10 (c10 (h A s g R) (fun a s1 hp19=>U0 hp19 fun u20 R1 q=>a10 (j10 (c10 (q A s1 g R1) (fun b s2 hp21=>U0 hp21 fun σ2 R2 q2=>a10 (of <| wpAny_standAt (a10 (q2.1.asks rfl R2 ?_)))) ide))) ide);have fin: ∀l,wpZ X.Z X.M A (operate l (getItem a b)) (fun r s3=>wpZ X.Z X.M A (letTemporaryGo e a r>>=fun _=>pure r) (fun v s'=> ∃σ',O1 X c σ' s'/\Q (ab v) σ') (Exn X c E) s3) (Exn X c E) s2:=fun l=>
  y11 (c10 (q2.2 a b rfl rfl A s2 g R2) (fun r s3 h3=>a10 (of <| wpAny_letTemporaryGo (m10 h3))) ide)
 cases i with
 | Slice lo hi st p=>cases st<;>exact a10 (fin _)
 | _=>exact a10 (fin _)
theorem c48 {Q:Fl->St->Prop} (h:Q .next σ):WXs X c [] Q E σ:=fun A s g R=>of <| wpAny_execs_nil ⟨σ,R,h⟩
theorem k43 {st:Stmt} {r:List Stmt} {Q:Fl->St->Prop} (h:WX X c st (fun f σ'=>match f with | .next=>WXs X c r Q E σ' | f=>Q f σ') E σ):WXs X c (st::r) Q E σ:=fun A s g R=>
 w22 (c10 (h A s g R) (fun f s1 hp22=>U0 hp22 fun σ1 R1 q=>by
  cases f with
  | next=>exact q A s1 g R1
  | brk=>exact ⟨σ1,R1,q⟩
  | cont=>exact ⟨σ1,R1,q⟩
  | ret v=>exact ⟨σ1,R1,q⟩) ide)
theorem d48 {p:Pos} {Q:Fl->St->Prop} (h:Q .next σ):WX X c (.Pass p) Q E σ:=fun A s g R=>of <| wpAny_Pass ⟨σ,R,h⟩
theorem l43 {p:Pos} {Q:Fl->St->Prop} (h:Q .brk σ):WX X c (.Break p) Q E σ:=fun A s g R=>of <| wpAny_Break ⟨σ,R,h⟩
theorem e48 {p:Pos} {Q:Fl->St->Prop} (h:Q .cont σ):WX X c (.Continue p) Q E σ:=fun A s g R=>of <| wpAny_Continue ⟨σ,R,h⟩
theorem f48 {p:Pos} {Q:Fl->St->Prop} (h:Q (.ret .none) σ):WX X c (.Return none p) Q E σ:=fun A s g R=>of <| wpAny_Return_none ⟨σ,R,h⟩
theorem e52 {e:Expr} {p:Pos} {Q:Fl->St->Prop} (h:WE X c e (fun v=>Q (.ret v)) E σ):WX X c (.Return (some e) p) Q E σ:=fun A s g R=>b20 (h A s g R)
theorem f55 {t:Expr} {b o:List Stmt} {p:Pos} {Q:Fl->St->Prop} (h:WTe X c t (fun v σ'=>if v=true then WXs X c b Q E σ' else WXs X c o Q E σ') E σ):WX X c (.If t b o p) Q E σ:=fun A s g R=>
 e55 (c10 (h A s g R) (fun v s1 hp23=>U0 hp23 fun u24 R1 q=>by
  cases v with
  | true=>exact q A s1 g R1
  | false=>exact q A s1 g R1) ide)
theorem g48 {e:Expr} {p:Pos} {Q:Fl->St->Prop} (h:WE X c e (fun v σ'=>Q .next σ') E σ) (hs:swapsWith e none p.line c.env=pure false) (hi:interactive c.env=false):WX X c (.Expr e p) Q E σ:=fun A s g R=>by
 rw [exec_Expr c.env e p hi hs];exact a10 (of <| wpAny_standAt (a10 (c10 (h A s g R) (fun v s1 hp25=>U0 hp25 fun σ1 R1 q=>of <| wpAny_dropValue ⟨σ1,R1,q⟩) ide)))
theorem a38 {t e:Expr} {p:Pos} {Q:Fl->St->Prop} (h:WE X c e (fun v=>WAs X c t v (Q .next) E) E σ) (hs:swapsWith e (some t) p.line c.env=pure false) (hw:swappedStores [t] e c.env=pure none)
  (ha:(assignEach [t] c.env).map (·.2)=[assign t c.env]):WX X c (.Assign [t] e p) Q E σ:=fun A s g R=>by
 refine y16 (c10 (h A s g R) (fun v s1 hp26=>U0 hp26 fun σ1 R1 q=>?_) ide) hs hw;rw [ha];exact q v rfl A s1 g R1
theorem i33 {x:Str} {e:Expr} {op:Operator} {p p':Pos} {Q:Fl->St->Prop} (h:WLd X c x (fun a=>WE X c e (fun b=>WIn X c op a b (fun r=>WSt X c x r (Q .next) E) E) E) E σ):WX X c (.AugAssign (.Name x p') op e p) Q E σ:=fun A s g R=>
 a16 (c10 (h A s g R) (fun a s1 hp27=>U0 hp27 fun u28 R1 q=>c10 (q A s1 g R1) (fun b s2 hp29=>U0 hp29 fun u30 R2 q2=>c10 (q2 a b rfl rfl A s2 g R2) (fun r s3 hp31=>U0 hp31 fun u32 R3 q3=>q3 r rfl A s3 g R3) ide) ide) ide)
theorem j33 {o e:Expr} {x:Str} {op:Operator} {p p':Pos} {Q:Fl->St->Prop} (h:WE X c o (fun ov=>WGA X c ov x (fun a=>WE X c e (fun b=>WIn X c op a b (fun r=>WSA X c ov x r (Q .next) E) E) E) E) E σ):WX X c (.AugAssign (.Attribute o x p') op e p) Q E σ:=fun A s g R=>
 b16 (c10 (h A s g R) (fun ov s0 hp33=>U0 hp33 fun u34 R0 q0=>c10 (q0 ov true rfl A s0 g R0) (fun a s1 hp35=>U0 hp35 fun u36 R1 q=>c10 (q A s1 g R1) (fun b s2 hp37=>U0 hp37 fun u38 R2 q2=>c10 (q2 a b rfl rfl A s2 g R2) (fun r s3 hp39=>U0 hp39 fun u40 R3 q3=>q3 ov r rfl rfl A s3 g R3) ide) ide) ide) ide)
theorem b38 {o i e:Expr} {op:Operator} {p p':Pos} {Q:Fl->St->Prop} (h:WE X c o (fun ov=>WE X c i (fun iv=>WGI X c ov iv (fun a=>WE X c e (fun b=>WIn X c op a b (fun r=>WSI X c ov iv r (Q .next) E) E) E) E) E) E σ)
  (hi: ∀ov iv new,augStore i ov iv new=(do holding [new,ov,iv] (setItem ov iv new);release [new,ov,iv] [];pure .next)):WX X c (.AugAssign (.Subscript o i p') op e p) Q E σ:=fun A s g R=>
 z16 (c10 (h A s g R) (fun ov s0 hp41=>U0 hp41 fun u42 R0 q0=>c10 (q0 A s0 g R0) (fun iv s01 hp43=>U0 hp43 fun u44 R01 q01=>c10 (q01 ov iv rfl rfl A s01 g R01) (fun a s1 hp45=>U0 hp45 fun u46 R1 q=>c10 (q A s1 g R1) (fun b s2 hp47=>U0 hp47 fun u48 R2 q2=>c10 (q2 a b rfl rfl A s2 g R2) (fun r s3 hp49=>U0 hp49 fun u50 R3 q3=>q3 ov iv r rfl rfl rfl A s3 g R3) ide) ide) ide) ide) ide) hi
theorem k33 {x:Str} {p:Pos} {v:AV} {Q:St->Prop} (h:WSt X c x v Q E σ):WAs X c (.Name x p) v Q E σ:=fun V hV A s g R=>c20 (h V hV A s g R)
theorem h48 {o:Expr} {x:Str} {p:Pos} {v:AV} {Q:St->Prop} (h:WE X c o (fun ov=>WSA X c ov x v Q E) E σ):WAs X c (.Attribute o x p) v Q E σ:=fun V hV=>by
 have e0:assign (.Attribute o x p) c.env V=(do
   let ov<-holding [V] (eval o c.env)
   standAt p.atName
   holding [V,ov] (setAttr ov x V)
   release [V,ov] []):=rfl
 rw [e0];exact WT.bind (WT.holding (h.mono (fun a σ' q w hw=>WT.standAt (WT.bind (WT.holding ((q w V hw hV).mono (fun _ σ2 q2 _ _ A s g R=>of <| wpAny_release ⟨σ2,R,q2⟩) ide)))) ide))
theorem f52 {o i:Expr} {p:Pos} {v:AV} {Q:St->Prop} (h:WE X c o (fun ov=>WE X c i (fun iv=>WSI X c ov iv v Q E) E) E σ):WAs X c (.Subscript o i p) v Q E σ:=fun V hV=>by
 rw [arm_assign_Subscript];exact WT.bind (WT.holding (h.mono (fun a σ' q w hw=>WT.bind (WT.holding (q.mono (fun b σ1 q1 u hu=>WT.standAt (WT.bind (WT.holding ((q1 w u V hw hu hV).mono (fun _ σ2 q2 _ _ A s g R=>of <| wpAny_release ⟨σ2,R,q2⟩) ide)))) ide))) ide))
end
theorem O1.tk {X:Cx} {c:Cf} {σ:St} {s:Shared} (R:O1 X c σ s) (k:Nat):O1 X c σ {s with toks:=k}:=by obtain ⟨own,r⟩:=R;exact ⟨own,r.toks k⟩
section
variable {X:Cx} {c:Cf} {E:Nat->St->Prop} {σ:St} {Q:AV->St->Prop}
theorem g52 {a b:Int}  (h:Q (.int (a+b)) σ):Z5 X c .Add (.int a) (.int b) Q E σ:=fun x y hx hy A s g R=>by
 refine of ?_;obtain ⟨t,rfl⟩:=o10 hx;obtain ⟨u,rfl⟩:=o10 hy;exact add_int  ⟨σ,R.tk _,h⟩
theorem h52 {a b:Int}  (h:Q (.int (a-b)) σ):Z5 X c .Sub (.int a) (.int b) Q E σ:=fun x y hx hy A s g R=>by
 refine of ?_;obtain ⟨t,rfl⟩:=o10 hx;obtain ⟨u,rfl⟩:=o10 hy;exact sub_int  ⟨σ,R.tk _,h⟩
theorem i52 {a b:Int} (hm:IntMulOk a b) (h:Q (.int (a*b)) σ):Z5 X c .Mult (.int a) (.int b) Q E σ:=fun x y hx hy A s g R=>by
 refine of ?_;obtain ⟨t,rfl⟩:=o10 hx;obtain ⟨u,rfl⟩:=o10 hy;exact mul_int ⟨σ,R.tk _,h⟩ hm
theorem j52 {a b:Int}  (h:Q (.int (Builtin.bitAnd a b)) σ):Z5 X c .BitAnd (.int a) (.int b) Q E σ:=fun x y hx hy A s g R=>by
 refine of ?_;obtain ⟨t,rfl⟩:=o10 hx;obtain ⟨u,rfl⟩:=o10 hy;exact and_int  ⟨σ,R.tk _,h⟩
theorem g55 {a b:Int}  (h:Q (.int (Builtin.bitOr a b)) σ):Z5 X c .BitOr (.int a) (.int b) Q E σ:=fun x y hx hy A s g R=>by
 refine of ?_;obtain ⟨t,rfl⟩:=o10 hx;obtain ⟨u,rfl⟩:=o10 hy;exact or_int  ⟨σ,R.tk _,h⟩
theorem k52 {a b:Int}  (h:Q (.int (a+b)) σ):WIn X c .Add (.int a) (.int b) Q E σ:=fun x y hx hy A s g R=>by
 refine of ?_;obtain ⟨t,rfl⟩:=o10 hx;obtain ⟨u,rfl⟩:=o10 hy;exact iadd_int  ⟨σ,R.tk _,h⟩
theorem l52 {a b:Int}  (h:Q (.int (a-b)) σ):WIn X c .Sub (.int a) (.int b) Q E σ:=fun x y hx hy A s g R=>by
 refine of ?_;obtain ⟨t,rfl⟩:=o10 hx;obtain ⟨u,rfl⟩:=o10 hy;exact isub_int  ⟨σ,R.tk _,h⟩
theorem m52 {a b:Int} (hm:IntMulOk a b) (h:Q (.int (a*b)) σ):WIn X c .Mult (.int a) (.int b) Q E σ:=fun x y hx hy A s g R=>by
 refine of ?_;obtain ⟨t,rfl⟩:=o10 hx;obtain ⟨u,rfl⟩:=o10 hy;exact imul_int ⟨σ,R.tk _,h⟩ hm
theorem n52 {a b:Int}  (h:Q (.int (Builtin.bitAnd a b)) σ):WIn X c .BitAnd (.int a) (.int b) Q E σ:=fun x y hx hy A s g R=>by
 refine of ?_;obtain ⟨t,rfl⟩:=o10 hx;obtain ⟨u,rfl⟩:=o10 hy;exact iand_int  ⟨σ,R.tk _,h⟩
theorem h55 {a b:Int}  (h:Q (.int (Builtin.bitOr a b)) σ):WIn X c .BitOr (.int a) (.int b) Q E σ:=fun x y hx hy A s g R=>by
 refine of ?_;obtain ⟨t,rfl⟩:=o10 hx;obtain ⟨u,rfl⟩:=o10 hy;exact ior_int  ⟨σ,R.tk _,h⟩
theorem i48 {a b:Int} (hb:b≠0) (hd:Builtin.divisionGoesByPylong a b=false) (h:Q (.int (a.fdiv b)) σ):Z5 X c .FloorDiv (.int a) (.int b) Q E σ:=fun x y hx hy A s g R=>by
 refine of ?_;obtain ⟨t,rfl⟩:=o10 hx;obtain ⟨u,rfl⟩:=o10 hy;exact floordiv_int hb ⟨σ,R.tk _,h⟩ (.inl hd)
theorem o52 {a b:Int} (hb:b≠0) (h:Q (.int (a.fmod b)) σ):Z5 X c .Mod (.int a) (.int b) Q E σ:=fun x y hx hy A s g R=>by
 refine of ?_;obtain ⟨t,rfl⟩:=o10 hx;obtain ⟨u,rfl⟩:=o10 hy;exact mod_int hb ⟨σ,R.tk _,h⟩
theorem p52 {a n:Int} (h0:0<=n) (h1:n<=1000000) (ha:a.natAbs<2^64) (h:Q (.int (a*2^n.toNat)) σ):Z5 X c .LShift (.int a) (.int n) Q E σ:=fun x y hx hy A s g R=>by
 refine of ?_;obtain ⟨t,rfl⟩:=o10 hx;obtain ⟨u,rfl⟩:=o10 hy;exact lshift_int_small h0 h1 ha ⟨σ,R.tk _,h⟩
theorem q52 {a n:Int} (h0:0<=n) (h:Q (.int (a.fdiv (2^n.toNat))) σ):Z5 X c .RShift (.int a) (.int n) Q E σ:=fun x y hx hy A s g R=>by
 refine of ?_;obtain ⟨t,rfl⟩:=o10 hx;obtain ⟨u,rfl⟩:=o10 hy;exact rshift_int h0 ⟨σ,R.tk _,h⟩
theorem r52 {a n:Int} (h0:0<=n) (h1:(Builtin.Int.intBits a:Int)*n<=2^27) (h:Q (.int (a^n.toNat)) σ):Z5 X c .Pow (.int a) (.int n) Q E σ:=fun x y hx hy A s g R=>by
 refine of ?_;obtain ⟨t,rfl⟩:=o10 hx;obtain ⟨u,rfl⟩:=o10 hy;exact pow_int h0 h1 ⟨σ,R.tk _,h⟩
theorem s52 {a:Int} (h:Q (.int (-a)) σ):WUn X c .USub (.int a) Q E σ:=fun x hx A s g R=>by
 refine of ?_;obtain ⟨t,rfl⟩:=o10 hx;exact neg_int ⟨σ,R.tk _,h⟩
theorem t52 {a:Int} (h:Q (.int (Builtin.bitNot a)) σ):WUn X c .Invert (.int a) Q E σ:=fun x hx A s g R=>by
 refine of ?_;obtain ⟨t,rfl⟩:=o10 hx;exact invert_int ⟨σ,R.tk _,h⟩
theorem i55 {a b:Int} (h:Q (.bool (a==b)) σ):U4 X c .Eq (.int a) (.int b) Q E σ:=fun x y hx hy A s g R=>by
 refine of ?_;obtain ⟨t,rfl⟩:=o10 hx;obtain ⟨u,rfl⟩:=o10 hy;exact eq_int ⟨σ,R,h⟩
theorem j55 {a b:Int} (h:Q (.bool (a != b)) σ):U4 X c .NotEq (.int a) (.int b) Q E σ:=fun x y hx hy A s g R=>by
 refine of ?_;obtain ⟨t,rfl⟩:=o10 hx;obtain ⟨u,rfl⟩:=o10 hy;exact ne_int ⟨σ,R,h⟩
theorem k55 {a b:Int} (h:Q (.bool (decide (a<b))) σ):U4 X c .Lt (.int a) (.int b) Q E σ:=fun x y hx hy A s g R=>by
 refine of ?_;obtain ⟨t,rfl⟩:=o10 hx;obtain ⟨u,rfl⟩:=o10 hy;exact lt_int ⟨σ,R,h⟩
theorem l55 {a b:Int} (h:Q (.bool (decide (a<=b))) σ):U4 X c .LtE (.int a) (.int b) Q E σ:=fun x y hx hy A s g R=>by
 refine of ?_;obtain ⟨t,rfl⟩:=o10 hx;obtain ⟨u,rfl⟩:=o10 hy;exact le_int ⟨σ,R,h⟩
theorem m55 {a b:Int} (h:Q (.bool (decide (b<a))) σ):U4 X c .Gt (.int a) (.int b) Q E σ:=fun x y hx hy A s g R=>by
 refine of ?_;obtain ⟨t,rfl⟩:=o10 hx;obtain ⟨u,rfl⟩:=o10 hy;exact gt_int ⟨σ,R,h⟩
theorem n55 {a b:Int} (h:Q (.bool (decide (b<=a))) σ):U4 X c .GtE (.int a) (.int b) Q E σ:=fun x y hx hy A s g R=>by
 refine of ?_;obtain ⟨t,rfl⟩:=o10 hx;obtain ⟨u,rfl⟩:=o10 hy;exact ge_int ⟨σ,R,h⟩
theorem r29 {a b:List UInt8} (h:Q (.bool (a==b)) σ):U4 X c .Eq (.bytes a) (.bytes b) Q E σ:=fun x y hx hy A s g R=>by
 refine of ?_;obtain ⟨t,rfl⟩:=h11 hx;obtain ⟨u,rfl⟩:=h11 hy;exact eq_bytes ⟨σ,R,h⟩
theorem t29 {a b:List UInt8} (h:Q (.bool (a != b)) σ):U4 X c .NotEq (.bytes a) (.bytes b) Q E σ:=fun x y hx hy A s g R=>by
 refine of ?_;obtain ⟨t,rfl⟩:=h11 hx;obtain ⟨u,rfl⟩:=h11 hy;exact ne_bytes ⟨σ,R,h⟩
theorem d17 {v:Value}:(v==Value.none)=(decide (ab v=AV.none)):=by
 cases v<;>first | rfl | exact decide_eq_false (fun h=>AV.noConfusion h)▸rfl | (simp [ab];done)
theorem l33 {a:AV} (h:Q (.bool (decide (a= .none))) σ):U4 X c .Is a .none Q E σ:=fun x y hx hy A s g R=>by
 refine of ?_;rw [<-x13 hy];exact is_none ⟨σ,R,by rw [d17,hx];exact h⟩
theorem a23 {a:AV} (h:Q (.bool (!decide (a= .none))) σ):U4 X c .IsNot a .none Q E σ:=fun x y hx hy A s g R=>by
 refine of ?_;rw [<-x13 hy];exact isNot_none ⟨σ,R,by rw [d17,hx];exact h⟩
theorem m43 {b:Bool} {Q:Bool->St->Prop} (h:Q b σ):X7 X c (.bool b) Q E σ:=fun x hx A s g R=>by
 refine of ?_;rw [<-a33 hx];exact wpAny_truthy_bool ⟨σ,R,h⟩
theorem n43 {Q:Bool->St->Prop} (h:Q false σ):X7 X c .none Q E σ:=fun x hx A s g R=>by
 refine of ?_;rw [<-x13 hx];exact truthy_none ⟨σ,R,h⟩
theorem j48 {a:Int} {Q:Bool->St->Prop} (h:Q (a != 0) σ):X7 X c (.int a) Q E σ:=fun x hx A s g R=>by
 refine of ?_;obtain ⟨t,rfl⟩:=o10 hx;exact truthy_int ⟨σ,R,h⟩
theorem p25 {a b:List UInt8} (hs:a.length+b.length<=16777216) (h:Q (.bytes (a++b)) σ):Z5 X c .Add (.bytes a) (.bytes b) Q E σ:=fun x y hx hy A s g R=>by
 refine of ?_;obtain ⟨t,rfl⟩:=h11 hx;obtain ⟨u,rfl⟩:=h11 hy;exact KBy.add_bytes (by simpa using hs) fun t' k=>⟨σ,R.tk _,by first | exact h | simpa [ab] using h⟩
theorem q25 {b:List UInt8} {n:Int} (hb:b≠[]) (h0: -1048576<=n) (h1:n<=1048576) (hs:b.length<=16\/1<=n/\b.length*n.toNat<=16777216) (h:Q (.bytes ((List.replicate n.toNat b).flatten)) σ):Z5 X c .Mult (.bytes b) (.int n) Q E σ:=fun x y hx hy A s g R=>by
 refine of ?_;obtain ⟨t,rfl⟩:=h11 hx;obtain ⟨u,rfl⟩:=o10 hy;rcases hs with hs | ⟨h2,hs⟩
 ·exact bytes_mul_any hb h0 h1 hs fun t' k=>⟨σ,R.tk _,by first | exact h | simpa [ab] using h⟩
 ·by_cases e:n=1
  ·subst e;have hz:b.toArray.size<=16777216:=by simpa using hs
   refine wpAny_binaryOp_repeat (T:="bytes") (U:="int") (by decide) (fun s'=>typeIs_bytes s' _ t) (fun s'=>typeIs_int s' 1 u) BMul.noFill PySem.F.fills_int_mul PySem.F.slot_int_rmul BMul.repeats PySem.F.slot_int_index.lookup
    (call_gives PySem.F.slot_int_rmul (typeIs_int s 1 u) PySem.F.entry_int_rmul (PySem.F.args_int_rmul_2 _ _) (BMul.int_declines 1 u _ t)
     ⟨rfl,call_gives BMul.slot_mul (typeIs_bytes s _ t) BMul.entry_mul (BMul.args_mul _ _) (BMul.gives_mul1 hz) ⟨σ,R,?_⟩⟩)
   simpa [ab] using h
  ·exact bytes_mul_K hb (by exact (Int.lt_or_gt_of_ne e).elim (fun qs5=>fk s!"hLn1AhSAn1o0Ln2A" [_] [] rfl h2 qs5) fun qs5=>fk s!"hSn1AoLn2A" [_] [] rfl qs5) h1 hs rfl fun t' k=>⟨σ,R.tk _,by first | exact h | simpa [ab] using h⟩
end
section
variable {X:Cx} {own:Nat->Option Nat} {fs:List (Nat×NS)} {σh:Nat->Option W0} {s:Shared}
theorem NsA.slots {h h':Heap} {d:Nat} {l:NS} (x:NsA h d l) (k: ∀o,h.get? d=some o-> ∃sl,h'.get? d=some {o with slots:=sl}):NsA h' d l:=by
 obtain ⟨m,⟨o,es,ep,ho,r⟩,e⟩:=x;obtain ⟨sl,hs⟩:=k o ho;exact ⟨m,⟨_,es,ep,hs,r⟩,e⟩
theorem Z0.slots (R:Z0 X own fs σh s) {S:List Nat} {h':Heap} (hS: ∀q∈S,q∈fs.map (·.1)) (x:Heap.SlotsOnly S s.heap h'):Z0 X own fs σh {s with heap:=h'}:=by
 have fr: ∀q∈S,own q=some q/\σh q=none/\X.h₀.get? q=none:=fun q hq=>by
  obtain ⟨p,hp,rfl⟩:=List.mem_map.mp (hS q hq);exact ⟨(R.frs p hp).1,(R.frs p hp).2.1,(R.owned _ _ (R.frs p hp).1).2⟩
 refine ⟨fun b o e=>(x.2.1 b fun q=>?_).trans (R.base b o e),fun b o e=>?_,fun p hp=>?_,R.nodup,fun q a e=>?_,R.os,R.bare⟩
 ·have:=(fr b q).2.2;rw [e] at this;cases this
 ·obtain ⟨h2,h3⟩:=R.objs b o e;refine ⟨h2,h3.move h2 (fun q y hq hy=>(x.2.1 q fun z=>?_).trans hy) fun _ z=>z⟩;obtain ⟨a1,a2,a3⟩:=fr q z;rw [a1] at hq;cases hq;rw [e] at a2;cases a2
 ·obtain ⟨h1,h2,h4⟩:=R.frs p hp;exact ⟨h1,h2,h4.slots fun o=>x.2.2 _ o⟩
 ·obtain ⟨⟨y,hy⟩,h2⟩:=R.owned q a e;obtain ⟨sl,hs⟩:=x.2.2 q y hy;exact ⟨⟨_,hs⟩,h2⟩
set_option tactic.hygienic true in
theorem m33 {α:Type} (f:Nat->Option α) {a:Nat} {o:α} (h:f a=some o):upd f a o=f:=by
 funext b;unfold upd;split
 ·rename_i e;subst e;exact h.symm
 ·rfl
end
def G8 (a:Nat) (s:Shared):Prop:= ∃o vs T,s.heap.get? a=some o/\o.data= .fields vs/\vs[1]? =some (.ref T)
section
variable {X:Cx} {c:Cf} {σ:St} {A:Around} {s:Shared} {E:Value->Shared->Prop}
theorem Cf.Ok.frames (g:c.Ok) (R:O1 X c σ s):s.heap.FunFrames X.h₀ c.fr:=by
 walk_at "o";have h:=g.frs;generalize c.fr=l at h
 induction l with
 | nil=>trivial
 | cons e l ih=>
  obtain ⟨h1,L,h2,h3⟩:=h e (.head _);refine ⟨h1,?_,ih fun x hx=>h x (.tail _ hx)⟩;obtain ⟨p,hp,rfl⟩: ∃p∈(c.env.locals,σ.loc)::c.nss,p.1=L:=by
   rcases List.mem_cons.mp h3 with rfl | h3
   ·exact ⟨_,.head _,rfl⟩
   ·obtain ⟨p,hp,e⟩:=List.mem_map.mp h3;exact ⟨p,.tail _ hp,e⟩
  obtain ⟨h0,_,m,⟨o,es,ep,ho,hd,_⟩,_⟩:=R.frs p hp;exact ⟨p.1,o,h2,(R.owned _ _ h0).2,ho,fun vs q=>by rw [hd] at q;cases q⟩
theorem Cf.Ok.frame (g:c.Ok): ∃L,c.env.frame=some L/\L∈c.env.locals::c.nss.map (·.1):=by
 obtain ⟨e,r,h1,h2⟩:=g.top;obtain ⟨_,L,h3,h4⟩:=g.frs e (h1▸ .head _);exact ⟨L,h2▸h3,h4⟩
theorem e17 {Q:Value->Shared->Prop} (g:c.Good A) (R:O1 X c σ s) (h: ∀h' L,c.env.frame=some L->O1 X c σ {s with heap:=h'}->(∀b o,(∀p∈(c.env.locals,σ.loc)::c.nss,p.1≠b)->s.heap.get? b=some o->h'.get? b=some o)->h'.objs.size=s.heap.objs.size->Q (.ref L) {s with heap:=h'}):
  wpAny X.M A (PySem.frameOf c.env) Q E s:=by
 obtain ⟨e,r,h1,h2⟩:=g.ok.top;have hl:=g.ok.frames R;obtain ⟨L,hL,_⟩:=g.ok.frame;unfold PySem.frameOf;refine d0 (wpAny_frameEnvs g.frames ?_);have hdw:(c.fr.dropWhile fun x=>x.frame != c.env.frame)=c.fr:=by rw [h1];simp [List.dropWhile,h2]
 rw [hdw,h1];rw [h1] at hl;unfold frameObject;refine d0 (d0 (wpAny_readyFrames_fun hl fun h₁ hs₁=>m0 ?_));rw [h2,hL];have hS: ∀q∈(e::r).filterMap (·.frame),q∈(((c.env.locals,σ.loc)::c.nss).map (·.1)):=fun q hq=>by
  obtain ⟨x,hx,hf⟩:=List.mem_filterMap.mp hq;obtain ⟨_,L',h3,h4⟩:=g.ok.frs x (h1▸hx);rw [hf] at h3;cases h3;exact h4
 walk_at "o";exact m0 (h h₁ L hL ⟨own,R.slots hS hs₁⟩ (fun b o hb ho=>(hs₁.2.1 b fun q=>by
  obtain ⟨p,hp,e⟩:=List.mem_map.mp (hS b q);exact hb p hp e).trans ho) hs₁.1)
theorem f17 {own:Nat->Option Nat} {h:Heap} {a:Nat} {C:Value} {args:Bool} {ns:NS} (H:Holds X own h a (.exc C args ns)): ∃o vs,h.get? a=some o/\o.data= .fields vs/\6<=vs.size/\(vs[1]? =some .none\/ ∃T ts oT,vs[1]? =some (.ref T)/\own T=some a/\T≠a/\h.get? T=some oT/\oT.data= .fields ts/\3<ts.size):=by
 obtain ⟨vs,dd,sl,h1,h2,h5,h6,h7⟩:=H;exact ⟨_,vs,h1,rfl,Nat.le_of_eq h2.symm,h6⟩
theorem c38 {own own':Nat->Option Nat} {h h':Heap} {a T:Nat} {C:Value} {args:Bool} {ns:NS} {oT:Obj} {ts:Array Value} (H:Holds X own h a (.exc C args ns)) (hk: ∀b o,own b=some a->b≠a->h.get? b=some o->h'.get? b=some o)
  (ha: ∀o,h.get? a=some o->h'.get? a=some (Obj.mapFields (·.setIfInBounds 1 (Value.ref T)) o)) (ho: ∀q,own q=some a->own' q=some a) (hT:own' T=some a) (hTa:T≠a) (hTo:h'.get? T=some oT) (hTd:oT.data= .fields ts) (h3:3<ts.size):
  Holds X own' h' a (.exc C args ns):=by
 obtain ⟨vs,dd,sl,h1,h2,h5',h6,h7⟩:=H;refine ⟨vs.setIfInBounds 1 (.ref T),dd,sl,ha _ h1,by simpa using h2,fun q=>by rw [Array.getElem?_setIfInBounds_ne (by decide)];exact h5' q,.inr ⟨T,ts,oT,by rw [Array.getElem?_setIfInBounds,if_pos rfl,if_pos (by omega)],hT,hTa,hTo,hTd,h3⟩,?_⟩
 ·cases dd with
  | none=>exact h7
  | some dx=>exact h7.imp (fun h7=>⟨ho _ h7.1,h7.2.1,h7.2.2.1,h7.2.2.2.move fun o=>hk _ _ h7.1 h7.2.1⟩) id
theorem d38 {own:Nat->Option Nat} {h:Heap} {a T:Nat} {C x:Value} {args:Bool} {ns:NS} {o oT:Obj} {vs ts:Array Value} (H:Holds X own h a (.exc C args ns)) (ho:h.get? a=some o) (hd:o.data= .fields vs) (hv:vs[1]? =some (.ref T)) (hTa:T≠a)
  (hTo:h.get? T=some oT) (hTd:oT.data= .fields ts) (h3:3<ts.size):Holds X own (h.update T (Obj.mapFields (·.setIfInBounds 3 x))) a (.exc C args ns):=by
 obtain ⟨vs',dd,sl,h1,h2,h5',h6,h7⟩:=H;rw [ho] at h1;obtain rfl:=w5 h1;obtain rfl:vs'=vs:=by cases hd;rfl
 have other: ∀b,b≠T->(h.update T (Obj.mapFields (·.setIfInBounds 3 x))).get? b=h.get? b:=fun b hb=>Heap.get?_update_other _ _ (Ne.symm hb);have oT':own T=some a:=by
  rcases h6 with h6 | ⟨T',_,_,h6,h8,_⟩
  ·rw [hv] at h6;cases h6
  ·rw [hv] at h6;cases h6;exact h8
 refine ⟨vs',dd,sl,(other a (Ne.symm hTa)).trans ho,h2,h5',.inr ⟨T,_,_,hv,oT',hTa,Heap.get?_update_self _ hTo (Obj.isFreed_of_fields (Obj.data_mapFields hTd _)),Obj.data_mapFields hTd _,by simpa using h3⟩,?_⟩
 ·cases dd with
  | none=>exact h7
  | some dx=>
   refine h7.imp (fun h7=>⟨h7.1,h7.2.1,h7.2.2.1,h7.2.2.2.move fun o e=>(other _ fun q=>?_).trans e⟩) id;obtain ⟨es,n,e2,_⟩:=h7.2.2.2;rw [q,hTo] at e2;cases e2;cases hTd
theorem Z0.flight {own:Nat->Option Nat} {fs:List (Nat×NS)} {σh:Nat->Option W0} {a T:Nat} {C x:Value} {args:Bool} {ns:NS} {o oT:Obj} {vs ts:Array Value} (R:Z0 X own fs σh s) (e:σh a=some (.exc C args ns))
  (ho:s.heap.get? a=some o) (hd:o.data= .fields vs) (hv:vs[1]? =some (.ref T)) (hTa:T≠a) (hTo:s.heap.get? T=some oT) (hTd:oT.data= .fields ts) (h3:3<ts.size) (hoT:own T=some a):
  Z0 X own fs σh {s with heap:=s.heap.update T (Obj.mapFields (·.setIfInBounds 3 x))}:=by
 have H:=d38 (x:=x) (R.objs _ _ e).2 ho hd hv hTa hTo hTd h3;have:=R.update (tk:=s.toks) e (o:= .exc C args ns) (fun b y hb hy=>(Heap.get?_update_other _ _ fun q=>?_).trans hy) (fun q hq=>by obtain ⟨y,hy⟩:=(R.owned q a hq).1;exact z22 hTo (Obj.isFreed_of_fields (Obj.data_mapFields hTd _)) q hy) H
 ·rw [m33 _ e] at this;exact this
 ·subst q;exact hb hoT
theorem v11 {a:Nat} {C:Value} {args:Bool} {ns:NS} {fl:Option Addr} {Q:Unit->Shared->Prop} (R:O1 X c σ s) (e:σ.h a=some (.exc C args ns))
  (h: ∀s',O1 X c σ s'->(G8 a s->G8 a s')->Q () s'):wpAny X.M A (setFlight (.ref a) fl) Q E s:=by
 walk_at "o";obtain ⟨o,vs,ho,hd,h6,hv⟩:=f17 (R.objs _ _ e).2;unfold setFlight;rcases hv with hv | ⟨T,ts,oT,hv,hoT,hTa,hTo,hTd,h3⟩
 ·refine d0 (wpAny_field ho hd hv ?_);rw [if_neg (by decide)];exact m0 (h s ⟨own,R⟩ id)
 ·refine d0 (wpAny_field ho hd hv ?_);rw [if_pos (show (Value.ref T != Value.none)=true from by simp)];refine wpAny_setField hTo hTd h3 (h _ ⟨own,R.flight e ho hd hv hTa hTo hTd h3 hoT⟩ fun ⟨o',vs',T',h1,h2,h4⟩=>⟨o',vs',T',?_,h2,h4⟩);exact (Heap.get?_update_other _ _ hTa).trans h1
theorem d19 {a:Nat} {C:Value} {args:Bool} {ns:NS} {head:Value} {f:Addr} {had:Bool} {Q:Unit->Shared->Prop} (g:c.Good A) (R:O1 X c σ s) (e:σ.h a=some (.exc C args ns)) (hf:c.env.frame=some f)
  (h: ∀s',O1 X c σ s'->G8 a s'->Q () s'):
  wpAny X.M A (do let fr<-PySem.frameOf c.env;let pl<-entryPlaceOf f had;let b<-EntryCells.newEntry head fr .none (rawInt f) .none pl;setField (.ref a) 1 b) Q E s:=by
 refine d0 (e17 g R fun h₁ L hL R₁ hk₁ hs₁=>?_);refine d0 (wpAny_entryPlaceOf fun pl hpl=>?_);unfold EntryCells.newEntry newFields;refine d0 (wpAny_newObj_type ?_ (hpl.sizeOk5 _ _ _ _ _));obtain ⟨own,R⟩:=R₁;have H:=(R.objs _ _ e).2;obtain ⟨o,vs,ho,hd,h6,hv⟩:=f17 H;have ho2:=i3 (h:=h₁) {cls:= .type "traceback",dict:=none,data:= .fields ([head,.ref L,.none,rawInt f,.none]++(if pl.isEmpty then List.replicate 6 Value.none else pl)).toArray} ho;have hTa:h₁.objs.size≠a:=Nat.ne_of_gt (ltN ho);refine wpAny_setField ho2 hd (by exact fk s!"hxn6Aoyn1A" [] [_] rfl h6) ?_;have hfree:=Obj.isFreed_of_fields (Obj.data_mapFields hd (·.setIfInBounds 1 (Value.ref h₁.objs.size)));have ha:=Heap.get?_update_self (Obj.mapFields (·.setIfInBounds 1 (Value.ref h₁.objs.size))) ho2 hfree;have hT:=(Heap.get?_update_other (h₁.push {cls:= .type "traceback",dict:=none,data:= .fields ([head,.ref L,.none,rawInt f,.none]++(if pl.isEmpty then List.replicate 6 Value.none else pl)).toArray})
  (Obj.mapFields (·.setIfInBounds 1 (Value.ref h₁.objs.size))) (Ne.symm hTa)).trans (y3 h₁ rfl)
 have keep: ∀b x,b≠a->h₁.get? b=some x->((h₁.push {cls:= .type "traceback",dict:=none,data:= .fields ([head,.ref L,.none,rawInt f,.none]++(if pl.isEmpty then List.replicate 6 Value.none else pl)).toArray}).update a (Obj.mapFields (·.setIfInBounds 1 (Value.ref h₁.objs.size)))).get? b=some x:=fun b x hb hx=>by
  rw [Heap.get?_update_other _ _ (Ne.symm hb)];exact i3 _ hx
 have hsz:h₁.objs.size+1=((h₁.push {cls:= .type "traceback",dict:=none,data:= .fields ([head,.ref L,.none,rawInt f,.none]++(if pl.isEmpty then List.replicate 6 Value.none else pl)).toArray}).update a (Obj.mapFields (·.setIfInBounds 1 (Value.ref h₁.objs.size)))).objs.size:=by
  rw [Heap.size_after_update,Heap.size_push]
 obtain ⟨own',R',_⟩:=R.O11 (tk:=s.toks) (o:= .exc C args ns) [h₁.objs.size] e (fun b x hb hx=>keep b x (fun q=>hb (q▸(R.objs _ _ e).1)) hx) (fun q hq=>by
  by_cases z:q=a
  ·subst z;exact ⟨_,ha⟩
  ·obtain ⟨y,hy⟩:=(R.owned q a hq).1;exact ⟨y,keep _ _ z hy⟩) (fun q hq=>by
  obtain rfl:=List.mem_singleton.mp hq;exact ⟨l6 (Nat.le_refl _),_,hT⟩) fun own' hown hpriv=>
  c38 H (fun b x _ hb hx=>keep b x hb hx) (fun o' ho'=>by rw [ho] at ho';cases ho';exact ha) hown (hpriv _ (.head _)) hTa hT rfl (by simp)
 rw [m33 _ e] at R';exact h _ ⟨own',R'⟩ ⟨_,_,_,ha,Obj.data_mapFields hd _,by rw [Array.getElem?_setIfInBounds,if_pos rfl,if_pos (by omega)]⟩
theorem q12 {a:Nat} {C:Value} {args:Bool} {ns:NS} {Q:Unit->Shared->Prop} (g:c.Good A) (R:O1 X c σ s) (e:σ.h a=some (.exc C args ns))
  (h: ∀s',O1 X c σ s'->G8 a s'->Q () s'):wpAny X.M A (noteFrame (.ref a) c.env) Q E s:=by
 obtain ⟨f,hf,_⟩:=g.ok.frame;unfold noteFrame;simp only [hf];walk_at "o";obtain ⟨o,vs,ho,hd,h6,hv⟩:=f17 (R.objs _ _ e).2;rcases hv with hv | ⟨T,ts,oT,hv,hoT,hTa,hTo,hTd,h3⟩
 ·refine d0 (wpAny_field ho hd hv ?_);rw [if_neg (by decide)];exact d19 g ⟨own,R⟩ e hf h
 ·refine d0 (wpAny_field ho hd hv ?_);rw [if_pos (show (Value.ref T != Value.none)=true from by simp)];have hx:ts[3]? =some ts[3]:=Array.getElem?_eq_some_iff.mpr ⟨h3,rfl⟩;refine d0 (wpAny_field hTo hTd hx ?_)
  split
  ·exact m0 (h s ⟨own,R⟩ ⟨o,vs,T,ho,hd,hv⟩)
  ·refine d0 (wpAny_setField hTo hTd h3 ?_);exact d19 g ⟨own,R.flight e ho hd hv hTa hTo hTd h3 hoT⟩ e hf h
theorem b23 {a:Nat} {C:Value} {args:Bool} {ns:NS} {Q:Unit->Shared->Prop} (g:c.Good A) (R:O1 X c σ s) (e:σ.h a=some (.exc C args ns))
  (h: ∀s',O1 X c σ s'->Q () s'):wpAny X.M A (leaving c.env (.ref a)) Q E s:=by
 unfold leaving;exact d0 (q12 g R e fun s' R' _=>v11 R' e fun s'' R'' _=>h s'' R'')
theorem e19 {a:Nat} {C:Value} {args:Bool} {ns:NS} {E:Value->Shared->Prop} (R:O1 X c σ s) (e:σ.h a=some (.exc C args ns)) (t:G8 a s) (h: ∀s',O1 X c σ s'->G8 a s'->E (.ref a) s'):cameBackBy X.M A c.env E (.ref a) s:=by
 obtain ⟨o,vs,T,ho,hd,hv⟩:=id t;unfold cameBackBy;refine d0 (wpAny_field ho hd hv ?_);rw [if_neg (by simp)];exact v11 R e fun s' R' ht=>h s' R' (ht t)
end
structure FnB (g:Bool) (X:Cx) (f:Nat) (fd:FuncData) (ks:List (Nat×NameKind)) (cs:List (Nat×Nat)) (body:List Stmt):Prop where
 at_: ∃o,X.h₀.get? f=some o/\o.data= .func fd
 code:X.h₀.CodeRec fd.code fd.qualname
 body:fd.body= .stmts body
 gl:fd.globals=mainGlobals
 bi:fd.builtins=builtinsNs
 clo:fd.closure=cs.map fun p=>(N p.1,p.2)
 kind:fd.scope.kind= .function
 co:fd.scope.isCoroutine=false
 gen:fd.scope.isGenerator=g
 nocell: ∀p∈ks,p.2≠NameKind.cell
 names:fd.scope.names=ks.map fun p=>(N p.1,p.2)
noncomputable abbrev Fn:=FnB false
theorem z13 (ks:List (Nat×NameKind)) (x:Nat):(ks.map fun p=>(N p.1,p.2)).lookup (N x)=ks.lookup x:=by
 induction ks with
 | nil=>rfl
 | cons p l ih=>
  obtain ⟨y,k⟩:=p;by_cases h:x=y
  ·subst h;rw [l11,v5,List.lookup_cons,beq_self_eq_true]
  ·rw [x12 _ _ h,v5,List.lookup_cons,show (N x==N y)=false from by rw [beq_eq_false_iff_ne];exact fun q=>h (o14 q)];exact ih
theorem n13 (cs:List (Nat×Nat)) (x:Nat):(cs.map fun p=>(N p.1,p.2)).lookup (N x)=cs.lookup x:=by
 induction cs with
 | nil=>rfl
 | cons p l ih=>
  obtain ⟨y,k⟩:=p;by_cases h:x=y
  ·subst h;rw [l11,v5,List.lookup_cons,beq_self_eq_true]
  ·rw [x12 _ _ h,v5,List.lookup_cons,show (N x==N y)=false from by rw [beq_eq_false_iff_ne];exact fun q=>h (o14 q)];exact ih
theorem a14 (bs:List (Str×Value)) (l:NS) (h:(bs.map fun p=>(p.1,ab p.2))=l.map fun p=>(N p.1,p.2)) (x:Nat):(bs.lookup (N x)).map ab=l.lookup x:=by
 induction bs generalizing l with
 | nil=>cases l with
  | nil=>rfl
  | cons _ _=>cases h
 | cons p bs ih=>
  cases l with
  | nil=>cases h
  | cons q l=>
   obtain ⟨y,v⟩:=p;obtain ⟨z,w⟩:=q;simp only [v5,List.cons.injEq,Prod.mk.injEq] at h;obtain ⟨⟨rfl,rfl⟩,h⟩:=h;by_cases e:x=z
   ·subst e;rw [l11,List.lookup_cons,beq_self_eq_true];rfl
   ·rw [x12 _ _ e,List.lookup_cons,show (N x==N z)=false from by rw [beq_eq_false_iff_ne];exact fun q=>e (o14 q)];exact ih l h
def Binds (X:Cx) (fd:FuncData) (as:List AV) (kw:List (Str×AV)) (l:NS):Prop:= ∀vs ks s,vs.map ab=as->ks.map (fun p=>(p.1,ab p.2))=kw->X.K.In s.heap->
 ∃binds,BindsTo s fd ⟨vs,ks⟩ binds/\(binds.reverse.map fun p=>(p.1,ab p.2))=(l.map fun p=>(N p.1,p.2))/\(∀x∈binds,fd.scope.names.lookup x.1=some .local)
noncomputable def Fl.val:Fl->AV | .ret v=>v | _=> .none
noncomputable def St.back (σ:St) (l:NS):St:={σ with loc:=l}
section
variable {X:Cx} {c:Cf} {σ:St} {E:Nat->St->Prop} {Q:AV->St->Prop}
def P0 (X:Cx) (c:Cf) (f:AV) (as:List AV) (kw:List (Str×AV)) (Q:AV->St->Prop) (E:Nat->St->Prop) (σ:St):Prop:=
 ∀F vs ks,ab F=f->vs.map ab=as->ks.map (fun p=>(p.1,ab p.2))=kw-> ∀A s,c.Good A->O1 X c σ s->K1 X.Z X.M A (.call F ⟨vs,ks⟩) (fun r s'=>match r with | .ok (.ret v)=> ∃σ',O1 X c σ' s'/\Q (ab v) σ' | .ok _=>False | .error e=>Exn X c E e s') s
theorem P0.call {f:AV} {as:List AV} {kw:List (Str×AV)} (h:P0 X c f as kw Q E σ):J2 X c f as kw Q E σ:=fun F vs ks hF hv hk A s g R=>q22 (h F vs ks hF hv hk A s g R)
theorem O1.inK {s:Shared} (R:O1 X c σ s):X.K.In s.heap:=fun a o e=>by obtain ⟨_,R⟩:=R;exact R.base _ _ (X.inK a o e)
noncomputable def Cf.inn (c:Cf) (l:NS) (n:Nat) (ks:List (Nat×NameKind)) (cs:List (Nat×Nat)) (env:Env):Cf:=⟨n,env,ks,cs,env::c.fr,(c.env.locals,l)::c.nss,c.hd⟩
theorem Cf.Good.inn {A:Around} (g:c.Good A) {l:NS} {n:Nat} {ks:List (Nat×NameKind)} {cs:List (Nat×Nat)} {env:Env} (hn:c.n=n+1) (hfn:env.scope.kind= .function) (hks:env.scope.names=ks.map fun p=>(N p.1,p.2))
  (hcs: ∀x a,cs.lookup x=some a->env.cells.lookup (N x)=some a) (hg:env.globals=mainGlobals) (hb:env.builtins=builtinsNs) (hf:env.frame=some env.locals):(c.inn l n ks cs env).Good (A.deeper env) where
 ok:=⟨hfn,fun x k e=>by show env.scope.names.lookup (N x)=_;rw [hks,z13];exact e,hcs,hg,hb,⟨env,c.fr,rfl,rfl⟩,fun e he=>by
  rcases List.mem_cons.mp he with rfl | he
  ·exact ⟨by rw [hfn];decide,_,hf,.head _⟩
  ·obtain ⟨h1,L',h2,h3⟩:=g.ok.frs e he;exact ⟨h1,L',h2,.tail _ h3⟩⟩
 frames:=by show A.frames.map (env:: ·)=_;rw [g.frames];rfl
 depth:=by have:=g.depth;rw [hn] at this;show A.depth+1+20*n<=980;(exact fk s!"hxaAl20aBn1n980oxaaAn1l20Bn980" [] [_,_] rfl this)
 units:=by have:=g.units;rw [hn] at this;show A.units+3+200*n<=9700;(exact fk s!"hxaAl200aBn1n9700oxaaAn3l200Bn9700" [] [_,_] rfl this)
 hd:=g.hd
theorem O1.leave {l:NS} {n:Nat} {ks:List (Nat×NameKind)} {cs:List (Nat×Nat)} {env:Env} {σ':St} {s:Shared} (R:O1 X (c.inn l n ks cs env) σ' s):O1 X c (σ'.back l) s:=by
 walk_at "o";exact ⟨own,R.leave⟩
theorem o43 {f n:Nat} {fd:FuncData} {ks:List (Nat×NameKind)} {cs:List (Nat×Nat)} {body:List Stmt} {as:List AV} {kw:List (Str×AV)} {l:NS} (F:Fn X f fd ks cs body) (hn:c.n=n+1) (hb:Binds X fd as kw l)
  (h: ∀L,WXs X (c.inn σ.loc n ks cs (callEnv fd L f)) body (fun fl σ'=>Q fl.val (σ'.back σ.loc)) (fun a σ'=>E a (σ'.back σ.loc)) {σ with loc:=l}):P0 X c (.ref f) as kw Q E σ:=fun F' vs kws hF hvs hks A s g R=>by
 obtain rfl:=t10 hF;obtain ⟨binds,hbi,hl,hloc⟩:=hb vs kws s hvs hks R.inK;obtain ⟨o,ho,hd⟩:=F.at_;walk_at "o";refine n18 (by have:=g.depth;rw [hn] at this;show A.depth<1000;(exact fk κ12 [] [_,_,_] rfl hn this)) (R.base _ _ ho) hd (X.lim.keeps R.base) (F.code.keeps R.base) F.body hbi (fun x hx=>?_) hloc (fun h' hns hk'=>?_) F.co F.gen F.kind
 ·rw [F.names] at hx;obtain ⟨p,hp,rfl⟩:=List.mem_map.mp hx;exact F.nocell p hp
 ·have g':(c.inn σ.loc n ks cs (callEnv fd s.heap.objs.size f)).Good (A.deeper (callEnv fd s.heap.objs.size f)):=g.inn hn F.kind F.names (fun x a e=>by show fd.closure.lookup (N x)=_;rw [F.clo,n13];exact e) F.gl F.bi rfl;obtain ⟨own',R'⟩:=R.enter (tk:=s.toks+binds.length) (L:=s.heap.objs.size) (l:=l) hk' (l6 (Nat.le_refl _)) ⟨_,hns,fun x v hx=>by
   have:=a14 _ _ hl x;rw [hx] at this;exact Option.map_eq_some_iff.mp this⟩
  refine c10 (h s.heap.objs.size _ _ g' ⟨own',R'⟩) (fun fl s' hp1=>U0 hp1 fun σ' R2 q=>⟨σ'.back σ.loc,R2.leave,?_⟩) (fun V s' hp2=>H9 hp2 fun a σ' e hp3 R2 q=>Y9 hp3 fun C args fs hx=>?_)
  ·cases fl<;>exact q
  ·subst e;exact b23 g' R2 hx fun s'' R3=>⟨a,σ'.back σ.loc,rfl,⟨C,args,fs,hx⟩,R3.leave,q⟩
end
theorem c23 {V:Value} {a:Nat} {x:Nat} (h: ∃t,V= .str (N a) t):V.isStr (N x)=decide (x=a):=by
 obtain ⟨t,rfl⟩:=h;show (N a==N x)=_;by_cases e:x=a
 ·subst e;simp
 ·rw [show (N a==N x)=false from by rw [beq_eq_false_iff_ne];exact fun q=>e (o14 q).symm];simp [e]
theorem g17 {es:List DictEntry} {fs:NS} (h:I8 I11 es fs) (x:Nat):match fs.lookup x with | some v=> ∃V,getL (N x) es=some (some V)/\ab V=v | none=>getL (N x) es=some none:=by
 have key: ∀(es:List DictEntry) (fs:NS),I8 I11 es fs->(match fs.lookup x with | some v=> ∃e,es.find? (·.key.isStr (N x))=some e/\ab e.val=v | none=>es.find? (·.key.isStr (N x))=none)/\es.any (·.refKey)=false:=by
  intro es fs h
  induction h with
  | nil=>exact ⟨rfl,rfl⟩
  | @cons e p es fs hd tl ih=>
   obtain ⟨k,v⟩:=p;have hk:=c23 (x:=x) hd.1;refine ⟨?_,?_⟩
   ·by_cases q:x=k
    ·subst q;rw [l11];exact ⟨e,by rw [List.find?_cons,hk];simp,hd.2⟩
    ·rw [x12 _ _ q];have:(e::es).find? (·.key.isStr (N x))=es.find? (·.key.isStr (N x)):=by rw [List.find?_cons,hk];simp [q]
     rw [this];exact ih.1
   ·rw [List.any_cons,ih.2,Bool.or_false];obtain ⟨t,e⟩:=hd.1;unfold DictEntry.refKey;rw [e]
 have:=key es fs h;unfold getL;cases e:fs.lookup x with
 | some v=>
  rw [e] at this;obtain ⟨⟨en,h1,h2⟩,_⟩:=this;exact ⟨en.val,by rw [h1],h2⟩
 | none=>
  rw [e] at this;simp only [this.1,this.2];rfl
theorem p43 {es:List DictEntry} {fs:NS} (h:I8 I11 es fs) (x:Nat) (hs:Int) (t:Tok) (V:Value):I8 I11 (putL (N x) hs (.str (N x) t) V es) (put fs x (ab V)):=by
 induction h with
 | nil=>exact .cons ⟨⟨_,rfl⟩,rfl⟩ .nil
 | @cons e p es fs hd tl ih=>
  obtain ⟨k,v⟩:=p;have hk:=c23 (x:=x) hd.1;unfold putL put;rw [hk];by_cases q:x=k
  ·subst q;simp only [decide_true,if_true];exact .cons ⟨hd.1,rfl⟩ tl
  ·simp only [q,decide_false,Bool.false_eq_true,if_false];exact .cons hd ih
theorem v29 (l:NS) (x:Nat) (v:AV):(put l x v).length<=l.length+1:=by
 induction l with
 | nil=>exact Nat.le_refl _
 | cons p l ih=>show (if x=p.1 then (x,v)::l else p::put l x v).length<=_;split<;>simp<;>(exact ih)
theorem e38 {es:List DictEntry} {fs:NS} (h:I8 I11 es fs):es.any (·.refKey)=false:=by
 induction h with
 | nil=>rfl
 | @cons e p es fs hd tl ih=>
  rw [List.any_cons,ih,Bool.or_false];obtain ⟨t,e⟩:=hd.1;unfold DictEntry.refKey;rw [e]
theorem I8.length {α β:Type} {R:α->β->Prop} {l:List α} {m:List β} (h:I8 R l m):l.length=m.length:=by
 induction h with
 | nil=>rfl
 | cons _ _ ih=>simp [ih]
noncomputable def AV.plain:AV->Bool | .builtin _=>false | .other=>false | _=>true
theorem d23 {V:Value} (h:(ab V).plain=true):handedIn V=true:=by cases V<;>first | rfl | exact no_ft h
noncomputable def I9 (K:Frag) (C x:Nat):Bool:=plainGet K C (N x)&&hasDictIn K C&&(match findIn K (.ref C) (N x) with | some attr=>noGet K attr | none=>false)
noncomputable def M8 (K:Frag) (C x:Nat):Option AV:=if plainGet K C (N x)&&hasDictIn K C&&!(copiedNames.contains (N x)) then (match findIn K (.ref C) (N x) with | some (some a)=>if specialIn K a "__get__"==some none&&handedIn a then some (ab a) else none | _=>none) else none
noncomputable def U6 (K:Frag) (C x:Nat):Option Nat:=if plainGet K C (N x) then (match findIn K (.ref C) (N x) with | some (some (.ref f))=>if typeIn K (.ref f)==some (.type "function") then some f else none | _=>none) else none
noncomputable def Y6 (K:Frag) (C x:Nat):Bool:=findIn K (.ref C) "__setattr__"==some (some (.builtin "object.__setattr__"))&&plainOver K C&&takerIn K C (N x)==some none&&hasDictIn K C
section
variable {X:Cx} {c:Cf} {σ:St} {E:Nat->St->Prop} {Q:AV->St->Prop}
theorem h17 {own:Nat->Option Nat} {h:Heap} {p C:Nat} {fs:NS} (H:Holds X own h p (.inst C fs)): ∃dx sl es n,own dx=some p/\dx≠p/\h.get? dx=some (dictOf es n)/\I8 I11 es fs/\h.get? p=some ⟨.ref C,some dx,.plain,sl⟩/\InstAt h p ⟨.ref C,some dx,.plain,sl⟩ C (some (dictOf es n)):=by
 obtain ⟨dx,sl,h1,h2,h3,es,n,h4,h5⟩:=H;exact ⟨dx,sl,es,n,h1,h2,h4,h5,h3,h3,rfl,rfl,h4⟩
set_option tactic.hygienic true in
theorem q43 {p C x:Nat} {fs:NS} {v:AV} (e:σ.h p=some (.inst C fs)) (hx:fs.lookup x=some v) (ok:I9 X.K C x=true) (hv:v.plain=true) (h:Q v σ):WGA X c (.ref p) (N x) Q E σ:=fun V ex hV A s g R=>by
 refine of ?_;obtain rfl:=t10 hV;have RK:=R.inK;walk_at "o";obtain ⟨dx,sl,es,n,_,_,_,h5,_,I⟩:=h17 (R.objs _ _ e).2;have hg:=g17 h5 x;rw [hx] at hg;obtain ⟨W,hW,rfl⟩:=hg;unfold I9 at ok;simp only [z0] at ok;obtain ⟨⟨h1,h2⟩,h3⟩:=ok
 split at h3
 ·rename_i attr ha;exact get_value RK I (plainGet_of h1).1 (findObj_own h2 ha h3 hW) (d23 hv) ⟨σ,⟨own,R.toks _⟩,h⟩
 ·cases h3
set_option tactic.hygienic true in
theorem k48 {p C x:Nat} {fs:NS} {v:AV} (e:σ.h p=some (.inst C fs)) (hx:fs.lookup x=none) (ok:M8 X.K C x=some v) (h:Q v σ):WGA X c (.ref p) (N x) Q E σ:=fun V ex hV A s g R=>by
 refine of ?_;obtain rfl:=t10 hV;have RK:=R.inK;walk_at "o";obtain ⟨dx,sl,es,n,_,_,_,h5,_,I⟩:=h17 (R.objs _ _ e).2;have hg:=g17 h5 x;rw [hx] at hg;unfold M8 at ok
 split at ok
 ·rename_i q;simp only [z0,Bool.not_eq_true'] at q;obtain ⟨⟨h1,h2⟩,h3⟩:=q
  split at ok
  ·rename_i a ha
   split at ok
   ·rename_i q2;simp only [z0,beq_iff_eq] at q2;cases ok;exact get_value RK I (plainGet_of h1).1 (findObj_cls h2 ha q2.1 q2.2 h3 hg) q2.2 ⟨σ,⟨own,R.toks _⟩,h⟩
   ·cases ok
  ·cases ok
 ·cases ok
theorem n33 {p C x:Nat} {fs:NS} {v:AV} {Q:St->Prop} (e:σ.h p=some (.inst C fs)) (ok:Y6 X.K C x=true) (hl:fs.length<=900) (h:Q {σ with h:=upd σ.h p (.inst C (put fs x v))}):WSA X c (.ref p) (N x) v Q E σ:=fun V W hV hW A s g R=>by
 refine of ?_;obtain rfl:=t10 hV;have RK:=R.inK;walk_at "o";have H:=(R.objs _ _ e).2;obtain ⟨dx,sl,es,n,o1,o2,o3,h5,o6,I⟩:=h17 H;unfold Y6 at ok;simp only [z0,beq_iff_eq] at ok;obtain ⟨⟨⟨k1,k2⟩,k3⟩,k4⟩:=ok;refine set_plain RK I k1 (osa_open (s:={s with toks:=s.toks+1}) RK I k2 k3 fun b=>?_);obtain ⟨cd,hc,hd'⟩:=any_some k4;have hn:=e38 h5;obtain ⟨hh,gg,d,t,os⟩:=s;dsimp only at RK R o3 o6⊢;refine d0 (m0 (d0 (d0 (wpAny_loadPart o6 (d0 ((looks_clsIn RK hc).at ?_))))));rw [hd'];refine m0 (a:=some dx) (d0 (m0 (d0 ?_)));unfold nsSet;refine d0 (d0 (wpAny_askSetting (m0 (d0 (wpAny_mkText (d0 (wpAny_loadPart o3 ?_)))))));dsimp only;rw [aRefKeyMayBeTheName_at];have c0:(!es.toArray.any (fun e=>e.key.isStr (N x))&&es.toArray.any (fun e=>e.refKey))=false:=by
  rw [<-Array.any_toList,<-Array.any_toList];show (!es.any _&&es.any _)=false;rw [hn,Bool.and_false]
 rw [c0];refine wpAny_updatePart o3 ?_;have Z8:=putName_dict (N x) (PyData.keyHash X.w.params (N x)) (.str (N x) (t+1)) W es n;have h6:=p43 h5 x (PyData.keyHash X.w.params (N x)) (t+1) W;have hfr:(dictOf (putL (N x) (PyData.keyHash X.w.params (N x)) (.str (N x) (t+1)) W es) (putN (N x) es n)).isFreed=false:=rfl;have o3':=Heap.get?_update_self (Obj.putName (N x) (PyData.keyHash X.w.params (N x)) (.str (N x) (t+1)) W) o3 (by rw [Z8];exact hfr);rw [Z8] at o3';refine d0 (wpAny_lookBehind o3' (pastItsLine_dict (by rw [List.size_toArray,h6.length,sizeLine_eq];have:=v29 fs x (ab W);(exact fk s!"hxAn900hxBaAn1oxBan16777216n1" [] [_,_] rfl hl this))) ?_);refine m0 ?_;rw [<-hW] at h;refine ⟨_,⟨own,?_⟩,h⟩;have:=R.update (tk:=t+1+1) (o:= .inst C (put fs x (ab W))) e (h':=hh.update dx (Obj.putName (N x) (PyData.keyHash X.w.params (N x)) (.str (N x) (t+1)) W)) (fun b y hb hy=>(Heap.get?_update_other _ _ fun q=>by subst q;exact hb o1).trans hy)
  (fun q hq=>by obtain ⟨y,hy⟩:=(R.owned q p hq).1;exact z22 o3 (by rw [Z8];exact hfr) q hy) ⟨dx,sl,o1,o2,(Heap.get?_update_other _ _ o2).trans o6,_,_,o3',h6⟩
 exact this
end
section
variable {Z:Bool} {M:Model} {A:Around} {E:Value->Shared->Prop} {s:Shared}
theorem f19 {f:Value} {args:List (Bool×Sem Value)} {kws:List (Option Str×Sem Value)} {Q:Args->Shared->Prop} (hp:args.any (·.1)=false) (hk:kws.all (·.1.isSome)=true)
  (h:wpZ Z M A (spliced args) (fun vs s1=>wpZ Z M A (evalAll (kws.map (·.2))) (fun ks s2=>Q ⟨vs,(kws.filterMap (·.1)).zip ks⟩ s2) E s1) E s):wpZ Z M A (evalArgs f true args kws) Q E s:=by
 unfold evalArgs;rcases args with _ | ⟨⟨b,x⟩,rest⟩
 ·show wpZ Z M A (spliced []>>=_) Q E s;refine a10 (c10 h (fun vs s1 h1=>a10 (m10 (j10 ?_))) ide);simp only [hk,if_true];exact a10 (c10 h1 (fun ks s2 q=>a10 (m10 (m10 q))) ide)
 ·cases b with
  | true=>cases hp
  | false=>
  show wpZ Z M A (spliced ((false,x)::rest)>>=_) Q E s;refine a10 (c10 h (fun vs s1 h1=>a10 (m10 (j10 ?_))) ide);simp only [hk,if_true];exact a10 (c10 h1 (fun ks s2 q=>a10 (m10 (m10 q))) ide)
end
noncomputable def slc {α:Type} (l:List α) (lo hi:Option Int):List α:=(l.drop (lo.elim 0 (clipAt l.length))).take (hi.elim l.length (clipAt l.length)-lo.elim 0 (clipAt l.length))
theorem o33 {α:Type} (l:List α) (lo hi:Option Int):(slc l lo hi).length<=l.length:=by
 unfold slc;rw [List.length_take,List.length_drop];(exact fk s!"hxABhxCAoxCB" [] [_,_,_] rfl (Nat.sub_le _ _) (Nat.min_le_right _ _))
noncomputable def part:AV->Option (Option Int) | .none=>some none | .int i=>some (some i) | _=>none
theorem d20 {V:Value} {a:AV} {r:Option Int} (h:part a=some r) (hV:ab V=a):IsPart V r:=by
 cases a with
 | none=>cases h;rw [<-x13 hV];exact .none
 | int i=>cases h;obtain ⟨t,rfl⟩:=o10 hV;exact .int i t
 | _=>cases h
noncomputable abbrev K6 (l u:Value):Obj:={cls:= .type "slice",data:= .fields #[l,u,.none]}
section
variable {X:Cx} {c:Cf} {σ:St} {E:Nat->St->Prop} {Q:AV->St->Prop}
def U3 (X:Cx) (c:Cf) (f:AV) (σ:St):Prop:= ∀F s,ab F=f->O1 X c σ s-> ∃k,(k=Keeper.frame\/k=Keeper.machine\/k=Keeper.boundFrame)/\Looks X.M s.heap (keeperOf F) k
theorem q41 {a:Nat} (h:keepIn X.K (.ref a)=true):U3 X c (.ref a) σ:=fun F s hF R=>by
 obtain rfl:=t10 hF;exact keeps_K h _ R.inK
theorem g11 {n:String}:U3 X c (.builtin n) σ:=fun F s hF R=>by
 obtain rfl:=d11 hF;exact ⟨.machine,.inr (.inl rfl),.now⟩
theorem o13 {n:String}:U3 X c (.type n) σ:=fun F s hF R=>by
 obtain rfl:=x11 hF;exact ⟨.machine,.inr (.inl rfl),.now⟩
def WKs (X:Cx) (c:Cf) (p:Pos) (kws:List Keyword) (Q:List (Str×AV)->St->Prop) (E:Nat->St->Prop) (σ:St):Prop:=
 WT X c (evalAll ((backToKw p (keywordEach kws c.env)).map (·.2))) (fun ks=>((backToKw p (keywordEach kws c.env)).filterMap (·.1)).zip (ks.map ab)) Q E σ
theorem l48 {p:Pos} {Q:List (Str×AV)->St->Prop} (h:Q [] σ):WKs X c p [] Q E σ:=fun A s g R=>m10 ⟨σ,R,h⟩
theorem r43 {p p':Pos} {n:Str} {e:Expr} {r:List Keyword} {Q:List (Str×AV)->St->Prop} (h:WE X c e (fun a=>WKs X c p r (fun ks=>Q ((n,a)::ks)) E) E σ):WKs X c p (⟨some n,e,p'⟩::r) Q E σ:=by
 unfold WKs;show WT X c (do
  let v<-(do let v<-eval e c.env;standAt p;pure v:Sem Value)
  return v::(<-holding [v] (evalAll ((backToKw p (keywordEach r c.env)).map (·.2))))) _ Q E σ
 refine WT.bind (f:=ab) (WT.bind (h.mono (fun a σ' q v hv=>WT.standAt (WT.pure (fun v' hv'=>?_))) ide));subst hv;refine WT.bind (WT.holding (q.mono (fun ks σ2 q2 l hl=>WT.pure ?_) ide));subst hl;have:ab v'=ab v:=hv';show Q ((n,ab v')::_) σ2;rw [this];exact q2
def WGM (X:Cx) (c:Cf) (a:AV) (x:Str) (Q:AV×List AV->St->Prop) (E:Nat->St->Prop) (σ:St):Prop:= ∀v pl,ab v=a->WT X c (getMethod v x pl) (fun r=>(ab r.1,r.2.map ab)) Q E σ
theorem m48 (l:List Str) (ks:List Value):(l.zip ks).map (fun p=>(p.1,ab p.2))=l.zip (ks.map ab):=by
 induction l generalizing ks with
 | nil=>rfl
 | cons x l ih=>cases ks with
  | nil=>rfl
  | cons k ks=>simp [ih]
theorem g19 {f:AV} {first:List AV} {args:List Expr} {kws:List Keyword} {p p':Pos} (h:WEs X c p args (fun as=>WKs X c p kws (fun ks σ3=>U3 X c f σ3/\J2 X c f (first++as) ks Q E σ3) E) E σ)
  (hp:(backTo p (starEach args c.env)).any (·.1)=false) (hk:(backToKw p (keywordEach kws c.env)).all (·.1.isSome)=true):
  ∀F vs,ab F=f->vs.map ab=first->WT X c (callWith p' F vs (backTo p (starEach args c.env)) (backToKw p (keywordEach kws c.env))) ab Q E σ:=fun F vs hF hvs A s g R=>by
 have hk':(backToKw p (keywordEach kws c.env)).any (·.1.isNone)=false:=by
  rw [List.any_eq_false];intro x hx;have:=List.all_eq_true.mp hk x hx;cases h:x.1 with
  | none=>rw [h] at this;cases this
  | some _=>simp
 refine p29 (by rw [hp,hk'];rfl) (f19 hp hk ?_);refine c10 (h A s g R) (fun as s1 hp1=>U0 hp1 fun u2 R1 q1=>c10 (q1 A s1 g R1) (fun ks s2 hp3=>U0 hp3 fun σ2 R2 q2=>⟨q2.1 F s2 hF R2,?_⟩) ide) ide;exact q2.2 F (vs++as) _ hF (by rw [List.map_append,hvs]) (m48 _ _) A s2 g R2
theorem n48 {f:Str} {args:List Expr} {kws:List Keyword} {pf p:Pos} (h:WE X c (.Name f pf) (fun f=>WEs X c p args (fun as=>WKs X c p kws (fun ks σ3=>U3 X c f σ3/\J2 X c f as ks Q E σ3) E) E) E σ)
  (hp:(backTo p (starEach args c.env)).any (·.1)=false) (hk:(backToKw p (keywordEach kws c.env)).all (·.1.isSome)=true):WE X c (.Call (.Name f pf) args kws p) Q E σ:=by
 unfold WE;rw [arm_eval_Call_Name'];exact WT.bind (h.mono (fun a σ' q v hv=>g19 q hp hk v [] hv rfl) ide)
theorem o48 {o:Expr} {x:Str} {args:List Expr} {kws:List Keyword} {pa p:Pos} (h:WE X c o (fun a=>WGM X c a x (fun r=>WEs X c p args (fun as=>WKs X c p kws (fun ks σ3=>U3 X c r.1 σ3/\J2 X c r.1 (r.2++as) ks Q E σ3) E) E) E) E σ)
  (hb:attributeBase o x c.env (eval o c.env)=eval o c.env) (hp:(backTo p (starEach args c.env)).any (·.1)=false) (hk:(backToKw p (keywordEach kws c.env)).all (·.1.isSome)=true)
  (hf:methodCallForm (args.length+kws.length) (backTo p (starEach args c.env)) (backToKw p (keywordEach kws c.env))=true) (hl:(pa.endLine==p.line)=true):WE X c (.Call (.Attribute o x pa) args kws p) Q E σ:=by
 unfold WE;rw [arm_eval_Call,hb];refine WT.bind (h.mono (fun a σ' q v hv=>WT.standAt ?_) ide);unfold methodCall;rw [hf];unfold calleeOf;rw [if_pos rfl];refine WT.bind (WT.holding ((q v _ hv).mono (fun r σ2 q2 w hw=>?_) ide));obtain ⟨F,first⟩:=w;unfold methodCallPos;dsimp only;rw [show (!true||pa.endLine==p.line)=true from hl,if_pos rfl];subst hw;refine WT.bind (WT.pure (f:=id) (fun _ _=>?_));exact g19 q2 hp hk F first rfl rfl
set_option tactic.hygienic true in
theorem u52 {p C x f:Nat} {fs:NS} {Q:AV×List AV->St->Prop} (e:σ.h p=some (.inst C fs)) (hx:fs.lookup x=none) (ok:U6 X.K C x=some f) (h:Q (.ref f,[.ref p]) σ):WGM X c (.ref p) (N x) Q E σ:=fun V pl hV A s g R=>by
 refine of ?_;obtain rfl:=t10 hV;have RK:=R.inK;walk_at "o";obtain ⟨dx,sl,es,n,_,_,_,h5,_,I⟩:=h17 (R.objs _ _ e).2;have hg:=g17 h5 x;rw [hx] at hg;unfold U6 at ok
 split at ok
 ·rename_i q
  split at ok
  ·rename_i f' ha
   split at ok
   ·rename_i q2;cases ok;exact method_fn RK I (plainGet_of q).1 (plainGet_of q).2 ha (beq_iff_eq.mp q2) (by show (lookIn (N x) (dictOf es n)).map _=_;rw [lookIn_dict,hg];rfl) ⟨σ,⟨own,R⟩,h⟩
   ·cases ok
  ·cases ok
 ·cases ok
def Y13 (X:Cx) (c:Cf) (a lo hi:AV) (Q:AV->St->Prop) (E:Nat->St->Prop) (σ:St):Prop:= ∀o l u,ab o=a->ab l=lo->ab u=hi-> ∀A s,c.Good A->O1 X c σ s->
 wpZ X.Z X.M A (getItem o (.ref s.heap.objs.size)) (fun v s'=> ∃σ',O1 X c σ' s'/\Q (ab v) σ') (Exn X c E) {s with heap:=s.heap.push (K6 l u)}
def R9 (X:Cx) (c:Cf) (e:Option Expr) (Q:AV->St->Prop) (E:Nat->St->Prop) (σ:St):Prop:=WT X c (evalPart e c.env) ab Q E σ
theorem f38 (h:Q .none σ):R9 X c none Q E σ:=by
 unfold R9;rw [evalPart_none];exact WT.pure h
theorem g38 {e:Expr} (h:WE X c e Q E σ):R9 X c (some e) Q E σ:=by
 unfold R9;rw [evalPart_some];exact h
theorem v52 {e:Expr} {lo hi:Option Expr} {p p':Pos} (h:WE X c e (fun a=>R9 X c lo (fun l=>R9 X c hi (fun u σ'=>O6 X c a σ'/\Y13 X c a l u Q E σ') E) E) E σ):WE X c (.Subscript e (.Slice lo hi none p') p) Q E σ:=fun A s g R=>by
 rw [eval_Subscript];refine a10 (c10 (h A s g R) (fun a s1 hp4=>U0 hp4 fun u5 R1 q=>a10 (j10 (d33 (c10 (q A s1 g R1) (fun l s2 hp6=>U0 hp6 fun u7 R2 q2=>c10 (q2 A s2 g R2) (fun u s3 hp8=>U0 hp8 fun σ3 R3 q3=>?_) ide) ide)))) ide);rw [evalPart_none];refine m10 (a10 (of <| wpAny_standAt (a10 ?_)));have R4:O1 X c σ3 {s3 with heap:=s3.heap.push (K6 l u)}:=by obtain ⟨own,r⟩:=R3;exact ⟨own,r.push _ _⟩
 refine q3.1.asks rfl R4 ?_;exact a10 (y11 (c10 (q3.2 a l u rfl rfl rfl A s3 g R3) (fun r s5 h5=>a10 (of <| wpAny_letTemporaryGo (m10 h5))) ide))
theorem Z0.J4 {own:Nat->Option Nat} {fs:List (Nat×NS)} {σh:Nat->Option W0} {s:Shared} (R:Z0 X own fs σh s) {ob:Obj} {o:W0} {tk:Nat} (hf:ob.isFreed=false)
  (H: ∀own',Holds X own' (s.heap.push ob) s.heap.objs.size o) (ng:NoG o:=by exact trivial):σh s.heap.objs.size=none/\ ∃own',Z0 X own' fs (upd σh s.heap.objs.size o) {s with heap:=s.heap.push ob,toks:=tk}:=by
 have hn:s.heap.get? s.heap.objs.size=none:=l6 (Nat.le_refl _);exact ⟨(R.fresh hn).1,R.alloc [] (fun _ _ e=>i3 _ e) hn ⟨_,y3 _ hf⟩ (fun q hq=>nomatch hq) (fun own' _ _=>H own') ng⟩
theorem p48 {es:List Expr} {p:Pos} (h:WEs X c p es (fun as σ'=>as.length<=16777216/\ ∀a,σ'.h a=none->Q (.ref a) {σ' with h:=upd σ'.h a (.list as)}) E σ):WE X c (.List es p) Q E σ:=fun A s g R=>by
 refine s47 (c10 (h A s g R) (fun vs s1 hp9=>T12 hp9 fun σ1 hp10 q1 q2=>hp10.elim fun own R1=>⟨by rw [sizeLine_eq];simpa using q1,?_⟩) ide);obtain ⟨h1,own',R'⟩:=R1.J4 (tk:=s1.toks) (o:= .list (vs.map ab)) (ob:={cls:= .type "list",data:= .seq vs.toArray}) rfl fun own'=>⟨_,⟨_,y3 _ rfl⟩,rfl⟩;exact ⟨_,⟨own',R'⟩,q2 _ h1⟩
theorem s43 {es:List Expr} {k:Nat} {p:Pos} (h:WEs X c p es (fun as σ'=>as.length<=16777216/\ ∀a,σ'.h a=none->Q (.ref a) {σ' with h:=upd σ'.h a (.tuple as)}) E σ):WE X c (.Tuple es k p) Q E σ:=fun A s g R=>by
 refine b43 (c10 (h A s g R) (fun vs s1 hp11=>T12 hp11 fun σ1 hp12 q1 q2=>hp12.elim fun own R1=>⟨by rw [sizeLine_eq];simpa using q1,?_⟩) ide);obtain ⟨h1,own',R'⟩:=R1.J4 (tk:=s1.toks) (o:= .tuple (vs.map ab)) (ob:={cls:= .type "tuple",data:= .seq vs.toArray}) rfl fun own'=>⟨_,⟨_,y3 _ rfl,rfl,_,rfl⟩,rfl⟩;exact ⟨_,⟨own',R'⟩,q2 _ h1⟩
theorem q48 {l m r:Expr} {o1 o2:CmpOp} {p:Pos} {Q:Bool->St->Prop} (h:WE X c l (fun a=>WE X c m (fun b=>U4 X c o1 a b (fun v=>X7 X c v (fun t σ'=>if t=true then WE X c r (fun d=>U4 X c o2 b d (fun v2=>X7 X c v2 Q E) E) E σ' else Q false σ') E) E) E) E σ)
  (hm:markedBehindIn o2 r (eval r c.env)=eval r c.env):WTe X c (.Compare l [o1,o2] [m,r] p) Q E σ:=by
 unfold WTe;rw [arm_isTrue_Compare];have e:markedEach [o1,o2] [m,r] (evalEach [m,r] c.env)=[eval m c.env,eval r c.env]:=by
  show [eval m c.env,markedBehindIn o2 r (eval r c.env)]=_;rw [hm]
 rw [e];refine WT.bind (h.mono (fun a σ1 q lv hl=>?_) ide);show WT X c (do
  let rv<-holding [lv] (eval m c.env)
  standAt p
  let cv<-holding [lv,rv] (compareOp o1 lv rv)
  release [lv,rv] [cv]
  if<-holding [cv,rv] (truthy cv) then testChain p rv [o2] [eval r c.env] else pure false) id Q E σ1
 refine WT.bind (WT.holding (q.mono (fun b σ2 q2 rv hr=>?_) ide));refine WT.standAt (WT.bind (WT.holding ((q2 lv rv hl hr).mono (fun v σ3 q3 cv hc=>?_) ide)));refine WT.release (WT.bind (WT.holding ((q3 cv hc).mono (fun t σ4 q4 t' ht=>?_) ide)));cases ht;cases t' with
 | false=>exact WT.pure q4
 | true=>
  rw [if_pos rfl];show WT X c (do
   let dv<-holding [rv] (eval r c.env)
   standAt p
   let cv<-operate [rv,dv] (compareOp o2 rv dv)
   holding [cv] (truthy cv)) id Q E σ4
  refine WT.bind (WT.holding ((show WE X c r _ E σ4 from q4).mono (fun d σ5 q5 dv hd=>?_) ide));refine WT.standAt (WT.bind (WT.operate ((q5 rv dv hr hd).mono (fun v2 σ6 q6 cv2 hc2=>?_) ide)));exact WT.holding (q6 cv2 hc2)
theorem t43 {p:Pos} (h: ∀a,σ.h a=none->Q (.ref a) {σ with h:=upd σ.h a (.dictS [])}):WE X c (.Dict [] [] p) Q E σ:=fun A s g hp13=>hp13.elim fun own R=>by
 obtain ⟨h1,own',R'⟩:=R.J4 (tk:=s.toks) (o:= .dictS []) (ob:={cls:= .type "dict",data:= .dict #[]}) rfl fun own'=>⟨[],⟨_,#[],0,y3 _ rfl,⟨rfl,rfl,rfl⟩,rfl,(fun e he=>by simp at he),.nil,List.nodup_nil⟩,rfl⟩;exact of <| wpAny_Dict_empty ⟨_,⟨own',R'⟩,h _ h1⟩
def WPr (X:Cx) (c:Cf) (p:Pos) (keys:List (Option Expr)) (values:List Expr) (Q:List (AV×AV)->St->Prop) (E:Nat->St->Prop) (σ:St):Prop:=WT X c (evalPairs (pairTrees keys values c.env p)) (List.map fun q=>(ab q.1,ab q.2)) Q E σ
theorem r48 {p:Pos} {Q:List (AV×AV)->St->Prop} (h:Q [] σ):WPr X c p [] [] Q E σ:=fun A s g R=>of <| pairTrees_nil_walk ⟨σ,R,h⟩
theorem u43 {p:Pos} {k v:Expr} {ks:List (Option Expr)} {vs:List Expr} {Q:List (AV×AV)->St->Prop} (h:WE X c k (fun a=>WE X c v (fun b=>WPr X c p ks vs (fun l=>Q ((a,b)::l)) E) E) E σ):WPr X c p (some k::ks) (v::vs) Q E σ:=fun A s g R=>
 c16 (c10 (h A s g R) (fun kv s1 hp14=>U0 hp14 fun u15 R1 q=>c10 (q A s1 g R1) (fun vv s2 hp16=>U0 hp16 fun u17 R2 q2=>c10 (q2 A s2 g R2) (fun l s3 q3=>q3) ide) ide) ide)
theorem p33: ∀(vs:List (Value×Value)) (ns:List Nat),vs.map (fun q=>ab q.1)=ns.map (fun n=>AV.str (N n))->allStrKeys vs=true/\(strPairs vs).map (·.1)=ns.map N/\(strPairs vs).map (fun p=>(p.1,ab p.2))=(ns.zip (vs.map (fun q=>ab q.2))).map (fun p=>(N p.1,p.2))
 | [],[],_=>⟨rfl,rfl,rfl⟩
 | [],_::_,h=>by cases h
 | _::_,[],h=>by cases h
 | (k,v)::vs,n::ns,h=>by
  rw [v5,v5,List.cons.injEq] at h;obtain ⟨t,rfl⟩:=p11 h.1;obtain ⟨h1,h2,h3⟩:=p33 vs ns h.2;refine ⟨h1,?_,?_⟩
  ·show N n::(strPairs vs).map (·.1)=_;rw [h2];rfl
  ·show (N n,ab v)::(strPairs vs).map (fun p=>(p.1,ab p.2))=_;rw [h3];rfl
theorem q33: ∀(vs:List (Value×Value)) (ns:List Int),vs.map (fun q=>ab q.1)=ns.map AV.int->allIntKeys vs=true/\(intKeyPairs vs).map (·.1)=ns/\(intKeyPairs vs).map (fun p=>(p.1,ab p.2))=ns.zip (vs.map (fun q=>ab q.2))
 | [],[],_=>⟨rfl,rfl,rfl⟩
 | [],_::_,h=>by cases h
 | _::_,[],h=>by cases h
 | (k,v)::vs,n::ns,h=>by
  rw [v5,v5,List.cons.injEq] at h;obtain ⟨t,rfl⟩:=o10 h.1;obtain ⟨h1,h2,h3⟩:=q33 vs ns h.2;refine ⟨h1,?_,?_⟩
  ·show n::(intKeyPairs vs).map (·.1)=_;rw [h2]
  ·show (n,ab v)::(intKeyPairs vs).map (fun p=>(p.1,ab p.2))=_;rw [h3];rfl
theorem v43 {ns:List Nat} (h:ns.Nodup):(ns.map N).Nodup:=by
 induction ns with
 | nil=>exact List.nodup_nil
 | cons a l ih=>
  rw [List.nodup_cons] at h;rw [v5,List.nodup_cons];refine ⟨fun hm=>?_,ih h.2⟩;obtain ⟨b,hb,e⟩:=List.mem_map.mp hm;rw [o14 e] at hb;exact h.1 hb
theorem w43 {keys:List (Option Expr)} {values:List Expr} {p:Pos} {ns:List Nat} (hall:keys.all (·.isSome)=true) (hl:keys.length=values.length) (h0:keys≠[]) (hlen:keys.length<=15) (hnd:ns.Nodup)
  (h: ∀a,σ.h a=none->WPr X c p keys values (fun l σ'=>l.map (·.1)=ns.map (fun n=>AV.str (N n))/\σ'.h a=some (.dictS [])/\Q (.ref a) {σ' with h:=upd σ'.h a (.dictS (ns.zip (l.map (·.2))))}) E {σ with h:=upd σ.h a (.dictS [])}):WE X c (.Dict keys values p) Q E σ:=fun A s g hp18=>hp18.elim fun own R=>by
 obtain ⟨h1,own',R'⟩:=R.J4 (tk:=s.toks) (o:= .dictS []) (ob:={cls:= .type "dict",data:= .dict #[]}) rfl fun own'=>⟨[],⟨_,#[],0,y3 _ rfl,⟨rfl,rfl,rfl⟩,rfl,(fun e he=>by simp at he),.nil,List.nodup_nil⟩,rfl⟩;refine o41 (knd:=PySem.strKind X.prog X.w) hall hl h0 hlen (c10 (h _ h1 A _ g ⟨own',R'⟩) (fun vs s1 hpz=>?_) ide);obtain ⟨σ1,⟨own1,R1⟩,q1,q2,q3⟩:=hpz;obtain ⟨k1,k2,k3⟩:=p33 vs ns (by simpa [List.map_map,Function.comp_def] using q1);obtain ⟨kvs,hd,hm⟩:=(R1.objs _ _ q2).2;obtain rfl:kvs=[]:=by simpa using hm
 have q3:Q (.ref s.heap.objs.size) {σ1 with h:=upd σ1.h s.heap.objs.size (.dictS (ns.zip (vs.map (fun q=>ab q.2))))}:=by simpa [List.map_map,Function.comp_def] using q3
 refine display_done_str k1 (by rw [k2];exact v43 hnd) hd fun h' hd' hs=>⟨{σ1 with h:=_},⟨own1,R1.update (tk:=s1.toks+vs.length) (o:= .dictS (ns.zip (vs.map (fun q=>ab q.2)))) q2 (fun b y hb hy=>(hs.2 b fun q=>?_).trans hy) (fun q hq=>?_) ⟨_,hd',k3⟩⟩,q3⟩
 ·subst q;exact hb (R1.objs _ _ q2).1
 ·by_cases z:q=s.heap.objs.size
  ·subst z;obtain ⟨o,_,_,ho,_⟩:=hd';exact ⟨o,ho⟩
  ·obtain ⟨y,hy⟩:=(R1.owned q _ hq).1;exact ⟨y,(hs.2 q z).trans hy⟩
theorem x43 {keys:List (Option Expr)} {values:List Expr} {p:Pos} {ns:List Int} (hall:keys.all (·.isSome)=true) (hl:keys.length=values.length) (h0:keys≠[]) (hlen:keys.length<=15) (hnd:ns.Nodup)
  (h: ∀a,σ.h a=none->WPr X c p keys values (fun l σ'=>l.map (·.1)=ns.map AV.int/\σ'.h a=some (.dictI [])/\Q (.ref a) {σ' with h:=upd σ'.h a (.dictI (ns.zip (l.map (·.2))))}) E {σ with h:=upd σ.h a (.dictI [])}):WE X c (.Dict keys values p) Q E σ:=fun A s g hp21=>hp21.elim fun own R=>by
 obtain ⟨h1,own',R'⟩:=R.J4 (tk:=s.toks) (o:= .dictI []) (ob:={cls:= .type "dict",data:= .dict #[]}) rfl fun own'=>⟨[],⟨_,#[],0,y3 _ rfl,⟨rfl,rfl,rfl⟩,rfl,(fun e he=>by simp at he),.nil,List.nodup_nil⟩,rfl⟩;refine o41 (knd:=PySem.intKind X.prog X.w) hall hl h0 hlen (c10 (h _ h1 A _ g ⟨own',R'⟩) (fun vs s1 hpz=>?_) ide);obtain ⟨σ1,⟨own1,R1⟩,q1,q2,q3⟩:=hpz;obtain ⟨k1,k2,k3⟩:=q33 vs ns (by simpa [List.map_map,Function.comp_def] using q1);obtain ⟨kvs,hd,hm⟩:=(R1.objs _ _ q2).2;obtain rfl:kvs=[]:=by simpa using hm
 have q3:Q (.ref s.heap.objs.size) {σ1 with h:=upd σ1.h s.heap.objs.size (.dictI (ns.zip (vs.map (fun q=>ab q.2))))}:=by simpa [List.map_map,Function.comp_def] using q3
 refine display_done_int k1 (by rw [k2];exact hnd) hd fun h' hd' hs=>⟨{σ1 with h:=_},⟨own1,R1.update (tk:=s1.toks+vs.length) (o:= .dictI (ns.zip (vs.map (fun q=>ab q.2)))) q2 (fun b y hb hy=>(hs.2 b fun q=>?_).trans hy) (fun q hq=>?_) ⟨_,hd',k3⟩⟩,q3⟩
 ·subst q;exact hb (R1.objs _ _ q2).1
 ·by_cases z:q=s.heap.objs.size
  ·subst z;obtain ⟨o,_,_,ho,_⟩:=hd';exact ⟨o,ho⟩
  ·obtain ⟨y,hy⟩:=(R1.owned q _ hq).1;exact ⟨y,(hs.2 q z).trans hy⟩
noncomputable abbrev T6 (l u t:Value):Obj:={cls:= .type "slice",data:= .fields #[l,u,t]}
def J13 (X:Cx) (c:Cf) (a lo hi st:AV) (Q:AV->St->Prop) (E:Nat->St->Prop) (σ:St):Prop:= ∀o l u t,ab o=a->ab l=lo->ab u=hi->ab t=st-> ∀A s,c.Good A->O1 X c σ s->
 wpZ X.Z X.M A (getItem o (.ref s.heap.objs.size)) (fun v s'=> ∃σ',O1 X c σ' s'/\Q (ab v) σ') (Exn X c E) {s with heap:=s.heap.push (T6 l u t)}
theorem s48 {e:Expr} {lo hi:Option Expr} {st:Expr} {p p':Pos} (h:WE X c e (fun a=>R9 X c lo (fun l=>R9 X c hi (fun u=>WE X c st (fun t σ'=>O6 X c a σ'/\J13 X c a l u t Q E σ') E) E) E) E σ):WE X c (.Subscript e (.Slice lo hi (some st) p') p) Q E σ:=fun A s g R=>by
 rw [eval_Subscript];refine a10 (c10 (h A s g R) (fun a s1 hp24=>U0 hp24 fun u25 R1 q=>a10 (j10 (d33 (c10 (q A s1 g R1) (fun l s2 hp26=>U0 hp26 fun u27 R2 q2=>c10 (q2 A s2 g R2) (fun u s3 hp28=>U0 hp28 fun u29 R3 q3=>?_) ide) ide)))) ide);rw [evalPart_some];refine c10 (q3 A s3 g R3) (fun t s4 hp30=>U0 hp30 fun σ4 R4 q4=>?_) ide;refine a10 (of <| wpAny_standAt (a10 ?_));have R5:O1 X c σ4 {s4 with heap:=s4.heap.push (T6 l u t)}:=by obtain ⟨own,r⟩:=R4;exact ⟨own,r.push _ _⟩
 refine q4.1.asks rfl R5 ?_;unfold subscripted;refine a10 (y11 (c10 (q4.2 a l u t rfl rfl rfl rfl A s4 g R4) (fun r s5 h5=>a10 (of <| wpAny_letTemporaryGo (m10 h5))) ide))
end
inductive Out | next | brk | cont | ret (v:AV) | exc (a:Nat)
noncomputable abbrev KT:=List AV->St->Prop
noncomputable abbrev PT:=Out->St->Prop
noncomputable abbrev Tr:=Cx->Cf->KT->PT->List AV->St->Prop
def run (X:Cx) (c:Cf) (K:KT) (P:PT) (l:List Tr):KT:=l.foldr (fun i k=>i X c k P) K
noncomputable def G4:AV->List AV | .other=>[] | s=>[s]
def fx (P:PT):Nat->St->Prop:=fun a=>P (.exc a)
section
variable (X:Cx) (c:Cf)
def wii (op:Operator) (x y:Int) (K:AV->St->Prop) (E:Nat->St->Prop) (σ:St):Prop:=match op with
 | .Add=>K (.int (x+y)) σ
 | .Sub=>K (.int (x-y)) σ
 | .Mult=>IntMulOk x y/\K (.int (x*y)) σ
 | .FloorDiv=>(y≠0/\Builtin.divisionGoesByPylong x y=false)/\K (.int (x.fdiv y)) σ
 | .Mod=>y≠0/\K (.int (x.fmod y)) σ
 | .LShift=>(0<=y/\y<=1000000/\x.natAbs<2^64)/\K (.int (x*2^y.toNat)) σ
 | .RShift=>0<=y/\K (.int (x.fdiv (2^y.toNat))) σ
 | .Pow=>(0<=y/\(Builtin.Int.intBits x:Int)*y<=2^27)/\K (.int (x^y.toNat)) σ
 | .BitAnd=>K (.int (Builtin.bitAnd x y)) σ
 | .BitOr=>K (.int (Builtin.bitOr x y)) σ
 | op=>Z5 X c op (.int x) (.int y) K E σ
def wbi (op:Operator) (x:List UInt8) (n:Int) (K:AV->St->Prop) (E:Nat->St->Prop) (σ:St):Prop:=match op with
 | .Mult=>(x≠[]/\ -1048576<=n/\n<=1048576/\(x.length<=16\/1<=n/\x.length*n.toNat<=16777216))/\K (.bytes ((List.replicate n.toNat x).flatten)) σ
 | op=>Z5 X c op (.bytes x) (.int n) K E σ
def wbb (op:Operator) (x y:List UInt8) (K:AV->St->Prop) (E:Nat->St->Prop) (σ:St):Prop:=match op with
 | .Add=>x.length+y.length<=16777216/\K (.bytes (x++y)) σ
 | op=>Z5 X c op (.bytes x) (.bytes y) K E σ
def W14 (op:Operator) (a b:AV) (K:AV->St->Prop) (E:Nat->St->Prop) (σ:St):Prop:=match a,b with
 | .int x,.int y=>wii X c op x y K E σ
 | .bytes x,.int n=>wbi X c op x n K E σ
 | .bytes x,.bytes y=>wbb X c op x y K E σ
 | a,b=>Z5 X c op a b K E σ
theorem y43 {op:Operator} {a b:AV} {K:AV->St->Prop} {E:Nat->St->Prop} {σ:St} (h:W14 X c op a b K E σ):Z5 X c op a b K E σ:=by
 cases a with
 | int x=>cases b with
  | int y=>cases op with
   | Add=>exact g52 h
   | Sub=>exact h52 h
   | Mult=>exact i52 h.1 h.2
   | FloorDiv=>exact i48 h.1.1 h.1.2 h.2
   | Mod=>exact o52 h.1 h.2
   | LShift=>exact p52 h.1.1 h.1.2.1 h.1.2.2 h.2
   | RShift=>exact q52 h.1 h.2
   | Pow=>exact r52 h.1.1 h.1.2 h.2
   | BitAnd=>exact j52 h
   | BitOr=>exact g55 h
   | _=>exact h
  | _=>exact h
 | bytes x=>cases b with
  | int n=>cases op with
   | Mult=>exact q25 h.1.1 h.1.2.1 h.1.2.2.1 h.1.2.2.2 h.2
   | _=>exact h
  | bytes y=>cases op with
   | Add=>exact p25 h.1 h.2
   | _=>exact h
  | _=>exact h
 | _=>exact h
def W16 (op:Operator) (x y:Int) (K:AV->St->Prop) (E:Nat->St->Prop) (σ:St):Prop:=match op with
 | .Add=>K (.int (x+y)) σ
 | .Sub=>K (.int (x-y)) σ
 | .Mult=>IntMulOk x y/\K (.int (x*y)) σ
 | .BitAnd=>K (.int (Builtin.bitAnd x y)) σ
 | .BitOr=>K (.int (Builtin.bitOr x y)) σ
 | op=>WIn X c op (.int x) (.int y) K E σ
def Z15 (op:Operator) (a b:AV) (K:AV->St->Prop) (E:Nat->St->Prop) (σ:St):Prop:=match a,b with
 | .int x,.int y=>W16 X c op x y K E σ
 | a,b=>WIn X c op a b K E σ
theorem z43 {op:Operator} {a b:AV} {K:AV->St->Prop} {E:Nat->St->Prop} {σ:St} (h:Z15 X c op a b K E σ):WIn X c op a b K E σ:=by
 cases a with
 | int x=>cases b with
  | int y=>cases op with
   | Add=>exact k52 h
   | Sub=>exact l52 h
   | Mult=>exact m52 h.1 h.2
   | BitAnd=>exact n52 h
   | BitOr=>exact h55 h
   | _=>exact h
  | _=>exact h
 | _=>exact h
def wun (op:UnaryOp) (a:AV) (K:AV->St->Prop) (E:Nat->St->Prop) (σ:St):Prop:=match op,a with
 | .USub,.int x=>K (.int (-x)) σ
 | .Invert,.int x=>K (.int (Builtin.bitNot x)) σ
 | op,a=>WUn X c op a K E σ
theorem t48 {op:UnaryOp} {a:AV} {K:AV->St->Prop} {E:Nat->St->Prop} {σ:St} (h:wun X c op a K E σ):WUn X c op a K E σ:=by
 cases op with
 | USub=>cases a with
  | int x=>exact s52 h
  | _=>exact h
 | Invert=>cases a with
  | int x=>exact t52 h
  | _=>exact h
 | _=>exact h
def U14 (op:CmpOp) (x y:Int) (K:AV->St->Prop) (E:Nat->St->Prop) (σ:St):Prop:=match op with
 | .Eq=>K (.bool (x==y)) σ
 | .NotEq=>K (.bool (x != y)) σ
 | .Lt=>K (.bool (decide (x<y))) σ
 | .LtE=>K (.bool (decide (x<=y))) σ
 | .Gt=>K (.bool (decide (y<x))) σ
 | .GtE=>K (.bool (decide (y<=x))) σ
 | op=>U4 X c op (.int x) (.int y) K E σ
def U16 (op:CmpOp) (x y:List UInt8) (K:AV->St->Prop) (E:Nat->St->Prop) (σ:St):Prop:=match op with
 | .Eq=>K (.bool (x==y)) σ
 | .NotEq=>K (.bool (x != y)) σ
 | op=>U4 X c op (.bytes x) (.bytes y) K E σ
def wcn (op:CmpOp) (a:AV) (K:AV->St->Prop) (E:Nat->St->Prop) (σ:St):Prop:=match op with
 | .Is=>K (.bool (decide (a= .none))) σ
 | .IsNot=>K (.bool (!decide (a= .none))) σ
 | op=>U4 X c op a .none K E σ
def Y16 (op:CmpOp) (a:AV) (y:Int) (K:AV->St->Prop) (E:Nat->St->Prop) (σ:St):Prop:=match a with
 | .int x=>U14 X c op x y K E σ
 | a=>U4 X c op a (.int y) K E σ
def Z16 (op:CmpOp) (a:AV) (y:List UInt8) (K:AV->St->Prop) (E:Nat->St->Prop) (σ:St):Prop:=match a with
 | .bytes x=>U16 X c op x y K E σ
 | a=>U4 X c op a (.bytes y) K E σ
def M14 (op:CmpOp) (a b:AV) (K:AV->St->Prop) (E:Nat->St->Prop) (σ:St):Prop:=match b with
 | .int y=>Y16 X c op a y K E σ
 | .bytes y=>Z16 X c op a y K E σ
 | .none=>wcn X c op a K E σ
 | b=>U4 X c op a b K E σ
theorem r33 {op:CmpOp} {a b:AV} {K:AV->St->Prop} {E:Nat->St->Prop} {σ:St} (h:M14 X c op a b K E σ):U4 X c op a b K E σ:=by
 cases b with
 | int y=>cases a with
  | int x=>cases op with
   | Eq=>exact i55 h
   | NotEq=>exact j55 h
   | Lt=>exact k55 h
   | LtE=>exact l55 h
   | Gt=>exact m55 h
   | GtE=>exact n55 h
   | _=>exact h
  | _=>exact h
 | bytes y=>cases a with
  | bytes x=>cases op with
   | Eq=>exact r29 h
   | NotEq=>exact t29 h
   | _=>exact h
  | _=>exact h
 | none=>cases op with
  | Is=>exact l33 h
  | IsNot=>exact a23 h
  | _=>exact h
 | _=>exact h
def G12 (a:AV) (K:Bool->St->Prop) (E:Nat->St->Prop) (σ:St):Prop:=match a with
 | .bool b=>K b σ
 | .none=>K false σ
 | .int x=>K (x != 0) σ
 | a=>X7 X c a K E σ
theorem r25 {a:AV} {K:Bool->St->Prop} {E:Nat->St->Prop} {σ:St} (h:G12 X c a K E σ):X7 X c a K E σ:=by
 cases a with
 | bool b=>exact m43 h
 | none=>exact n43 h
 | int x=>exact j48 h
 | _=>exact h
def Z1 (a:AV) (Q:AV->St->Prop) (E:Nat->St->Prop) (σ:St):Prop:= ∀x,ab x=a->WT X c (pyIter x) ab Q E σ
def W5 (a:AV) (Q:Option AV->St->Prop) (E:Nat->St->Prop) (σ:St):Prop:= ∀x,ab x=a->WT X c (pyNext x) (Option.map ab) Q E σ
def S5 (a:AV) (Q:Option AV->St->Prop) (E:Nat->St->Prop) (σ:St):Prop:= ∀x,ab x=a-> ∀A s,c.Good A->O1 X c σ s->wpZ X.Z X.M A (pyNext x) (fun r s1=>match r with
  | none=> ∃σ',O1 X c σ' s1/\Q none σ'
  | some v=>wpZ X.Z X.M A (letOwnedTupleGo (.Tuple [] 0 ⟨0,0,0,0⟩) x v) (fun _ s2=> ∃σ',O1 X c σ' s2/\Q (some (ab v)) σ') (Exn X c E) s1) (Exn X c E) s
def O8 (a:AV) (E:Nat->St->Prop) (σ:St):Prop:= ∀v,ab v=a->WT X c (raiseStmt c.env (some (pure v)) none) id (fun _ _=>False) E σ
def J14 (a:AV) (n:Nat) (Q:List AV->St->Prop) (E:Nat->St->Prop) (σ:St):Prop:= ∀v,ab v=a->WT X c (unpackItems v n none) (List.map ab) Q E σ
def I13 (f:AV) (as:List AV) (kw:List (Str×AV)) (vs:List AV) (K:KT) (P:PT) (σ:St):Prop:=U3 X c f σ/\J2 X c f as kw (fun v=>K (v::vs)) (fx P) σ
def U12 (a:AV) (x:Nat) (vs:List AV) (K:KT) (P:PT) (σ:St):Prop:=WGA X c a (N x) (fun v=>K (v::vs)) (fx P) σ
def R13 (a:AV) (x:Nat) (vs:List AV) (K:KT) (P:PT) (σ:St):Prop:=WGM X c a (N x) (fun r σ'=> ∃s,r.2=G4 s/\K (s::r.1::vs) σ') (fx P) σ
def O16 (a b:AV) (vs:List AV) (K:KT) (P:PT) (σ:St):Prop:=O6 X c a σ/\WGI X c a b (fun v=>K (v::vs)) (fx P) σ
def P16 (a lo hi:AV) (vs:List AV) (K:KT) (P:PT) (σ:St):Prop:=O6 X c a σ/\Y13 X c a lo hi (fun v=>K (v::vs)) (fx P) σ
def G15 (a lo hi st:AV) (vs:List AV) (K:KT) (P:PT) (σ:St):Prop:=O6 X c a σ/\J13 X c a lo hi st (fun v=>K (v::vs)) (fx P) σ
def Q12 (o:AV) (x:Nat) (v:AV) (vs:List AV) (K:KT) (P:PT) (σ:St):Prop:=WSA X c o (N x) v (K vs) (fx P) σ
def K13 (o i v:AV) (vs:List AV) (K:KT) (P:PT) (σ:St):Prop:=WSI X c o i v (K vs) (fx P) σ
end
noncomputable def K4:List Nat->List AV->List (Str×AV)->Option (List (Str×AV)×List AV)
 | [],vs,acc=>some (acc,vs)
 | k::ks,v::vs,acc=>K4 ks vs ((N k,v)::acc)
 | _::_,[],_=>none
noncomputable def O3:Nat->List AV->List AV->Option (List AV×List AV)
 | 0,vs,acc=>some (acc,vs)
 | n+1,v::vs,acc=>O3 n vs (v::acc)
 | _+1,[],_=>none
noncomputable def S6 (f:AV->List AV->Prop):List AV->Prop | a::vs=>f a vs | []=>False
noncomputable def top2 (f:AV->AV->List AV->Prop):List AV->Prop | b::a::vs=>f a b vs | _=>False
noncomputable def V14 (f:AV->AV->AV->List AV->Prop):List AV->Prop | d::b::a::vs=>f a b d vs | _=>False
noncomputable def S16 (f:AV->AV->AV->AV->List AV->Prop):List AV->Prop | e::d::b::a::vs=>f a b d e vs | _=>False
noncomputable def N8 (f:Bool->List AV->Prop):List AV->Prop | .bool b::vs=>f b vs | _=>False
def after (K:KT) (P:PT) (vs:List AV):Fl->St->Prop:=fun f σ=>match f with | .next=>K vs σ | .brk=>P .brk σ | .cont=>P .cont σ | .ret v=>P (.ret v) σ
namespace I
def push (a:AV):Tr:=fun X c K P vs σ=>K (a::vs) σ
def ld (x:Nat):Tr:=fun X c K P vs σ=>match σ.loc.lookup x with | some v=>K (v::vs) σ | none=>False
def ldc (x:Nat):Tr:=fun X c K P vs σ=>match c.cs.lookup x with | some a=>(∃v,σ.h a=some (.cell (some v))/\K (v::vs) σ) | none=>False
def bin (o:Operator):Tr:=fun X c K P vs σ=>top2 (fun a b vs=>W14 X c o a b (fun v=>K (v::vs)) (fx P) σ) vs
def inp (o:Operator):Tr:=fun X c K P vs σ=>top2 (fun a b vs=>Z15 X c o a b (fun v=>K (v::vs)) (fx P) σ) vs
def un (o:UnaryOp):Tr:=fun X c K P vs σ=>S6 (fun a vs=>wun X c o a (fun v=>K (v::vs)) (fx P) σ) vs
def cmp (o:CmpOp):Tr:=fun X c K P vs σ=>top2 (fun a b vs=>M14 X c o a b (fun v=>K (v::vs)) (fx P) σ) vs
def tru:Tr:=fun X c K P vs σ=>S6 (fun a vs=>G12 X c a (fun v=>K (.bool v::vs)) (fx P) σ) vs
def H7:Tr:=fun X c K P vs σ=>N8 (fun b vs=>K (.bool (!b)::vs) σ) vs
def N14 (o:CmpOp) (t:List Tr):Tr:=fun X c K P vs σ=>top2 (fun a b vs=>M14 X c o a b (fun v=>G12 X c v (fun u σ1=>if u=true then run X c K P t (b::vs) σ1 else K (.bool false::vs) σ1) (fx P)) (fx P) σ) vs
def T9 (t:List Tr):Tr:=fun X c K P vs σ=>N8 (fun b vs=>if b=true then run X c K P t vs σ else K (.bool false::vs) σ) vs
def jor (t:List Tr):Tr:=fun X c K P vs σ=>N8 (fun b vs=>if b=true then K (.bool true::vs) σ else run X c K P t vs σ) vs
def br (t e:List Tr):Tr:=fun X c K P vs σ=>N8 (fun b vs=>if b=true then run X c K P t vs σ else run X c K P e vs σ) vs
def bop (o:Bool) (t:List Tr):Tr:=fun X c K P vs σ=>S6 (fun a vs=>G12 X c a (fun b σ1=>if b=o then run X c K P t vs σ1 else K (a::vs) σ1) (fx P) σ) vs
def attr (x:Nat):Tr:=fun X c K P vs σ=>S6 (fun a vs=>U12 X c a x vs K P σ) vs
def sub:Tr:=fun X c K P vs σ=>top2 (fun a b vs=>O16 X c a b vs K P σ) vs
def cut:Tr:=fun X c K P vs σ=>V14 (fun a lo hi vs=>P16 X c a lo hi vs K P σ) vs
def H17:Tr:=fun X c K P vs σ=>S16 (fun a lo hi st vs=>G15 X c a lo hi st vs K P σ) vs
def lst (n:Nat):Tr:=fun X c K P vs σ=>match O3 n vs [] with | some (as,vs)=>as.length<=16777216/\ ∀a,σ.h a=none->K (.ref a::vs) {σ with h:=upd σ.h a (.list as)} | none=>False
def tup (n:Nat):Tr:=fun X c K P vs σ=>match O3 n vs [] with | some (as,vs)=>as.length<=16777216/\ ∀a,σ.h a=none->K (.ref a::vs) {σ with h:=upd σ.h a (.tuple as)} | none=>False
def Y11:Tr:=fun X c K P vs σ=> ∀a,σ.h a=none->K (.ref a::vs) {σ with h:=upd σ.h a (.dictS [])}
def Y10:Tr:=fun X c K P vs σ=> ∀a,σ.h a=none->K (.ref a::vs) {σ with h:=upd σ.h a (.dictI [])}
def O12 (ns:List Nat):Tr:=fun X c K P vs σ=>match O3 ns.length vs [] with | some (as,.ref a::vs)=>σ.h a=some (.dictS [])/\K (.ref a::vs) {σ with h:=upd σ.h a (.dictS (ns.zip as))} | _=>False
def S8 (ns:List Int):Tr:=fun X c K P vs σ=>match O3 ns.length vs [] with | some (as,.ref a::vs)=>σ.h a=some (.dictI [])/\K (.ref a::vs) {σ with h:=upd σ.h a (.dictI (ns.zip as))} | _=>False
def gm (x:Nat):Tr:=fun X c K P vs σ=>S6 (fun a vs=>R13 X c a x vs K P σ) vs
def call (n:Nat) (ks:List Nat):Tr:=fun X c K P vs σ=>match K4 ks.reverse vs [] with
 | some (kw,vs)=>(match O3 n vs [] with | some (as,f::vs)=>I13 X c f as kw vs K P σ | _=>False)
 | none=>False
def J0 (n:Nat) (ks:List Nat):Tr:=fun X c K P vs σ=>match K4 ks.reverse vs [] with
 | some (kw,vs)=>(match O3 n vs [] with | some (as,s::f::vs)=>I13 X c f (G4 s++as) kw vs K P σ | _=>False)
 | none=>False
def st (x:Nat):Tr:=fun X c K P vs σ=>S6 (fun v vs=>K vs (σ.put x v)) vs
def stc (x:Nat):Tr:=fun X c K P vs σ=>S6 (fun v vs=>match c.cs.lookup x with | some a=>(∃v₀,σ.h a=some (.cell v₀))/\K vs {σ with h:=upd σ.h a (.cell (some v))} | none=>False) vs
def Y0 (x:Nat):Tr:=fun X c K P vs σ=>top2 (fun v o vs=>Q12 X c o x v vs K P σ) vs
def G7 (x:Nat):Tr:=fun X c K P vs σ=>top2 (fun o v vs=>Q12 X c o x v vs K P σ) vs
def I7:Tr:=fun X c K P vs σ=>V14 (fun v o i vs=>K13 X c o i v vs K P σ) vs
def M7:Tr:=fun X c K P vs σ=>V14 (fun o i v vs=>K13 X c o i v vs K P σ) vs
def drop:Tr:=fun X c K P vs σ=>S6 (fun _ vs=>K vs σ) vs
def dup:Tr:=fun X c K P vs σ=>S6 (fun a vs=>K (a::a::vs) σ) vs
def dup2:Tr:=fun X c K P vs σ=>top2 (fun a b vs=>K (b::a::b::a::vs) σ) vs
def unp (n:Nat):Tr:=fun X c K P vs σ=>S6 (fun a vs=>J14 X c a n (fun l σ'=>l.length=n/\K (l++vs) σ') (fx P) σ) vs
def ret:Tr:=fun X c K P vs σ=>S6 (fun v _=>P (.ret v) σ) vs
def Z14:Tr:=fun X c K P vs σ=>P (.ret .none) σ
def brk:Tr:=fun X c K P vs σ=>P .brk σ
def cont:Tr:=fun X c K P vs σ=>P .cont σ
def I6:Tr:=fun X c K P vs σ=>S6 (fun a _=>O8 X c a (fx P) σ) vs
def whl (t b:List Tr):Tr:=fun X c K P vs σ=> ∃(I:Nat->St->Prop) (n:Nat),Up (I n) σ/\ ∀n σ,I n σ->run X c (fun ws σ1=>N8 (fun u _=>if u=true then
   run X c (fun _ σ2=> ∃m,m<n/\Up (I m) σ2) (fun o σ2=>match o with | .cont=> ∃m,m<n/\Up (I m) σ2 | .brk=>Up (K vs) σ2 | o=>P o σ2) b [] σ1
  else Up (K vs) σ1) ws) P t [] σ
def W4 (t b e:List Tr):Tr:=fun X c K P vs σ=>S6 (fun a vs=>Z1 X c a (fun it σ0=> ∃(I:Nat->St->Prop) (n:Nat),Up (I n) σ0/\ ∀n σ,I n σ->W5 X c it (fun r σ1=>match r with
    | none=>run X c K P e vs σ1
    | some v=>run X c (fun _ σ2=>run X c (fun _ σ3=> ∃m,m<n/\Up (I m) σ3) (fun o σ3=>match o with | .cont=> ∃m,m<n/\Up (I m) σ3 | .brk=>Up (K vs) σ3 | o=>P o σ3) b [] σ2) P t [v] σ1) (fx P) σ) (fx P) σ) vs
def Q15 (t b e:List Tr):Tr:=fun X c K P vs σ=>S6 (fun a vs=>Z1 X c a (fun it σ0=> ∃(I:Nat->St->Prop) (n:Nat),Up (I n) σ0/\ ∀n σ,I n σ->S5 X c it (fun r σ1=>match r with
    | none=>run X c K P e vs σ1
    | some v=>run X c (fun _ σ2=>run X c (fun _ σ3=> ∃m,m<n/\Up (I m) σ3) (fun o σ3=>match o with | .cont=> ∃m,m<n/\Up (I m) σ3 | .brk=>Up (K vs) σ3 | o=>P o σ3) b [] σ2) P t [v] σ1) (fx P) σ) (fx P) σ) vs
structure Hd where
 ty:AV
 name:Option Nat
 body:List Tr
noncomputable def hcf (c:Cf) (a:Nat):Cf:={c with hd:=some (.ref a)}
noncomputable def S12 (K:Frag) (C:Value):AV->Option Bool
 | .ref a=>exmOne K C (.ref a)
 | .type n=>exmOne K C (.type n)
 | _=>none
noncomputable def Z8 (name:Option Nat) (a:Nat) (σ:St):St:=match name with | some x=>σ.put x (.ref a) | none=>σ
noncomputable def W3 (name:Option Nat) (σ:St):St:=match name with | some x=>{σ with loc:=σ.loc.filter (fun p=>p.1 != x)} | none=>σ
def hands (X:Cx) (c:Cf) (K:KT) (P:PT) (vs:List AV) (a:Nat):List Hd->St->Prop
 | [],σ=>P (.exc a) σ
 | hd::r,σ=> ∃C args fs b,σ.h a=some (.exc C args fs)/\S12 X.K C hd.ty=some b/\
   if b=true then run X (hcf c a) (fun _ σ3=>K vs (W3 hd.name σ3)) (fun o σ3=>match o with | .exc b=>P (.exc b) (W3 hd.name σ3) | o=>P o (W3 hd.name σ3)) hd.body [] (Z8 hd.name a σ)
   else hands X c K P vs a r σ
def Q10 (b:List Tr) (hs:List Hd) (e:List Tr):Tr:=fun X c K P vs σ=>run X c (fun _ σ1=>run X c K P e vs σ1) (fun o σ1=>match o with | .exc a=>hands X c K P vs a hs σ1 | o=>P o σ1) b vs σ
def T4 (e:Expr):Tr:=fun X c K P vs σ=>WE X c e (fun v=>K (v::vs)) (fx P) σ
def V10 (e:Expr):Tr:=fun X c K P vs σ=>WTe X c e (fun v=>K (.bool v::vs)) (fx P) σ
def U10 (t:Expr):Tr:=fun X c K P vs σ=>S6 (fun v vs=>WAs X c t v (K vs) (fx P) σ) vs
def U5 (s:Stmt):Tr:=fun X c K P vs σ=>WX X c s (after K P vs) (fx P) σ
end I
section
variable {X:Cx} {c:Cf} {P:PT}
theorem r14 (l m:List Tr) (K:KT):run X c K P (l++m)=run X c (run X c K P m) P l:=List.foldr_append ..
theorem a44 (i:Tr) (K:KT):run X c K P [i]=i X c K P:=rfl
end
section
variable {X:Cx} {own:Nat->Option Nat} {fs:List (Nat×NS)} {σh:Nat->Option W0} {s:Shared}
set_option tactic.hygienic true in
theorem Z0.V13 {C:Nat} {l:NS} (R:Z0 X own ((C,l)::fs) σh s) {h':Heap} (k:Heap.SameBut C s.heap h'): ∃own',Z0 X own' fs σh {s with heap:=h'}:=by
 obtain ⟨c1,c2,c3⟩:=R.frs _ (.head _);have cb:=(R.owned _ _ c1).2;have nd:=R.nodup;rw [v5,List.nodup_cons] at nd;have kk: ∀b x,b≠C->s.heap.get? b=some x->h'.get? b=some x:=fun b x hb e=>(k.2 b hb).trans e;have sub: ∀q x,(if own q=some C then none else own q)=some x->own q=some x/\x≠C:=fun q x e=>by
  split at e
  ·cases e
  ·rename_i hn;exact ⟨e,fun z=>hn (z▸e)⟩
 have sup: ∀q x,own q=some x->x≠C->(if own q=some C then none else own q)=some x:=fun q x e hx=>by
  rw [if_neg,e];intro z;rw [e] at z;exact hx (w5 z)
 refine ⟨fun q=>if own q=some C then none else own q,fun b x e=>kk b x (fun q=>?_) (R.base b x e),fun b x e=>?_,fun p hp=>?_,nd.2,fun q x e=>?_,R.os,R.bare⟩
 ·subst q;rw [e] at cb;cases cb
 ·obtain ⟨h2,h3⟩:=R.objs b x e;have hb:b≠C:=fun z=>by rw [z] at e;rw [e] at c2;cases c2
  exact ⟨sup _ _ h2 hb,h3.move h2 (fun q y hq hy=>kk q y (fun z=>by rw [z,c1] at hq;exact hb (w5 hq).symm) hy) fun q hq=>sup _ _ hq hb⟩
 ·obtain ⟨h1,h2,h4⟩:=R.frs p (.tail _ hp);have hb:p.1≠C:=fun z=>nd.1 (List.mem_map.mpr ⟨p,hp,z⟩);exact ⟨sup _ _ h1 hb,h2,h4.move fun o=>kk _ _ hb⟩
 ·obtain ⟨e1,e2⟩:=sub q x e;obtain ⟨⟨y,hy⟩,h2⟩:=R.owned q x e1;exact ⟨⟨y,kk _ _ (fun z=>by rw [z,c1] at e1;exact e2 (w5 e1).symm) hy⟩,h2⟩
theorem Z0.perm {a b:Nat×NS} (R:Z0 X own (a::b::fs) σh s):Z0 X own (b::a::fs) σh s where
 base:=R.base
 objs:=R.objs
 frs p hp:=R.frs p (by
  rcases List.mem_cons.mp hp with rfl | hp
  ·exact .tail _ (.head _)
  ·rcases List.mem_cons.mp hp with rfl | hp
   ·exact .head _
   ·exact .tail _ (.tail _ hp))
 nodup:=by
  have:=R.nodup;simp only [v5,List.nodup_cons,List.mem_cons,not_or] at this⊢;exact ⟨⟨Ne.symm this.1.1,this.2.1⟩,this.1.2,this.2.2⟩
 owned:=R.owned
 os:=R.os
 bare:=R.bare
end
noncomputable def Z4 (ks cks:List (Nat×NameKind)):List (Nat×NameKind):=cks.map fun p=>if p.2== .free&&ks.lookup p.1==some .cell then (p.1,.cell) else p
noncomputable def Y4 (cs:List (Nat×Nat)) (cks:List (Nat×NameKind)):List (Nat×Nat):=cs.filter fun p=>cks.lookup p.1==some .free
noncomputable def G3 (c:Cf) (cks:List (Nat×NameKind)) (l:NS) (cenv:Env):Cf:=⟨c.n,cenv,Z4 c.ks cks,Y4 c.cs cks,c.fr,(c.env.locals,l)::c.nss,c.hd⟩
noncomputable def I4 (f:Nat->Nat):List (Nat×NameKind)->List (Str×Addr)->List (Str×Addr)
 | [],acc=>acc
 | (n,k)::r,acc=>if k== .free then I4 f r ((N n,f n)::acc) else I4 f r acc
theorem i14 {f:Nat->Nat} {n:Nat} {k:NameKind} {r:List (Nat×NameKind)} {acc:List (Str×Addr)}:I4 f ((n,k)::r) acc=if k== .free then I4 f r ((N n,f n)::acc) else I4 f r acc:=rfl
set_option tactic.hygienic true in
theorem w29 {scope:Scope} {env:Env} {cks:List (Nat×NameKind)} {f:Nat->Nat} (hs:scope.names=cks.map fun p=>(N p.1,p.2)) (h: ∀p∈cks,p.2= .free->env.cells.lookup (N p.1)=some (f p.1)):closureFor scope env=pure (I4 f cks []):=by
 unfold closureFor;rw [hs];have: ∀(cks:List (Nat×NameKind)) (acc:List (Str×Addr)),(∀p∈cks,p.2= .free->env.cells.lookup (N p.1)=some (f p.1))->
   (forIn (cks.map fun p=>(N p.1,p.2)) acc (fun x r=>(match x with | (name,kind)=>if (kind==NameKind.free)=true then do let a<-cellOf env name;pure (ForInStep.yield ((name,a)::r)) else pure (ForInStep.yield r):Sem (ForInStep (List (Str×Addr))))))=(pure (I4 f cks acc):Sem _):=by
  intro cks
  induction cks with
  | nil=>intro acc _;rfl
  | cons p r ih=>
   intro acc h;obtain ⟨n,k⟩:=p;have ih':=fun acc=>ih acc fun p hp=>h p (.tail _ hp);rw [v5,List.forIn_cons];dsimp only;rw [i14]
   split at⊢
   ·rename_i hk;have:=h (n,k) (.head _) (by simpa using hk);unfold cellOf;rw [this];simp only [pure_bind];exact ih' _
   ·simp only [pure_bind];exact ih' _
 have h2:=this cks [] h;simp only [bind_pure];exact h2
theorem e23 {f:Nat->Nat}: ∀(cks:List (Nat×NameKind)) (acc:List (Str×Addr)) (x:Nat),cks.lookup x=some .free->(∀p∈cks,p.1=x->p.2= .free)->(I4 f cks acc).lookup (N x)=some (f x):=by
 have keep: ∀(cks:List (Nat×NameKind)) (acc:List (Str×Addr)) (x:Nat),acc.lookup (N x)=some (f x)->(I4 f cks acc).lookup (N x)=some (f x):=by
  intro cks
  induction cks with
  | nil=>intro acc x h;exact h
  | cons p r ih=>
   intro acc x h;obtain ⟨n,k⟩:=p;rw [i14]
   split
   ·refine ih _ _ ?_;rw [List.lookup_cons];by_cases e:x=n
    ·subst e;simp
    ·rw [show (N x==N n)=false from by rw [beq_eq_false_iff_ne];exact fun q=>e (o14 q)];exact h
   ·exact ih _ _ h
 intro cks
 induction cks with
 | nil=>intro acc x h _;cases h
 | cons p r ih=>
  intro acc x h hk;obtain ⟨n,k⟩:=p;by_cases e:x=n
  ·subst e;rw [l11] at h;cases h;rw [i14];rw [if_pos (show (NameKind.free==NameKind.free)=true from rfl)];exact keep _ _ _ (by rw [List.lookup_cons];simp)
  ·rw [x12 _ _ e] at h;rw [i14]
   split
   ·exact ih _ _ h fun p hp=>hk p (.tail _ hp)
   ·exact ih _ _ h fun p hp=>hk p (.tail _ hp)
set_option tactic.hygienic true in
theorem f23 (ks cks:List (Nat×NameKind)) (x:Nat):(Z4 ks cks).lookup x=(cks.lookup x).map fun k=>if k== .free&&ks.lookup x==some .cell then .cell else k:=by
 induction cks with
 | nil=>rfl
 | cons p r ih=>
  obtain ⟨n,k⟩:=p;unfold Z4;rw [v5];by_cases e:x=n
  ·subst e;dsimp only;rw [l11]
   split
   ·rename_i q;rw [l11,Option.map_some,if_pos q]
   ·rename_i q;rw [l11,Option.map_some,if_neg q]
  ·have e2:((if (k==NameKind.free&&ks.lookup n==some NameKind.cell)=true then (n,NameKind.cell) else (n,k)):Nat×NameKind).1=n:=by split<;>rfl
   rw [x12 _ _ e,<-ih];dsimp only
   split
   ·rw [x12 _ _ e];rfl
   ·rw [x12 _ _ e];rfl
set_option tactic.hygienic true in
theorem e20 (scope:Scope) (env:Env) (x:Nat) {cks:List (Nat×NameKind)} (hs:scope.names=cks.map fun p=>(N p.1,p.2)):(relabel scope env).names.lookup (N x)=(cks.lookup x).map fun k=>if k== .free&&env.scope.kind== .function&&env.kindOf (N x)==some .cell then .cell else k:=by
 unfold relabel;dsimp only;rw [hs]
 induction cks generalizing scope with
 | nil=>rfl
 | cons p r ih=>
  obtain ⟨n,k⟩:=p;rw [v5,v5];by_cases e:x=n
  ·subst e;dsimp only;rw [l11]
   split
   ·rename_i q;rw [List.lookup_cons,beq_self_eq_true,Option.map_some,if_pos q]
   ·rename_i q;rw [List.lookup_cons,beq_self_eq_true,Option.map_some,if_neg q]
  ·have ne:(N x==N n)=false:=by rw [beq_eq_false_iff_ne];exact fun q=>e (o14 q)
   rw [x12 _ _ e,<-ih {scope with names:=r.map fun p=>(N p.1,p.2)} rfl];dsimp only
   split
   ·rw [List.lookup_cons,ne]
   ·rw [List.lookup_cons,ne]
section
variable {X:Cx} {c:Cf} {σ:St} {E:Nat->St->Prop} {Q:AV->St->Prop}
structure G6 (c:Cf) (scope:Scope) (cks:List (Nat×NameKind)):Prop where
 names:scope.names=cks.map fun p=>(N p.1,p.2)
 kind:scope.kind= .function
 nocell: ∀p∈cks,p.2≠ .cell
 nodup:(cks.map (·.1)).Nodup
 free: ∀p∈cks,p.2= .free->c.ks.lookup p.1=some .cell\/c.ks.lookup p.1=some .free
theorem i17 {cks:List (Nat×NameKind)} (hn:(cks.map (·.1)).Nodup) {p:Nat×NameKind} (hp:p∈cks):cks.lookup p.1=some p.2:=by
 induction cks with
 | nil=>cases hp
 | cons q r ih=>
  rw [v5,List.nodup_cons] at hn;rcases List.mem_cons.mp hp with rfl | hp
  ·exact l11 _ _ _
  ·rw [x12]
   ·exact ih hn.2 hp
   ·intro e;exact hn.1 (List.mem_map.mpr ⟨p,hp,e⟩)
theorem x29 {α:Type} {l:List (Nat×α)} {x:Nat} {v:α} (h:l.lookup x=some v):(x,v)∈l:=by
 induction l with
 | nil=>cases h
 | cons p r ih=>
  obtain ⟨y,w⟩:=p;by_cases e:x=y
  ·subst e;rw [l11] at h;cases h;exact .head _
  ·rw [x12 _ _ e] at h;exact .tail _ (ih h)
theorem f20 (cs:List (Nat×Nat)) (cks:List (Nat×NameKind)) (x:Nat):(Y4 cs cks).lookup x=if cks.lookup x=some .free then cs.lookup x else none:=by
 induction cs with
 | nil=>split<;>rfl
 | cons p r ih=>
  obtain ⟨y,a⟩:=p;unfold Y4;rw [List.filter_cons];by_cases e:x=y
  ·subst e;rw [l11];by_cases q:cks.lookup x=some .free
   ·rw [if_pos (by simp [q]),l11,if_pos q]
   ·rw [if_neg (by simp [q])];show (Y4 r cks).lookup x=_;rw [ih,if_neg q,if_neg q]
  ·rw [x12 _ _ e,<-ih]
   split
   ·rw [x12 _ _ e];rfl
   ·rfl
noncomputable def Y5 (c:Cf) (n:Nat):Nat:=(c.cs.lookup n).getD 0
set_option tactic.hygienic true in
theorem G6.good {scope:Scope} {cks:List (Nat×NameKind)} (K:G6 c scope cks) (hc: ∀p∈cks,p.2= .free-> ∃a,c.cs.lookup p.1=some a) {A:Around} (g:c.Good A) (C:Nat) (l:NS):
  closureFor scope c.env=pure (I4 (Y5 c) cks [])/\(G3 c cks l (compEnvC scope (I4 (Y5 c) cks []) C c.env)).Good A:=by
 refine ⟨w29 K.names fun p hp hf=>?_,⟨?_,fun x k e=>?_,fun x a e=>?_,g.ok.gl,g.ok.bi,g.ok.top,fun e he=>?_⟩,g.frames,g.depth,g.units,g.hd⟩
 ·obtain ⟨a,ha⟩:=hc p hp hf;rw [show Y5 c p.1=a from by unfold Y5;rw [ha];rfl];exact g.ok.cs _ _ ha
 ·exact K.kind
 ·show (relabel scope c.env).names.lookup (N x)=_;rw [e20 scope c.env x K.names];have e':(Z4 c.ks cks).lookup x=some k:=e;rw [f23] at e';cases hk:cks.lookup x with
  | none=>rw [hk] at e';cases e'
  | some k0=>
   rw [hk] at e';rw [Option.map_some] at e'⊢;rw [<-e',g.ok.fn];congr 1;by_cases hf:k0= .free
   ·subst hf;rcases K.free _ (x29 hk) rfl with h | h
    ·rw [h,show c.env.kindOf (N x)=some .cell from g.ok.ks _ _ h];rfl
    ·rw [h,show c.env.kindOf (N x)=some .free from g.ok.ks _ _ h];rfl
   ·rw [show (k0==NameKind.free)=false from by cases k0<;>first | rfl | exact absurd rfl hf];rfl
 ·show (I4 (Y5 c) cks []).lookup (N x)=some a;have e':(Y4 c.cs cks).lookup x=some a:=e;rw [f20] at e'
  split at e'
  ·rename_i hf;rewrite [e23 cks [] x hf fun p hp hx=>?_]
   ·unfold Y5;rw [e'];rfl
   ·have:=i17 K.nodup hp;rw [hx,hf] at this;exact (w5 this).symm
  ·cases e'
 ·obtain ⟨h1,L',h2,h3⟩:=g.ok.frs e he;exact ⟨h1,L',h2,.tail _ h3⟩
def no:Nat->St->Prop:=fun _ _=>False
def Y7 (X:Cx) (c:Cf) (ifs:List Expr) (Q:Bool->St->Prop) (σ:St):Prop:=WT X c (forIn ifs true fun t r=>if r=true then do let ok<-isTrue t c.env (eval t c.env);pure (ForInStep.yield ok) else pure (ForInStep.yield r)) id Q no σ
def X5 (X:Cx) (c:Cf) (tg:Expr) (ifs:List Expr) (elt:Expr) (it:AV) (D:Nat) (Qe:St->Prop) (σ:St):Prop:= ∃(J:Nat->St->Prop) (n:Nat),J n σ/\ ∀n σ,J n σ->W5 X c it (fun r σ2=>match r with
 | none=>Qe σ2
 | some v=>WAs X c tg v (fun σ3=>Y7 X c ifs (fun b σ4=>if b=true then WE X c elt (fun y σ5=> ∃ys,σ5.h D=some (.list ys)/\ys.length<=16777216/\ ∃m,m<n/\Up (J m) {σ5 with h:=upd σ5.h D (.list (ys++[y]))}) no σ4 else∃m,m<n/\Up (J m) σ4) σ3) no σ2) no σ
theorem Exn.no {V:Value} {s:Shared} (h:Exn X c no V s):False:=by obtain ⟨_,_,_,_,_,q⟩:=h;exact q
theorem s33 {D:Nat} {ys:List AV} {y:Value} {own:Nat->Option Nat} {fs:List (Nat×NS)} {σh:Nat->Option W0} {s:Shared} {A:Around} {E:Value->Shared->Prop} (R:Z0 X own fs σh s) (e:σh D=some (.list ys)) (hl:ys.length<=16777216) {Q:Value->Shared->Prop}
  (h: ∀h',Z0 X own fs (upd σh D (.list (ys++[ab y]))) {s with heap:=h'}->Q .none {s with heap:=h'}):wpZ X.Z X.M A (call (.builtin "list.append") [.ref D,y]) Q E s:=by
 obtain ⟨items,hL,hx⟩:=(R.objs _ _ e).2;have hlen:ys.length=items.size:=by rw [<-hx];simp
 refine of <| wpAny_list_append_plain hL (fun h' hi hs=>h h' (R.update (tk:=s.toks) (o:= .list (ys++[ab y])) e (fun b y hb hy=>(hs.2 b fun q=>?_).trans hy) (fun q hq=>?_) ⟨_,hi,?_⟩)) (by rw [sizeLine_eq,<-hlen];exact hl)
 ·subst q;exact hb (R.objs _ _ e).1
 ·by_cases z:q=D
  ·subst z;obtain ⟨o,ho⟩:=hi;exact ⟨_,ho⟩
  ·obtain ⟨y,hy⟩:=(R.owned q D hq).1;exact ⟨y,(hs.2 q z).trans hy⟩
 ·rw [Array.toList_push,List.map_append,hx];rfl
theorem j17 {elt iter tg:Expr} {ifs:List Expr} {scope:Scope} {pos:Pos} {it:Value} {D:Nat} {Qe:St->Prop} {R:Result->Shared->Prop} {A:Around} {s:Shared} (g:c.Good A) (Rl:O1 X c σ s) (ht: ∀it v,letOwnedTupleGo tg it v=pure ())
  (h:X5 X c tg ifs elt (ab it) D Qe σ) (hR: ∀σ' s',O1 X c σ' s'->Qe σ'->R (.ok .next) s'):K1 X.Z X.M A (.compLoop (.ListComp elt [⟨tg,iter,ifs,0⟩] scope pos) 0 it (.ref D) c.env) R s:=by
 obtain ⟨J,n,h0,turn⟩:=h;refine o18 (fun n s=> ∃σ,O1 X c σ s/\J n σ) (fun n s hp1=>U0 hp1 fun σ Rs hJ=>?_) n ⟨σ,Rl,h0⟩ (ht it);refine c10 (turn n σ hJ it rfl A s g Rs) (fun r s1 hp2=>U0 hp2 fun σ1 R1 q1=>?_) fun _ _ q=>q.no.elim;cases r with
 | none=>exact hR σ1 s1 R1 q1
 | some v=>
  refine c10 ((q1:WAs X c tg (ab v) _ _ _) v rfl A s1 g R1) (fun u3 s2 hp4=>U0 hp4 fun σ2 R2 q2=>?_) fun _ _ q=>q.no.elim;refine c10 ((q2:Y7 X c ifs _ _) A s2 g R2) (fun b s3 hp5=>U0 hp5 fun σ3 R3 q3=>?_) fun _ _ q=>q.no.elim;have q3:if b=true then _ else _:=q3
  cases b with
  | false=>
   obtain ⟨m,h1,σ6,g6,h2⟩:=q3;exact ⟨m,h1,σ6,R3.down g6,h2⟩
  | true=>
   rw [if_pos rfl] at q3⊢;refine c10 ((q3:WE X c elt _ _ _) A s3 g R3) (fun y s4 hpz=>?_) fun _ _ q=>q.no.elim;obtain ⟨σ4,⟨own,R4⟩,ys,q4,q5,m,q6,σ6,g6,q7⟩:=hpz;exact s33 R4 q4 q5 fun h' R5=>⟨m,q6,σ6,O1.down (σ:={σ4 with h:=upd σ4.h D (.list (ys++[ab y]))}) ⟨own,R5⟩ g6,q7⟩
theorem g23 {elt iter tg:Expr} {ifs:List Expr} {scope:Scope} {pos p':Pos} {cks:List (Nat×NameKind)} {use:Option (Value->Sem Unit)} {QQ:Value->Shared->Prop} {A:Around} {s:Shared} {EE:Value->Shared->Prop} (K:G6 c scope cks) (hc: ∀p∈cks,p.2= .free-> ∃a,c.cs.lookup p.1=some a)
  (hs: ∀x,foldedSetIterable iter c.env x=pure x) (ht: ∀it v,letOwnedTupleGo tg it v=pure ()) (g:c.Good A) (R:O1 X c σ s) {Qe:Nat->NS->St->Prop}
  (h:WE X c iter (fun a=>Z1 X c a (fun it σ0=> ∀D,σ0.h D=none-> ∀cenv,X5 X (G3 c cks σ0.loc cenv) tg ifs elt it D (Qe D σ0.loc) ⟨upd σ0.h D (.list []),[]⟩/\
   Z1 X (G3 c cks σ0.loc cenv) it (fun it' σ1=>X5 X (G3 c cks σ0.loc cenv) tg ifs elt it' D (Qe D σ0.loc) σ1) no ⟨upd σ0.h D (.list []),[]⟩) E) E σ)
  (hE: ∀V s,Exn X c E V s->EE V s)
  (hQ: ∀D l C l' σ' s' own,Qe D l σ'->Z0 X own ((C,l')::(c.env.locals,l)::c.nss) σ'.h s'->W12 X.Z X.M A EE use QQ (.ref D) C (.ok .next) s'):
  wpZ X.Z X.M A (comprehension (.ListComp elt [⟨tg,iter,ifs,0⟩] scope pos) scope c.env p' (newList []) false (eval iter c.env) use) QQ EE s:=by
 obtain ⟨h1,_⟩:=K.good hc g 0 [];refine b17 rfl hs h1 K.kind (fun x hx hl=>?_) (c10 (h A s g R) (fun x s1 hp8=>U0 hp8 fun σ1 R1 q1=>c10 ((q1:Z1 X c (ab x) _ _ _) x rfl A s1 g R1) (fun it s2 hp9=>U0 hp9 fun σ2 hp10 q2=>hp10.elim fun own2 R2=>?_) fun _ _ q=>hE _ _ q) fun _ _ q=>hE _ _ q)
 ·rw [K.names] at hx⊢;obtain ⟨p,hp,rfl⟩:=List.mem_map.mp hx;rw [z13,i17 K.nodup hp];exact congrArg some hl
 ·obtain ⟨hD,own3,R3⟩:=R2.J4 (tk:=s2.toks) (o:= .list []) (ob:={cls:= .type "list",data:= .seq ([]:List Value).toArray}) rfl fun own'=>⟨_,⟨_,y3 _ rfl⟩,rfl⟩;refine of <| wpAny_newObj_type (of <| wpAny_newFunctionEnv (fun x hx=>?_) (fun y hy=>nomatch hy) (fun h' hns hsb=>?_) K.kind)
  ·rw [K.names] at hx;obtain ⟨p,hp,rfl⟩:=List.mem_map.mp hx;exact K.nocell p hp
  ·dsimp only at hns hsb⊢;generalize hH:s2.heap.push {cls:= .type "list",dict:=none,data:= .seq ([]:List Value).toArray}=H2 at hns hsb⊢;have R3:Z0 X own3 ((c.env.locals,σ2.loc)::c.nss) (upd σ2.h s2.heap.objs.size (.list [])) {s2 with heap:=H2}:=by rw [<-hH];exact R3
   obtain ⟨own4,R4⟩:=R3.enter (tk:=s2.toks+([]:List (Str×Value)).length) (L:=H2.objs.size) (l:=[]) (h':=h') (fun b o e=>hsb.extBut b o (Nat.ne_of_lt (Heap.lt_size e)) (i3 _ e)) (l6 (Nat.le_refl _)) ⟨_,hns,fun x v e=>by cases e⟩;obtain ⟨_,g'⟩:=K.good hc g H2.objs.size σ2.loc;obtain ⟨b1,b2⟩:=q2 _ hD (compEnvC scope (I4 (Y5 c) cks []) H2.objs.size c.env);have Rn:O1 X (G3 c cks σ2.loc (compEnvC scope (I4 (Y5 c) cks []) H2.objs.size c.env)) ⟨upd σ2.h s2.heap.objs.size (.list []),[]⟩ {s2 with heap:=h',toks:=s2.toks+([]:List (Str×Value)).length}:=⟨own4,R4⟩;refine c17 (j17 (c:=G3 c cks σ2.loc (compEnvC scope (I4 (Y5 c) cks []) H2.objs.size c.env)) g' Rn ht b1 fun σ' s' hp11 q=>hp11.elim fun own' R'=>hQ _ _ _ _ _ _ _ q R') (c10 (b2 it rfl A _ g' Rn) (fun it' s5 hp12=>U0 hp12 fun σ5 R5 q5=>j17 (c:=G3 c cks σ2.loc (compEnvC scope (I4 (Y5 c) cks []) H2.objs.size c.env)) g' R5 ht q5 fun σ' s' hp13 q=>hp13.elim fun own' R'=>hQ _ _ _ _ _ _ _ q R') fun _ _ q=>q.no.elim)
theorem b44 {elt iter tg:Expr} {ifs:List Expr} {scope:Scope} {pos:Pos} {cks:List (Nat×NameKind)} (K:G6 c scope cks) (hc: ∀p∈cks,p.2= .free-> ∃a,c.cs.lookup p.1=some a) (hs: ∀x,foldedSetIterable iter c.env x=pure x) (ht: ∀it v,letOwnedTupleGo tg it v=pure ())
  (h:WE X c iter (fun a=>Z1 X c a (fun it σ0=> ∀D,σ0.h D=none-> ∀cenv,X5 X (G3 c cks σ0.loc cenv) tg ifs elt it D (fun σ'=>Q (.ref D) ⟨σ'.h,σ0.loc⟩) ⟨upd σ0.h D (.list []),[]⟩/\
   Z1 X (G3 c cks σ0.loc cenv) it (fun it' σ1=>X5 X (G3 c cks σ0.loc cenv) tg ifs elt it' D (fun σ'=>Q (.ref D) ⟨σ'.h,σ0.loc⟩) σ1) no ⟨upd σ0.h D (.list []),[]⟩) E) E σ):WE X c (.ListComp elt [⟨tg,iter,ifs,0⟩] scope pos) Q E σ:=fun A s g R=>by
 rw [arm_eval_ListComp];refine g23 (Qe:=fun D l σ'=>Q (.ref D) ⟨σ'.h,l⟩) K hc hs ht g R h (ide) fun D l C l' σ' s' own q R'=>?_;obtain ⟨m,hm,_⟩:=(R'.frs _ (.head _)).2.2;exact ⟨m,hm,fun h' hs'=>by obtain ⟨own2,R2⟩:=R'.V13 hs';exact ⟨⟨σ'.h,l⟩,⟨own2,R2⟩,q⟩⟩
theorem h38 {elt iter tg:Expr} {ifs:List Expr} {scope:Scope} {pos py spos:Pos} {y:Nat} {cks:List (Nat×NameKind)} {Q:Fl->St->Prop} (K:G6 c scope cks) (hc: ∀p∈cks,p.2= .free-> ∃a,c.cs.lookup p.1=some a) (hs: ∀x,foldedSetIterable iter c.env x=pure x) (ht: ∀it v,letOwnedTupleGo tg it v=pure ())
  (hy:c.ks.lookup y=some .local) (hyc:cks.lookup y=none\/cks.lookup y=some .globalImplicit) (hln:(py.line==pos.line)=true)
  (h:WE X c iter (fun a=>Z1 X c a (fun it σ0=> ∀D,σ0.h D=none-> ∀cenv,X5 X (G3 c cks σ0.loc cenv) tg ifs elt it D (fun σ'=>Q .next ⟨σ'.h,(y,.ref D)::σ0.loc⟩) ⟨upd σ0.h D (.list []),[]⟩/\
   Z1 X (G3 c cks σ0.loc cenv) it (fun it' σ1=>X5 X (G3 c cks σ0.loc cenv) tg ifs elt it' D (fun σ'=>Q .next ⟨σ'.h,(y,.ref D)::σ0.loc⟩) σ1) no ⟨upd σ0.h D (.list []),[]⟩) E) E σ):WX X c (.Assign [.Name (N y) py] (.ListComp elt [⟨tg,iter,ifs,0⟩] scope pos) spos) Q E σ:=fun A s g R=>by
 have hsw:swapsWith (.ListComp elt [⟨tg,iter,ifs,0⟩] scope pos) (some (.Name (N y) py)) spos.line c.env=pure true:=by
  show (pure _:Sem Bool)=_;congr 1;have e1:c.env.blockKind= .function:=by unfold Env.blockKind;rw [g.ok.fn];rfl
  have e2:(scope.names.any fun (n,k)=>n==N y&&(k== .local||k== .cell))=false:=by
   rw [K.names,List.any_map,List.any_eq_false];intro p hp;have:=i17 K.nodup hp;obtain ⟨n,k⟩:=p;dsimp only [Function.comp] at this⊢;by_cases e:n=y
   ·subst e;rcases hyc with h | h
    ·rw [h] at this;cases this
    ·rw [h] at this;cases this;simp
   ·rw [show (N n==N y)=false from by rw [beq_eq_false_iff_ne];exact fun q=>e (o14 q)];simp
  rw [e1,show c.env.kindOf (N y)=some .local from g.ok.ks _ _ hy,show (py.line==(Expr.ListComp elt [⟨tg,iter,ifs,0⟩] scope pos).pos.line)=true from hln]
  first | (rw [e2];rfl) | simp [e2]
 rw [exec_Assign_Name_used _ _ _ _ hsw];refine a10 (of <| wpAny_standAt (a10 ?_));show wpZ _ _ A (do let _<-comprehension (.ListComp elt [⟨tg,iter,ifs,0⟩] scope pos) scope c.env _ (newList []) false (eval iter c.env) (some (assign (.Name (N y) py) c.env))) _ _ s;refine a10 (c10 (g23 (Qe:=fun D l σ'=>Q .next ⟨σ'.h,(y,.ref D)::l⟩) (use:=some (assign (.Name (N y) py) c.env)) (QQ:=fun _ s'=> ∃σ',O1 X c σ' s'/\Q .next σ') K hc hs ht g R h (ide) fun D l C l' σ' s' own q R'=>?_) (fun _ s' hq=>m10 (m10 hq)) fun _ _ e=>e)
 let c2:Cf:={c with nss:=(C,l')::c.nss}
 have g2:c2.Good A:=⟨⟨g.ok.fn,g.ok.ks,g.ok.cs,g.ok.gl,g.ok.bi,g.ok.top,fun e he=>by
  obtain ⟨h1,L',h2,h3⟩:=g.ok.frs e he;refine ⟨h1,L',h2,?_⟩;rcases List.mem_cons.mp h3 with h3 | h3
  ·exact h3▸ .head _
  ·exact .tail _ (.tail _ h3)⟩,g.frames,g.depth,g.units,g.hd⟩
 have st:WAs X c2 (.Name (N y) py) (.ref D) (fun σ''=>σ''=⟨σ'.h,(y,.ref D)::l⟩) no ⟨σ'.h,l⟩:=k33 (n16 hy rfl);refine c10 (st (.ref D) rfl A s' g2 ⟨own,R'.perm⟩) (fun u14 s2 hp15=>U0 hp15 fun σ2 hp16 q2=>hp16.elim fun own2 R2=>?_) fun _ _ q=>q.no.elim;subst q2;have R3:=R2.perm;obtain ⟨m,hm,_⟩:=(R3.frs _ (.head _)).2.2;exact ⟨m,hm,fun h' hs'=>by obtain ⟨own4,R4⟩:=R3.V13 hs';exact ⟨_,⟨own4,R4⟩,q⟩⟩
end
def noP:PT:=fun _ _=>False
namespace I
def X8 (X:Cx) (c:Cf) (t q e:List Tr) (it:AV) (D:Nat) (Qe:St->Prop) (σ:St):Prop:= ∃(J:Nat->St->Prop) (n:Nat),J n σ/\ ∀n σ,J n σ->W5 X c it (fun r σ2=>match r with
 | none=>Qe σ2
 | some v=>run X c (fun _ σ3=>run X c (fun bs σ4=>N8 (fun b _=>if b=true then run X c (fun ys σ5=>S6 (fun y _=> ∃xs,σ5.h D=some (.list xs)/\xs.length<=16777216/\ ∃m,m<n/\Up (J m) {σ5 with h:=upd σ5.h D (.list (xs++[y]))}) ys) noP e [] σ4 else∃m,m<n/\Up (J m) σ4) bs) noP q [] σ3) noP t [v] σ2) no σ
def cells (cks:List (Nat×NameKind)):Tr:=fun X c K P vs σ=>(∀p∈cks,p.2= .free-> ∃a,c.cs.lookup p.1=some a)/\K vs σ
def Z7 (cks:List (Nat×NameKind)) (t q e:List Tr):Tr:=fun X c K P vs σ=>S6 (fun a vs=>Z1 X c a (fun it σ0=> ∀D,σ0.h D=none-> ∀c':Cf,c'.n=c.n->c'.ks=Z4 c.ks cks->c'.cs=Y4 c.cs cks->c'.hd=c.hd->
 X8 X c' t q e it D (fun σ'=>K (.ref D::vs) ⟨σ'.h,σ0.loc⟩) ⟨upd σ0.h D (.list []),[]⟩/\
 Z1 X c' it (fun it' σ1=>X8 X c' t q e it' D (fun σ'=>K (.ref D::vs) ⟨σ'.h,σ0.loc⟩) σ1) no ⟨upd σ0.h D (.list []),[]⟩) (fx P) σ) vs
end I
noncomputable def code (s:Str):Nat:=s.cps.toList.foldl (fun n d=>n*128+d) 0
noncomputable def nm (s:Str):Option Nat:=if N (code s)=s then some (code s) else none
set_option tactic.hygienic true in
theorem v13 {s:Str} {k:Nat} (h:nm s=some k):s=N k:=by
 unfold nm at h
 split at h
 ·rename_i q;cases h;exact q.symm
 ·cases h
noncomputable def notStar (e:Expr):Bool:=e.ctorIdx != 22
noncomputable def V7 (e:Expr):Bool:=e.ctorIdx != 26
noncomputable def J7 (e:Expr):Bool:=e.ctorIdx != 8&&e.ctorIdx != 9&&e.ctorIdx != 10
noncomputable def N5 (e:Expr):Bool:=e.ctorIdx != 25&&e.ctorIdx != 24
noncomputable def X4 (e:Expr):Bool:=e.ctorIdx != 7
noncomputable def T5 (e:Expr):Bool:=if h:e.ctorIdx=16 then Expr.Call.elim (motive_1:=fun _=>Bool) e h fun g as ks _=>!(g.ctorIdx==23&&as.isEmpty&&ks.isEmpty) else true
noncomputable def opt {α β:Type} (o:Option α) (n:β) (f:(a:α)->o=some a->β):β:=match o,f with
 | none,_=>n
 | some a,f=>f a rfl
theorem o12 {α β:Type} {o:Option α} {f:(a:α)->o=some a->Option β} {b:β} (h:opt o none f=some b): ∃a,∃q:o=some a,f a q=some b:=by
 cases o with
 | none=>cases h
 | some a=>exact ⟨a,rfl,h⟩
noncomputable def J6:List Keyword->Option (List Nat)
 | []=>some []
 | k::r=>opt k.1 none fun n _=>opt (nm n) none fun a _=>opt (J6 r) none fun as _=>some (a::as)
section
open I
def fail:Tr:=fun _ _ _ _ _ _=>False
variable (f t:Expr->List Tr)
noncomputable def U13:Option Expr->List Tr
 | none=>[push .none]
 | some e=>f e
noncomputable def K5 (o:Bool):List (List Tr)->List Tr
 | []=>[]
 | [c]=>c
 | c::r=>c++[bop o (K5 o r)]
noncomputable def isAnd:BoolOp->Bool | .And=>true | .Or=>false
noncomputable def X3 {α:Type} [BEq α]:List α->Bool
 | []=>true
 | a::l=>!l.contains a&&X3 l
noncomputable def U9:Nat⊕Int->AV
 | .inl k=> .str (N k)
 | .inr i=> .int i
def W11 (e:Expr) (k:Nat⊕Int):Prop:= ∀{X:Cx} {c:Cf} {Q:AV->St->Prop} {E:Nat->St->Prop} {σ:St},Q (U9 k) σ->WE X c e Q E σ
noncomputable def G17 (e:Expr):Option {k:Nat⊕Int // W11 e k}:=if h:e.ctorIdx=19 then Expr.Constant.elim (motive_1:=fun e=>Option {k:Nat⊕Int // W11 e k}) e h fun c n q=>(match c with
 | .str s=>opt (nm s) none fun k hk=>some ⟨.inl k,fun q=>v13 hk▸d43 q⟩
 | .int i=>some ⟨.inr i,fun q=>v47 q⟩
 | _=>none) else none
noncomputable def keysOf:List (Option Expr)->Option (List (Nat⊕Int))
 | []=>some []
 | e::r=>opt e none fun x _=>opt (G17 x) none fun k _=>opt (keysOf r) none fun ks _=>some (k.1::ks)
noncomputable def P11:List (Nat⊕Int)->Option (List Nat)
 | []=>some []
 | .inl k::r=>(P11 r).map (k:: ·)
 | .inr _::_=>none
noncomputable def rights:List (Nat⊕Int)->Option (List Int)
 | []=>some []
 | .inr k::r=>(rights r).map (k:: ·)
 | .inl _::_=>none
noncomputable def X6:List (Str×NameKind)->Option (List (Nat×NameKind))
 | []=>some []
 | p::r=>opt (nm p.1) none fun n _=>opt (X6 r) none fun ks _=>some ((n,p.2)::ks)
noncomputable def X12 (scope:Scope) (y:Nat):Bool:=opt (X6 scope.names) false fun cks _=>cks.lookup y==none||cks.lookup y==some .globalImplicit
noncomputable def cands:List (List Tr)->List Tr
 | []=>[push (.bool true)]
 | c::r=>c++[T9 (cands r)]
noncomputable def S14:List (List Tr)->List Tr
 | []=>[push (.bool false)]
 | c::r=>c++[jor (S14 r)]
end
section
variable {X:Cx} {c:Cf} {P:PT}
theorem ra {l m:List Tr} {K:KT} {vs:List AV} {σ:St} (h:run X c K P (l++m) vs σ):run X c (run X c K P m) P l vs σ:=by rw [r14] at h;exact h
theorem t33 (l vs acc:List AV):O3 l.length (l++vs) acc=some (l.reverse++acc,vs):=by
 induction l generalizing acc with
 | nil=>cases vs<;>rfl
 | cons a l ih=>show O3 l.length (l++vs) (a::acc)=_;rw [ih];simp
theorem y29 (l:List (Nat×AV)) (vs:List AV) (acc:List (Str×AV)):K4 (l.map (·.1)) (l.map (·.2)++vs) acc=some ((l.reverse.map fun p=>(N p.1,p.2))++acc,vs):=by
 induction l generalizing acc with
 | nil=>cases vs<;>rfl
 | cons a l ih=>show K4 (l.map (·.1)) (l.map (·.2)++vs) ((N a.1,a.2)::acc)=_;rw [ih];simp
theorem x15 {o:Expr} (h:T5 o=true) (x:Str) (env:Env):attributeBase o x env (eval o env)=eval o env:=by
 cases o with
 | Call g as ks p=>cases g with
  | Name n q=>cases as with
   | nil=>cases ks with
    | nil=>cases h
    | cons=>rfl
   | cons=>rfl
  | _=>rfl
 | _=>rfl
theorem h23 {e:Expr} {es:List Expr} {env:Env} (h:notStar e=true):starEach (e::es) env=(false,eval e env)::starEach es env:=by
 cases e<;>first | rfl | cases h
theorem g20 {es:List Expr} {env:Env} {p:Pos} (h:es.all notStar=true):(backTo p (starEach es env)).any (·.1)=false:=by
 induction es with
 | nil=>rfl
 | cons e es ih=>
  rw [List.all_cons,z0] at h;rw [h23 h.1];show (false||(backTo p (starEach es env)).any (·.1))=false;rw [ih h.2];rfl
theorem v33 {kws:List Keyword} {kn:List Nat} {env:Env} {p:Pos} (h:J6 kws=some kn):(backToKw p (keywordEach kws env)).all (·.1.isSome)=true/\kws.length=kn.length:=by
 induction kws generalizing kn with
 | nil=>cases h;exact ⟨rfl,rfl⟩
 | cons k r ih=>
  obtain ⟨a,v,q⟩:=k;obtain ⟨n,h1,h⟩:=o12 h;obtain ⟨a,h2,h⟩:=o12 h;obtain ⟨as,h3,h⟩:=o12 h;cases h;cases (show _=some n from h1);exact ⟨(ih h3).1,congrArg (·+1) (ih h3).2⟩
def EOk (X:Cx) (c:Cf) (f:Expr->List Tr):Prop:= ∀(e:Expr) (K:KT) (P:PT) (vs:List AV) (σ:St),run X c K P (f e) vs σ->WE X c e (fun v=>K (v::vs)) (fx P) σ
def TOk (X:Cx) (c:Cf) (t:Expr->List Tr):Prop:= ∀(e:Expr) (K:KT) (P:PT) (vs:List AV) (σ:St),run X c K P (t e) vs σ->WTe X c e (fun b=>K (.bool b::vs)) (fx P) σ
theorem a11 {e:Expr} {Q Q':AV->St->Prop} {E:Nat->St->Prop} {σ:St} (h:WE X c e Q E σ) (hq: ∀a σ,Q a σ->Q' a σ):WE X c e Q' E σ:=WT.mono h hq ide
theorem k17 {e:Expr} {Q Q':Bool->St->Prop} {E:Nat->St->Prop} {σ:St} (h:WTe X c e Q E σ) (hq: ∀a σ,Q a σ->Q' a σ):WTe X c e Q' E σ:=WT.mono h hq ide
section
variable {f t:Expr->List Tr}
theorem l17 (H:EOk X c f) {p:Pos}: ∀(es:List Expr) (K:KT) (vs:List AV) (σ:St),es.all notStar=true->run X c K P (es.map f).flatten vs σ->
  WEs X c p es (fun as σ'=>as.length=es.length/\K (as.reverse++vs) σ') (fx P) σ
 | [],K,vs,σ,_,h=>a48 ⟨rfl,h⟩
 | e::es,K,vs,σ,hs,h=>by
  rw [List.all_cons,z0] at hs;rw [v5,List.flatten_cons,r14] at h;refine j43 ((H e _ _ _ _ h).mono (fun a σ1 q=>?_) ide) (h23 hs.1);refine (l17 H es K (a::vs) σ1 hs.2 q).mono (fun as σ2 q2=>⟨by simp [q2.1],?_⟩) ide;have:=q2.2;rw [List.reverse_cons,List.append_assoc];exact this
theorem r41 (H:EOk X c f) {p:Pos} (kws:List Keyword): ∀(kn:List Nat) (K:KT) (vs:List AV) (σ:St),J6 kws=some kn->run X c K P (kws.map fun k=>f k.value).flatten vs σ->
  WKs X c p kws (fun kw σ'=> ∃l:List (Nat×AV),l.map (·.1)=kn/\kw=l.map (fun p=>(N p.1,p.2))/\K ((l.map (·.2)).reverse++vs) σ') (fx P) σ:=by
 induction kws with
 | nil=>intro kn K vs σ hn h;cases hn;exact l48 ⟨[],rfl,rfl,h⟩
 | cons k r ih=>
  intro kn K vs σ hn h;obtain ⟨a,v,q⟩:=k;obtain ⟨n,h1,hn⟩:=o12 hn;obtain ⟨k,h2,hn⟩:=o12 hn;obtain ⟨ks',h3,hn⟩:=o12 hn;cases hn;cases (show _=some n from h1);obtain rfl:=v13 h2;rw [v5,List.flatten_cons] at h;refine r43 ((H v _ _ _ _ (ra h)).mono (fun a σ1 q1=>?_) ide);refine (ih ks' K (a::vs) σ1 h3 q1).mono (fun kw σ2 q2=>?_) ide;obtain ⟨l,h1,rfl,h3⟩:=q2;refine ⟨(k,a)::l,congrArg (k:: ·) h1,rfl,?_⟩;rw [v5,List.reverse_cons,List.append_assoc];exact h3
theorem c44 {o:Operator} {K:KT} {a b:AV} {vs:List AV} {σ:St} (h:I.bin o X c K P (b::a::vs) σ):Z5 X c o a b (fun v=>K (v::vs)) (fx P) σ:=y43 X c h
theorem t25 {o:CmpOp} {K:KT} {a b:AV} {vs:List AV} {σ:St} (h:I.cmp o X c K P (b::a::vs) σ):U4 X c o a b (fun v=>K (v::vs)) (fx P) σ:=r33 X c h
theorem s41 {o:UnaryOp} {K:KT} {a:AV} {vs:List AV} {σ:St} (h:I.un o X c K P (a::vs) σ):WUn X c o a (fun v=>K (v::vs)) (fx P) σ:=t48 X c h
theorem h20 {K:KT} {a:AV} {vs:List AV} {σ:St} (h:I.tru X c K P (a::vs) σ):X7 X c a (fun v=>K (.bool v::vs)) (fx P) σ:=r25 X c h
theorem w52 {a:AV} {Q:AV->St->Prop} {E:Nat->St->Prop} {σ:St} (h:X7 X c a (fun b=>Q (.bool (!b))) E σ):WUn X c .Not a Q E σ:=fun V hV A s g R=>k25 (h V hV A s g R)
theorem w33 {as:List AV} {l:List (Nat×AV)} {vs:List AV}:K4 (l.map (·.1)).reverse ((l.map (·.2)).reverse++vs) []=some (l.map (fun p=>(N p.1,p.2)),vs):=by
 have:=y29 l.reverse vs [];rw [List.map_reverse,List.map_reverse,List.reverse_reverse,List.append_nil] at this;exact this
theorem h19 {as vs:List AV}:O3 as.length (as.reverse++vs) []=some (as,vs):=by
 have:=t33 as.reverse vs [];rw [List.length_reverse,List.reverse_reverse,List.append_nil] at this;exact this
theorem i38 {g:AV} {as:List AV} {n:Nat} {kn:List Nat} {l:List (Nat×AV)} {K:KT} {vs:List AV} {σ:St} (h1:as.length=n) (h2:l.map (·.1)=kn) (h:I.call n kn X c K P ((l.map (·.2)).reverse++(as.reverse++(g::vs))) σ):
  U3 X c g σ/\J2 X c g as (l.map fun p=>(N p.1,p.2)) (fun v=>K (v::vs)) (fx P) σ:=by
 subst h1;subst h2;unfold I.call at h;rw [w33 (as:=as)] at h;dsimp only at h;rw [h19] at h;exact h
theorem x33 {g s:AV} {as:List AV} {n:Nat} {kn:List Nat} {l:List (Nat×AV)} {K:KT} {vs:List AV} {σ:St} (h1:as.length=n) (h2:l.map (·.1)=kn) (h:I.J0 n kn X c K P ((l.map (·.2)).reverse++(as.reverse++(s::g::vs))) σ):
  U3 X c g σ/\J2 X c g (G4 s++as) (l.map fun p=>(N p.1,p.2)) (fun v=>K (v::vs)) (fx P) σ:=by
 subst h1;subst h2;unfold I.J0 at h;rw [w33 (as:=as)] at h;dsimp only at h;rw [h19] at h;exact h
theorem i20 (H:EOk X c f) (e:Option Expr) (K:KT) (P:PT) (vs:List AV) (σ:St) (h:run X c K P (U13 f e) vs σ):R9 X c e (fun v=>K (v::vs)) (fx P) σ:=by
 cases e with
 | none=>exact f38 h
 | some e=>exact g38 (H _ _ _ _ _ h)
theorem d44 {as:List AV} {n:Nat} {K:KT} {vs:List AV} {σ:St} (h1:as.length=n) (h:I.lst n X c K P (as.reverse++vs) σ):as.length<=16777216/\ ∀a,σ.h a=none->K (.ref a::vs) {σ with h:=upd σ.h a (.list as)}:=by
 subst h1;unfold I.lst at h;rw [h19] at h;exact h
theorem e44 {as:List AV} {n:Nat} {K:KT} {vs:List AV} {σ:St} (h1:as.length=n) (h:I.tup n X c K P (as.reverse++vs) σ):as.length<=16777216/\ ∀a,σ.h a=none->K (.ref a::vs) {σ with h:=upd σ.h a (.tuple as)}:=by
 subst h1;unfold I.tup at h;rw [h19] at h;exact h
theorem i23 (H:EOk X c f) (o:BoolOp) (p:Pos): ∀(es:List Expr) (K:KT) (vs:List AV) (σ:St),es≠[]->run X c K P (K5 (isAnd o) (es.map f)) vs σ->WT X c (boolOp p o (evalEach es c.env)) ab (fun v=>K (v::vs)) (fx P) σ
 | [],K,vs,σ,hn,_=>absurd rfl hn
 | [e],K,vs,σ,_,h=>H e _ _ _ _ h
 | e::e'::r,K,vs,σ,_,h=>by
  have h':run X c K P (f e++[I.bop (isAnd o) (K5 (isAnd o) ((e'::r).map f))]) vs σ:=h;rw [r14,a44] at h';have ih:=i23 H o p (e'::r);show WT X c (do
   let v<-eval e c.env
   standAt p
   let t<-holding [v] (truthy v)
   match o,t with
    | .And,false=>pure v
    | .Or,true=>pure v
    | _,_=>boolOp p o (evalEach (e'::r) c.env)) ab _ _ σ
  refine WT.bind ((H e _ _ _ _ h').mono (fun a σ1 q v hv=>?_) ide);have q:G12 X c a (fun b σ2=>if b=isAnd o then run X c K P (K5 (isAnd o) ((e'::r).map f)) vs σ2 else K (a::vs) σ2) (fx P) σ1:=q;refine WT.standAt (WT.bind (WT.holding ((r25 X c q v hv).mono (fun u σ2 q2 t ht=>?_) ide)));cases ht;cases o with
  | And=>
   cases t with
   | true=>exact ih _ _ _ (by simp) q2
   | false=>exact WT.pure (hv▸q2)
  | Or=>
   cases t with
   | true=>exact WT.pure (hv▸q2)
   | false=>exact ih _ _ _ (by simp) q2
theorem r11 {α:Type} [BEq α] [LawfulBEq α]: ∀{l:List α},X3 l=true->l.Nodup
 | [],_=>List.nodup_nil
 | a::l,h=>by
  have h:=(z0 _ _).mp (show (!l.contains a&&X3 l)=true from h);rw [List.nodup_cons];refine ⟨fun hm=>?_,r11 h.2⟩;have:=h.1;simp at this;exact this hm
theorem j23 {e:Option Expr} {r:List (Option Expr)} {as:List (Nat⊕Int)} (h:keysOf (e::r)=some as): ∃x k ks,e=some x/\W11 x k/\keysOf r=some ks/\as=k::ks:=by
 obtain ⟨x,h1,h⟩:=o12 h;obtain ⟨k,h2,h⟩:=o12 h;obtain ⟨ks,h3,h⟩:=o12 h;cases h;exact ⟨x,k.1,ks,h1,k.2,h3,rfl⟩
theorem h28 (keys:List (Option Expr)): ∀as,keysOf keys=some as->keys.length=as.length/\keys.all (·.isSome)=true:=by
 induction keys with
 | nil=>intro as h;cases h;exact ⟨rfl,rfl⟩
 | cons e r ih=>
  intro as h;obtain ⟨x,k,ks,rfl,h1,h2,rfl⟩:=j23 h;exact ⟨congrArg (·+1) (ih ks h2).1,(ih ks h2).2⟩
theorem j20: ∀(l:List (Nat⊕Int)) (ns:List Nat),P11 l=some ns->l.map U9=ns.map (fun n=>AV.str (N n))/\l.length=ns.length
 | [],ns,h=>by cases h;exact ⟨rfl,rfl⟩
 | .inl k::r,ns,h=>by
  obtain ⟨n2,h1,h2⟩:=Option.map_eq_some_iff.mp h;subst h2;exact ⟨congrArg (_:: ·) (j20 r n2 h1).1,congrArg (·+1) (j20 r n2 h1).2⟩
 | .inr _::_,ns,h=>by cases h
theorem m17: ∀(l:List (Nat⊕Int)) (ns:List Int),rights l=some ns->l.map U9=ns.map AV.int/\l.length=ns.length
 | [],ns,h=>by cases h;exact ⟨rfl,rfl⟩
 | .inr k::r,ns,h=>by
  obtain ⟨n2,h1,h2⟩:=Option.map_eq_some_iff.mp h;subst h2;exact ⟨congrArg (_:: ·) (m17 r n2 h1).1,congrArg (·+1) (m17 r n2 h1).2⟩
 | .inl _::_,ns,h=>by cases h
theorem v48 (H:EOk X c f) {p:Pos} {K:KT} (keys:List (Option Expr)): ∀(values:List Expr) (as:List (Nat⊕Int)) (vs:List AV) (σ:St),keysOf keys=some as->keys.length=values.length->run X c K P (values.map f).flatten vs σ->
  WPr X c p keys values (fun l σ'=>l.map (·.1)=as.map U9/\l.length=as.length/\K ((l.map (·.2)).reverse++vs) σ') (fx P) σ:=by
 induction keys with
 | nil=>
  intro values as vs σ h hl hr;cases values with
  | nil=>cases h;exact r48 ⟨rfl,rfl,hr⟩
  | cons=>cases hl
 | cons e r ih=>
  intro values as vs σ h hl hr;cases values with
  | nil=>cases hl
  | cons v values=>
  obtain ⟨x,k,ks,rfl,hx,h2,rfl⟩:=j23 h;rw [v5,List.flatten_cons] at hr;refine u43 (hx ((H v _ _ _ _ (ra hr)).mono (fun a σ1 q1=>?_) ide));refine (ih values ks (a::vs) σ1 h2 (Nat.succ.inj hl) q1).mono (fun l σ2 q2=>⟨?_,congrArg (·+1) q2.2.1,?_⟩) ide
  ·rw [v5,v5,q2.1]
  ·rw [v5,List.reverse_cons,List.append_assoc];exact q2.2.2
theorem i28 (T:TOk X c t): ∀(es:List Expr) (K:KT) (vs:List AV) (σ:St),run X c K P (cands (es.map t)) vs σ->WAl X c .And es (fun b=>K (.bool b::vs)) (fx P) σ
 | [],K,vs,σ,h=>q29 h
 | e::es,K,vs,σ,h=>by
  have h':run X c K P (t e++[I.T9 (cands (es.map t))]) vs σ:=h;rw [r14] at h';refine z47 (k17 (T _ _ _ _ _ h') fun b σ1 q=>?_);cases b with
  | true=>exact (i28 T es K vs σ1 q:WAl X c _ _ _ _ _)
  | false=>exact q
theorem y33 (T:TOk X c t): ∀(es:List Expr) (K:KT) (vs:List AV) (σ:St),run X c K P (S14 (es.map t)) vs σ->WAl X c .Or es (fun b=>K (.bool b::vs)) (fx P) σ
 | [],K,vs,σ,h=>h33 h
 | e::es,K,vs,σ,h=>by
  have h':run X c K P (t e++[I.jor (S14 (es.map t))]) vs σ:=h;rw [r14] at h';refine c52 (k17 (T _ _ _ _ _ h') fun b σ1 q=>?_);cases b with
  | true=>exact q
  | false=>exact (y33 T es K vs σ1 q:WAl X c _ _ _ _ _)
theorem z33 (l:List (Str×NameKind)): ∀cks:List (Nat×NameKind),X6 l=some cks->l=cks.map fun p=>(N p.1,p.2):=by
 induction l with
 | nil=>intro cks h;cases h;rfl
 | cons p r ih=>
  intro cks h;obtain ⟨n,h1,h⟩:=o12 h;obtain ⟨ks,h2,h⟩:=o12 h;cases h;obtain ⟨s,k⟩:=p;rw [v5,<-ih ks h2,v13 (show nm s=some n from h1)]
theorem n17 {env:Env}: ∀ifs:List Expr,(forIn ifs false fun t r=>if r=true then do let ok<-isTrue t env (eval t env);pure (ForInStep.yield ok) else pure (ForInStep.yield r))=(pure false:Sem Bool)
 | []=>rfl
 | e::r=>by
  rw [List.forIn_cons,if_neg Bool.false_ne_true,pure_bind];exact n17 r
theorem j28 (T:TOk X c t): ∀(ifs:List Expr) (Q:Bool->St->Prop) (vs:List AV) (σ:St),run X c (fun bs σ'=>N8 (fun b _=>Q b σ') bs) noP (cands (ifs.map t)) vs σ->Y7 X c ifs Q σ
 | [],Q,vs,σ,h=>WT.pure h
 | e::r,Q,vs,σ,h=>by
  have h':run X c (fun bs σ'=>N8 (fun b _=>Q b σ') bs) noP (t e++[I.T9 (cands (r.map t))]) vs σ:=h;rw [r14] at h';unfold Y7;rw [List.forIn_cons,if_pos rfl];refine WT.bind (f:=fun x:ForInStep Bool=>match x with | .yield b=>some b | .done _=>none) (WT.bind ((T e _ _ _ _ h').mono (fun b σ1 q v hv=>WT.pure (fun v' hv'=>?_)) ide));cases hv;cases v' with
  | done b=>cases hv'
  | yield b=>
  obtain rfl:b=v:=w5 hv';cases b with
  | true=>exact j28 T r Q vs σ1 q
  | false=>
   dsimp only;rw [n17];exact WT.pure q
theorem a34 {e:Expr} (h:X4 e=true) (env:Env) (x:Value):foldedSetIterable e env x=pure x:=by
 cases e<;>first | rfl | cases h
theorem t41 {t:Expr} (h:N5 t=true) (it v:Value):letOwnedTupleGo t it v=pure ():=by
 cases t<;>first | rfl | cases h
theorem x52 {e:Expr} {Q:Bool->St->Prop} {E:Nat->St->Prop} {σ:St} (h:WE X c e (fun a=>X7 X c a Q E) E σ) (hv: ∀env,isTrue e env (eval e env)=(do let v<-eval e env;standAt e.pos;holding [v] (truthy v))):WTe X c e Q E σ:=f43 h (hv _)
theorem f44 {r:Expr} (h:X4 r=true) (o:CmpOp) (t:Sem Value):markedBehindIn o r t=t:=by
 cases r<;>first | rfl | cases h
end
end
structure OKc (G:List (Nat×AV)) (ks:List (Nat×NameKind)) (X:Cx) (c:Cf):Prop where
 k:c.ks=ks
 g: ∀k v,G.lookup k=some v->Glo X k v
noncomputable abbrev CE (G:List (Nat×AV)) (ks:List (Nat×NameKind)) (e:Expr):Type:={l:List Tr // ∀X c,OKc G ks X c-> ∀(K:KT) (P:PT) (vs:List AV) (σ:St),run X c K P l vs σ->WE X c e (fun v=>K (v::vs)) (fx P) σ}
noncomputable abbrev CT (G:List (Nat×AV)) (ks:List (Nat×NameKind)) (e:Expr):Type:={l:List Tr // ∀X c,OKc G ks X c-> ∀(K:KT) (P:PT) (vs:List AV) (σ:St),run X c K P l vs σ->WTe X c e (fun b=>K (.bool b::vs)) (fx P) σ}
section
open I
variable {G:List (Nat×AV)} {ks:List (Nat×NameKind)}
theorem u41 {X:Cx} {c:Cf} {k:Nat} {K:KT} {P:PT} {vs:List AV} {σ:St} (h:I.ld k X c K P vs σ): ∃v,σ.loc.lookup k=some v/\K (v::vs) σ:=by
 unfold I.ld at h;cases e:σ.loc.lookup k with
 | none=>rw [e] at h;exact h.elim
 | some v=>rw [e] at h;exact ⟨v,rfl,h⟩
theorem b34 {X:Cx} {c:Cf} {k:Nat} {K:KT} {P:PT} {vs:List AV} {σ:St} (h:I.ldc k X c K P vs σ): ∃a v,c.cs.lookup k=some a/\σ.h a=some (.cell (some v))/\K (v::vs) σ:=by
 unfold I.ldc at h;cases e:c.cs.lookup k with
 | none=>rw [e] at h;exact h.elim
 | some a=>rw [e] at h;exact h.elim fun v q=>⟨a,v,rfl,q⟩
noncomputable def T4 {e:Expr}:CE G ks e:=⟨[I.T4 e],fun _ _ _ _ _ _ _ h=>h⟩
noncomputable def V10 {e:Expr}:CT G ks e:=⟨[I.V10 e],fun _ _ _ _ _ _ _ h=>h⟩
noncomputable def cname (x:Str) (p:Pos):CE G ks (.Name x p):=opt (nm x) T4 fun k hx=>if hd:(x==("__debug__":Str))=true then T4 else if hc:(x==("__classdict__":Str))=true then T4
 else if h:(ks.lookup k==some .local)=true then ⟨[ld k],fun X c W K P vs σ r=>by
  obtain rfl:=v13 hx;obtain ⟨v,hv,r⟩:=u41 (X:=X) (c:=c) (P:=P) r;exact T7 (g28 (W.k▸eq_of_beq h) hv r) (Bool.eq_false_iff.mpr hd)⟩
 else if h:(ks.lookup k==some .cell)=true then ⟨[ldc k],fun X c W K P vs σ r=>by
  obtain rfl:=v13 hx;obtain ⟨a,v,ha,hv,r⟩:=b34 (X:=X) (P:=P) r;exact T7 (g43 (W.k▸eq_of_beq h) ha hv r) (Bool.eq_false_iff.mpr hd)⟩
 else if h:(ks.lookup k==some .free)=true then ⟨[ldc k],fun X c W K P vs σ r=>by
  obtain rfl:=v13 hx;obtain ⟨a,v,ha,hv,r⟩:=b34 (X:=X) (P:=P) r;exact T7 (h43 (W.k▸eq_of_beq h) ha hv r (Bool.eq_false_iff.mpr hc)) (Bool.eq_false_iff.mpr hd)⟩
 else if h:(ks.lookup k==some .globalImplicit)=true then opt (G.lookup k) T4 fun v hv=>⟨[push v],fun X c W K P vs σ r=>by
  obtain rfl:=v13 hx;exact T7 (y47 (W.k▸eq_of_beq h) (W.g _ _ hv) r) (Bool.eq_false_iff.mpr hd)⟩
 else T4
noncomputable def I14 (k:Const) (n:Nat) (p:Pos):CE G ks (.Constant k n p):=match k with
 | .int i=>⟨[push (.int i)],fun _ _ _ _ _ _ _ h=>v47 h⟩
 | .str s=>opt (nm s) ⟨[push (.str s)],fun _ _ _ _ _ _ _ h=>d43 h⟩ fun k hk=>⟨[push (.str (N k))],fun _ _ _ _ _ _ _ h=>v13 hk▸d43 h⟩
 | .bytes l=>⟨[push (.bytes l)],fun _ _ _ _ _ _ _ h=>U11 h⟩
 | .bool b=>⟨[push (.bool b)],fun _ _ _ _ _ _ _ h=>w47 h⟩
 | .none=>⟨[push .none],fun _ _ _ _ _ _ _ h=>x47 h⟩
 | _=>T4
theorem CE.ok {X:Cx} {c:Cf} {f:(e:Expr)->CE G ks e} (W:OKc G ks X c):EOk X c fun e=>(f e).1:=fun e=>(f e).2 X c W
theorem CT.ok {X:Cx} {c:Cf} {t:(e:Expr)->CT G ks e} (W:OKc G ks X c):TOk X c fun e=>(t e).1:=fun e=>(t e).2 X c W
section
variable (f:(e:Expr)->CE G ks e) (t:(e:Expr)->CT G ks e)
theorem c34 {keys:List (Option Expr)} {values:List Expr} (he: ¬(keys.isEmpty&&values.isEmpty)=true) (hl:(keys.length==values.length&&decide (keys.length<=15))=true):keys.length=values.length/\keys.length<=15/\keys≠[]:=by
 rw [z0,beq_iff_eq,decide_eq_true_eq] at hl;refine ⟨hl.1,hl.2,fun q=>?_⟩;subst q;rw [List.length_eq_zero_iff.mp hl.1.symm] at he;exact he rfl
noncomputable def H15 (keys:List (Option Expr)) (values:List Expr) (p:Pos):CE G ks (.Dict keys values p):=
 if he:(keys.isEmpty&&values.isEmpty)=true then ⟨[Y11],fun X c W K P vs σ h=>by
  rw [z0,List.isEmpty_iff,List.isEmpty_iff] at he;obtain ⟨rfl,rfl⟩:=he;exact t43 h⟩
 else if hl:(keys.length==values.length&&decide (keys.length<=15))=true then opt (keysOf keys) T4 fun as hk=>
  opt (P11 as) (opt (rights as) T4 fun ns e2=>if hd:X3 ns=true then ⟨[Y10]++(values.map fun e=>(f e).1).flatten++[S8 ns],fun X c W K P vs σ h=>by
   obtain ⟨k1,k2⟩:=m17 as ns e2;obtain ⟨l1,l2,l3⟩:=c34 he hl;refine x43 (h28 keys as hk).2 l1 l3 l2 (r11 hd) fun a ha=>(v48 (CE.ok W) keys values as _ _ hk l1 (ra (ra h) a ha)).mono (fun l σ1 q=>?_) ide;have q3':(match O3 ns.length ((l.map (·.2)).reverse++(.ref a::vs)) [] with | some (as,.ref a::vs)=>σ1.h a=some (.dictI [])/\K (.ref a::vs) {σ1 with h:=upd σ1.h a (.dictI (ns.zip as))} | _=>False):=q.2.2;rw [<-k2,<-q.2.1,show l.length=(l.map (·.2)).length from (a7 _).symm,h19] at q3';exact ⟨q.1.trans k1,q3'⟩⟩ else T4)
  fun ns e1=>if hd:X3 ns=true then ⟨[Y11]++(values.map fun e=>(f e).1).flatten++[O12 ns],fun X c W K P vs σ h=>by
   obtain ⟨k1,k2⟩:=j20 as ns e1;obtain ⟨l1,l2,l3⟩:=c34 he hl;refine w43 (h28 keys as hk).2 l1 l3 l2 (r11 hd) fun a ha=>(v48 (CE.ok W) keys values as _ _ hk l1 (ra (ra h) a ha)).mono (fun l σ1 q=>?_) ide;have q3':(match O3 ns.length ((l.map (·.2)).reverse++(.ref a::vs)) [] with | some (as,.ref a::vs)=>σ1.h a=some (.dictS [])/\K (.ref a::vs) {σ1 with h:=upd σ1.h a (.dictS (ns.zip as))} | _=>False):=q.2.2;rw [<-k2,<-q.2.1,show l.length=(l.map (·.2)).length from (a7 _).symm,h19] at q3';exact ⟨q.1.trans k1,q3'⟩⟩ else T4
 else T4
noncomputable abbrev CA (G:List (Nat×AV)) (ks:List (Nat×NameKind)) (e:Expr):Type:={l:List Tr // ∀X c,OKc G ks X c-> ∀(K:KT) (P:PT) (vs:List AV) (v:AV) (σ:St),run X c K P l (v::vs) σ->WAs X c e v (K vs) (fx P) σ}
noncomputable def U10 {e:Expr}:CA G ks e:=⟨[I.U10 e],fun _ _ _ _ _ _ _ _ h=>h⟩
theorem g44 {X:Cx} {c:Cf} {k:Nat} {K:KT} {P:PT} {v:AV} {vs:List AV} {σ:St} (h:I.stc k X c K P (v::vs) σ): ∃a,c.cs.lookup k=some a/\(∃v₀,σ.h a=some (.cell v₀))/\K vs {σ with h:=upd σ.h a (.cell (some v))}:=by
 have h':(match c.cs.lookup k with | some a=>(∃v₀,σ.h a=some (.cell v₀))/\K vs {σ with h:=upd σ.h a (.cell (some v))} | none=>False):=h;cases e:c.cs.lookup k with
 | none=>rw [e] at h';exact h'.elim
 | some a=>rw [e] at h';exact ⟨a,rfl,h'⟩
noncomputable def N10 (x:Str) (p:Pos):CA G ks (.Name x p):=opt (nm x) U10 fun k hx=>
 if h:(ks.lookup k==some .local)=true then ⟨[st k],fun X c W K P vs v σ r=>by
  obtain rfl:=v13 hx;exact k33 (n16 (W.k▸eq_of_beq h) r)⟩
 else if h:(ks.lookup k==some .cell)=true then ⟨[stc k],fun X c W K P vs v σ r=>by
  obtain rfl:=v13 hx;obtain ⟨a,ha,⟨v₀,h0⟩,r⟩:=g44 (X:=X) (P:=P) r;exact k33 (i43 (W.k▸eq_of_beq h) ha h0 r)⟩
 else U10
noncomputable def N7 (t:Expr):CA G ks t:=if h:t.ctorIdx=23 then Expr.Name.elim (motive_1:=CA G ks) t h N10 else U10
end
theorem k28 {X:Cx} {c:Cf} (W:OKc G ks X c) (f:(e:Expr)->CE G ks e) (t:(e:Expr)->CT G ks e) {tg elt:Expr} {ifs:List Expr} {it:AV} {D:Nat} {Qe:St->Prop} {σ:St} (h:I.X8 X c (N7 (G:=G) (ks:=ks) tg).1 (cands (ifs.map fun e=>(t e).1)) (f elt).1 it D Qe σ):X5 X c tg ifs elt it D Qe σ:=by
 obtain ⟨J,n,h0,turn⟩:=h;refine ⟨J,n,h0,fun n σ hJ x hx=>(turn n σ hJ x hx).mono (fun r σ2 q=>?_) ide⟩;cases r with
 | none=>exact q
 | some v=>
  refine fun V hV=>((N7 tg).2 X c W _ noP [] v σ2 q V hV).mono (fun _ σ3 q3=>?_) ide;refine WT.mono (j28 (CT.ok W) ifs _ _ _ q3) (fun b σ4 q4=>?_) ide;have q4:if b=true then _ else _:=q4
  cases b with
  | false=>exact q4
  | true=>
   rw [if_pos rfl] at q4⊢;exact WT.mono ((f elt).2 X c W _ _ _ _ q4) (fun y σ5 q5=>q5) ide
section
variable (f:(ks:List (Nat×NameKind))->(e:Expr)->CE G ks e) (t:(ks:List (Nat×NameKind))->(e:Expr)->CT G ks e)
structure V12 (G:List (Nat×AV)) (ks:List (Nat×NameKind)) (tg iter elt:Expr) (ifs:List Expr) (cks:List (Nat×NameKind)) (scope:Scope) (l:List Tr) (X:Cx) (c:Cf):Prop where
 ok:G6 c scope cks
 st: ∀x,foldedSetIterable iter c.env x=pure x
 tp: ∀it v,letOwnedTupleGo tg it v=pure ()
 go: ∀(K:KT) (P:PT) (vs:List AV) (σ:St),run X c K P l vs σ->(∀p∈cks,p.2= .free-> ∃a,c.cs.lookup p.1=some a)/\WE X c iter (fun a=>Z1 X c a (fun it σ0=> ∀D,σ0.h D=none-> ∀cenv,X5 X (G3 c cks σ0.loc cenv) tg ifs elt it D (fun σ'=>K (.ref D::vs) ⟨σ'.h,σ0.loc⟩) ⟨upd σ0.h D (.list []),[]⟩/\
    Z1 X (G3 c cks σ0.loc cenv) it (fun it' σ1=>X5 X (G3 c cks σ0.loc cenv) tg ifs elt it' D (fun σ'=>K (.ref D::vs) ⟨σ'.h,σ0.loc⟩) σ1) no ⟨upd σ0.h D (.list []),[]⟩) (fx P)) (fx P) σ
noncomputable abbrev CL (G:List (Nat×AV)) (ks:List (Nat×NameKind)) (gens:List Comprehension) (elt:Expr) (scope:Scope):Type:={l:List Tr // ∃tg iter ifs cks,gens=[⟨tg,iter,ifs,0⟩]/\X6 scope.names=some cks/\ ∀X c,OKc G ks X c->V12 G ks tg iter elt ifs cks scope l X c}
noncomputable def R12 (tg iter:Expr) (ifs:List Expr) (elt:Expr) (scope:Scope):Option (CL G ks [⟨tg,iter,ifs,0⟩] elt scope):=opt (X6 scope.names) none fun cks hn=>
 if hh:(scope.kind== .function&&cks.all (fun p=>p.2 != .cell)&&X3 (cks.map (·.1))&&cks.all (fun p=>p.2 != .free||ks.lookup p.1==some .cell||ks.lookup p.1==some .free)&&X4 iter&&N5 tg)=true then
  some ⟨[cells cks]++(f ks iter).1++[Z7 cks (N7 (G:=G) (ks:=Z4 ks cks) tg).1 (cands (ifs.map fun e=>(t (Z4 ks cks) e).1)) (f (Z4 ks cks) elt).1],tg,iter,ifs,cks,rfl,hn,fun X c W=>by
   simp only [z0,beq_iff_eq] at hh;obtain ⟨⟨⟨⟨⟨h1,h2⟩,h3⟩,h4⟩,h5⟩,h6⟩:=hh;obtain rfl:=W.k;refine ⟨⟨z33 _ _ hn,h1,fun p hp=>?_,r11 h3,fun p hp hf=>?_⟩,a34 h5 _,fun it v=>t41 h6 it v,fun K P vs σ h=>?_⟩
   ·have:=List.all_eq_true.mp h2 p hp;simpa using this
   ·have:=List.all_eq_true.mp h4 p hp;rw [hf] at this;simpa using this
   ·have h:=ra (ra h);obtain ⟨q1,h⟩:(∀p∈cks,p.2= .free-> ∃a,c.cs.lookup p.1=some a)/\run X c _ P (f c.ks iter).1 vs σ:=h;refine ⟨q1,a11 ((f c.ks iter).2 X c W _ _ _ _ h) fun a σ1 q=>?_⟩;have q2:Z1 X c a _ (fx P) σ1:=q;refine fun x hx=>(q2 x hx).mono (fun it σ2 q3 D hD cenv=>?_) ide;obtain ⟨b1,b2⟩:=q3 D hD (G3 c cks σ2.loc cenv) rfl rfl rfl rfl;have W':OKc G (Z4 c.ks cks) X (G3 c cks σ2.loc cenv):=⟨rfl,W.g⟩;exact ⟨k28 W' (f _) (t _) b1,fun x hx=>(b2 x hx).mono (fun it' σ3 q4=>k28 W' (f _) (t _) q4) ide⟩⟩
 else none
noncomputable def L13 (gens:List Comprehension) (elt:Expr) (scope:Scope):Option (CL G ks gens elt scope):=match gens with
 | [⟨tg,iter,ifs,0⟩]=>R12 f t tg iter ifs elt scope
 | _=>none
noncomputable def O15 (g:Expr) (args:List Expr) (kws:List Keyword) (p:Pos):CE G ks (.Call g args kws p):=opt (J6 kws) T4 fun kn hkn=>if hs:args.all notStar=true then
  (if h:g.ctorIdx=23 then Expr.Name.elim (motive_1:=fun g=>CE G ks (.Call g args kws p)) g h fun x pf=>⟨(cname (G:=G) (ks:=ks) x pf).1++(args.map fun e=>(f ks e).1).flatten++(kws.map fun k=>(f ks k.value).1).flatten++[call args.length kn],fun X c W K P vs σ h=>by
   refine n48 (a11 ((cname x pf).2 X c W _ _ _ _ (ra (ra (ra h)))) fun a σ1 q=>WT.mono (l17 (CE.ok W) _ _ _ _ hs q) (fun as σ2 q2=>WT.mono (r41 (CE.ok W) _ _ _ _ _ hkn q2.2) (fun kw σ3 q3=>?_) ide) ide) (g20 hs) (v33 hkn).1;obtain ⟨l,h1,rfl,h3⟩:=q3;exact i38 q2.1 h1 h3⟩
  else if h:g.ctorIdx=20 then Expr.Attribute.elim (motive_1:=fun g=>CE G ks (.Call g args kws p)) g h fun o x pa=>opt (nm x) T4 fun k hx=>if hc:(T5 o&&decide (args.length+kws.length+1<30)&&pa.endLine==p.line)=true then
   ⟨(f ks o).1++[gm k]++(args.map fun e=>(f ks e).1).flatten++(kws.map fun k=>(f ks k.value).1).flatten++[J0 args.length kn],fun X c W K P vs σ h=>by
    obtain rfl:=v13 hx;rw [z0,z0,decide_eq_true_eq] at hc;obtain ⟨⟨hp,hl⟩,hpos⟩:=hc;refine o48 (a11 ((f ks o).2 X c W _ _ _ _ (ra (ra (ra (ra h))))) fun a σ1 q=>?_) (x15 hp _ _) (g20 hs) (v33 hkn).1 ?_ hpos
    ·have q':R13 X c a k vs _ P σ1:=q;intro V pl hV;refine (q' V pl hV).mono (fun r σ2 q2=>?_) ide;obtain ⟨sv,hs1,q2⟩:=q2;refine WT.mono (l17 (CE.ok W) _ _ _ _ hs q2) (fun as σ3 q3=>WT.mono (r41 (CE.ok W) _ _ _ _ _ hkn q3.2) (fun kw σ4 q4=>?_) ide) ide;obtain ⟨l,h1,rfl,h3⟩:=q4;rw [hs1];exact x33 q3.1 h1 h3
    ·unfold methodCallForm;have h1:=g20 (env:=c.env) (p:=p) hs;rw [z0,z0];refine ⟨⟨?_,(v33 hkn).1⟩,?_⟩
     ·rw [List.all_eq_true];intro x hx;have:=List.any_eq_false.mp h1 x hx;simpa using this
     ·simp only [decide_eq_true_eq]
      split<;>(first | (exact fk s!"hyaaABn1n30oyaaABn0n30" [] [_,_] rfl hl) | (exact fk s!"hyaaABn1n30oyaaABn1n30" [] [_,_] rfl hl))⟩ else T4
  else T4) else T4
noncomputable def cun (o:UnaryOp) (x:Expr) (p:Pos):CE G ks (.UnaryOp o x p):=match o with
 | .Not=>⟨(f ks x).1++[tru,H7],fun X c W _ _ _ _ h=>y51 (a11 ((f ks x).2 X c W _ _ _ _ (ra h)) fun a σ1 q=>w52 (h20 q))⟩
 | .USub=>⟨(f ks x).1++[un .USub],fun X c W _ _ _ _ h=>y51 (a11 ((f ks x).2 X c W _ _ _ _ (ra h)) fun a σ1 q=>s41 q)⟩
 | .Invert=>⟨(f ks x).1++[un .Invert],fun X c W _ _ _ _ h=>y51 (a11 ((f ks x).2 X c W _ _ _ _ (ra h)) fun a σ1 q=>s41 q)⟩
 | .UAdd=>T4
noncomputable def Y15 (l:Expr) (o:CmpOp) (r:Expr) (p:Pos):CE G ks (.Compare l [o] [r] p):=if hb:behindInMarks o r=true then T4 else
 ⟨(f ks l).1++(f ks r).1++[cmp o],fun X c W _ _ _ _ h=>z51 (a11 ((f ks l).2 X c W _ _ _ _ (ra (ra h))) fun a σ1 q=>a11 ((f ks r).2 X c W _ _ _ _ q) fun b σ2 q2=>t25 q2) (Bool.eq_false_iff.mpr hb)⟩
noncomputable def J17 (l:Expr) (os:List CmpOp) (rs:List Expr) (p:Pos):CE G ks (.Compare l os rs p):=match os,rs with
 | [o],[r]=>Y15 f l o r p
 | _,_=>T4
noncomputable def R16 (o:Expr) (lo hi sp:Option Expr) (q p:Pos):CE G ks (.Subscript o (.Slice lo hi sp q) p):=match sp with
 | none=>⟨(f ks o).1++U13 (fun e=>(f ks e).1) lo++U13 (fun e=>(f ks e).1) hi++[cut],fun X c W _ _ _ _ h=>
   v52 (a11 ((f ks o).2 X c W _ _ _ _ (ra (ra (ra h)))) fun a σ1 q=>WT.mono (i20 (CE.ok W) _ _ _ _ _ q) (fun l σ2 q2=>WT.mono (i20 (CE.ok W) _ _ _ _ _ q2) (fun u σ3 q3=>q3) ide) ide)⟩
 | some s=>⟨(f ks o).1++U13 (fun e=>(f ks e).1) lo++U13 (fun e=>(f ks e).1) hi++(f ks s).1++[H17],fun X c W _ _ _ _ h=>
   s48 (a11 ((f ks o).2 X c W _ _ _ _ (ra (ra (ra (ra h))))) fun a σ1 q=>WT.mono (i20 (CE.ok W) _ _ _ _ _ q) (fun l σ2 q2=>WT.mono (i20 (CE.ok W) _ _ _ _ _ q2) (fun u σ3 q3=>a11 ((f ks s).2 X c W _ _ _ _ q3) fun t σ4 q4=>q4) ide) ide)⟩
noncomputable def csub (o i:Expr) (p:Pos):CE G ks (.Subscript o i p):=if h:i.ctorIdx=26 then Expr.Slice.elim (motive_1:=fun i=>CE G ks (.Subscript o i p)) i h fun lo hi sp q=>R16 f o lo hi sp q p else
 ⟨(f ks o).1++(f ks i).1++[I.sub],fun X c W _ _ _ _ h=>d52 (a11 ((f ks o).2 X c W _ _ _ _ (ra (ra h))) fun a σ1 q=>a11 ((f ks i).2 X c W _ _ _ _ q) fun b σ2 q2=>q2)⟩
noncomputable def V16 (e:Expr):CE G ks e:=
 if h:e.ctorIdx=23 then Expr.Name.elim (motive_1:=CE G ks) e h cname
 else if h:e.ctorIdx=19 then Expr.Constant.elim (motive_1:=CE G ks) e h I14
 else if h:e.ctorIdx=20 then Expr.Attribute.elim (motive_1:=CE G ks) e h fun o x p=>opt (nm x) T4 fun k hx=>if hp:T5 o=true then
  ⟨(f ks o).1++[attr k],fun X c W _ _ _ _ h=>v13 hx▸b48 (a11 ((f ks o).2 X c W _ _ _ _ (ra h)) fun a σ1 q=>q) (x15 hp _ _)⟩ else T4
 else if h:e.ctorIdx=16 then Expr.Call.elim (motive_1:=CE G ks) e h (O15 f)
 else if h:e.ctorIdx=2 then Expr.BinOp.elim (motive_1:=CE G ks) e h fun l o r p=>
  ⟨(f ks l).1++(f ks r).1++[bin o],fun X c W _ _ _ _ h=>x51 (a11 ((f ks l).2 X c W _ _ _ _ (ra (ra h))) fun a σ1 q=>a11 ((f ks r).2 X c W _ _ _ _ q) fun b σ2 q2=>c44 q2)⟩
 else if h:e.ctorIdx=21 then Expr.Subscript.elim (motive_1:=CE G ks) e h (csub f)
 else if h:e.ctorIdx=15 then Expr.Compare.elim (motive_1:=CE G ks) e h (J17 f)
 else if h:e.ctorIdx=3 then Expr.UnaryOp.elim (motive_1:=CE G ks) e h (cun f)
 else if h:e.ctorIdx=5 then Expr.IfExp.elim (motive_1:=CE G ks) e h fun q b o p=>
  ⟨(t ks q).1++[br (f ks b).1 (f ks o).1],fun X c W _ _ _ _ h=>e43 (k17 ((t ks q).2 X c W _ _ _ _ (ra h)) fun u σ1 q=>Bool.rec (motive:=fun u=>(if u=true then _ else _)->if u=true then _ else _) (fun q=>(f ks o).2 X c W _ _ _ _ q) (fun q=>(f ks b).2 X c W _ _ _ _ q) u q)⟩
 else if h:e.ctorIdx=0 then Expr.BoolOp.elim (motive_1:=CE G ks) e h fun o es p=>if hn:es.isEmpty=true then T4 else
  ⟨K5 (isAnd o) (es.map fun e=>(f ks e).1),fun X c W K P vs σ h=>by
   unfold WE;rw [arm_eval_BoolOp];exact i23 (CE.ok W) o p es K vs σ (fun q=>hn (by rw [q];rfl)) h⟩
 else if h:e.ctorIdx=24 then Expr.List.elim (motive_1:=CE G ks) e h fun es p=>if hs:es.all notStar=true then
  ⟨(es.map fun e=>(f ks e).1).flatten++[lst es.length],fun X c W K P vs σ h=>p48 (WT.mono (l17 (CE.ok W) _ _ _ _ hs (ra h)) (fun as σ1 q=>d44 (P:=P) (X:=X) (c:=c) q.1 q.2) ide)⟩ else T4
 else if h:e.ctorIdx=25 then Expr.Tuple.elim (motive_1:=CE G ks) e h fun es k p=>if hs:es.all notStar=true then
  ⟨(es.map fun e=>(f ks e).1).flatten++[tup es.length],fun X c W K P vs σ h=>s43 (WT.mono (l17 (CE.ok W) _ _ _ _ hs (ra h)) (fun as σ1 q=>e44 (P:=P) (X:=X) (c:=c) q.1 q.2) ide)⟩ else T4
 else if h:e.ctorIdx=6 then Expr.Dict.elim (motive_1:=CE G ks) e h (H15 (f ks))
 else if h:e.ctorIdx=8 then Expr.ListComp.elim (motive_1:=CE G ks) e h fun elt gens scope p=>opt (L13 f t gens elt scope) T4 fun l _=>⟨l.1,fun X c W K P vs σ h=>by
  obtain ⟨tg,iter,ifs,cks,rfl,_,L⟩:=l.2;have L:=L X c W;exact b44 L.ok (L.go _ _ _ _ h).1 L.st L.tp (L.go _ _ _ _ h).2⟩
 else if h:e.ctorIdx=18 then Expr.JoinedStr.elim (motive_1:=CE G ks) e h fun es p=>⟨[fail],fun _ _ _ _ _ _ _ h=>False.elim h⟩
 else T4
noncomputable def O13 {e:Expr} (hv: ∀env,isTrue e env (eval e env)=(do let v<-eval e env;standAt e.pos;holding [v] (truthy v))):CT G ks e:=
 ⟨(f ks e).1++[tru],fun X c W _ _ _ _ h=>x52 (a11 ((f ks e).2 X c W _ _ _ _ (ra h)) fun a σ1 q=>h20 q) hv⟩
noncomputable def M12 (l m r:Expr) (o1 o2:CmpOp) (p:Pos):CT G ks (.Compare l [o1,o2] [m,r] p):=if hb:X4 r=true then
 ⟨(f ks l).1++(f ks m).1++[N14 o1 ((f ks r).1++[cmp o2,tru])],fun X c W _ _ _ _ h=>by
  refine q48 (a11 ((f ks l).2 X c W _ _ _ _ (ra (ra h))) fun a σ1 q=>a11 ((f ks m).2 X c W _ _ _ _ q) fun b σ2 q2=>?_) (f44 hb _ _);refine fun x y hx hy=>(r33 X c q2 x y hx hy).mono (fun v σ3 q3=>?_) ide;refine fun x hx=>(r25 X c q3 x hx).mono (fun u σ4 q4=>?_) ide;cases u with
  | true=>
   rw [if_pos rfl] at q4⊢;exact a11 ((f ks r).2 X c W _ _ _ _ (ra q4)) fun d σ5 q5=>fun x y hx hy=>(t25 q5 x y hx hy).mono (fun v σ6 q6=>h20 q6) ide
  | false=>exact q4⟩ else V10
noncomputable def T13 (l:Expr) (o:CmpOp) (r:Expr) (p:Pos):CT G ks (.Compare l [o] [r] p):=if hb:behindInMarks o r=true then V10 else
 ⟨(f ks l).1++(f ks r).1++[cmp o,tru],fun X c W _ _ _ _ h=>b52 (a11 ((f ks l).2 X c W _ _ _ _ (ra (ra h))) fun a σ1 q=>a11 ((f ks r).2 X c W _ _ _ _ q) fun b σ2 q2=>fun x y hx hy=>(t25 q2 x y hx hy).mono (fun v σ3 q3=>h20 q3) ide) (Bool.eq_false_iff.mpr hb)⟩
noncomputable def R15 (l:Expr) (os:List CmpOp) (rs:List Expr) (p:Pos):CT G ks (.Compare l os rs p):=match os,rs with
 | [o],[r]=>T13 f l o r p
 | [o1,o2],[m,r]=>M12 f l m r o1 o2 p
 | _,_=>V10
noncomputable def S15 (e:Expr):CT G ks e:=
 if h:e.ctorIdx=15 then Expr.Compare.elim (motive_1:=CT G ks) e h (R15 f)
 else if h:e.ctorIdx=3 then Expr.UnaryOp.elim (motive_1:=CT G ks) e h fun o x p=>(match o with
  | .Not=>⟨(t ks x).1++[H7],fun X c W _ _ _ _ h=>a52 (k17 ((t ks x).2 X c W _ _ _ _ (ra h)) fun b σ1 q=>q)⟩
  | _=>V10)
 else if h:e.ctorIdx=0 then Expr.BoolOp.elim (motive_1:=CT G ks) e h fun o es p=>(match o with
  | .And=>⟨cands (es.map fun e=>(t ks e).1),fun X c W _ _ _ _ h=>p41 (i28 (CT.ok W) es _ _ _ h)⟩
  | .Or=>⟨S14 (es.map fun e=>(t ks e).1),fun X c W _ _ _ _ h=>p41 (y33 (CT.ok W) es _ _ _ h)⟩)
 else if h:e.ctorIdx=23 then Expr.Name.elim (motive_1:=CT G ks) e h fun _ _=>O13 f fun _=>rfl
 else if h:e.ctorIdx=20 then Expr.Attribute.elim (motive_1:=CT G ks) e h fun _ _ _=>O13 f fun _=>rfl
 else if h:e.ctorIdx=16 then Expr.Call.elim (motive_1:=CT G ks) e h fun _ _ _ _=>O13 f fun _=>rfl
 else if h:e.ctorIdx=21 then Expr.Subscript.elim (motive_1:=CT G ks) e h fun _ _ _=>O13 f fun _=>rfl
 else if h:e.ctorIdx=2 then Expr.BinOp.elim (motive_1:=CT G ks) e h fun _ _ _ _=>O13 f fun _=>rfl
 else V10
end
noncomputable def cz (G:List (Nat×AV)) (n:Nat):(ks:List (Nat×NameKind))->(e:Expr)->CE G ks e×CT G ks e:=n.rec (fun _ _=>(T4,V10)) fun _ r ks e=>(V16 (fun ks e=>(r ks e).1) (fun ks e=>(r ks e).2) e,S15 (fun ks e=>(r ks e).1) (fun ks e=>(r ks e).2) e)
end
noncomputable def cc (ks:List (Nat×NameKind)) (G:List (Nat×AV)) (n:Nat) (b:Bool) (e:Expr):List Tr:=if b=true then (cz G n ks e).2.1 else (cz G n ks e).1.1
theorem w48 {X:Cx} {G:List (Nat×AV)} (hG: ∀k v,G.lookup k=some v->Glo X k v) (n:Nat):(∀(c:Cf) (ks:List (Nat×NameKind)),c.ks=ks->EOk X c (fun e=>cc ks G n false e))/\(∀(c:Cf) (ks:List (Nat×NameKind)),c.ks=ks->TOk X c (fun e=>cc ks G n true e)):=
 ⟨fun c ks hk e=>(cz G n ks e).1.2 X c ⟨hk,hG⟩,fun c ks hk e=>(cz G n ks e).2.2 X c ⟨hk,hG⟩⟩
section
variable {X:Cx} {c:Cf} {P:PT}
theorem y14 {e:Expr} (h:J7 e=true) (t:Option Expr) (l:Nat) (env:Env):swapsWith e t l env=pure false:=by
 cases e<;>first | rfl | cases h
theorem z29 {t e:Expr} (h:(N5 t||N5 e)=true) (env:Env):swappedStores [t] e env=pure none:=by
 cases t<;>first | rfl | (cases e<;>first | rfl | cases h)
theorem k20 {t:Expr} (h:notStar t=true) (env:Env):(assignEach [t] env).map (·.2)=[assign t env]:=by
 cases t<;>first | rfl | cases h
theorem v25 {i:Expr} (h:V7 i=true) (ov iv new:Value):augStore i ov iv new=(do holding [new,ov,iv] (setItem ov iv new);release [new,ov,iv] [];pure .next):=by
 cases i<;>first | rfl | cases h
theorem j38 {ts:List Expr} {env:Env} (h:ts.all notStar=true):(assignEach ts env).length=ts.length/\(assignEach ts env).findIdx? (·.1)=none/\(assignEach ts env).map (·.2)=ts.map fun t=>assign t env:=by
 induction ts with
 | nil=>exact ⟨rfl,rfl,rfl⟩
 | cons t r ih=>
  rw [List.all_cons,z0] at h;obtain ⟨h1,h2,h3⟩:=ih h.2;have e:assignEach (t::r) env=(false,assign t env)::assignEach r env:=by
   cases t<;>first | rfl | exact absurd h.1 Bool.false_ne_true
  rw [e];exact ⟨by simp [h1],by simp [List.findIdx?_cons,h2],by simp [h3]⟩
theorem d34 {G:List (Nat×AV)} {ks:List (Nat×NameKind)} (W:OKc G ks X c) (ts:List Expr): ∀(l:List AV) (vs:List AV) (K:KT) (σ:St) (xs:List Value),l.length=ts.length->xs.map ab=l->run X c K P (ts.map fun t=>(N7 (G:=G) (ks:=ks) t).1).flatten (l++vs) σ->WT X c (assignInOrder (ts.map fun t=>assign t c.env) xs) id (fun _=>K vs) (fx P) σ:=by
 induction ts with
 | nil=>
  intro l vs K σ xs hl hx h;obtain rfl:=List.length_eq_zero_iff.mp hl;obtain rfl:=List.map_eq_nil_iff.mp hx;exact WT.pure h
 | cons t ts ih=>
  intro l vs K σ xs hl hx h;cases xs with
  | nil=>subst hx;cases hl
  | cons x xs=>
   subst hx;rw [v5,List.flatten_cons] at h;show WT X c (do holding xs (assign t c.env x);assignInOrder (ts.map fun t=>assign t c.env) xs) _ _ _ _;refine WT.bind (WT.holding (((N7 t).2 X c W _ P _ _ σ (ra h) x rfl).mono (fun u σ1 q _ _=>?_) ide));exact ih _ vs K σ1 xs (Nat.succ.inj hl) rfl q
theorem e34 {o:Operator} {K:KT} {a b:AV} {vs:List AV} {σ:St} (h:I.inp o X c K P (b::a::vs) σ):WIn X c o a b (fun v=>K (v::vs)) (fx P) σ:=z43 X c h
theorem l20 {o:Operator} {a b:AV} {Q Q':AV->St->Prop} {E:Nat->St->Prop} {σ:St} (h:WIn X c o a b Q E σ) (hq: ∀a σ,Q a σ->Q' a σ):WIn X c o a b Q' E σ:=fun x y hx hy=>(h x y hx hy).mono hq ide
def XOk (X:Cx) (c:Cf) (g:Stmt->List Tr):Prop:= ∀(s:Stmt) (K:KT) (P:PT) (vs:List AV) (σ:St),run X c K P (g s) vs σ->WX X c s (after K P vs) (fx P) σ
theorem l14 {g:Stmt->List Tr} (H:XOk X c g): ∀(l:List Stmt) (K:KT) (P:PT) (vs:List AV) (σ:St),run X c K P (l.map g).flatten vs σ->WXs X c l (after K P vs) (fx P) σ
 | [],K,P,vs,σ,h=>c48 h
 | s::r,K,P,vs,σ,h=>by
  rw [v5,List.flatten_cons,r14] at h;refine k43 ((H s _ _ _ _ h).mono (fun f σ1 q=>?_) ide);cases f with
  | next=>exact l14 H r K P vs σ1 q
  | brk=>exact q
  | cont=>exact q
  | ret v=>exact q
theorem z11 {E:Nat->St->Prop} {A:Around} {V:Value} {s:Shared} (g:c.Good A) (h:Exn X c E V s):notedBy X.M A c.env (fun e s'=>cameBackBy X.M A c.env (Exn X c E) e s') V s:=by
 obtain ⟨a,σ,rfl,⟨C,args,fs,hx⟩,R,q⟩:=h;exact q12 g R hx fun s' R' tb=>e19 R' hx tb fun s'' R'' _=>⟨a,σ,rfl,⟨C,args,fs,hx⟩,R'',q⟩
theorem h44 {t:Expr} {b:List Stmt} {p:Pos} {Q:Fl->St->Prop} {E:Nat->St->Prop} {σ:St} (I:Nat->St->Prop) (n:Nat) (h:Up (I n) σ)
  (turn: ∀n σ,I n σ->WTe X c t (fun v σ1=>if v=true then WXs X c b (fun f σ2=>match f with | .next=> ∃m,m<n/\Up (I m) σ2 | .cont=> ∃m,m<n/\Up (I m) σ2 | .brk=>Up (Q .next) σ2 | .ret v=>Q (.ret v) σ2) E σ1 else Up (Q .next) σ1) E σ):WX X c (.While t b [] p) Q E σ:=fun A s g R=>by
 obtain ⟨σi,gi,h⟩:=h;refine c43 (m25 (fun n s=> ∃σ,O1 X c σ s/\I n σ) (fun n s hp1=>U0 hp1 fun σ R hI=>?_) n ⟨σi,R.down gi,h⟩);refine c10 (turn n σ hI A s g R) (fun v s1 hp2=>U0 hp2 fun σ1 R1 q=>?_) fun _ _ q=>z11 g q;cases v with
 | true=>
  refine c10 ((q:WXs X c b _ _ _) A s1 g R1) (fun f s2 hp3=>U0 hp3 fun σ2 R2 q2=>?_) fun _ _ q=>z11 g q;cases f with
  | next=>obtain ⟨m,h1,σ3,g3,h2⟩:=q2;exact ⟨m,h1,σ3,R2.down g3,h2⟩
  | cont=>obtain ⟨m,h1,σ3,g3,h2⟩:=q2;exact ⟨m,h1,σ3,R2.down g3,h2⟩
  | brk=>obtain ⟨σ3,g3,h2⟩:=q2;exact ⟨σ3,R2.down g3,h2⟩
  | ret v=>exact ⟨σ2,R2,q2⟩
 | false=>obtain ⟨σ3,g3,h2⟩:=q;exact of <| wpAny_execs_nil ⟨σ3,R1.down g3,h2⟩
theorem y52 {t e:Expr} {b o:List Stmt} {p:Pos} {Q:Fl->St->Prop} {E:Nat->St->Prop} {σ:St} (h:WE X c e (fun a=>Z1 X c a (fun it σ0=> ∃(I:Nat->St->Prop) (n:Nat),Up (I n) σ0/\ ∀n σ,I n σ->W5 X c it (fun r σ1=>match r with
   | none=>WXs X c o Q E σ1
   | some v=>WAs X c t v (fun σ2=>WXs X c b (fun f σ3=>match f with | .next=> ∃m,m<n/\Up (I m) σ3 | .cont=> ∃m,m<n/\Up (I m) σ3 | .brk=>Up (Q .next) σ3 | .ret v=>Q (.ret v) σ3) E σ2) E σ1) E σ) E) E σ)
  (hs: ∀x,foldedSetIterable e c.env x=pure x) (hl: ∀it v,letOwnedTupleGo t it v=pure ()):WX X c (.For t e b o p) Q E σ:=fun A s g R=>by
 refine t47 (c10 (h A s g R) (fun a s1 hp4=>U0 hp4 fun σ1 R1 q=>c10 (q a rfl A s1 g R1) (fun it s2 hpz=>?_) ide) ide) hs;obtain ⟨σ2,R2,I,n,⟨σi,gi,hI⟩,turn⟩:=hpz;refine x22 (fun n s=> ∃σ,O1 X c σ s/\I n σ) (fun n s hp7=>U0 hp7 fun σ R hI=>?_) n ⟨σi,R2.down gi,hI⟩;refine c10 (turn n σ hI it rfl A s g R) (fun r s3 hp8=>U0 hp8 fun σ3 R3 q3=>?_) fun _ _ q=>z11 g q;cases r with
 | none=>exact c10 ((q3:WXs X c o _ _ _) A s3 g R3) (fun f s4 q4=>q4) fun _ _ q=>z11 g q
 | some v=>
  refine of (wpAny_of_eq (hl it v) ?_);refine c10 ((q3:WAs X c t (ab v) _ _ _) v rfl A s3 g R3) (fun u9 s4 hp10=>U0 hp10 fun σ4 R4 q4=>?_) fun _ _ q=>z11 g q;refine c10 (q4 A s4 g R4) (fun f s5 hp11=>U0 hp11 fun σ5 R5 q5=>?_) fun _ _ q=>z11 g q;cases f with
  | next=>obtain ⟨m,h1,σ6,g6,h2⟩:=q5;exact ⟨m,h1,σ6,R5.down g6,h2⟩
  | cont=>obtain ⟨m,h1,σ6,g6,h2⟩:=q5;exact ⟨m,h1,σ6,R5.down g6,h2⟩
  | brk=>obtain ⟨σ6,g6,h2⟩:=q5;exact ⟨σ6,R5.down g6,h2⟩
  | ret v=>exact ⟨σ5,R5,q5⟩
theorem x48 {ts:List Expr} {kk:Nat} {pt:Pos} {e:Expr} {b o:List Stmt} {p:Pos} {Q:Fl->St->Prop} {E:Nat->St->Prop} {σ:St} (h:WE X c e (fun a=>Z1 X c a (fun it σ0=> ∃(I:Nat->St->Prop) (n:Nat),Up (I n) σ0/\ ∀n σ,I n σ->S5 X c it (fun r σ1=>match r with
   | none=>WXs X c o Q E σ1
   | some v=>WAs X c (.Tuple ts kk pt) v (fun σ2=>WXs X c b (fun f σ3=>match f with | .next=> ∃m,m<n/\Up (I m) σ3 | .cont=> ∃m,m<n/\Up (I m) σ3 | .brk=>Up (Q .next) σ3 | .ret v=>Q (.ret v) σ3) E σ2) E σ1) E σ) E) E σ)
  (hs: ∀x,foldedSetIterable e c.env x=pure x):WX X c (.For (.Tuple ts kk pt) e b o p) Q E σ:=fun A s g R=>by
 refine t47 (c10 (h A s g R) (fun a s1 hp12=>U0 hp12 fun σ1 R1 q=>c10 (q a rfl A s1 g R1) (fun it s2 hpz=>?_) ide) ide) hs;obtain ⟨σ2,R2,I,n,⟨σi,gi,hI⟩,turn⟩:=hpz;refine x22 (fun n s=> ∃σ,O1 X c σ s/\I n σ) (fun n s hp15=>U0 hp15 fun σ R hI=>?_) n ⟨σi,R2.down gi,hI⟩;refine c10 (turn n σ hI it rfl A s g R) (fun r s3 q3=>?_) fun _ _ q=>z11 g q;cases r with
 | none=>
  obtain ⟨σ3,R3,q3⟩:=q3;exact c10 ((q3:WXs X c o _ _ _) A s3 g R3) (fun f s4 q4=>q4) fun _ _ q=>z11 g q
 | some v=>
  refine c10 q3 (fun u16 s4 hp17=>U0 hp17 fun σ3 R3 q3=>?_) fun _ _ q=>z11 g q;refine c10 ((q3:WAs X c (.Tuple ts kk pt) (ab v) _ _ _) v rfl A s4 g R3) (fun u18 s4 hp19=>U0 hp19 fun σ4 R4 q4=>?_) fun _ _ q=>z11 g q;refine c10 (q4 A s4 g R4) (fun f s5 hp20=>U0 hp20 fun σ5 R5 q5=>?_) fun _ _ q=>z11 g q;cases f with
  | next=>obtain ⟨m,h1,σ6,g6,h2⟩:=q5;exact ⟨m,h1,σ6,R5.down g6,h2⟩
  | cont=>obtain ⟨m,h1,σ6,g6,h2⟩:=q5;exact ⟨m,h1,σ6,R5.down g6,h2⟩
  | brk=>obtain ⟨σ6,g6,h2⟩:=q5;exact ⟨σ6,R5.down g6,h2⟩
  | ret v=>exact ⟨σ5,R5,q5⟩
theorem d13 {env:Env} (h:env.scope.kind= .function):interactive env=false:=by unfold interactive;rw [h];rfl
theorem k38 {env:Env} {e:Expr} {p:Pos}:exec (.Raise (some e) none p) env=(do standAt p;let v<-eval e env;standAt p;raiseStmt env (some (pure v)) none):=by
 rw [arm_exec_Raise];show (do standAt p;raiseStmt env (some (do let v<-eval e env;standAt p;pure v)) none)=_;unfold raiseStmt;simp only [bind_assoc,pure_bind]
theorem i44 {e:Expr} {p:Pos} {Q:Fl->St->Prop} {E:Nat->St->Prop} {σ:St} (h:WE X c e (fun a=>O8 X c a E) E σ):WX X c (.Raise (some e) none p) Q E σ:=by
 unfold WX;rw [k38];exact WT.standAt (WT.bind (h.mono (fun a σ1 q v hv=>WT.standAt (WT.mono (fun A s g R=>c10 (q v hv A s g R) (fun u21 u22 hp23=>U0 hp23 fun u24 u25 f=>f.elim) ide) (fun _ _ f=>f) ide)) ide))
theorem Cf.Good.hcf {A:Around} (g:c.Good A) (a:Nat):(I.hcf c a).Good (A.mark (some (.ref a))) where
 ok:=⟨g.ok.fn,g.ok.ks,g.ok.cs,g.ok.gl,g.ok.bi,g.ok.top,g.ok.frs⟩
 frames:=g.frames
 depth:=g.depth
 units:=g.units
 hd:=rfl
set_option tactic.hygienic true in
theorem z14 {x y:Nat}: ∀(l:NS),(l.filter (fun p=>p.1 != x)).lookup y=if y=x then none else l.lookup y
 | []=>by simp
 | (z,w)::l=>by
  have ih:=z14 (x:=x) (y:=y) l;rw [List.filter_cons];by_cases hz:z=x
  ·subst hz;rw [if_neg (by simp),ih]
   split at⊢
   ·rfl
   ·rename_i h;rw [x12 _ _ h]
  ·rw [if_pos (by simpa using hz)];by_cases hy:y=z
   ·subst hy;rw [l11,if_neg hz,l11]
   ·rw [x12 _ _ hy,ih,x12 _ _ hy]
set_option tactic.hygienic true in
theorem NsA.H11 {h:Heap} {d:Nat} {l:NS} {x:Nat} (H: ∃m,h.Ns d m/\ ∀y w,l.lookup y=some w->y≠x-> ∃V,m (N y)=some V/\ab V=w):NsA h d (l.filter (fun p=>p.1 != x)):=by
 obtain ⟨m,hm,hl⟩:=H;refine ⟨m,hm,fun y v e=>?_⟩;rw [z14] at e
 split at e
 ·cases e
 ·rename_i hn;exact hl y v e hn
theorem O10 {E:Nat->St->Prop} {A:Around} {V:Value} {s:Shared} {a:Nat} (g:c.Good A) (h:Exn X (I.hcf c a) E V s):notedBy X.M (A.mark (some (.ref a))) c.env (cameBackBy X.M A c.env (Exn X c E)) V s:=by
 obtain ⟨b,σ,rfl,⟨C,args,fs,hx⟩,R,q⟩:=h;exact q12 (c:=I.hcf c a) (g.hcf a) R hx fun s' R' tb=>e19 (c:=c) R' hx tb fun s'' R'' _=>⟨b,σ,rfl,⟨C,args,fs,hx⟩,R'',q⟩
theorem R7 {x:Nat} (hl:c.ks.lookup x=some .local) {pos:Pos} {A A':Around} {s:Shared} {σ:St} (g:c.Good A) (R:O1 X c σ s) {Q:Unit->Shared->Prop} {E:Value->Shared->Prop}
  (h: ∀s',O1 X c {σ with loc:=σ.loc.filter (fun p=>p.1 != x)} s'->(∀b o,b≠c.env.locals->s.heap.get? b=some o->s'.heap.get? b=some o)->Q () s'):wpZ X.Z X.M A' (do bindName c.env (N x) .none;unbindBehindTheSuite c.env (N x) pos) Q E s:=by
 walk_at "o";obtain ⟨m,hm,hlk⟩:=(R.frs _ (.head _)).2.2;unfold unbindBehindTheSuite;refine a10 (h14 (of <| wpAny_storeName_local (g.ok.ks _ _ hl) hm (fun h₁ hn₁ hs₁=>?_) (by rw [g.ok.fn];rfl)));refine p12 ?_;unfold unbindName;refine a10 (of <| wpAny_point (a10 ?_));unfold deleteName;have hp:(c.env.scope.kind== .class||(c.env.scope.kind== .module&&c.env.locals != c.env.globals))=false:=by rw [g.ok.fn];rfl
 simp only [g.ok.ks _ _ hl,hp];rw [if_neg (by decide)];refine a10 (of <| wpAny_nsDel_keeps hn₁ fun h₂ v hn₂ hs₂=>?_);simp only [if_true,Option.isSome_some,Bool.not_true,Bool.false_eq_true,if_false];refine m10 (of <| wpAny_point (h _ ⟨own,R.frame (hs₁.trans hs₂) ?_⟩ fun b o hb ho=>((hs₁.trans hs₂).2 b hb).trans ho));refine NsA.H11 (l:=σ.loc) ?_;refine ⟨_,hn₂,fun y w hy hyx=>?_⟩;obtain ⟨W,h1,h2⟩:=hlk y w hy;exact ⟨W,(if_neg fun q=>hyx (o14 q)).trans ((if_neg fun q=>hyx (o14 q)).trans h1),h2⟩
theorem G8.keep {a:Nat} {s s':Shared} (t:G8 a s) (h: ∀o,s.heap.get? a=some o->s'.heap.get? a=some o):G8 a s':=
 by obtain ⟨o,vs,T,h1,h2,h3⟩:=t;exact ⟨o,vs,T,h _ h1,h2,h3⟩
theorem l28 {a:Nat} {C:Value} {args:Bool} {ns:NS} {what:String} {α:Type} {A:Around} {s:Shared} {σ:St} {Q:α->Shared->Prop} {E:Value->Shared->Prop} (R:O1 X c σ s) (e:σ.h a=some (.exc C args ns)) (t:G8 a s)
  (h: ∀s',O1 X c σ s'->G8 a s'->E (.ref a) s'):wpZ X.Z X.M A (PySem.passOn what (.ref a) c.env:Sem α) Q E s:=by
 obtain ⟨o,vs,T,ho,hd,hv⟩:=id t;unfold PySem.passOn;refine a10 (of <| wpAny_field ho hd hv ?_);rw [if_neg (by simp)];exact a10 (of (v11 R e fun s' R' ht=>of <| wpAny_throw (h s' R' (ht t))))
theorem a30 {x:Nat} {v:AV} {A:Around} {s:Shared} {σ:St} (g:c.Good A) (R:O1 X c σ s) (hk:c.ks.lookup x=some .globalImplicit) (e:Glo X x v) {A':Around} {Q:Value->Shared->Prop} {E:Value->Shared->Prop} (h: ∀V,ab V=v->Q V s):wpZ X.Z X.M A' (loadName c.env (N x)) Q E s:=by
 walk_at "o";obtain ⟨V,hv,hV⟩:=e;have hg:s.heap.Ns c.env.globals X.mg:=by rw [g.ok.gl];exact X.gns.keeps R.base
 have hb:s.heap.Ns c.env.builtins X.mb:=by rw [g.ok.bi];exact X.bns.keeps R.base
 unfold loadName;simp only [Env.blockKind,g.ok.fn,g.ok.ks _ _ hk,ScopeKind.isAnnotationScope,Bool.false_and,Bool.false_eq_true,if_false];rcases hV with hV | ⟨h1,hV⟩
 ·exact of (loadGlobal_global hg hV (h V hv))
 ·exact of (loadGlobal_builtin hg h1 hb hV (h V hv))
theorem j44 {K:Frag} {C T:Value} {b:Bool} (h:I.S12 K C (ab T)=some b):exmOne K C T=some b:=by
 cases T<;>first | exact h | exact no_ns h
theorem f34 {a:Nat} {C:Value} {args:Bool} {fs:NS} {s:Shared} {σ:St} (R:O1 X c σ s) (hx:σ.h a=some (.exc C args fs)):Looks X.M s.heap (typeOf (.ref a)) C:=by
 walk_at "o";obtain ⟨vs',dd,sl,h1,_⟩:=(R.objs _ _ hx).2;exact (Looks.ld h1).andThen .now
end
noncomputable abbrev CX (G:List (Nat×AV)) (ks:List (Nat×NameKind)) (s:Stmt):Type:={l:List Tr // ∀X c,OKc G ks X c-> ∀(K:KT) (P:PT) (vs:List AV) (σ:St),run X c K P l vs σ->WX X c s (after K P vs) (fx P) σ}
noncomputable abbrev CH (G:List (Nat×AV)) (ks:List (Nat×NameKind)) (hs:List ExceptHandler):Type:={l:List I.Hd // ∀X c,OKc G ks X c-> ∀(K:KT) (P:PT) (vs:List AV) (a:Nat) (A:Around) (s:Shared) (σ:St),I.hands X c K P vs a l σ->c.Good A->O1 X c σ s->G8 a s->(∃C args fs,σ.h a=some (.exc C args fs))->
   wpZ X.Z X.M A (handleBy (.ref a) c.env hs) (fun fl s'=> ∃σ',O1 X c σ' s'/\after K P vs (abF fl) σ') (Exn X c (fx P)) s}
section
open I
variable {G:List (Nat×AV)} {ks:List (Nat×NameKind)}
noncomputable def U5 {s:Stmt}:CX G ks s:=⟨[I.U5 s],fun _ _ _ _ _ _ _ h=>h⟩
theorem CX.ok {X:Cx} {c:Cf} {g:(s:Stmt)->CX G ks s} (W:OKc G ks X c):XOk X c fun s=>(g s).1:=fun s=>(g s).2 X c W
section
variable (f:(ks:List (Nat×NameKind))->(e:Expr)->CE G ks e) (t:(ks:List (Nat×NameKind))->(e:Expr)->CT G ks e) (g:(s:Stmt)->CX G ks s)
noncomputable def hname (ks:List (Nat×NameKind)):Option Str->Option (Option Nat)
 | none=>some none
 | some x=>opt (nm x) none fun k _=>if (ks.lookup k==some .local)=true then some (some k) else none
theorem g34 {name:Option Str} {nn:Option Nat} (h:hname ks name=some nn):name=none/\nn=none\/ ∃k,ks.lookup k=some .local/\name=some (N k)/\nn=some k:=by
 cases name with
 | none=>cases h;exact .inl ⟨rfl,rfl⟩
 | some x=>
  obtain ⟨k,h1,h⟩:=o12 h;by_cases q:(ks.lookup k==some .local)=true
  ·rw [if_pos q] at h;cases h;exact .inr ⟨k,eq_of_beq q,congrArg some (v13 h1),rfl⟩
  ·rw [if_neg q] at h;cases h
theorem h34 {X:Cx} {c:Cf} {P:PT} (W:OKc G ks X c) {k:Nat} {px pos:Pos} {name:Option Str} {nn:Option Nat} {b0:Stmt} {body:List Stmt} {r:List ExceptHandler} (hs':CH G ks r) {v:AV} (l1:ks.lookup k=some .globalImplicit) (l2:G.lookup k=some v) (hdb:(N k==("__debug__":Str))=false) (e2:hname ks name=some nn)
  {K:KT} {vs:List AV} {a:Nat} {A:Around} {s:Shared} {σ:St} (h:I.hands X c K P vs a (⟨v,nn,((b0::body).map fun s=>(g s).1).flatten⟩::hs'.1) σ) (gd:c.Good A) (R:O1 X c σ s) (tb:G8 a s) (hxx: ∃C args fs,σ.h a=some (.exc C args fs)):
   wpZ X.Z X.M A (handleBy (.ref a) c.env (.ExceptHandler (some (.Name (N k) px)) name (b0::body) pos::r)) (fun fl s'=> ∃σ',O1 X c σ' s'/\after K P vs (abF fl) σ') (Exn X c (fx P)) s:=by
 have ih:=hs'.2 X c W;have l1':=W.k.symm▸l1;obtain ⟨C,args,fs,b,hx,hm,h⟩:=h;refine a17 (o29 (n41 (a30 gd R l1' (W.g _ _ l2) fun V hV=>?_) hdb)) (by intro q;cases q);have LT:=f34 R hx;refine of ((exm_one R.inK LT (j44 (hV▸hm))).here ?_);cases b with
 | false=>exact ih _ _ _ _ _ _ _ h gd R tb hxx
 | true=>
  rw [if_pos rfl] at h;show K1 X.Z X.M (A.mark (some (.ref a))) _ _ s;rcases g34 e2 with ⟨rfl,rfl⟩ | ⟨kn,ln,rfl,rfl⟩
  ·refine n25 (of (v11 R hx fun s1 R1 _=>?_));refine c10 (l14 (CX.ok (c:=I.hcf c a) (g:=g) ⟨W.k,W.g⟩) (b0::body) (fun _ σ3=>K vs σ3) (fun o σ3=>match o with | .exc b=>P (.exc b) σ3 | o=>P o σ3) [] σ h _ s1 (gd.hcf a) R1) (fun fl s2 hp26=>U0 hp26 fun σ2 R2 q=>?_) fun V s2 q=>O10 gd (Exn.mono (fun a σ q=>q) q);refine ⟨σ2,R2,?_⟩;cases fl<;>exact q

  ·have ln':=W.k.symm▸ln;refine m18 (of (v11 R hx fun s1 R1 _=>?_));have hst:=n16 (X:=X) (c:=I.hcf c a) (E:=fun _ _=>False) (v:= .ref a) (σ:=σ) (Q:=fun σ2=>σ2=σ.put kn (.ref a)) ln' rfl (.ref a) rfl _ s1 (gd.hcf a) R1;refine c10 hst (fun u27 s2 hp28=>U0 hp28 fun σ2 R2 e=>?_) fun V s2 hp29=>H9 hp29 fun u30 u31 u32 u33 u34 f=>f.elim;subst e;refine c10 (l14 (CX.ok (c:=I.hcf c a) (g:=g) ⟨W.k,W.g⟩) (b0::body) (fun _ σ3=>K vs (I.W3 (some kn) σ3)) (fun o σ3=>match o with | .exc b=>P (.exc b) (I.W3 (some kn) σ3) | o=>P o (I.W3 (some kn) σ3)) [] _ h _ s2 (gd.hcf a) R2) (fun fl s3 hp35=>U0 hp35 fun σ3 R3 q=>?_) fun V s3 q=>?_
   ·refine R7 ln' gd R3 fun s4 R4 _=>⟨_,R4,?_⟩;cases fl<;>exact q
   ·obtain ⟨b,σ3,rfl,⟨C',args',fs',hx'⟩,R3,q⟩:=q;refine of (q12 (c:=I.hcf c a) (gd.hcf a) R3 hx' fun s4 R4 tb4=>?_);refine R7 (c:=c) (A:=A) ln' gd R4 fun s5 R5 k5=>?_;have hb:b≠c.env.locals:=fun e=>by
     obtain ⟨own,R3⟩:=R3;have h2:σ3.h c.env.locals=none:=(R3.frs _ (.head _)).2.1;rw [e,h2] at hx';cases hx'
    refine l28 R5 hx' (tb4.keep fun o=>k5 _ _ hb) fun s6 R6 tb6=>?_;exact O10 (c:=c) (E:=fx P) gd ⟨b,{σ3 with loc:=σ3.loc.filter fun p=>p.1 != kn},rfl,⟨C',args',fs',hx'⟩,R6,q⟩
noncomputable def chs:(hs:List ExceptHandler)->Option (CH G ks hs)
 | []=>some ⟨[],fun X c W K P vs a A s σ h gd R tb hx=>hx.elim fun C hx=>hx.elim fun args hx=>hx.elim fun fs hx=>l18 (l28 R hx tb fun s' R' _=>⟨a,σ,rfl,⟨C,args,fs,hx⟩,R',h⟩)⟩
 | .ExceptHandler ty name body pos::r=>(match ty,body with
  | some te,b0::body=>if h:te.ctorIdx=23 then Expr.Name.elim (motive_1:=fun te=>Option (CH G ks (.ExceptHandler (some te) name (b0::body) pos::r))) te h fun x px=>
    opt (nm x) none fun k hx=>opt (hname ks name) none fun nn e2=>opt (chs r) none fun hs' _=>opt (G.lookup k) none fun v l2=>if hl:(ks.lookup k==some .globalImplicit)=true then if hd:(x==("__debug__":Str))=true then none else
     some ⟨⟨v,nn,((b0::body).map fun s=>(g s).1).flatten⟩::hs'.1,fun X c W K P vs a A s σ h gd R tb hxx=>by
      obtain rfl:=v13 hx;exact h34 g W hs' (eq_of_beq hl) l2 (Bool.eq_false_iff.mpr hd) e2 h gd R tb hxx⟩ else none else none
  | _,_=>none)
noncomputable def I12 (t:Expr):CA G ks t:=
 if h:t.ctorIdx=23 then Expr.Name.elim (motive_1:=CA G ks) t h N10
 else if h:t.ctorIdx=20 then Expr.Attribute.elim (motive_1:=CA G ks) t h fun o x p=>opt (nm x) U10 fun k hx=>⟨(f ks o).1++[Y0 k],fun X c W _ _ _ _ _ h=>v13 hx▸h48 (a11 ((f ks o).2 X c W _ _ _ _ (ra h)) fun a σ1 q=>q)⟩
 else if h:t.ctorIdx=21 then Expr.Subscript.elim (motive_1:=CA G ks) t h fun o i p=>⟨(f ks o).1++(f ks i).1++[I7],fun X c W _ _ _ _ _ h=>f52 (a11 ((f ks o).2 X c W _ _ _ _ (ra (ra h))) fun a σ1 q=>a11 ((f ks i).2 X c W _ _ _ _ q) fun b σ2 q2=>q2)⟩
 else if h:t.ctorIdx=25 then Expr.Tuple.elim (motive_1:=CA G ks) t h fun ts n p=>if hs:ts.all notStar=true then ⟨[unp ts.length]++(ts.map fun t=>(N7 (G:=G) (ks:=ks) t).1).flatten,fun X c W K P vs v σ h=>by
   obtain ⟨h1,h2,h3⟩:=j38 (env:=c.env) hs;have h':J14 X c v ts.length (fun l σ'=>l.length=ts.length/\run X c K P (ts.map fun t=>(N7 (G:=G) (ks:=ks) t).1).flatten (l++vs) σ') (fx P) σ:=ra h;intro V hV;rw [arm_assign_Tuple];refine WT.standAt ?_;unfold unpack;rw [h1,h2,h3];refine WT.bind (WT.holding ((h' V hV).mono (fun l σ1 q xs hxs=>?_) ide));exact d34 W ts l vs K σ1 xs q.1 hxs q.2⟩ else U10
 else U10
noncomputable def X16 (tg:Expr) (op:Operator) (e:Expr) (p:Pos):CX G ks (.AugAssign tg op e p):=
 if h:tg.ctorIdx=23 then Expr.Name.elim (motive_1:=fun tg=>CX G ks (.AugAssign tg op e p)) tg h fun x q=>opt (nm x) U5 fun k hx=>if hl:(ks.lookup k==some .local)=true then
  ⟨[ld k]++(f ks e).1++[inp op,st k],fun X c W K P vs σ h=>by
   obtain rfl:=v13 hx;obtain ⟨v,hv,h⟩:=u41 (X:=X) (c:=c) (P:=P) (ra (ra h));have hl':=W.k.symm▸eq_of_beq hl;exact i33 (g28 hl' hv (a11 ((f ks e).2 X c W _ _ _ _ h) fun b σ1 q=>l20 (e34 q) fun r σ2 q2=>n16 hl' q2))⟩ else U5
 else if h:tg.ctorIdx=20 then Expr.Attribute.elim (motive_1:=fun tg=>CX G ks (.AugAssign tg op e p)) tg h fun o x q=>opt (nm x) U5 fun k hx=>
  ⟨(f ks o).1++[dup,attr k]++(f ks e).1++[inp op,G7 k],fun X c W K P vs σ h=>by
   obtain rfl:=v13 hx;refine j33 (a11 ((f ks o).2 X c W _ _ _ _ (ra (ra (ra h)))) fun ov σ1 q=>?_);have q:U12 X c ov k (ov::vs) _ P σ1:=q;refine fun V ex hV=>(q V ex hV).mono (fun a σ2 q2=>?_) ide;exact a11 ((f ks e).2 X c W _ _ _ _ q2) fun b σ3 q3=>l20 (e34 q3) fun r σ4 q4=>q4⟩
 else if h:tg.ctorIdx=21 then Expr.Subscript.elim (motive_1:=fun tg=>CX G ks (.AugAssign tg op e p)) tg h fun o i q=>if hs:V7 i=true then
  ⟨(f ks o).1++(f ks i).1++[dup2,I.sub]++(f ks e).1++[inp op,M7],fun X c W K P vs σ h=>by
   refine b38 (a11 ((f ks o).2 X c W _ _ _ _ (ra (ra (ra (ra h))))) fun ov σ1 q=>a11 ((f ks i).2 X c W _ _ _ _ q) fun iv σ2 q2=>?_) (v25 hs);have q2:O16 X c ov iv (iv::ov::vs) _ P σ2:=q2;refine fun V W' hV hW=>(q2.2 V W' hV hW).mono (fun a σ3 q3=>?_) ide;exact a11 ((f ks e).2 X c W _ _ _ _ q3) fun b σ4 q4=>l20 (e34 q4) fun r σ5 q5=>q5⟩ else U5
 else U5
noncomputable def Z10 (tg:Expr) (elt:Expr) (gens:List Comprehension) (scope:Scope) (pos p:Pos):CX G ks (.Assign [tg] (.ListComp elt gens scope pos) p):=if h:tg.ctorIdx=23 then Expr.Name.elim (motive_1:=fun tg=>CX G ks (.Assign [tg] (.ListComp elt gens scope pos) p)) tg h fun y py=>
  opt (nm y) U5 fun k hx=>opt (L13 f t gens elt scope) U5 fun l _=>if hh:(ks.lookup k==some .local&&X12 scope k&&(py.line==pos.line))=true then ⟨l.1++[st k],fun X c W K P vs σ h=>by
   obtain rfl:=v13 hx;rw [z0,z0] at hh;obtain ⟨⟨hh1,hh2⟩,hh3⟩:=hh;obtain ⟨tg,iter,ifs,cks,rfl,K0,L⟩:=l.2;have L:=L X c W;have M:=L.go _ _ _ _ (ra h);refine h38 L.ok M.1 L.st L.tp (W.k.symm▸eq_of_beq hh1) ?_ hh3 M.2;unfold X12 at hh2;rw [K0,opt,Bool.or_eq_true] at hh2;exact hh2.imp eq_of_beq eq_of_beq⟩ else U5
 else U5
noncomputable def cas (tg e:Expr) (p:Pos):CX G ks (.Assign [tg] e p):=if h:e.ctorIdx=8 then Expr.ListComp.elim (motive_1:=fun e=>CX G ks (.Assign [tg] e p)) e h fun elt gens scope pos=>Z10 f t tg elt gens scope pos p
 else if hc:(J7 e&&notStar tg&&(N5 tg||N5 e))=true then ⟨(f ks e).1++(I12 (ks:=ks) f tg).1,fun X c W K P vs σ h=>by
  rw [z0,z0] at hc;obtain ⟨⟨h1,h2⟩,h3⟩:=hc;exact a38 (a11 ((f ks e).2 X c W _ _ _ _ (ra h)) fun a σ1 q=>(I12 f tg).2 X c W _ _ _ _ _ q) (y14 h1 _ _ _) (z29 h3 _) (k20 h2 _)⟩ else U5
noncomputable def K15 (ts:List Expr) (kk:Nat) (pt:Pos) (e:Expr) (b o:List Stmt) (p:Pos):CX G ks (.For (.Tuple ts kk pt) e b o p):=if h1:X4 e=true then
 ⟨(f ks e).1++[Q15 (I12 (ks:=ks) f (.Tuple ts kk pt)).1 (b.map fun s=>(g s).1).flatten (o.map fun s=>(g s).1).flatten],fun X c W K P vs σ h=>by
  refine x48 (a11 ((f ks e).2 X c W _ _ _ _ (ra h)) fun a σ1 q=>?_) (a34 h1 _);refine fun x hx=>((show Z1 X c a _ _ _ from q) x hx).mono (fun it σ2 q2=>?_) ide;obtain ⟨I,m,hI,turn⟩:=q2;refine ⟨I,m,hI,fun k σ3 h3 x hx A s gd R=>c10 (turn k σ3 h3 x hx A s gd R) (fun r s4 q4=>?_) ide⟩;cases r with
  | none=>
   obtain ⟨σ4,R4,q4⟩:=q4;exact ⟨σ4,R4,(l14 (CX.ok W) _ _ _ _ _ q4:WXs X c _ _ _ _)⟩
  | some v=>
   refine c10 q4 (fun u36 s5 hp37=>U0 hp37 fun σ4 R4 q4=>⟨σ4,R4,?_⟩) ide;refine fun V hV=>((I12 f (.Tuple ts kk pt)).2 X c W _ P [] (ab v) _ q4 V hV).mono (fun _ σ5 q5=>?_) ide;refine WT.mono (l14 (CX.ok W) _ _ _ _ _ q5) (fun f σ6 q6=>?_) ide;cases f<;>exact q6⟩ else U5
noncomputable def I17 (tg e:Expr) (b o:List Stmt) (p:Pos):CX G ks (.For tg e b o p):=if h:tg.ctorIdx=25 then Expr.Tuple.elim (motive_1:=fun tg=>CX G ks (.For tg e b o p)) tg h fun ts kk pt=>K15 f g ts kk pt e b o p
 else if hc:(X4 e&&N5 tg)=true then ⟨(f ks e).1++[W4 (I12 (ks:=ks) f tg).1 (b.map fun s=>(g s).1).flatten (o.map fun s=>(g s).1).flatten],fun X c W K P vs σ h=>by
  rw [z0] at hc;refine y52 (a11 ((f ks e).2 X c W _ _ _ _ (ra h)) fun a σ1 q=>?_) (a34 hc.1 _) (t41 hc.2);refine fun x hx=>((show Z1 X c a _ _ _ from q) x hx).mono (fun it σ2 q2=>?_) ide;obtain ⟨I,m,hI,turn⟩:=q2;refine ⟨I,m,hI,fun k σ3 h3 x hx=>(turn k σ3 h3 x hx).mono (fun r σ4 q4=>?_) ide⟩;cases r with
  | none=>exact (l14 (CX.ok W) _ _ _ _ _ q4:WXs X c _ _ _ _)
  | some v=>
   refine fun V hV=>((I12 f tg).2 X c W _ P [] v _ q4 V hV).mono (fun _ σ5 q5=>?_) ide;refine WT.mono (l14 (CX.ok W) _ _ _ _ _ q5) (fun f σ6 q6=>?_) ide;cases f<;>exact q6⟩ else U5
noncomputable def K12 (q:Expr) (b o:List Stmt) (p:Pos):CX G ks (.While q b o p):=if ho:o.isEmpty=true then ⟨[whl (t ks q).1 (b.map fun s=>(g s).1).flatten],fun X c W K P vs σ h=>by
  obtain rfl:=List.isEmpty_iff.mp ho;obtain ⟨I,m,hI,turn⟩:=h;refine h44 I m hI fun k σ1 h1=>WT.mono ((t ks q).2 X c W _ _ _ _ (turn k σ1 h1)) (fun b σ2 q=>?_) fun a σ2 q=>q;have q:if b=true then _ else _:=q
  cases b with
  | true=>
   rw [if_pos rfl] at q⊢;refine WT.mono (l14 (CX.ok W) _ _ _ _ _ q) (fun f σ3 q3=>?_) fun a σ3 q3=>q3;cases f<;>exact q3
  | false=>exact q⟩ else U5
noncomputable def Q16 (b:List Stmt) (hs:List ExceptHandler) (o fin:List Stmt) (p:Pos):CX G ks (.Try b hs o fin p):=match fin,hs with
 | [],h0::r=>opt (chs g (h0::r)) U5 fun hh _=>⟨[Q10 (b.map fun s=>(g s).1).flatten hh.1 (o.map fun s=>(g s).1).flatten],fun X c W K P vs σ h A s gd R=>by
   have hb:=l14 (CX.ok (g:=g) W) b (fun _ σ1=>run X c K P (o.map fun s=>(g s).1).flatten vs σ1) (fun ou σ1=>match ou with | .exc a=>I.hands X c K P vs a hh.1 σ1 | ou=>P ou σ1) vs σ h;refine w51 (c10 (hb A s gd R) (fun fl s1 hp38=>U0 hp38 fun σ1 R1 q=>?_) fun V s1 hp39=>H9 hp39 fun a σ1 e1 hp40 R1 q=>Y9 hp40 fun C args fs hx=>?_)
   ·cases fl with
    | next=>exact (l14 (CX.ok W) o K P vs σ1 q:WXs X c _ _ _ _) A s1 gd R1
    | brk=>exact ⟨σ1,R1,q⟩
    | cont=>exact ⟨σ1,R1,q⟩
    | ret v=>exact ⟨σ1,R1,q⟩
   ·subst e1;refine of (q12 gd R1 hx fun s2 R2 tb=>of (v11 R2 hx fun s3 R3 tk=>?_));exact hh.2 X c W _ _ _ _ _ _ _ q gd R3 (tk tb) ⟨C,args,fs,hx⟩⟩
 | _,_=>U5
noncomputable def N15 (s:Stmt):CX G ks s:=
 if h:s.ctorIdx=24 then Stmt.Expr.elim (motive_2:=CX G ks) s h fun e p=>if hc:J7 e=true then ⟨(f ks e).1++[drop],fun X c W K P vs σ h A s gd R=>g48 (Q:=after K P vs) (a11 ((f ks e).2 X c W _ _ _ _ (ra h)) fun a σ1 q=>q) (y14 hc _ _ _) (d13 gd.ok.fn) A s gd R⟩ else U5
 else if h:s.ctorIdx=5 then Stmt.Assign.elim (motive_2:=CX G ks) s h fun tgs e p=>(match tgs with | [tg]=>cas f t tg e p | _=>U5)
 else if h:s.ctorIdx=12 then Stmt.If.elim (motive_2:=CX G ks) s h fun q b o p=>⟨(t ks q).1++[br (b.map fun s=>(g s).1).flatten (o.map fun s=>(g s).1).flatten],fun X c W K P vs σ h=>by
  refine f55 (k17 ((t ks q).2 X c W _ _ _ _ (ra h)) fun b σ1 q=>?_);cases b with
  | true=>exact (l14 (CX.ok W) _ _ _ _ _ q:WXs X c _ _ _ _)
  | false=>exact (l14 (CX.ok W) _ _ _ _ _ q:WXs X c _ _ _ _)⟩
 else if h:s.ctorIdx=3 then Stmt.Return.elim (motive_2:=CX G ks) s h fun e p=>(match e with
  | none=>⟨[I.Z14],fun _ _ _ _ _ _ _ h=>f48 h⟩
  | some e=>⟨(f ks e).1++[I.ret],fun X c W _ _ _ _ h=>e52 (a11 ((f ks e).2 X c W _ _ _ _ (ra h)) fun a σ1 q=>q)⟩)
 else if h:s.ctorIdx=7 then Stmt.AugAssign.elim (motive_2:=CX G ks) s h (X16 f)
 else if h:s.ctorIdx=9 then Stmt.For.elim (motive_2:=CX G ks) s h (I17 f g)
 else if h:s.ctorIdx=11 then Stmt.While.elim (motive_2:=CX G ks) s h (K12 t g)
 else if h:s.ctorIdx=16 then Stmt.Raise.elim (motive_2:=CX G ks) s h fun e cse p=>(match e,cse with
  | some e,none=>⟨(f ks e).1++[I6],fun X c W _ _ _ _ h=>i44 (a11 ((f ks e).2 X c W _ _ _ _ (ra h)) fun a σ1 q=>q)⟩
  | _,_=>U5)
 else if h:s.ctorIdx=17 then Stmt.Try.elim (motive_2:=CX G ks) s h (Q16 g)
 else if h:s.ctorIdx=25 then Stmt.Pass.elim (motive_2:=CX G ks) s h fun p=>⟨[],fun _ _ _ _ _ _ _ h=>d48 h⟩
 else if h:s.ctorIdx=26 then Stmt.Break.elim (motive_2:=CX G ks) s h fun p=>⟨[brk],fun _ _ _ _ _ _ _ h=>l43 h⟩
 else if h:s.ctorIdx=27 then Stmt.Continue.elim (motive_2:=CX G ks) s h fun p=>⟨[cont],fun _ _ _ _ _ _ _ h=>e48 h⟩
 else U5
end
noncomputable def cxz (G:List (Nat×AV)) (ks:List (Nat×NameKind)) (n:Nat):(s:Stmt)->CX G ks s:=n.rec (fun _=>U5) fun _ r s=>N15 (fun ks e=>(cz G 30 ks e).1) (fun ks e=>(cz G 30 ks e).2) r s
end
noncomputable def cx (ks:List (Nat×NameKind)) (G:List (Nat×AV)) (n:Nat) (s:Stmt):List Tr:=(cxz G ks n s).1
theorem L14 {X:Cx} {ks:List (Nat×NameKind)} {G:List (Nat×AV)} (hG: ∀k v,G.lookup k=some v->Glo X k v) (n:Nat) (c:Cf) (hk:c.ks=ks):XOk X c (cx ks G n):=CX.ok ⟨hk,hG⟩
structure Go (p:Prop):Prop where
 out:p
theorem z52 {X:Cx} {c:Cf} {P:PT} {l:List Tr} {K:KT} {vs:List AV} {σ:St} (h:Go (run X c K P l vs σ)):run X c K P l vs σ:=h.out
section
variable {X:Cx} {c:Cf} {P:PT}
noncomputable def J5 (ks:List (Nat×NameKind)) (G:List (Nat×AV)) (b:List Stmt):List Tr:=(b.map (cx ks G 20)).flatten
def G13 (Q:AV->St->Prop) (l:NS):KT:=fun _ σ'=>Up (Q .none) (σ'.back l)
def P14 (Q:AV->St->Prop) (E:Nat->St->Prop) (l:NS):PT:=fun o σ'=>match o with | .ret v=>Up (Q v) (σ'.back l) | .exc a=>UpE a (E a) (σ'.back l) | _=>Up (Q .none) (σ'.back l)
theorem P0.up {f:AV} {as:List AV} {kw:List (Str×AV)} {Q:AV->St->Prop} {E:Nat->St->Prop} {σ:St} (h:P0 X c f as kw (fun v=>Up (Q v)) (fun a=>UpE a (E a)) σ):P0 X c f as kw Q E σ:=fun F vs ks hF hv hk A s g R=>by
 refine g13 (h F vs ks hF hv hk A s g R) fun r s' q=>?_;rcases r with e | (_ | _ | _ | v)
 ·obtain ⟨a,σ1,e1,_,R1,σ2,g2,hx,q⟩:=q;exact ⟨a,σ2,e1,hx,R1.down g2,q⟩
 ·exact q
 ·exact q
 ·exact q
 ·obtain ⟨σ1,R1,σ2,g2,q⟩:=q;exact ⟨σ2,R1.down g2,q⟩
theorem i34 {Q:AV->St->Prop} {E:Nat->St->Prop} {σ:St} {f n:Nat} {fd:FuncData} {ks:List (Nat×NameKind)} {cs:List (Nat×Nat)} {G:List (Nat×AV)} {body:List Stmt} {code:List Tr} {as:List AV} {kw:List (Str×AV)} {l:NS} (F:Fn X f fd ks cs body) (hG: ∀k v,G.lookup k=some v->Glo X k v)
  (hc:J5 ks G body=code) (hn:c.n=n+1) (hb:Binds X fd as kw l)
  (h: ∀c',c'.n=n->c'.ks=ks->c'.cs=cs->c'.hd=c.hd->Go (run X c' (G13 Q σ.loc) (P14 Q E σ.loc) code [] {σ with loc:=l})):P0 X c (.ref f) as kw Q E σ:=by
 subst hc;refine P0.up (o43 F hn hb fun L=>?_);refine WT.mono (l14 (L14 hG 20 _ rfl) _ _ _ _ _ (h (c.inn σ.loc n ks cs (callEnv fd L f)) rfl rfl rfl rfl).out) (fun fl σ' q=>?_) ide;cases fl<;>exact q
end
section
variable {X:Cx} {c:Cf} {P:PT} {K:KT} {σ:St} {vs:List AV} {r:List Tr} {a b d:AV}
open I
end
noncomputable def fnD:Data->Option FuncData | .func fd=>some fd | _=>none
noncomputable def T11 (K:Frag) (f:Nat):Option FuncData:=(K.lookup f).bind fun o=>fnD o.data
noncomputable def fdK (K:Frag) (f:Nat):FuncData:=(T11 K f).getD default
noncomputable def Z12:FuncBody->List Stmt | .stmts b=>b | _=>[]
noncomputable def Z2 (K:Frag) (f:Nat):List Stmt:=Z12 (fdK K f).body
noncomputable def Q7:FuncBody->Bool | .stmts _=>true | _=>false
noncomputable def S7 (g:Bool) (K:Frag) (ks:List (Nat×NameKind)) (cs:List (Nat×Nat)) (fd:FuncData):Bool:=codeIn K fd.code fd.qualname&&fd.globals==mainGlobals&&fd.builtins==builtinsNs&&fd.closure==cs.map (fun p=>(N p.1,p.2))&&fd.scope.kind== .function&&!fd.scope.isCoroutine&&(fd.scope.isGenerator==g)&&(fd.scope.names==ks.map fun p=>(N p.1,p.2))&&Q7 fd.body&&ks.all (fun p=>p.2 != .cell)
noncomputable def W7 (g:Bool) (K:Frag) (f:Nat) (ks:List (Nat×NameKind)) (cs:List (Nat×Nat)):Bool:=(T11 K f).any (S7 g K ks cs)
noncomputable abbrev R11:=W7 false
theorem j34 {d:Data} {fd:FuncData} (h:fnD d=some fd):d= .func fd:=by
 cases d<;>first | (cases h;rfl) | exact nomatch h
theorem k23 {b:FuncBody} (h:Q7 b=true):b= .stmts (Z12 b):=by
 cases b<;>first | rfl | exact nomatch h
theorem Fn.of {g:Bool} {X:Cx} {f:Nat} {ks:List (Nat×NameKind)} {cs:List (Nat×Nat)} (h:W7 g X.K f ks cs=true):FnB g X f (fdK X.K f) ks cs (Z2 X.K f):=by
 obtain ⟨fd,e,h⟩:=(Option.any_eq_true _ _).mp h;have e':fdK X.K f=fd:=by unfold fdK;rw [e];rfl
 obtain ⟨o,ho,hf⟩:=Option.bind_eq_some_iff.mp e;unfold S7 at h;simp only [z0,Bool.not_eq_true',beq_iff_eq] at h;obtain ⟨⟨⟨⟨⟨⟨⟨⟨⟨h1,h2⟩,h3⟩,h4⟩,h5⟩,h6⟩,h7⟩,h8⟩,h9⟩,h10⟩:=h;unfold Z2;rw [e'];refine ⟨⟨o,X.inK _ _ ho,j34 hf⟩,codeRec_of X.inK h1,k23 h9,h2,h3,h4,h5,h6,h7,fun p hp=>?_,h8⟩;have:=List.all_eq_true.mp h10 p hp;simpa using this
noncomputable def N13 (K:Frag) (p:Nat×AV):Bool:=match nsIn K mainGlobals (N p.1) with
 | some (some V)=>ab V==p.2
 | some none=>(N p.1 != "__name__")&&(bootBuiltins (N p.1)).map ab==some p.2
 | none=>false
set_option tactic.hygienic true in
theorem v41 {X:Cx} (hl:X.live=true) {gt:List (Nat×AV)} (h:gt.all (N13 X.K)=true): ∀k v,gt.lookup k=some v->Glo X k v:=by
 intro k v e;have hm:(k,v)∈gt:=by
  clear h
  induction gt with
  | nil=>cases e
  | cons p l ih=>
   obtain ⟨y,w⟩:=p;by_cases q:k=y
   ·subst q;rw [l11] at e;cases e;exact .head _
   ·rw [x12 _ _ q] at e;exact .tail _ (ih e)
 have:=List.all_eq_true.mp h _ hm;unfold N13 at this
 split at this
 ·rename_i V q;exact ⟨V,by simpa using this,.inl (mg_of X.inK X.gns q)⟩
 ·rename_i q;simp only [z0,bne_iff_ne,ne_eq,beq_iff_eq,Option.map_eq_some_iff] at this;obtain ⟨h1,V,h2,h3⟩:=this;exact ⟨V,h3,.inr ⟨mg_none_of X.inK X.gns q,(X.bts hl _ h1).trans h2⟩⟩
 ·cases this
theorem map_cons {vs:List Value} {a:AV} {as:List AV} (h:vs.map ab=a::as): ∃v r,vs=v::r/\ab v=a/\r.map ab=as:=by
 cases vs with
 | nil=>cases h
 | cons v r=>cases h;exact ⟨v,r,rfl,rfl,rfl⟩
theorem v10 {α β:Type} {f:α->β} {vs:List α} (h:vs.map f=[]):vs=[]:=by
 cases vs with
 | nil=>rfl
 | cons v r=>cases h
noncomputable def Cf.down (c:Cf) (n:Nat):Cf:={c with n:=n}
section
variable {X:Cx} {c:Cf} {σ:St} {E:Nat->St->Prop} {Q:AV->St->Prop}
theorem Cf.Good.lower {A A':Around} (g:c.Good A) {n:Nat} (hn:c.n=n+1) (hd:A'.depth<=A.depth+20) (hu:A'.units<=A.units+200) (hf:A'.frames=A.frames) (hh:A'.handled=A.handled):(c.down n).Good A' where
 ok:=⟨g.ok.fn,g.ok.ks,g.ok.cs,g.ok.gl,g.ok.bi,g.ok.top,g.ok.frs⟩
 frames:=hf.trans g.frames
 depth:=by have:=g.depth;rw [hn] at this;show A'.depth+20*n<=980;(exact fk s!"hxAaBn20hxaBl20aCn1n980oxaAl20Cn980" [] [_,_,_] rfl hd this)
 units:=by have:=g.units;rw [hn] at this;show A'.units+200*n<=9700;(exact fk s!"hxAaBn200hxaBl200aCn1n9700oxaAl200Cn9700" [] [_,_,_] rfl hu this)
 hd:=hh.trans g.hd
noncomputable def N11 (K:Frag) (C fI:Nat):Bool:=makesIn K C&&findIn K (.ref C) "__init__"==some (some (.ref fI))&&typeIn K (.ref fI)==some (.type "function")
theorem l38:guardIds.contains "type.__call__"=false:=by decide+kernel
theorem l23 (args:Args):(Code.builtin "type.__call__" args).weight<=1/\(Code.builtin "type.__call__" args).cUnits=1/\(Code.builtin "type.__call__" args).envs=[]:=by
 obtain ⟨pos,kw⟩:=args;refine ⟨?_,rfl,rfl⟩;have h1:(Code.builtin "type.__call__" ⟨pos,kw⟩).frames=0:=rfl;have h2:(Code.builtin "type.__call__" ⟨pos,kw⟩).isGuard=false:=l38;have h3:(Code.builtin "type.__call__" ⟨pos,kw⟩).isCaller=false:=rfl;unfold Code.weight;rw [h1,h2,h3]
 split<;>simp
theorem m23 (X:Cx) (own:Nat->Option Nat) (h:Heap) (a:Nat) (o:W0):Holds X.off own h a o=Holds X own h a o:=by cases o<;>rfl
theorem Z0.on {own:Nat->Option Nat} {fs:List (Nat×NS)} {σh:Nat->Option W0} {s:Shared} (R:Z0 X.off own fs σh s):Z0 X own fs σh s:=⟨R.base,fun a o e=>m23 X own s.heap a o▸R.objs a o e,R.frs,R.nodup,R.owned,R.os,R.bare⟩
theorem Z0.offs {own:Nat->Option Nat} {fs:List (Nat×NS)} {σh:Nat->Option W0} {s:Shared} (R:Z0 X own fs σh s):Z0 X.off own fs σh s:=⟨R.base,fun a o e=>(m23 X own s.heap a o).symm▸R.objs a o e,R.frs,R.nodup,R.owned,R.os,R.bare⟩
theorem O1.on {s:Shared} {σ:St} (R:O1 X.off c σ s):O1 X c σ s:=by obtain ⟨own,R⟩:=R;exact ⟨own,R.on⟩
theorem O1.offs {s:Shared} {σ:St} (R:O1 X c σ s):O1 X.off c σ s:=by obtain ⟨own,R⟩:=R;exact ⟨own,R.offs⟩
theorem P0.on {f:AV} {as:List AV} {kw:List (Str×AV)} (h:P0 X.off c f as kw Q E σ):P0 X c f as kw Q E σ:=fun F vs ks hF hv hk A s g R=>by
 refine ofC (codeAny_mono (Y8 (h F vs ks hF hv hk A s g R.offs)) fun r s' q=>?_);rcases r with e | (_ | _ | _ | v)
 ·obtain ⟨a,σ',e1,x,R',q⟩:=q;exact ⟨a,σ',e1,x,R'.on,q⟩
 ·exact q
 ·exact q
 ·exact q
 ·obtain ⟨σ',R',q⟩:=q;exact ⟨σ',R'.on,q⟩
theorem m38 {C fI n:Nat} {as:List AV} {kw:List (Str×AV)} (hZ:X.Z=false) (ok:N11 X.K C fI=true) (hn:c.n=n+1)
  (h: ∀x,σ.h x=none->P0 X (c.down n) (.ref fI) (.ref x::as) kw (fun v σ'=>v= .none/\Q (.ref x) σ') E {σ with h:=upd σ.h x (.inst C [])}):P0 X c (.ref C) as kw Q E σ:=fun F vs kws hF hvs hks A s g R=>by
 obtain rfl:=t10 hF;unfold N11 at ok;simp only [z0,beq_iff_eq] at ok;obtain ⟨⟨k1,k2⟩,k3⟩:=ok;have RK:=R.inK;walk_at "o";obtain ⟨w1,w2,w3⟩:=l23 ⟨.ref C::vs,kws⟩;have g':(c.down n).Good (A.under (.builtin "type.__call__" ⟨.ref C::vs,kws⟩)):=g.lower hn (by show A.depth+_<=_;(exact fk s!"hxAn1oxaBAaBn20" [] [_,_] rfl w1)) (by show A.units+_<=_;rw [w2];(exact fk s!"oxaAn1aAn200" [] [_] rfl)) (by unfold Around.under;dsimp only;rw [w3];rfl) rfl;obtain ⟨hh,gg,d,t,os⟩:=s;refine ofC ?_;refine make_core (makes_of RK k1) (looks_findIn RK k2) (fun self=>bind_fn RK self k3) (.inl rfl) ?_;have kk: ∀b o,hh.get? b=some o->((hh.push emptyDict).push (instObj C hh.objs.size)).get? b=some o:=fun b o e=>i3 _ (i3 _ e);have hx:((hh.push emptyDict).push (instObj C hh.objs.size)).get? (hh.objs.size+1)=some (instObj C hh.objs.size):=by heap_get
 have hd:((hh.push emptyDict).push (instObj C hh.objs.size)).get? hh.objs.size=some emptyDict:=by heap_get
 have hn1:hh.get? (hh.objs.size+1)=none:=l6 (Nat.le_succ _);obtain ⟨own',R'⟩:=R.alloc (tk:=t) (o:= .inst C []) (a:=hh.objs.size+1) [hh.objs.size] kk hn1 ⟨_,hx⟩ (fun q hq=>by
  obtain rfl:=List.mem_singleton.mp hq;exact ⟨l6 (Nat.le_refl _),⟨_,hd⟩,by (exact fun q3=>fk κ4 [] [_] rfl q3)⟩) (fun own' h1 h2=>⟨hh.objs.size,#[],h2 _ (.head _),by (exact fun q3=>fk κ4 [] [_] rfl q3),hx,[],0,hd,.nil⟩)
 have hlt:=(R.fresh hn1).1;have hw:=h (hh.objs.size+1) hlt (.ref fI) (.ref (hh.objs.size+1)::vs) kws rfl (by rw [v5,hvs];rfl) hks _ _ g' ⟨own',R'⟩;rw [hZ] at hw;refine codeAny_mono (Y8 hw) fun r s' q=>?_;rcases r with e | (_ | _ | _ | v)
 ·exact q
 ·exact q
 ·exact q
 ·exact q
 ·obtain ⟨σ',R'',q1,q2⟩:=q;exact ⟨(x13 q1).symm,σ',R'',q2⟩
theorem n15 {C fI n:Nat} {as:List AV} {kw:List (Str×AV)} (ok:N11 X.K C fI=true) (hn:c.n=n+1)
  (h: ∀x,σ.h x=none->P0 X.off (c.down n) (.ref fI) (.ref x::as) kw (fun v σ'=>v= .none/\Q (.ref x) σ') E {σ with h:=upd σ.h x (.inst C [])}):P0 X c (.ref C) as kw Q E σ:=P0.on (m38 (X:=X.off) rfl ok hn h)
end
theorem m28 (C:Nat) (rest:List Value) (kw:List (Str×Value)):Bind.checkArgs "Exception.__new__" ⟨.any,"Exception","Exception",.cls,[⟨"args",.varPos,false⟩,⟨"kwargs",.varKw,false⟩]⟩ ⟨.ref C::rest,kw⟩=pure ():=s!"."
section
variable {prog:Program} {w:World} {A:Around} {R:Result->Shared->Prop} {E:Value->Shared->Prop} {h:Heap} {g:Array GenState} {d:Drawn} {t:Nat} {os:OsState}
variable {nm q:Str} {C N:Addr} {bs bm:List Value} {hdct:Bool} {sn:List Str} {sub:List Value} {abs:Bool} {col:Option Bool} {dd:Option Addr} {k0 k1 k2 k3 k5:Option Value}
theorem k34 (F:ExcBaseFacts "Exception" "Exception.__new__" "Exception.__init__" bm) {rest:List Value} {kw:List (Str×Value)} {Q:Unit->Shared->Prop} (hC:h.get? C=some (excClassObj nm q C N bs bm hdct sn sub abs col dd k0 k1 k2 k3 k5 "Exception.__new__"))
  (hq:Q () ⟨h,g,d,t,os⟩):wpAny (model prog w) A (checkBuiltinCall "Exception.__new__" ⟨.ref C::rest,kw⟩) Q E ⟨h,g,d,t,os⟩:=by
 have e:checkBuiltinCall "Exception.__new__" ⟨.ref C::rest,kw⟩=checkBuiltinCall "Exception.__new__" ⟨.ref C::rest,[]⟩:=by
  unfold checkBuiltinCall;rw [F.newRow,F.newKind,F.newSplit];dsimp only;rw [m28,m28]
 rw [e];exact wpAny_check_new_sub F hC hq
theorem k44 (F:ExcBaseFacts "Exception" "Exception.__new__" "Exception.__init__" bm) {rest:List Value} {kw:List (Str×Value)} (hC:h.get? C=some (excClassObj nm q C N bs bm hdct sn sub abs col dd k0 k1 k2 k3 k5 "Exception.__new__"))
  (hq:R (.ok (.ret (.ref (h.objs.size+1)))) ⟨(h.push {cls:= .type "tuple",data:= .seq rest.toArray}).push
   {cls:= .ref C,data:= .fields #[.ref h.objs.size,.none,.none,.none,.bool false,.none]},g,d,t,os⟩) (hrest:rest.length<=sizeLine):
  codeAny (model prog w) A (.builtin "Exception.__new__" ⟨.ref C::rest,kw⟩) R ⟨h,g,d,t,os⟩:=by
 have hends:=F.ends;have hcB:(Value.ref C::bm).contains (.type "Exception")=true:=by rw [List.contains_cons,F.hasB,Bool.or_true]
 have hcA:(Value.ref C::bm).contains (.type "AttributeError")=false:=by rw [List.contains_cons,F.noAttr];rfl
 have hcN:(Value.ref C::bm).contains (.type "NameError")=false:=by rw [List.contains_cons,F.noName];rfl
 refine codeAny_builtinAt F.entry ?_;unfold Builtin.«BaseException.__new__»;refine PySem.wpAt_bind ?_;show PySem.wpAt _ _ _ (stack>>=_) _ _ _;refine PySem.wpAt_bind (PySem.wpAt_stack fun p below=>PySem.wpAt_of_wpAny ?_)
 wp_walk
 refine PySem.wpAt_of_wpAny ?_;rw [F.owner]
 repeat (first | with_reducible refine wpAny_madeHere_exc F.canon hC ?_ | with_reducible refine wpAny_loadPart_at hC ?_ | (with_reducible refine wpAny_isSubtype_exc hC ?_;first | rewrite [hcB] | rewrite [hcA] | rewrite [hcN]) | wp_step)
 show R _ _;rw [Heap.size_push];exact hq
theorem n38 (F:ExcBaseFacts "Exception" "Exception.__new__" "Exception.__init__" bm) {K:Frag} {fI:Addr} {rest:List Value} {kw:List (Str×Value)} (hC:h.get? C=some (excClassObj nm q C N bs bm hdct sn sub abs col dd k0 k1 k2 k3 k5 "Exception.__new__")) (X:K.In h)
  (hcall:specialIn K (.ref C) "__call__"=some (some (.builtin "type.__call__"))) (htyp:instIn K (.ref C) (.type "type")=some true) (hi:findIn K (.ref C) "__init__"=some (some (.ref fI))) (hf:typeIn K (.ref fI)=some (.type "function")) (hself:mroIn K C (.ref C)=some true)
  (hq:codeAny (model prog w) (A.under (.builtin "type.__call__" ⟨.ref C::rest,kw⟩)) (.call (.ref fI) ⟨.ref (h.objs.size+1)::rest,kw⟩) (InitBack (h.objs.size+1) R) ⟨(h.push {cls:= .type "tuple",data:= .seq rest.toArray}).push
   {cls:= .ref C,data:= .fields #[.ref h.objs.size,.none,.none,.none,.bool false,.none]},g,d,t,os⟩) (hrest:rest.length<=sizeLine):
  codeAny (model prog w) A (.call (.ref C) ⟨rest,kw⟩) R ⟨h,g,d,t,os⟩:=by
 have call:=looks_specialIn (M:=model prog w) X hcall;have typ:=looks_instIn (M:=model prog w) X htyp;have self:=looks_mroIn (M:=model prog w) X hself;have init:=looks_findIn (M:=model prog w) X hi;have hb:=fun self=>bind_fn (M:=model prog w) X self hf;refine codeAny_of_tree ?_;show wpAny _ _ (callAny (.ref C) _) _ _ _;refine nd_load hC ?_;show wpAny _ _ (callAny.viaDunder (.ref C) _) _ _ _;unfold callAny.viaDunder;refine d0 (call.at ?_);dsimp only;rw [PySem.tc_bind];refine d0 (m0 (d0 (m0 ?_)));refine m0 (a:=Fin.again (.call (.builtin "type.__call__") ⟨.ref C::rest,kw⟩)) (And.intro rfl ?_);refine codeAny_call_builtin_at (Code.quiet_builtin _ (by decide+kernel)) entry_typeCall (check_slot tc_kind tc_split typ (tc_args _ _ _) ?_);unfold Builtin.«type.__call__»;have hm:Looks (model prog w) h (mroOf (.ref C)) (.ref C::bm):=((Looks.ld (part:=none) hC).andThen .now).andThen .now
 repeat (first | with_reducible refine wpAny_madeBy_exc hC ?_ | with_reducible refine wpAny_call ?_ | lk)
 refine codeAny_call_builtin_code (Code.quiet_builtin _ F.quiet) (k34 F hC (k44 F hC ?_ hrest))
 let oT:Obj:={cls:= .type "tuple",data:= .seq rest.toArray}
 let oE:Obj:={cls:= .ref C,data:= .fields #[.ref h.objs.size,.none,.none,.none,.bool false,.none]}
 have k: ∀b o,h.get? b=some o->((h.push oT).push oE).get? b=some o:=fun b o e=>i3 _ (i3 _ e);have hx:((h.push oT).push oE).get? (h.objs.size+1)=some oE:=by heap_get
 have t1:Looks (model prog w) ((h.push oT).push oE) (typeOf (.ref (h.objs.size+1))) (.ref C):=(Looks.ld hx).andThen .now;have s1:=self.keeps k;have i1:=init.keeps k;have b1:=(hb (.ref (h.objs.size+1))).keeps k;unfold isInstance callSpecial? specialOf
 repeat (first | with_reducible refine wpAny_call ?_ | lk)
 refine codeAny_mono hq fun r s' z=>?_;rcases r with e | (v | _ | _ | _)<;>first | exact z | exact z.elim | skip
 obtain ⟨rfl,z⟩:=z;exact m0 (m0 z)
end
section
variable {X:Cx} {c:Cf} {σ:St} {E:Nat->St->Prop}
noncomputable def del (h:Nat->Option W0) (a:Nat):Nat->Option W0:=fun b=>if b=a then none else h b
theorem m20 {r:Nat} {x y z:Int} {Q:AV->St->Prop} (e:σ.h r=some (.range x y z)) (hs:Builtin.Range.small x y z=true) (h: ∀it,σ.h it=none->Q (.ref it) {σ with h:=upd σ.h it (.rangeIter x (Builtin.Range.rangeSize x y z) z)}):Z1 X c (.ref r) Q E σ:=fun V hV A s g R=>by
 refine of ?_;obtain rfl:=t10 hV;walk_at "o";obtain ⟨t,u,v,ho⟩:=(R.objs _ _ e).2;obtain ⟨h1,own',R'⟩:=R.J4 (o:= .rangeIter x (Builtin.Range.rangeSize x y z) z) (tk:=s.toks) (ob:={cls:= .type "range_iterator",data:= .fields #[rawInt x,rawInt (Builtin.Range.rangeSize x y z),rawInt z]}) rfl fun own'=>y3 _ rfl;exact wpAny_pyIter_range ho hs ⟨_,⟨own',R'⟩,h _ h1⟩
theorem n20 {it:Nat} {x left st:Int} {Q:Option AV->St->Prop} (e:σ.h it=some (.rangeIter x left st)) (hd:c.hd=none) (h1:0<left->Q (some (.int x)) {σ with h:=upd σ.h it (.rangeIter (x+st) (left-1) st)})
  (h2:left<=0->Q none {σ with h:=del σ.h it}):W5 X c (.ref it) Q E σ:=fun V hV A s g R=>by
 refine of ?_;obtain rfl:=t10 hV;walk_at "o";have ho:=(R.objs _ _ e).2;by_cases hl:0<left
 ·refine wpAny_pyNext_range_item ho hl fun h' hi hs=>⟨_,⟨own,R.update (tk:=s.toks+1) (o:= .rangeIter (x+st) (left-1) st) e (fun b y hb hy=>(hs.2 b fun q=>?_).trans hy) (fun q hq=>?_) hi⟩,h1 hl⟩
  ·subst q;exact hb (R.objs _ _ e).1
  ·by_cases z:q=it
   ·subst z;exact ⟨_,hi⟩
   ·obtain ⟨y,hy⟩:=(R.owned q it hq).1;exact ⟨y,(hs.2 q z).trans hy⟩
 ·refine wpAny_pyNext_range_end (g.hd.trans hd) ho (by exact Int.not_lt.mp hl) fun h' hx=>?_;obtain ⟨own',R'⟩:=R.drop (tk:=s.toks) e (h':=h') fun b y hb hy=>hx b y (fun q=>by subst q;exact hb (R.objs _ _ e).1) hy;exact ⟨_,⟨own',R'⟩,h2 (by exact Int.not_lt.mp hl)⟩
theorem l44 {l:Nat} {xs:List AV} {Q:AV->St->Prop} (e:σ.h l=some (.list xs)) (h: ∀it,σ.h it=none->Q (.ref it) {σ with h:=upd σ.h it (.listIter l 0)}):Z1 X c (.ref l) Q E σ:=fun V hV A s g R=>by
 refine of ?_;obtain rfl:=t10 hV;walk_at "o";obtain ⟨items,ho,_⟩:=(R.objs _ _ e).2;have ho:=ho.isList;obtain ⟨h1,own',R'⟩:=R.J4 (o:= .listIter l 0) (tk:=s.toks) (ob:={cls:= .type "list_iterator",data:= .fields #[.ref l,.int 0 0]}) rfl fun own'=>⟨_,y3 _ rfl,rfl,rfl⟩;exact wpAny_pyIter_list ho ⟨_,⟨own',R'⟩,h _ h1⟩
theorem m44 {it l i:Nat} {xs:List AV} {Q:Option AV->St->Prop} (e:σ.h it=some (.listIter l i)) (el:σ.h l=some (.list xs)) (hd:c.hd=none) (h1: ∀x,xs[i]? =some x->Q (some x) {σ with h:=upd σ.h it (.listIter l (i+1))})
  (h2:xs[i]? =none->Q none {σ with h:=del σ.h it}):W5 X c (.ref it) Q E σ:=fun V hV A s g R=>by
 refine of ?_;obtain rfl:=t10 hV;walk_at "o";have ho:=(R.objs _ _ e).2;obtain ⟨items,hL,hx⟩:=(R.objs _ _ el).2;have hL:=hL.isList;have hget:xs[i]? =(items[i]?).map ab:=by rw [<-hx,List.getElem?_map,Array.getElem?_toList]
 cases hi:items[i]? with
 | some v=>
  refine wpAny_pyNext_list_item ho hL hi fun h' hi' hs=>⟨_,⟨own,R.update (tk:=s.toks) (o:= .listIter l (i+1)) e (fun b y hb hy=>(hs.2 b fun q=>?_).trans hy) (fun q hq=>?_) hi'⟩,h1 _ (by rw [hget,hi];rfl)⟩
  ·subst q;exact hb (R.objs _ _ e).1
  ·by_cases z:q=it
   ·subst z;obtain ⟨o,ho,_⟩:=hi';exact ⟨o,ho⟩
   ·obtain ⟨y,hy⟩:=(R.owned q it hq).1;exact ⟨y,(hs.2 q z).trans hy⟩
 | none=>
  refine wpAny_pyNext_list_end (g.hd.trans hd) ho hL hi fun h' hx=>?_;obtain ⟨own',R'⟩:=R.drop (tk:=s.toks) e (h':=h') fun b y hb hy=>hx b y (fun q=>by subst q;exact hb (R.objs _ _ e).1) hy;exact ⟨_,⟨own',R'⟩,h2 (by rw [hget,hi];rfl)⟩
theorem n23 (its:Array Value) (n j:Nat) (x:Value): ∃n',Obj.mapSeq (·.setIfInBounds j x) {cls:= .type "list",data:= .seq its n}={cls:= .type "list",data:= .seq (its.setIfInBounds j x) n'}:=by
 unfold Obj.mapSeq;dsimp only;exact ⟨_,rfl⟩
theorem o20 {prog:Program} {w:World} {A:Around} {E:Value->Shared->Prop} {s:Shared} {l:Addr} {items:Array Value} {k:Int} {t:Tok} {v:Value} {Q:Unit->Shared->Prop} (hl:s.heap.PlainList l items)
  (h0:0<=k) (hfit:k<2^63) (hn:k<items.size)
  (hQ: ∀h',h'.PlainList l (items.setIfInBounds k.toNat v)->Heap.SameBut l s.heap h'->Q () {s with heap:=h'}):
  wpAny (model prog w) A (setItem (.ref l) (.int k t) v) Q E s:=by
 obtain ⟨n,ho⟩:=hl;have hl:s.heap.IsList l items:=⟨_,ho,rfl,n,rfl⟩;unfold setItem
 try with_reducible refine wpAny_holding ?_
 first | refine d0 (m0 ?_) | skip
 refine d0 (wpAny_sequenceKey hl.typeIs (by decide) ?_);refine d0 (wpAny_callSpecial?_slot (name:=Str.ofString "__setitem__") hl.typeIs slot_list_setitem
  (wpAny_call_entry slot_list_setitem hl.typeIs entry_list_setitem ?_ (args_list_setitem _ _ _)))
 show wpAny _ _ (Builtin.List.listSubscript? (.int k t)>>=_) _ _ s;refine d0 (wpAny_listSubscript_int (fitsIndex_of h0 hfit) ?_);clear hfit;obtain ⟨j,rfl⟩:=Int.eq_ofNat_of_zero_le h0;have hj:j<items.size:=by (exact fk s!"hSwAwBoyAB" [] [_,_] rfl hn)
 have hx':items[j]? =some items[j]:=Array.getElem?_eq_getElem hj;show wpAny _ _ ((seqItemAt l j>>=fun r=>pure (r.map (j,·)))>>=_) _ _ s;refine d0 (d0 (wpAny_seqItemAt ho rfl (m0 ?_)));rw [hx'];show wpAny _ _ (setSeqItemAt l j v>>=_) _ _ s;obtain ⟨n',hd'⟩:=n23 items n j v;have hfin:(s.heap.update l (Obj.mapSeq (·.setIfInBounds j v))).PlainList l (items.setIfInBounds j v):=
  ⟨n',by rw [Heap.get?_update_self _ ho (by rw [hd'];rfl),hd']⟩
 refine d0 (wpAny_setSeqItemAt ho rfl ?_)
 first
  | exact d0 (m0 (m0 ⟨.none, rfl, m0 (hQ _ hfin (Heap.SameBut.update ..))⟩))
  | exact m0 ⟨.none, rfl, m0 (hQ _ hfin (Heap.SameBut.update ..))⟩
theorem n44 {l:Nat} {xs:List AV} {k:Int} {v:AV} {Q:AV->St->Prop} (e:σ.h l=some (.list xs)) (h0:0<=k) (h1:k<2^63) (hv:xs[k.toNat]? =some v) (h:Q v σ):WGI X c (.ref l) (.int k) Q E σ:=fun V W hV hW A s g R=>by
 refine of ?_;obtain rfl:=t10 hV;obtain ⟨t,rfl⟩:=o10 hW;walk_at "o";obtain ⟨items,hL,hx⟩:=(R.objs _ _ e).2;have hL:=hL.isList;have hget:xs[k.toNat]? =(items[k.toNat]?).map ab:=by rw [<-hx,List.getElem?_map,Array.getElem?_toList]
 rw [hv] at hget;cases hi:items[k.toNat]? with
 | none=>rw [hi] at hget;cases hget
 | some y=>
  rw [hi] at hget;exact wpAny_getItem_list hL h0 h1 hi ⟨σ,⟨own,R⟩,by have:v=ab y:=w5 hget;rw [<-this];exact h⟩
theorem o44 {l:Nat} {xs:List AV} (e:σ.h l=some (.list xs)):O6 X c (.ref l) σ:=⟨"list",_,list_getitem_lookup,fun v s hv hp1=>hp1.elim fun own R=>by
 obtain rfl:=t10 hv;obtain ⟨items,⟨o,ho⟩,_⟩:=(R.objs _ _ e).2;exact ⟨_,ho,rfl⟩⟩
theorem l34 {l:Nat} {xs:List AV} {k:Int} {v:AV} {Q:St->Prop} (e:σ.h l=some (.list xs)) (h0:0<=k) (h1:k<2^63) (h2:k<xs.length) (h:Q {σ with h:=upd σ.h l (.list (xs.set k.toNat v))}):WSI X c (.ref l) (.int k) v Q E σ:=fun U V W hU hV hW A s g R=>by
 refine of ?_;obtain rfl:=t10 hU;obtain ⟨t,rfl⟩:=o10 hV;walk_at "o";obtain ⟨items,hL,hx⟩:=(R.objs _ _ e).2;have hlen:xs.length=items.size:=by rw [<-hx];simp
 refine o20 hL h0 h1 (by rw [<-hlen];exact h2) fun h' hi hs=>⟨_,⟨own,R.update (tk:=s.toks) (o:= .list (xs.set k.toNat v)) e (fun b y hb hy=>(hs.2 b fun q=>?_).trans hy) (fun q hq=>?_) ⟨_,hi,?_⟩⟩,h⟩
 ·subst q;exact hb (R.objs _ _ e).1
 ·by_cases z:q=l
  ·subst z;obtain ⟨o,ho⟩:=hi;exact ⟨_,ho⟩
  ·obtain ⟨y,hy⟩:=(R.owned q l hq).1;exact ⟨y,(hs.2 q z).trans hy⟩
 ·rw [Array.toList_setIfInBounds,List.map_set,hx,hW]
end
section
variable {X:Cx} {c:Cf} {σ:St} {E:Nat->St->Prop} {Q:AV->St->Prop}
theorem p20 {l:List UInt8}:O6 X c (.bytes l) σ:=⟨"bytes",_,FB.slot_bytes_getitem.lookup,fun v s hv R=>by
 obtain ⟨t,rfl⟩:=h11 hv;exact typeIs_bytes _ _ _⟩
theorem m34 (l:List UInt8) (lo hi:Option Int):(KBy.picked l.toArray lo hi).toList=slc l lo hi:=by
 rw [KBc.picked_eq];simp [slc]
theorem n34 {l:List UInt8} {lo hi:AV} {lo' hi':Option Int} (h1:part lo=some lo') (h2:part hi=some hi') (hz:l.length<=16777216) (h:Q (.bytes (slc l lo' hi')) σ):Y13 X c (.bytes l) lo hi Q E σ:=fun o lv uv ho hl hu A s g R=>by
 refine of ?_;obtain ⟨t,rfl⟩:=h11 ho;walk_at "o";refine getItem_meets (typeIs_bytes _ _ _) (by decide) FB.slot_bytes_getitem FB.entry_bytes_getitem (FB.args_bytes_getitem_2 _ _) (KBc.meets_slice2 l.toArray t _ (d20 h1 hl) (d20 h2 hu)) ⟨Heap.IsSliceOf.new _ _ _ _,Nat.le_trans (KBc.size_picked_le _ lo' hi') (by rw [sizeLine_eq];simpa using hz),fun t' k=>⟨σ,⟨own,R.push _ _⟩,?_⟩⟩;show Q (.bytes (KBy.picked l.toArray lo' hi').toList) σ;rw [m34];exact h
theorem o38 {l:List UInt8} {i:Int} (hz:l.length<=1099511627776) (h0:0<=i) (h1:i<l.length) (h:Q (.int (l.getD i.toNat 0).toNat) σ):WGI X c (.bytes l) (.int i) Q E σ:=fun V W hV hW A s g R=>by
 refine of ?_;obtain ⟨t,rfl⟩:=h11 hV;obtain ⟨u,rfl⟩:=o10 hW;exact getItem_bytes hz h0 h1 ⟨σ,R.tk _,h⟩
theorem m14 {l:List UInt8} (hz:l.length<=1099511627776) (h:Q (.int l.length) σ):J2 X c (.builtin "len") [.bytes l] [] Q E σ:=fun F vs ks hF hv hk A s g R=>by
 refine of ?_;obtain rfl:=d11 hF;obtain ⟨v,r,rfl,hv1,hr⟩:=map_cons hv;obtain rfl:=v10 hr;obtain rfl:=v10 hk;obtain ⟨t,rfl⟩:=h11 hv1;exact len_bytes (by simpa using hz) ⟨σ,R.tk _,by first | exact h | simpa [ab] using h⟩
end
theorem o17:Slot "wrapper_descriptor" "__get__" "wrapper_descriptor.__get__":= .of (owner:="wrapper_descriptor") (n:="__get__") (by rw [typeLookup_type,builtinLookup_eq_fast];kernel_rfl) (by decide+kernel) (by decide+kernel) (by decide+kernel)
 (by first | exact .inl (by decide+kernel) | exact .inr (by decide+kernel)) (by rw [isSubtype_type];kernel_rfl)
theorem o23:entryFor table "wrapper_descriptor.__get__"=some Builtin.«wrapper_descriptor.__get__» :=entryFor_of_tree s!"."
theorem w25 (a b c:Value):argsOk "wrapper_descriptor.__get__" ⟨[a,b,c],[]⟩:=by unfold argsOk;kernel_rfl
theorem i19:builtinType "Exception.__init__"=pure (.type "wrapper_descriptor"):=s!"."
open PySem.F in
section
variable {prog:Program} {w:World} {M:Model} {A:Around} {E:Value->Shared->Prop} {h:Heap} {g:Array GenState} {d:Drawn} {t:Nat} {os:OsState}
noncomputable abbrev wrapObj (x:Nat):Obj:={cls:= .type "method-wrapper",data:= .fields #[.builtin "Exception.__init__",.ref x]}
theorem p44:".".intercalate ("Exception.__init__".cutAt '.').dropLast="Exception":=by decide+kernel
theorem y48 {x C:Addr} {ox:Obj} {Q:Fin->Shared->Prop} (hx:h.get? x=some ox) (hc:ox.cls= .ref C) (hi:Looks (model prog w) h (isSubtype (.ref C) (.type "Exception")) true)
  (hq:Q (.done (.ret (.ref h.objs.size))) ⟨h.push (wrapObj x),g,d,t,os⟩):wpAny (model prog w) A (Builtin.«wrapper_descriptor.__get__» ⟨[.builtin "Exception.__init__",.ref x,.ref C],[]⟩) Q E ⟨h,g,d,t,os⟩:=by
 unfold Builtin.«wrapper_descriptor.__get__»
 repeat (first | (with_reducible refine Looks.at hi ?_) | (with_reducible refine wpAny_loadPart_at hx ?_;rewrite [hc]) | (with_reducible refine wpAny_newObj_type ?_ (by size_fits)) | rewrite [p44] | wp_step)
 all_goals exact hq
theorem x25 {so D x C:Addr} {ox:Obj} {l₀ l:List Value} {K:Frag} {tk:Tok} {Q:Fin->Shared->Prop}
  (hso:h.get? so=some {cls:= .type "super",dict:=none,data:= .fields #[.ref D,.ref x,.ref C],slots:= #[]}) (hno:Looks (model prog w) h (opaqueClassAbove (.ref C)) none)
  (hC:Looks (model prog w) h (mroOf (.ref C)) l₀) (hl:(l₀.dropWhile (· != .ref D)).drop 1=l) (X:K.In h)
  (hf:alongIn K "__init__" l=some (some (.builtin "Exception.__init__"))) (hx:h.get? x=some ox) (hc:ox.cls= .ref C) (hi:Looks (model prog w) h (isSubtype (.ref C) (.type "Exception")) true) (hxC:x≠C)
  (hq:Q (.done (.ret (.ref h.objs.size))) ⟨h.push (wrapObj x),g,d,t,os⟩):
  wpAny (model prog w) A (Builtin.«super.__getattribute__» ⟨[.ref so,.str "__init__" tk],[]⟩) Q E ⟨h,g,d,t,os⟩:=by
 have hlk:=o17.lookup;have hbt:=i19;have hne:(Value.ref x==Value.ref C)=false:=by simp [hxC]
 have hTf:(⟨h,g,d,t,os⟩:Shared).TypeIs (.builtin "Exception.__init__") "wrapper_descriptor":=i19;have hdt:({cls:= .type "super",dict:=none,data:= .fields #[.ref D,.ref x,.ref C],slots:= #[]}:Obj).data= .fields #[.ref D,.ref x,.ref C]:=rfl;have f0:(#[.ref D,.ref x,.ref C]:Array Value)[0]? =some (.ref D):=rfl;have f1:(#[.ref D,.ref x,.ref C]:Array Value)[1]? =some (.ref x):=rfl;have f2:(#[.ref D,.ref x,.ref C]:Array Value)[2]? =some (.ref C):=rfl;have hn:((Str.ofString "__init__")==("__class__":Str))=false:=by decide+kernel
 unfold Builtin.«super.__getattribute__»
 repeat (first
  | (with_reducible refine wpAny_field hso hdt f0 ?_) | (with_reducible refine wpAny_field hso hdt f1 ?_) | (with_reducible refine wpAny_field hso hdt f2 ?_)
  | (with_reducible refine ks_wpAny_notOpaque hno ?_)
  | (with_reducible refine Looks.at hC ?_; rw [hl])
  | (refine ks_forIn_along X (fun _ _ => rfl) rfl ?_ hf)
  | (with_reducible refine wpAny_typeOf hTf ?_)
  | (with_reducible refine wpAny_call_entry o17 hTf o23 ?_ (w25 _ _ _))
  | (with_reducible refine y48 hx hc hi ?_)
  | (with_reducible refine ⟨_, rfl, ?_⟩)
  | (simp only [hn, hne, Bool.or_false, Bool.false_eq_true, if_false])
  | wp_step
  | dsimp only)
 all_goals exact hq
theorem p38 {so D x C:Addr} {ox:Obj} {l₀ l:List Value} {K:Frag} {pl:Sem Bool} {Q:Value×List Value->Shared->Prop}
  (hso:h.get? so=some {cls:= .type "super",dict:=none,data:= .fields #[.ref D,.ref x,.ref C],slots:= #[]}) (hno:Looks (model prog w) h (opaqueClassAbove (.ref C)) none)
  (hC:Looks (model prog w) h (mroOf (.ref C)) l₀) (hl:(l₀.dropWhile (· != .ref D)).drop 1=l) (X:K.In h)
  (hf:alongIn K "__init__" l=some (some (.builtin "Exception.__init__"))) (hx:h.get? x=some ox) (hc:ox.cls= .ref C) (hi:Looks (model prog w) h (isSubtype (.ref C) (.type "Exception")) true) (hxC:x≠C)
  (hq:Q (.ref h.objs.size,[]) ⟨h.push (wrapObj x),g,d,t+1,os⟩):
  wpAny (model prog w) A (getMethod (.ref so) "__init__" pl) Q E ⟨h,g,d,t,os⟩:=by
 have hlk:=F.ks_slot_super_ga.lookup;have hcan:=F.ks_canon_super_ga;have hT: ∀t',(⟨h,g,d,t',os⟩:Shared).TypeIs (.ref so) "super":=fun _=>⟨_,hso,rfl⟩;unfold getMethod;refine d0 (wpAny_specialOf (hT _) hlk ?_);show wpAny _ _ (if (Manifest.canonical "super.__getattribute__" != "object.__getattribute__")=true then _ else _) _ _ _;rw [if_pos hcan];unfold getAttr getAttrBy;refine d0 (d0 (wpAny_mkText (wpAny_holding (d0 (wpAny_typeOf (hT _) (d0 (wpAny_of_eq hlk ?_)))))));show wpAny _ _ (getAttrByItsOwn (.ref so) (.str "__init__" t) (.type "super") (.builtin "super.__getattribute__") true false) _ _ _;unfold getAttrByItsOwn hookBefore callGetattribute boundAndCalled;refine d0 (wpAny_of_eq (show (if onTheHeap (.type "super") then typeLookup (.type "super") "__getattr__" else pure none)=pure none from rfl) ?_);refine d0 (wpAny_attempt (wpAny_holding ?_));show wpAny _ _ (bindSpecial (.builtin "super.__getattribute__") (.ref so)>>=_) _ _ _;refine d0 (wpAny_of_eq (F.ks_slot_super_ga.bind _) ?_);refine wpAny_mono (Q:=fun v s'=>v= .ref h.objs.size/\s'=⟨h.push (wrapObj x),g,d,t+1,os⟩) (E:=fun _ _=>False)
  (wpAny_call_entry F.ks_slot_super_ga (hT _) F.ks_entry_super_ga (x25 hso hno hC hl X hf hx hc hi hxC ⟨_,rfl,rfl,rfl⟩) (F.ks_gaArgs_super _ _)) (fun v s' hv=>?_) fun _ _ z=>z.elim
 obtain ⟨rfl,rfl⟩:=hv;exact m0 (m0 hq)
theorem y25 {nm q:Str} {C N:Addr} {bs bm:List Value} {hdct:Bool} {sn:List Str} {sub:List Value} {ab:Bool} {col:Option Bool} {dd:Option Addr} {k0 k1 k2 k3 k5:Option Value} {newId:String}
  {x:Addr} {v:Value} {ox:Obj} {Q:Unit->Shared->Prop} (hC:h.get? C=some (excClassObj nm q C N bs bm hdct sn sub ab col dd k0 k1 k2 k3 k5 newId)) (hx:h.get? x=some ox) (hc:ox.cls= .ref C) (hq:Q () ⟨h,g,d,t,os⟩):wpAny (model prog w) A (checkBoundCall "Exception.__init__" ⟨[.ref x,v],[]⟩) Q E ⟨h,g,d,t,os⟩:=by
 have F:=PySem.F.excBase_Exception;have hr:=F.initRow;have hk:=F.initKind;unfold checkBoundCall;simp only [hr,hk]
 repeat (first | (with_reducible refine wpAny_loadPart_at hx ?_;rewrite [hc]) | with_reducible refine wpAny_loadPart_at hC ?_ | wp_step)
 all_goals exact hq
theorem o34 {nm q:Str} {C N:Addr} {bs bm:List Value} {hdct:Bool} {sn:List Str} {sub:List Value} {ab:Bool} {col:Option Bool} {dd:Option Addr} {k0 k1 k2 k3 k5:Option Value} {newId:String}
  {mw x:Addr} {ox:Obj} {vs:Array Value} {v:Value} {s:Shared} {Q:Value->Shared->Prop} (hC:s.heap.get? C=some (excClassObj nm q C N bs bm hdct sn sub ab col dd k0 k1 k2 k3 k5 newId)) (hm:s.heap.get? mw=some (wrapObj x)) (hx:s.heap.get? x=some ox) (hc:ox.cls= .ref C) (hd:ox.data= .fields vs) (hz:vs.size=6)
  (hq:Q .none {s with heap:=(s.heap.push {cls:= .type "tuple",data:= .seq #[v]}).update x (Obj.mapFields (·.setIfInBounds 0 (.ref s.heap.objs.size)))}):
  wpAny (model prog w) A (call (.ref mw) [v]) Q E s:=by
 have F:=PySem.F.excBase_Exception;refine wpAny_call (codeAny_of_tree ?_);show wpAny _ A.in1 (callAny (.ref mw) _) _ _ _;unfold callAny;refine d0 (wpAny_load hm ?_);dsimp only;refine d0 (y25 hC hx hc ?_);refine m0 ⟨Code.quiet_builtin _ (by decide+kernel),codeAny_builtin F.initEntry ?_⟩;unfold Builtin.«BaseException.__init__»;dsimp only;rw [if_neg (by simp)];unfold newTuple Builtin.BaseException.bexcPut;have hsz:0<vs.size:=by (exact fk s!"h-zAn6oyn0A" [] [_] rfl hz)
 have h0:vs[0]? =some vs[0]:=Array.getElem?_eq_some_iff.mpr ⟨hsz,rfl⟩;generalize vs[0]=V0 at h0;have he₁:=i3 (h:=s.heap) {cls:= .type "tuple",data:= .seq [v].toArray} hx;refine d0 (wpAny_newObj_type (d0 (d0 (wpAny_field he₁ hd h0 (d0 (wpAny_setField he₁ hd hsz ?_))))) (by size_fits));cases V0<;>first | exact wpAny_letGo (m0 hq) | exact m0 (m0 hq)
end
theorem p17:Slot "Exception" "__getattribute__" "BaseException.__getattribute__":= .of (owner:="BaseException") (n:="__getattribute__") (by rw [typeLookup_type,builtinLookup_eq_fast];kernel_rfl) (by decide+kernel) (by decide+kernel) (by decide+kernel)
 (by first | exact .inl (by decide+kernel) | exact .inr (by decide+kernel)) (by rw [isSubtype_type];kernel_rfl)
theorem p23:entryFor table "BaseException.__getattribute__"=some Builtin.«object.__getattribute__» :=entryFor_alias (id':="object.__getattribute__") (by rw [fastTable_eq_tree];kernel_rfl) (by first | rfl | decide+kernel) (by decide+kernel) (by rw [fastTable_eq_tree];kernel_rfl)
theorem z25 (a b:Value):argsOk "BaseException.__getattribute__" ⟨[a,b],[]⟩:=by unfold argsOk;kernel_rfl
theorem a26:builtinKind "BaseException.__getattribute__"=some .slot:=by decide+kernel
theorem q23:splitId "BaseException.__getattribute__"=some ("BaseException","__getattribute__"):=by decide+kernel
noncomputable def Y14:Value->Bool | .ref _=>true | _=>false
noncomputable def U7:List Value->Bool
 | []=>false
 | v::r=>Y14 v&&U7 r||(v::r)==[.type "Exception",.type "BaseException",.type "object"]
noncomputable def excIn (K:Frag) (C:Nat):Bool:=(clsIn K C).any fun cd=>U7 cd.mro&&cd.hasDict
noncomputable def T8 (K:Frag) (C x:Nat):Bool:=excIn K C&&findIn K (.ref C) "__getattribute__"==some (some (.builtin "BaseException.__getattribute__"))&&findIn K (.ref C) "__getattr__"==some none&&findIn K (.ref C) (N x)==some none
noncomputable def R8 (K:Frag) (C x:Nat):Bool:=excIn K C&&findIn K (.ref C) "__setattr__"==some (some (.builtin "object.__setattr__"))&&takerIn K C (N x)==some none
theorem q38 {v:Value} (h:Y14 v=true): ∃c,.ref c=v:=by cases v with | ref c=>exact ⟨c,rfl⟩ | _=>exact no_ft h
theorem p13 (self:Value) {l:List Value}:U7 l=true->refuseLoop self "__setattr__" l=pure ()/\l.contains (.type "object")=true/\l.contains (.type "BaseException")=true/\l.contains (.type "Exception")=true/\l.isEmpty=false:=by
 induction l with
 | nil=>exact fun e=>no_ft e
 | cons v r ih=>
  intro e;rcases (Bool.or_eq_true _ _).mp (show (Y14 v&&U7 r||(v::r)==[.type "Exception",.type "BaseException",.type "object"])=true from e) with e | e
  ·rw [z0] at e;obtain ⟨e1,e2⟩:=e;obtain ⟨c,rfl⟩:=q38 e1;rw [refuseLoop_ref];obtain ⟨h1,h2,h3,h4,h5⟩:=ih e2;exact ⟨h1,by rw [List.contains_cons,h2,Bool.or_true],by rw [List.contains_cons,h3,Bool.or_true],by rw [List.contains_cons,h4,Bool.or_true],rfl⟩
  ·rw [eq_of_beq e];exact ⟨PySem.F.store_Exception.passes self,by decide,by decide,by decide,rfl⟩
section
variable {X:Cx} {c:Cf} {σ:St} {E:Nat->St->Prop} {Q:AV->St->Prop}
theorem w41 {own:Nat->Option Nat} {h:Heap} {p:Nat} {C:Nat} {args:Bool} {fs:NS} (H:Holds X own h p (.exc (.ref C) args fs)): ∃ox od,InstAt h p ox C od/\ ∀x,(match fs.lookup x with | some v=> ∃o V,od=some o/\lookIn (N x) o=some (some V)/\ab V=v | none=>True):=by
 obtain ⟨vs,dd,sl,h1,h2,h5,h6,h7⟩:=H;cases dd with
 | none=>
  have h7:fs=[]:=h7;subst h7;exact ⟨_,none,⟨h1,rfl,rfl,trivial⟩,fun x=>trivial⟩
 | some dx=>
  obtain ⟨_,_,_,es,n,e1,e2⟩ | ⟨⟨_,q⟩,_⟩:=h7
  rotate_left
  ·cases q
  refine ⟨_,some (dictOf es n),⟨h1,rfl,rfl,e1⟩,fun x=>?_⟩;have:=g17 e2 x;cases hl:fs.lookup x with
  | none=>trivial
  | some v=>
   rw [hl] at this;obtain ⟨V,h1,h2⟩:=this;exact ⟨_,V,rfl,h1,h2⟩
theorem z48 {p C x:Nat} {args:Bool} {fs:NS} {v:AV} (e:σ.h p=some (.exc (.ref C) args fs)) (hx:fs.lookup x=some v) (ok:T8 X.K C x=true) (hv:v.plain=true) (h:Q v σ):WGA X c (.ref p) (N x) Q E σ:=fun V ex hV A s g R=>by
 refine of ?_;obtain rfl:=t10 hV;have RK:=R.inK;walk_at "o";obtain ⟨ox,od,I,hl⟩:=w41 (R.objs _ _ e).2;have hl:=hl x;rw [hx] at hl;obtain ⟨o,W,rfl,hW,rfl⟩:=hl;unfold T8 excIn at ok;simp only [z0,beq_iff_eq] at ok;obtain ⟨⟨⟨k1,k2⟩,k3⟩,k4⟩:=ok;obtain ⟨cd,hc,hm⟩:=any_some k1;simp only [z0] at hm;obtain ⟨r1,r2,r3,r4,r5⟩:=p13 (.ref p) hm.1;have hfo:findObj X.K C (some o) (N x)=some (.value W):=findObj_own (by unfold hasDictIn;rw [hc];exact hm.2) k4 rfl hW;obtain ⟨hh,gg,d,t,os⟩:=s;have L0:=I.type (M:=X.M);have L1:=looks_findIn (M:=X.M) RK k2;have L2:=looks_findIn (M:=X.M) RK k3;have L3:=looks_find (M:=X.M) RK I hfo;have sub:Looks X.M hh (isInstance (.ref p) (.type "BaseException")) true:=L0.andThen (looks_mroIn RK (by unfold mroIn;rw [hc,Option.bind_some,if_neg (by rw [r5];decide),r3]));unfold getAttr getAttrBy;refine d0 (wpAny_mkText (wpAny_holding (d0 (L0.at (d0 (L1.at ?_))))));show wpAny _ _ (getAttrByItsOwn (.ref p) (.str (N x) t) (.ref C) (.builtin "BaseException.__getattribute__") true ex) _ _ _;unfold getAttrByItsOwn hookBefore callGetattribute boundAndCalled;refine d0 (show wpAny _ _ (typeLookup (.ref C) "__getattr__") _ _ _ from L2.at ?_);refine d0 (wpAny_attempt (wpAny_holding ?_));have eb:(ex&&onTheHeap (.builtin "BaseException.__getattribute__"))=false:=by cases ex<;>rfl
 rw [eb];show wpAny _ _ (bindSpecial (.builtin "BaseException.__getattribute__") (.ref p)>>=_) _ _ _;refine d0 (wpAny_of_eq (p17.bind _) ?_);show wpAny _ _ (call (.builtin "BaseException.__getattribute__") [.ref p,.str (N x) t]) _ _ _;refine wpAny_call (codeAny_call_builtin (id:="BaseException.__getattribute__") p17.plain p23 (@check_slot X.M _ _ _ "BaseException.__getattribute__" "BaseException" "__getattribute__" (.ref p) [.str (N x) t] [] _ a26 q23 sub (z25 _ _) ?_));unfold Builtin.«object.__getattribute__»
 repeat (first | (with_reducible refine Looks.at L0 ?_) | (with_reducible refine Looks.at L3 ?_) | wp_step)
 show wpAny _ _ (handedOut W) _ _ _;rw [handedOut_of (d23 hv)];exact m0 ⟨σ,⟨own,R.toks _⟩,h⟩
open Builtin Builtin.ObjectAttr in
theorem a49 {p C x:Nat} {args:Bool} {v:AV} {Q:St->Prop} (e:σ.h p=some (.exc (.ref C) args [])) (ok:R8 X.K C x=true) (h:Q {σ with h:=upd σ.h p (.exc (.ref C) args [(x,v)])}):WSA X c (.ref p) (N x) v Q E σ:=fun V W hV hW A s g R=>by
 refine of ?_;obtain rfl:=t10 hV;have RK:=R.inK;walk_at "o";obtain ⟨vs,dd,sl,h1,h2,h5,h6,h7⟩:=(R.objs _ _ e).2;cases dd with
 | some dx=>exact h7.elim (fun h7=>absurd rfl h7.2.2.1) (fun h7=>nomatch h7.1)
 | none=>
 have I:InstAt s.heap p ⟨.ref C,none,.fields vs,sl⟩ C none:=⟨h1,rfl,rfl,trivial⟩;unfold R8 excIn at ok;simp only [z0,beq_iff_eq] at ok;obtain ⟨⟨k1,k2⟩,k3⟩:=ok;obtain ⟨cd,hc,hm⟩:=any_some k1;simp only [z0] at hm;obtain ⟨r1,r2,r3,r4,r5⟩:=p13 (.ref p) hm.1;refine set_plain RK I k2 ?_;have SF:=PySem.F.store_object;obtain ⟨hh,gg,d,t,os⟩:=s;dsimp only at RK R h1 I⊢;have L0:=I.type (M:=X.M);have hm':Looks X.M hh (mroOf (.ref C)) cd.mro:=(looks_clsIn RK hc).andThen .now;have sub:Looks X.M hh (isInstance (.ref p) (.type "object")) true:=L0.andThen (looks_mroIn RK (by unfold mroIn;rw [hc,Option.bind_some,if_neg (by rw [r5];decide),r2]));refine codeAny_call_builtin (id:="object.__setattr__") SF.slot.plain SF.entry (@check_slot X.M _ _ _ "object.__setattr__" "object" "__setattr__" (.ref p) [.str (N x) t,W] [] _ SF.kind SF.split sub (SF.args (.ref p) (.str (N x) t) W) ?_);obtain ⟨attr,ha,hr⟩:=Option.bind_eq_some_iff.mp k3;have L3:Looks X.M hh (storeTaker? attr) none:=by
  cases attr with
  | none=>exact .now
  | some a=>
   obtain ⟨b,hb,hbb⟩:=Option.map_eq_some_iff.mp hr;refine (looks_takesIn RK hb).andThen ?_;cases b with
   | false=>exact .now
   | true=>cases hbb
 rw [osa_eq,refuse_eq];refine d0 (d0 (L0.at (d0 (hm'.at ?_))));rw [r1];refine m0 (d0 (L0.at (d0 ((looks_findIn RK ha).at (d0 (L3.at ?_))))));dsimp only;show wpAny _ _ (storeInOwnDict (.ref p) (.ref C) (.str (N x) t) (N x) W attr.isSome) _ _ _;unfold storeInOwnDict ownStreamTells ownDictForStores instanceDict;refine d0 (m0 ?_);rw [if_neg (by intro q;exact Bool.noConfusion q)];refine d0 (d0 (wpAny_loadPart h1 ?_));dsimp only;refine d0 ((looks_clsIn RK hc).at ?_);rw [hm.2,if_neg (by decide)];rw [if_neg (by intro q;exact Bool.noConfusion q)];refine d0 (wpAny_alloc' ?_);have h1':=i3 (h:=hh) {cls:= .type "dict",data:= .dict #[]} h1;refine d0 (wpAny_update' h1' ?_);refine m0 ?_;have hxs:p≠hh.objs.size:=Nat.ne_of_lt (Heap.lt_size h1);have hgd:((hh.push {cls:= .type "dict",data:= .dict #[]}).update p fun o=>{cls:=o.cls,dict:=some hh.objs.size,data:=o.data,slots:=o.slots}).get? hh.objs.size=some (dictOf [] 0):=
  (Heap.get?_update_ne _ _ _ _ hxs.symm).trans (Heap.get?_push_at rfl rfl)
 have hgx:=Heap.get?_update_self (fun o=>{cls:=o.cls,dict:=some hh.objs.size,data:=o.data,slots:=o.slots}) h1' rfl;dsimp only;show wpAny _ _ (storeInDict hh.objs.size (.str (N x) t) (N x) W) _ _ _;unfold storeInDict newKeyGuard;refine d0 (m0 (d0 ?_));unfold nsSet;refine d0 (d0 (wpAny_askSetting (m0 (d0 (wpAny_mkText (d0 (wpAny_loadPart hgd ?_)))))));dsimp only;rw [aRefKeyMayBeTheName_at];rw [if_neg (by simp)];refine wpAny_updatePart hgd ?_;have Z8:=putName_dict (N x) (PyData.keyHash X.w.params (N x)) (.str (N x) (t+1)) W [] 0;have hfr:(dictOf (putL (N x) (PyData.keyHash X.w.params (N x)) (.str (N x) (t+1)) W []) (putN (N x) [] 0)).isFreed=false:=rfl;have o3':=Heap.get?_update_self (Obj.putName (N x) (PyData.keyHash X.w.params (N x)) (.str (N x) (t+1)) W) hgd (by rw [Z8];exact hfr);rw [Z8] at o3';refine d0 (wpAny_lookBehind o3' (pastItsLine_dict (by rw [sizeLine_eq];show 1<=_;decide)) ?_);refine m0 ?_;have hx2:=(Heap.get?_update_other _ (Obj.putName (N x) (PyData.keyHash X.w.params (N x)) (.str (N x) (t+1)) W) (Ne.symm hxs)).trans hgx;have kk: ∀b y,b≠p->hh.get? b=some y->(((hh.push {cls:= .type "dict",data:= .dict #[]}).update p fun o=>{cls:=o.cls,dict:=some hh.objs.size,data:=o.data,slots:=o.slots}).update hh.objs.size (Obj.putName (N x) (PyData.keyHash X.w.params (N x)) (.str (N x) (t+1)) W)).get? b=some y:=fun b y hb hy=>
  (Heap.get?_update_ne _ _ _ _ (Nat.ne_of_lt (Heap.lt_size hy))).trans ((Heap.get?_update_ne _ _ _ _ hb).trans (i3 _ hy))
 have H: ∀own',(∀q,own q=some p->own' q=some p)->(∀q∈[hh.objs.size],own' q=some p)->Holds X own' (((hh.push {cls:= .type "dict",data:= .dict #[]}).update p fun o=>{cls:=o.cls,dict:=some hh.objs.size,data:=o.data,slots:=o.slots}).update hh.objs.size (Obj.putName (N x) (PyData.keyHash X.w.params (N x)) (.str (N x) (t+1)) W)) p (.exc (.ref C) args [(x,v)]):=fun own' h8 h9=>by
  refine ⟨vs,some hh.objs.size,sl,hx2,h2,h5,?_,.inl ⟨h9 _ (.head _),hxs.symm,by simp,_,_,o3',?_⟩⟩
  ·rcases h6 with h6 | ⟨T,ts,oT,a1,a2,a3,a4,a5⟩
   ·exact .inl h6
   ·exact .inr ⟨T,ts,oT,a1,h8 _ a2,a3,kk _ _ a3 a4,a5⟩
  ·exact .cons ⟨⟨_,rfl⟩,hW⟩ .nil
 obtain ⟨own',R',_⟩:=R.O11 (tk:=t+1+1) (o:= .exc (.ref C) args [(x,v)]) (h':=((hh.push {cls:= .type "dict",data:= .dict #[]}).update p fun o=>{cls:=o.cls,dict:=some hh.objs.size,data:=o.data,slots:=o.slots}).update hh.objs.size (Obj.putName (N x) (PyData.keyHash X.w.params (N x)) (.str (N x) (t+1)) W)) [hh.objs.size] e
  (fun b y hb hy=>kk b y (fun q=>hb (q▸(R.objs _ _ e).1)) hy) (fun q hq=>by
   by_cases z:q=p
   ·subst z;exact ⟨_,hx2⟩
   ·obtain ⟨y,hy⟩:=(R.owned q p hq).1;exact ⟨y,kk _ _ z hy⟩) (fun q hq=>by
   obtain rfl:=List.mem_singleton.mp hq;exact ⟨l6 (Nat.le_refl _),_,o3'⟩) H
 exact ⟨_,⟨own',R'⟩,h⟩
end
noncomputable def M6 (K:Frag) (C:Nat):Bool:=excIn K C&&typeIn K (.ref C)==some (.type "type")
section
variable {X:Cx} {c:Cf} {σ:St} {E:Nat->St->Prop} {Q:AV->St->Prop}
theorem b30 {p C:Nat} {cx:Bool} {fs:NS} {A:Around} {s:Shared} {α:Type} {Qf:Flow->Shared->Prop} {Ef:Value->Shared->Prop} (g:c.Good A) (R:O1 X c σ s) (e:σ.h p=some (.exc (.ref C) cx fs)) (ok:M6 X.K C=true)
  (h: ∀s',O1 X c σ s'->wpAny X.M A (raiseNew (.ref p):Sem Flow) Qf Ef s'):wpAny X.M A (raiseStmt c.env (some (pure (.ref p))) none) Qf Ef s:=by
 have RK:=R.inK;obtain ⟨own,R0⟩:=R;obtain ⟨ox,od,I,hl⟩:=w41 (R0.objs _ _ e).2;obtain ⟨vs,dd,sl,h1,_⟩:=(R0.objs _ _ e).2;unfold M6 excIn at ok;simp only [z0,beq_iff_eq] at ok;obtain ⟨k1,k2⟩:=ok;obtain ⟨cd,hc,hm⟩:=any_some k1;simp only [z0] at hm;obtain ⟨r1,r2,r3,r4,r5⟩:=p13 (.ref p) hm.1;obtain ⟨hh,gg,d,t,os⟩:=s;dsimp only at RK R0 h1 I⊢;have L0:=I.type (M:=X.M);have LT:=looks_typeIn (M:=X.M) RK k2;have sub:Looks X.M hh (isInstance (.ref p) (.type "BaseException")) true:=L0.andThen (looks_mroIn RK (by unfold mroIn;rw [hc,Option.bind_some,if_neg (by rw [r5];decide),r3]));unfold raiseStmt;refine d0 (m0 ?_);refine d0 (m0 ?_);refine d0 (wpAny_holding ?_);unfold excFromValue isExcClass;refine d0 (d0 (ks_wpAny_isType_inst h1 (fun c q=>by cases q) ?_));rw [if_neg (by decide)];refine m0 ?_;rw [if_neg (by decide)];refine d0 (sub.at ?_);rw [if_pos rfl];refine m0 ?_;dsimp only;refine d0 (ks_wpAny_isType_inst h1 (fun c q=>by cases q) ?_);rw [if_neg (by decide)];unfold raisedInstance;refine d0 (d0 (L0.at (d0 (LT.at ?_))));rw [if_pos (by decide)];refine m0 ?_;exact d0 (v11 (c:=c) ⟨own,R0⟩ e fun s' R' _=>h s' R')
theorem p34 {p C:Nat} {cx:Bool} {fs:NS} (hd:c.hd=none) (e:σ.h p=some (.exc (.ref C) cx fs)) (ok:M6 X.K C=true) (h:E p σ):O8 X c (.ref p) E σ:=fun v hv A s g R=>by
 refine of ?_;obtain rfl:=t10 hv;refine b30 (α:=Unit) g R e ok fun s' R'=>wpAny_raiseNew_none (g.hd.trans hd) ⟨p,σ,rfl,⟨_,_,_,e⟩,R',h⟩
end
noncomputable def bmX:List Value:=[.type "Exception",.type "BaseException",.type "object"]
def Q5 (K:Frag) (C:Nat) (bm:List Value):Prop:= ∃nm q N bs hdct sn sub ab col dd k0 k1 k2 k3 k5,K.lookup C=some (excClassObj nm q C N bs bm hdct sn sub ab col dd k0 k1 k2 k3 k5 "Exception.__new__")
noncomputable def N6 (K:Frag) (C fI:Nat):Bool:=specialIn K (.ref C) "__call__"==some (some (.builtin "type.__call__"))&&instIn K (.ref C) (.type "type")==some true&&findIn K (.ref C) "__init__"==some (some (.ref fI))&&typeIn K (.ref fI)==some (.type "function")&&mroIn K C (.ref C)==some true
section
variable {X:Cx} {c:Cf} {σ:St} {E:Nat->St->Prop} {Q:AV->St->Prop}
theorem q44 {C fI n:Nat} {as:List AV} {kw:List (Str×AV)} (hZ:X.Z=false) (hx:Q5 X.K C bmX) (ok:N6 X.K C fI=true) (hn:c.n=n+1) (hl:as.length<=1000)
  (h: ∀x,σ.h x=none->P0 X (c.down n) (.ref fI) (.ref x::as) kw (fun v σ'=>v= .none/\Q (.ref x) σ') E {σ with h:=upd σ.h x (.exc (.ref C) true [])}):P0 X c (.ref C) as kw Q E σ:=fun F vs kws hF hvs hks A s g R=>by
 obtain rfl:=t10 hF;unfold N6 at ok;simp only [z0,beq_iff_eq] at ok;obtain ⟨⟨⟨⟨k2,k3⟩,k4⟩,k5⟩,k6⟩:=ok;obtain ⟨nm,q,N,bs,hdct,sn,sub,ab',col,dd,j0,j1,j2,j3,j5,hC⟩:=hx;have RK:=R.inK;walk_at "o";obtain ⟨w1,w2,w3⟩:=l23 ⟨.ref C::vs,kws⟩;have g':(c.down n).Good (A.under (.builtin "type.__call__" ⟨.ref C::vs,kws⟩)):=g.lower hn (by show A.depth+_<=_;(exact fk s!"hxAn1oxaBAaBn20" [] [_,_] rfl w1)) (by show A.units+_<=_;rw [w2];(exact fk s!"oxaAn1aAn200" [] [_] rfl)) (by unfold Around.under;dsimp only;rw [w3];rfl) rfl;obtain ⟨hh,gg,d,t,os⟩:=s;dsimp only at RK R⊢;have hvl:vs.length=as.length:=by rw [<-hvs];simp
 refine ofC ?_;refine n38 PySem.F.excBase_Exception (RK _ _ hC) RK k2 k3 k4 k5 k6 ?_ (by rw [sizeLine_eq];(exact fk s!"hxAn1000hzBAoxBn16777216" [] [_,_] rfl hl hvl));have kk: ∀b o,hh.get? b=some o->((hh.push {cls:= .type "tuple",data:= .seq vs.toArray}).push {cls:= .ref C,data:= .fields #[.ref hh.objs.size,.none,.none,.none,.bool false,.none]}).get? b=some o:=fun b o e=>i3 _ (i3 _ e);have hx:((hh.push {cls:= .type "tuple",data:= .seq vs.toArray}).push {cls:= .ref C,data:= .fields #[.ref hh.objs.size,.none,.none,.none,.bool false,.none]}).get? (hh.objs.size+1)=some {cls:= .ref C,data:= .fields #[.ref hh.objs.size,.none,.none,.none,.bool false,.none]}:=by heap_get
 have hd:((hh.push {cls:= .type "tuple",data:= .seq vs.toArray}).push {cls:= .ref C,data:= .fields #[.ref hh.objs.size,.none,.none,.none,.bool false,.none]}).get? hh.objs.size=some {cls:= .type "tuple",data:= .seq vs.toArray}:=by heap_get
 have hn1:hh.get? (hh.objs.size+1)=none:=l6 (Nat.le_succ _);obtain ⟨own',R'⟩:=R.alloc (tk:=t) (o:= .exc (.ref C) true []) (a:=hh.objs.size+1) [hh.objs.size] kk hn1 ⟨_,hx⟩ (fun q hq=>by
  obtain rfl:=List.mem_singleton.mp hq;exact ⟨l6 (Nat.le_refl _),⟨_,hd⟩,by (exact fun q5=>fk κ4 [] [_] rfl q5)⟩) (fun own' h1 h2=>⟨#[.ref hh.objs.size,.none,.none,.none,.bool false,.none],none,#[],hx,rfl,fun _=>rfl,.inl rfl,rfl⟩)
 have hlt:=(R.fresh hn1).1;have hw:=h (hh.objs.size+1) hlt (.ref fI) (.ref (hh.objs.size+1)::vs) kws rfl (by rw [v5,hvs];rfl) hks _ _ g' ⟨own',R'⟩;rw [hZ] at hw;refine codeAny_mono (Y8 hw) fun r s' q=>?_;rcases r with e | (_ | _ | _ | v)
 ·exact q
 ·exact q
 ·exact q
 ·exact q
 ·obtain ⟨σ',R'',q1,q2⟩:=q;exact ⟨(x13 q1).symm,σ',R'',q2⟩
theorem x41 {C fI n:Nat} {as:List AV} {kw:List (Str×AV)} (hx:Q5 X.K C bmX) (ok:N6 X.K C fI=true) (hn:c.n=n+1) (hl:as.length<=1000)
  (h: ∀x,σ.h x=none->P0 X.off (c.down n) (.ref fI) (.ref x::as) kw (fun v σ'=>v= .none/\Q (.ref x) σ') E {σ with h:=upd σ.h x (.exc (.ref C) true [])}):P0 X c (.ref C) as kw Q E σ:=P0.on (q44 (X:=X.off) rfl hx ok hn hl h)
end
def J11 (msg:Nat) (b:List Stmt):Prop:= ∃p0 p1 ap mp pos sp rest,(ap.endLine==pos.line)=true/\b= .Expr (.Call (.Attribute (.Call (.Name "super" p0) [] [] p1) "__init__" ap) [.Name (N msg) mp] [] pos) sp::rest
structure Q11 (K:Frag) (prog:Program) (fI self cc D C:Nat):Prop where
 ar:((fdK K fI).params.posonlyargs++(fdK K fI).params.args).head?.any (fun a=>a.arg==N self)=true
 fl: ∃cda oc vs f t,(fdK K fI).code= .ref cda/\K.lookup cda=some oc/\oc.data= .fields vs/\vs[2]? =some (.str f t)/\((prog.main.file:Str)==f)=true
 no:(prog.main.scope.names.lookup ("super":Str)).isNone=true
 ce: ∃o,K.lookup cc=some o/\o.data= .cell (some (.ref D))
 de: ∃oD cdD,K.lookup D=some oD/\oD.data= .cls cdD
 mr:mroIn K C (.ref D)=some true
 op:nsIn K cStatics "thirdparty.any"=some none
 al: ∃cd,clsIn K C=some cd/\alongIn K "__init__" ((cd.mro.dropWhile (· != .ref D)).drop 1)=some (some (.builtin "Exception.__init__"))/\cd.mro.contains (.type "Exception")=true
 su:nsIn K mainGlobals "super"=some none
theorem X13:N `super=("super":Str):=s!"."
theorem R10:N `__class__=("__class__":Str):=s!"."
theorem q34 {X:Cx} (hl:X.live=true) (h:nsIn X.K mainGlobals "super"=some none):X.mg "super"=none/\X.mb "super"=some (.type "super"):=
 ⟨mg_none_of X.inK X.gns h,(X.bts hl _ (by decide+kernel)).trans s!"."⟩
theorem r38 {p0 p1 ap mp pos:Pos} {m:Str} {env:Env} (h:(ap.endLine==pos.line)=true):eval (.Call (.Attribute (.Call (.Name "super" p0) [] [] p1) "__init__" ap) [.Name m mp] [] pos) env=(do
   let ov<-attributeBase (.Call (.Name "super" p0) [] [] p1) "__init__" env (eval (.Call (.Name "super" p0) [] [] p1) env)
   standAt ap.atName
   let (f,first)<-holding [ov] (getMethod ov "__init__" (do return (<-importBound (.Call (.Name "super" p0) [] [] p1) env).getD true))
   callWith pos f first (backTo pos (starEach [.Name m mp] env)) []):=by
 rw [arm_eval_Call];unfold methodCall;rw [show methodCallForm ([Expr.Name m mp].length+([]:List Keyword).length) (backTo pos (starEach [.Name m mp] env)) (backToKw pos (keywordEach [] env))=true from rfl];unfold calleeOf methodCallPos;simp only [h,Bool.not_true,Bool.or_true,if_true,pure_bind];rfl
section
variable {X:Cx} {c:Cf} {σ:St} {E:Nat->St->Prop} {Q:AV->St->Prop}
theorem n28 {fI n self msg cc D C p:Nat} {ks:List (Nat×NameKind)} {G:List (Nat×AV)} {as:List AV} {kw:List (Str×AV)} {l:NS} {code:List Tr} {m:AV} {cx:Bool}
  (hZ:X.Z=false) (hlive:X.live=true) (F:Fn X fI (fdK X.K fI) ks [(`__class__,cc)] (Z2 X.K fI)) (hG: ∀k v,G.lookup k=some v->Glo X k v) (hbd:J11 msg (Z2 X.K fI)) (hx:Q5 X.K C ((clsIn X.K C).elim [] (·.mro)).tail) (ok:Q11 X.K X.prog fI self cc D C) (hcode:J5 ks G (Z2 X.K fI).tail=code) (hn:c.n=n+1)
  (hb:Binds X (fdK X.K fI) as kw l) (hks:ks.lookup `super=some .globalImplicit/\ks.lookup `__class__=some .free/\ks.lookup self=some .local/\ks.lookup msg=some .local/\(N msg==("__debug__":Str))=false)
  (hself:l.lookup self=some (.ref p)) (hmsg:l.lookup msg=some m) (e:σ.h p=some (.exc (.ref C) cx []))
  (h: ∀c',c'.n=n->c'.ks=ks->c'.hd=c.hd->Go (run X c' (G13 Q σ.loc) (P14 Q E σ.loc) code [] {σ with loc:=l})):P0 X c (.ref fI) as kw Q E σ:=by
 refine P0.up ?_;intro F' vs kws hF hvs hks' A s g R;obtain rfl:=t10 hF;obtain ⟨binds,hbi,hl,hloc⟩:=hb vs kws s hvs hks' R.inK;obtain ⟨o,ho,hd⟩:=F.at_;obtain ⟨s2,⟨cda,oc,cvs,file,tf,hcda,hcc,hcd,hcv,hfile⟩,s4,⟨ocell,hce,hcel⟩,⟨oD,cdD,hD1,hD2⟩,s7,s8,⟨cd,hcC,s10,s12⟩,s11⟩:=ok;obtain ⟨p0,p1,ap,mp,pos,sp,rest,hposn,hbody⟩:=hbd;obtain ⟨ar,har,hara⟩:=any_some s2;rw [beq_iff_eq] at hara;have RK:=R.inK;walk_at "o";obtain ⟨k1,k2,k3,k4,k5⟩:=hks;obtain ⟨nm,qq,NN,bs,hdct,sn,sub,ab',col,dd',j0,j1,j2,j3,j5,hC⟩:=hx;obtain ⟨hg1,hg2⟩:=q34 hlive s11;refine ofC ?_;refine ks_codeAny_call_defAt (fd:=fdK X.K fI) (body:=Z2 X.K fI) (binds:=binds) (by have:=g.depth;rw [hn] at this;show A.depth<1000;(exact fk κ12 [] [_,_,_] rfl hn this)) (R.base _ _ ho) hd (X.lim.keeps R.base) (F.code.keeps R.base) F.body hbi (fun x hx=>?_) hloc (fun h' hns hk'=>?_) F.co F.gen F.kind
 ·rw [F.names] at hx;obtain ⟨q,hq,rfl⟩:=List.mem_map.mp hx;exact F.nocell q hq
 ·have g':(c.inn σ.loc n ks [(`__class__,cc)] (callEnv (fdK X.K fI) s.heap.objs.size fI)).Good (A.deeper (callEnv (fdK X.K fI) s.heap.objs.size fI)):=g.inn hn F.kind F.names (fun x a e=>by show (fdK X.K fI).closure.lookup (N x)=_;rw [F.clo,n13];exact e) F.gl F.bi rfl;obtain ⟨own',R'⟩:=R.enter (tk:=s.toks+binds.length) (L:=s.heap.objs.size) (l:=l) hk' (l6 (Nat.le_refl _)) ⟨_,hns,fun x v hx=>by
   have:=a14 _ _ hl x;rw [hx] at this;exact Option.map_eq_some_iff.mp this⟩
  rw [hbody];have RK':X.K.In h':=fun a o ea=>hk' _ _ (RK a o ea);obtain ⟨m',hm',hlk⟩:=(R'.frs _ (.head _)).2.2;obtain ⟨Vp,hVp,hVp'⟩:=hlk _ _ hself;obtain rfl:=t10 hVp';obtain ⟨Vm,hVm,rfl⟩:=hlk _ _ hmsg;obtain ⟨vs1,dd1,sl1,x1,x2,x5,x6,x7⟩:=(R'.objs _ _ e).2;have hsuper:(callEnv (fdK X.K fI) s.heap.objs.size fI).kindOf "super"=some .globalImplicit:=X13▸g'.ok.ks _ _ k1;have hclass:(callEnv (fdK X.K fI) s.heap.objs.size fI).kindOf "__class__"=some .free:=R10▸g'.ok.ks _ _ k2;have hsf:=g'.ok.ks _ _ k3;have hmg:=g'.ok.ks _ _ k4;have hcell:(callEnv (fdK X.K fI) s.heap.objs.size fI).cells.lookup ("__class__":Str)=some cc:=R10▸g'.ok.cs _ _ (by rfl);refine ks_wpAt_execs_cons (ks_wpAt_Expr_any (ks_wpAt_MethodCall (ks_wpAt_super_base hsuper hclass (by decide+kernel) rfl (hk' _ _ (R.base _ _ ho)) hd har hcda (RK' _ _ hcc) hcd hcv hfile (by simpa using s4) ?_) (r38 hposn)) (d13 F.kind));refine ks_loadName_global F.kind hsuper (loadGlobal_builtin (by show h'.Ns (fdK X.K fI).globals X.mg;rw [F.gl];exact X.gns.keeps fun b o eb=>hk' _ _ (R.base _ _ eb)) hg1 (by show h'.Ns (fdK X.K fI).builtins X.mb;rw [F.bi];exact X.bns.keeps fun b o eb=>hk' _ _ (R.base _ _ eb)) hg2 ⟨rfl,?_⟩);refine wpAny_loadName_free F.kind hclass hcell ⟨_,RK' _ _ hce,hcel⟩ ?_ (by decide+kernel);rw [hara];refine wpAny_loadName_local F.kind hsf hm' hVp ?_;refine ks_wpAny_isType_cls (RK' _ _ hD1) hD2 ⟨rfl,?_⟩;have hpC:p≠C:=fun q=>by
   have:=RK' _ _ hC;rw [<-q,x1] at this;cases this
  refine ks_wpAny_call_super (RK' _ _ hD1) hD2 x1 rfl (fun c e=>by cases e) (looks_mroIn RK' s7) (fun h2 e2 kk2=>?_);have RK2:X.K.In h2:=fun a o ea=>kk2 _ _ (RK' _ _ ea);have hne: ¬cd.mro.isEmpty=true:=fun q=>by
   have q':cd.mro=[]:=by simpa using q
   rw [q'] at s12;cases s12
  have sub:Looks X.M h2 (isSubtype (.ref C) (.type "Exception")) true:=looks_mroIn (M:=X.M) RK2 (C:=C) (base:= .type "Exception") (r:=true) (by unfold mroIn;rw [hcC,Option.bind_some,if_neg hne,s12]);refine p38 e2 (looks_opaque RK2 s8) ((looks_clsIn RK2 hcC).andThen .now) rfl RK2 s10 (kk2 _ _ x1) rfl sub hpC ?_;dsimp only;have up: ∀b o,h'.get? b=some o->(h2.push (wrapObj p)).get? b=some o:=fun b o eb=>i3 _ (kk2 _ _ eb);have hmw:(h2.push (wrapObj p)).get? h2.objs.size=some (wrapObj p):=y3 _ rfl;generalize h2.push (wrapObj p)=h3 at up hmw⊢;refine callWith_of (P:=fun hh=>hh=h3) rfl (fun hh eh=>⟨.machine,.inr (.inl rfl),?_⟩) (Q8 (f19 rfl rfl (of (wpAny_items_cons (wpAny_Name (wpAny_loadName_local F.kind hmg (m:=m') ?_ hVm (wpAny_items_nil (m10 ⟨rfl,?_⟩))) k5) rfl))))
  ·subst eh;exact (Looks.ld hmw).andThen .now
  ·obtain ⟨o,es,ep,z1,z2⟩:=hm';exact ⟨o,es,ep,up _ _ z1,z2⟩
  ·have hC3:h3.get? C=_:=up _ _ (RK' _ _ hC);refine o34 hC3 hmw (up _ _ x1) rfl rfl x2 ?_;dsimp only;have R2:=R'.keeps (h':=h3) (tk:=s.toks+binds.length+1) (d:=s.drawn) (g:=s.gens) up R'.bare;have hup:p≠h3.objs.size:=Nat.ne_of_lt (Heap.lt_size (up _ _ x1));have hgx:=Heap.get?_update_self (Obj.mapFields (·.setIfInBounds 0 (.ref h3.objs.size))) (i3 (h:=h3) {cls:= .type "tuple",data:= .seq #[Vm]} (up _ _ x1)) rfl;have hgt:((h3.push {cls:= .type "tuple",data:= .seq #[Vm]}).update p (Obj.mapFields (·.setIfInBounds 0 (.ref h3.objs.size)))).get? h3.objs.size=some {cls:= .type "tuple",data:= .seq #[Vm]}:=
    (Heap.get?_update_other _ _ hup).trans (y3 _ rfl)
   have kk: ∀b y,b≠p->h3.get? b=some y->((h3.push {cls:= .type "tuple",data:= .seq #[Vm]}).update p (Obj.mapFields (·.setIfInBounds 0 (.ref h3.objs.size)))).get? b=some y:=fun b y hb hy=>
    (Heap.get?_update_other _ _ (Ne.symm hb)).trans (i3 _ hy)
   generalize (h3.push _).update p _=h4 at hgx hgt kk⊢;have H: ∀own2,(∀q,own' q=some p->own2 q=some p)->(∀q∈[h3.objs.size],own2 q=some p)->Holds X own2 h4 p (.exc (.ref C) cx []):=fun own2 y1 y2=>by
    refine ⟨vs1.setIfInBounds 0 (.ref h3.objs.size),dd1,sl1,hgx,by simpa using x2,fun q=>?_,?_,?_⟩
    ·rw [Array.getElem?_setIfInBounds_ne (by decide)];exact x5 q
    ·rw [Array.getElem?_setIfInBounds_ne (by decide)];rcases x6 with x6 | ⟨T,ts,oT,b1,b2,b3,b4,b5⟩
     ·exact .inl x6
     ·exact .inr ⟨T,ts,oT,b1,y1 _ b2,b3,kk _ _ b3 (up _ _ b4),b5⟩
    ·cases dd1 with
     | none=>rfl
     | some dx=>exact x7.elim (fun x7=>absurd rfl x7.2.2.1) (fun x7=>nomatch x7.1)
   obtain ⟨own2,R3,_⟩:=R2.O11 (tk:=s.toks+binds.length+1) (h':=h4) (o:= .exc (.ref C) cx []) [h3.objs.size] e
    (fun b y hb hy=>kk b y (fun q=>hb (q▸(R'.objs _ _ e).1)) hy) (fun q hq=>by
     by_cases z:q=p
     ·subst z;exact ⟨_,hgx⟩
     ·obtain ⟨y,hy⟩:=(R2.owned q p hq).1;exact ⟨y,kk _ _ z hy⟩) (fun q hq=>by
     obtain rfl:=List.mem_singleton.mp hq;exact ⟨l6 (Nat.le_refl _),_,hgt⟩) H
   rw [m33 _ e] at R3;have hc':=(h (c.inn σ.loc n ks [(`__class__,cc)] (callEnv (fdK X.K fI) s.heap.objs.size fI)) rfl rfl rfl).out;have hr:=l14 (L14 hG 20 (c.inn σ.loc n ks [(`__class__,cc)] (callEnv (fdK X.K fI) s.heap.objs.size fI)) rfl) rest _ _ _ _ (by rw [hbody] at hcode;rw [<-hcode] at hc';exact hc');have hr2:=hr _ _ g' ⟨own2,R3⟩;rw [hZ] at hr2;refine wpAt_of_wpAny (wpAny_mono (Q8 hr2) (fun fl s' hp1=>U0 hp1 fun σ' R4 q=>?_) (fun V s' hp2=>H9 hp2 fun a σ' e1 hp3 R4 q=>Y9 hp3 fun C1 args1 fs1 hx1=>?_))
   ·refine ⟨σ'.back σ.loc,R4.leave,?_⟩;cases fl<;>exact q
   ·subst e1;exact b23 g' R4 hx1 fun s'' R5=>⟨a,σ'.back σ.loc,rfl,⟨C1,args1,fs1,hx1⟩,R5.leave,q⟩
end
def HGe (S:List Nat) (h h':Nat->Option W0):Prop:= ∀a o,a∉S->h' a=some o->h a=some o
theorem a15 {S:List Nat} {h:Nat->Option W0}:HGe S h h:=fun _ _ _ e=>e
theorem r34 {S:List Nat} {h h':Nat->Option W0} {a:Nat} {o:W0} (ha:h' a=none) (k:HGe S h h'):HGe S (upd h a o) h':=fun b x hb e=>by
 by_cases q:b=a
 ·subst q;rw [ha] at e;cases e
 ·rw [c11 _ _ q];exact k b x hb e
theorem s34 {S:List Nat} {h h':Nat->Option W0} {a:Nat} {o:W0} (ha:a∈S) (k:HGe S h h'):HGe S (upd h a o) h':=fun b x hb e=>by
 by_cases q:b=a
 ·subst q;exact absurd ha hb
 ·rw [c11 _ _ q];exact k b x hb e
theorem t34 {S:List Nat} {h h':Nat->Option W0} {a:Nat} {o:W0} (ha:h a=some o) (k:HGe (a::S) h h'):HGe S h (upd h' a o):=fun b x hb e=>by
 by_cases q:b=a
 ·subst q;rw [i10] at e;cases e;exact ha
 ·rw [c11 _ _ q] at e;exact k b x (fun z=>by rcases List.mem_cons.mp z with z | z;exact q z;exact hb z) e
theorem r44 {S:List Nat} {h h':Nat->Option W0} {a:Nat} (ha:h' a=none\/a∈S) (k:HGe S h h'):HGe S (del h a) h':=fun b x hb e=>by
 by_cases q:b=a
 ·subst q;rcases ha with ha | ha
  ·rw [ha] at e;cases e
  ·exact absurd ha hb
 ·show (if b=a then none else h b)=_;rw [if_neg q];exact k b x hb e
def LGe (l l':NS):Prop:= ∀x v,l'.lookup x=some v->l.lookup x=some v
theorem s44 {l:NS}:LGe l []:=fun _ _ e=>by cases e
theorem s38 {l:NS}:LGe l l:=fun _ _ e=>e
theorem t38 {l l':NS} {x:Nat} {v:AV} (h:l.lookup x=some v) (k:LGe l l'):LGe l ((x,v)::l'):=fun y w e=>by
 by_cases q:y=x
 ·subst q;rw [l11] at e;cases e;exact h
 ·rw [x12 _ _ q] at e;exact k y w e
theorem t44 {σ σ':St} (h:HGe [] σ.h σ'.h) (k:LGe σ.loc σ'.loc):σ.ge σ':=⟨fun a o e=>h a o (by simp) e,k⟩
theorem r12 {σ σ':St} {Q:St->Prop} (h:HGe [] σ.h σ'.h) (k:LGe σ.loc σ'.loc) (q:Q σ'):Up Q σ:=⟨σ',t44 h k,q⟩
theorem upA {σ σ':St} {Q:St->Prop} (q:Q σ') (h:HGe [] σ.h σ'.h:=by walk_at "gp0") (k:LGe σ.loc σ'.loc:=by walk_at "lp0"):Up Q σ:=⟨σ',t44 h k,q⟩
theorem upB {σ σ':St} {Q:St->Prop} {a:Nat} {C:Value} {cx:Bool} {fs:NS} (e:σ'.h a=some (.exc C cx fs)) (q:Q σ') (h:HGe [] σ.h σ'.h:=by walk_at "gp0") (k:LGe σ.loc σ'.loc:=by walk_at "lp0"):UpE a Q σ:=⟨σ',t44 h k,⟨_,_,_,e⟩,q⟩
theorem i11 {H:Nat->Option W0} {a p:Nat} {o:W0} (h1:H a=none) (h2:H p=some o):p≠a:=fun q=>by rw [q,h1] at h2;cases h2
theorem b49 {H:Nat->Option W0} {a p:Nat} {o o':W0} (h1:H p=some o) (h2:H a=some o') (hn:o=o'->False):p≠a:=fun q=>by rw [q,h2] at h1;exact hn (w5 h1).symm
theorem b15 {H:Nat->Option W0} {a p:Nat} {o:W0} {r:Option W0} (h1:p≠a) (h2:H p=r):upd H a o p=r:=(c11 _ _ h1).trans h2
structure Ap (a b:Nat):Prop where
 ne:a≠b
theorem l10 {H:Nat->Option W0} {a b:Nat} {o:W0} (h:upd H b o a=none):Ap a b/\H a=none:=by
 by_cases q:a=b
 ·subst q;rw [i10] at h;cases h
 ·exact ⟨⟨q⟩,by rw [c11 _ _ q] at h;exact h⟩
section
variable {X:Cx} {c:Cf} {P:PT} {K:KT} {σ:St} {H:Nat->Option W0} {L:NS} {vs:List AV} {r:List Tr} {a b d:AV}
theorem z10 (h:K vs σ):Go (run X c K P [] vs σ):=by
 refine ⟨?_⟩;exact h
theorem r23 (h:Go (run X c K P r (a::vs) σ)):Go (run X c K P (I.push a::r) vs σ):=⟨by have h:=h.out;exact h⟩
theorem a53 {x:Nat} (e:L.lookup x=some a) (h:Go (run X c K P r (a::vs) (⟨H,L⟩:St))):Go (run X c K P (I.ld x::r) vs (⟨H,L⟩:St)):=by
 refine ⟨?_⟩;have h:=h.out;show (match L.lookup x with | some v=>run X c K P r (v::vs) (⟨H,L⟩:St) | none=>False);rw [e];exact h
theorem b53 {x p:Nat} (e:c.cs.lookup x=some p) (e2:H p=some (.cell (some a))) (h:Go (run X c K P r (a::vs) (⟨H,L⟩:St))):Go (run X c K P (I.ldc x::r) vs (⟨H,L⟩:St)):=by
 refine ⟨?_⟩;have h:=h.out;show (match c.cs.lookup x with | some p=>(∃v,H p=some (.cell (some v))/\run X c K P r (v::vs) (⟨H,L⟩:St)) | none=>False);rw [e];exact ⟨a,e2,h⟩
theorem o55 {x:Nat} (h:Go (run X c K P r vs ⟨H,(x,a)::L⟩)):Go (run X c K P (I.st x::r) (a::vs) (⟨H,L⟩:St)):=⟨by have h:=h.out;exact h⟩
theorem c53 {x p:Nat} {v₀:Option AV} (e:c.cs.lookup x=some p) (e2:H p=some (.cell v₀)) (h:Go (run X c K P r vs ⟨upd H p (.cell (some a)),L⟩)):Go (run X c K P (I.stc x::r) (a::vs) (⟨H,L⟩:St)):=by
 refine ⟨?_⟩;have h:=h.out;show (match c.cs.lookup x with | some p=>(∃v₀,H p=some (.cell v₀))/\run X c K P r vs ⟨upd H p (.cell (some a)),L⟩ | none=>False);rw [e];exact ⟨⟨_,e2⟩,h⟩
theorem d53 {o:Operator} (h:W14 X c o a b (fun v=>run X c K P r (v::vs)) (fx P) σ):Go (run X c K P (I.bin o::r) (b::a::vs) σ):=by
 refine ⟨?_⟩;exact h
theorem U15 {x y:Int} (h:Go (run X c K P r (.int (x+y)::vs) σ)):Go (run X c K P (I.bin .Add::r) (.int y:: .int x::vs) σ):=⟨by have h:=h.out;exact h⟩
theorem e53 {x y:Int} (h:Go (run X c K P r (.int (x-y)::vs) σ)):Go (run X c K P (I.bin .Sub::r) (.int y:: .int x::vs) σ):=⟨by have h:=h.out;exact h⟩
theorem f53 {x y:Int} (e:IntMulOk x y) (h:Go (run X c K P r (.int (x*y)::vs) σ)):Go (run X c K P (I.bin .Mult::r) (.int y:: .int x::vs) σ):=⟨by have h:=h.out;exact ⟨e,h⟩⟩
theorem c49 {x y:Int} (e:y≠0) (e2:Builtin.divisionGoesByPylong x y=false) (h:Go (run X c K P r (.int (x.fdiv y)::vs) σ)):Go (run X c K P (I.bin .FloorDiv::r) (.int y:: .int x::vs) σ):=⟨by have h:=h.out;exact ⟨⟨e,e2⟩,h⟩⟩
theorem g53 {x y:Int} (e:y≠0) (h:Go (run X c K P r (.int (x.fmod y)::vs) σ)):Go (run X c K P (I.bin .Mod::r) (.int y:: .int x::vs) σ):=⟨by have h:=h.out;exact ⟨e,h⟩⟩
theorem d49 {x y:Int} (e:0<=y/\y<=1000000/\x.natAbs<2^64) (h:Go (run X c K P r (.int (x*2^y.toNat)::vs) σ)):Go (run X c K P (I.bin .LShift::r) (.int y:: .int x::vs) σ):=⟨by have h:=h.out;exact ⟨e,h⟩⟩
theorem h53 {x y:Int} (e:0<=y) (h:Go (run X c K P r (.int (x.fdiv (2^y.toNat))::vs) σ)):Go (run X c K P (I.bin .RShift::r) (.int y:: .int x::vs) σ):=⟨by have h:=h.out;exact ⟨e,h⟩⟩
theorem v44 {x y:Int} (e:0<=y/\(Builtin.Int.intBits x:Int)*y<=2^27) (h:Go (run X c K P r (.int (x^y.toNat)::vs) σ)):Go (run X c K P (I.bin .Pow::r) (.int y:: .int x::vs) σ):=⟨by have h:=h.out;exact ⟨e,h⟩⟩
theorem e49 {x y:Int} (h:Go (run X c K P r (.int (Builtin.bitAnd x y)::vs) σ)):Go (run X c K P (I.bin .BitAnd::r) (.int y:: .int x::vs) σ):=⟨by have h:=h.out;exact h⟩
theorem i53 {x y:Int} (h:Go (run X c K P r (.int (Builtin.bitOr x y)::vs) σ)):Go (run X c K P (I.bin .BitOr::r) (.int y:: .int x::vs) σ):=⟨by have h:=h.out;exact h⟩
theorem t23 {x y:List UInt8} (e:x.length+y.length<=16777216) (h:Go (run X c K P r (.bytes (x++y)::vs) σ)):Go (run X c K P (I.bin .Add::r) (.bytes y:: .bytes x::vs) σ):=⟨by have h:=h.out;exact ⟨e,h⟩⟩
theorem y41 {x:List UInt8} {n:Int} (e:x≠[]/\ -1048576<=n/\n<=1048576/\(x.length<=16\/1<=n/\x.length*n.toNat<=16777216)) (h:Go (run X c K P r (.bytes ((List.replicate n.toNat x).flatten)::vs) σ)):Go (run X c K P (I.bin .Mult::r) (.int n:: .bytes x::vs) σ):=⟨by have h:=h.out;exact ⟨e,h⟩⟩
theorem f49 {x y:Int} (h:Go (run X c K P r (.int (x+y)::vs) σ)):Go (run X c K P (I.inp .Add::r) (.int y:: .int x::vs) σ):=⟨by have h:=h.out;exact h⟩
theorem g49 {x y:Int} (e:IntMulOk x y) (h:Go (run X c K P r (.int (x*y)::vs) σ)):Go (run X c K P (I.inp .Mult::r) (.int y:: .int x::vs) σ):=⟨by have h:=h.out;exact ⟨e,h⟩⟩
theorem h49 {x y:Int} (h:Go (run X c K P r (.int (Builtin.bitAnd x y)::vs) σ)):Go (run X c K P (I.inp .BitAnd::r) (.int y:: .int x::vs) σ):=⟨by have h:=h.out;exact h⟩
theorem j53 {x y:Int} (h:Go (run X c K P r (.int (Builtin.bitOr x y)::vs) σ)):Go (run X c K P (I.inp .BitOr::r) (.int y:: .int x::vs) σ):=⟨by have h:=h.out;exact h⟩
theorem k53 {x:Int} (h:Go (run X c K P r (.int (-x)::vs) σ)):Go (run X c K P (I.un .USub::r) (.int x::vs) σ):=⟨by have h:=h.out;exact h⟩
theorem l53 {x:Int} (h:Go (run X c K P r (.int (Builtin.bitNot x)::vs) σ)):Go (run X c K P (I.un .Invert::r) (.int x::vs) σ):=⟨by have h:=h.out;exact h⟩
theorem m53 {o:CmpOp} (h:M14 X c o a b (fun v=>run X c K P r (v::vs)) (fx P) σ):Go (run X c K P (I.cmp o::r) (b::a::vs) σ):=by
 refine ⟨?_⟩;exact h
theorem p55 {x y:Int} (h:Go (run X c K P r (.bool (x==y)::vs) σ)):Go (run X c K P (I.cmp .Eq::r) (.int y:: .int x::vs) σ):=⟨by have h:=h.out;exact h⟩
theorem n53 {x y:Int} (h:Go (run X c K P r (.bool (x != y)::vs) σ)):Go (run X c K P (I.cmp .NotEq::r) (.int y:: .int x::vs) σ):=⟨by have h:=h.out;exact h⟩
theorem q55 {x y:Int} (h:Go (run X c K P r (.bool (decide (x<y))::vs) σ)):Go (run X c K P (I.cmp .Lt::r) (.int y:: .int x::vs) σ):=⟨by have h:=h.out;exact h⟩
theorem r55 {x y:Int} (h:Go (run X c K P r (.bool (decide (x<=y))::vs) σ)):Go (run X c K P (I.cmp .LtE::r) (.int y:: .int x::vs) σ):=⟨by have h:=h.out;exact h⟩
theorem s55 {x y:Int} (h:Go (run X c K P r (.bool (decide (y<x))::vs) σ)):Go (run X c K P (I.cmp .Gt::r) (.int y:: .int x::vs) σ):=⟨by have h:=h.out;exact h⟩
theorem o53 {x y:Int} (h:Go (run X c K P r (.bool (decide (y<=x))::vs) σ)):Go (run X c K P (I.cmp .GtE::r) (.int y:: .int x::vs) σ):=⟨by have h:=h.out;exact h⟩
theorem i49 {x y:List UInt8} (h:Go (run X c K P r (.bool (x != y)::vs) σ)):Go (run X c K P (I.cmp .NotEq::r) (.bytes y:: .bytes x::vs) σ):=⟨by have h:=h.out;exact h⟩
theorem v38 (h:Go (run X c K P r (.bool (decide (a= .none))::vs) σ)):Go (run X c K P (I.cmp .Is::r) (.none::a::vs) σ):=by
 refine ⟨?_⟩;have h:=h.out;cases a<;>exact h
theorem w44 (h:Go (run X c K P r (.bool (!decide (a= .none))::vs) σ)):Go (run X c K P (I.cmp .IsNot::r) (.none::a::vs) σ):=by
 refine ⟨?_⟩;have h:=h.out;cases a<;>exact h
theorem j49 {x:Bool} (h:Go (run X c K P r (.bool x::vs) σ)):Go (run X c K P (I.tru::r) (.bool x::vs) σ):=⟨by have h:=h.out;exact h⟩
theorem k49 {p:Nat} (h:X7 X c (.ref p) (fun v=>run X c K P r (.bool v::vs)) (fx P) σ):Go (run X c K P (I.tru::r) (.ref p::vs) σ):=by
 refine ⟨?_⟩;exact h
theorem l49 {x:Bool} (h:Go (run X c K P r (.bool (!x)::vs) σ)):Go (run X c K P (I.H7::r) (.bool x::vs) σ):=⟨by have h:=h.out;exact h⟩
theorem w38 {t e:List Tr} {x:Bool} (h1:x=true->Go (run X c (run X c K P r) P t vs σ)) (h2:x=false->Go (run X c (run X c K P r) P e vs σ)):Go (run X c K P (I.br t e::r) (.bool x::vs) σ):=by
 refine ⟨?_⟩;have h1:=fun x0=>(h1 x0).out;have h2:=fun x0=>(h2 x0).out;cases x with
 | true=>exact h1 rfl
 | false=>exact h2 rfl
theorem c30 {t e:List Tr} {x:Bool} (hx:x=true) (h1:Go (run X c (run X c K P r) P t vs σ)):Go (run X c K P (I.br t e::r) (.bool x::vs) σ):=by
 refine ⟨?_⟩;have h1:=h1.out;subst hx;exact h1
theorem d30 {t e:List Tr} {x:Bool} (hx:x=false) (h1:Go (run X c (run X c K P r) P e vs σ)):Go (run X c K P (I.br t e::r) (.bool x::vs) σ):=by
 refine ⟨?_⟩;have h1:=h1.out;subst hx;exact h1
theorem m49 {t:List Tr} {x:Bool} (h1:x=true->Go (run X c (run X c K P r) P t vs σ)) (h2:x=false->Go (run X c K P r (.bool false::vs) σ)):Go (run X c K P (I.T9 t::r) (.bool x::vs) σ):=by
 refine ⟨?_⟩;have h1:=fun x0=>(h1 x0).out;have h2:=fun x0=>(h2 x0).out;cases x with
 | true=>exact h1 rfl
 | false=>exact h2 rfl
theorem x44 {t:List Tr} {x:Bool} (hx:x=false) (h1:Go (run X c K P r (.bool false::vs) σ)):Go (run X c K P (I.T9 t::r) (.bool x::vs) σ):=by
 refine ⟨?_⟩;have h1:=h1.out;subst hx;exact h1
theorem n49 {t:List Tr} {x:Bool} (hx:x=true) (h1:Go (run X c K P r (.bool true::vs) σ)):Go (run X c K P (I.jor t::r) (.bool x::vs) σ):=by
 refine ⟨?_⟩;have h1:=h1.out;subst hx;exact h1
theorem z41 {t:List Tr} {x:Bool} (hx:x=false) (h1:Go (run X c (run X c K P r) P t vs σ)):Go (run X c K P (I.jor t::r) (.bool x::vs) σ):=by
 refine ⟨?_⟩;have h1:=h1.out;subst hx;exact h1
theorem b26 {o:CmpOp} {t:List Tr} {x y:Int} {q:Bool} (e: ∀(Q:AV->St->Prop) (E:Nat->St->Prop),U14 X c o x y Q E σ=Q (.bool q) σ) (h1:q=true->Go (run X c (run X c K P r) P t (.int y::vs) σ)) (h2:q=false->Go (run X c K P r (.bool false::vs) σ)):Go (run X c K P (I.N14 o t::r) (.int y:: .int x::vs) σ):=by
 refine ⟨?_⟩;have h1:=fun x0=>(h1 x0).out;have h2:=fun x0=>(h2 x0).out;show U14 X c o x y (fun v=>G12 X c v (fun u σ1=>if u=true then run X c (run X c K P r) P t (.int y::vs) σ1 else run X c K P r (.bool false::vs) σ1) (fx P)) (fx P) σ;rw [e];show (if q=true then _ else _);cases q with
 | true=>exact h1 rfl
 | false=>exact h2 rfl
theorem o49 {o:Bool} {t:List Tr} {x:Bool} (h1:x=o->Go (run X c (run X c K P r) P t vs σ)) (h2:x≠o->Go (run X c K P r (.bool x::vs) σ)):Go (run X c K P (I.bop o t::r) (.bool x::vs) σ):=by
 refine ⟨?_⟩;have h1:=fun x0=>(h1 x0).out;have h2:=fun x0=>(h2 x0).out;show (if x=o then _ else _);by_cases q:x=o
 ·rw [if_pos q];exact h1 q
 ·rw [if_neg q];exact h2 q
theorem t12 {p C x:Nat} {fs:NS} (e:H p=some (.inst C fs)) (hx:fs.lookup x=some a) (ok:I9 X.K C x=true) (hv:a.plain=true) (h:Go (run X c K P r (a::vs) (⟨H,L⟩:St))):Go (run X c K P (I.attr x::r) (.ref p::vs) (⟨H,L⟩:St)):=⟨by have h:=h.out;exact q43 e hx ok hv h⟩
theorem e30 {p C x:Nat} {fs:NS} (e:H p=some (.inst C fs)) (hx:fs.lookup x=none) (ok:M8 X.K C x=some a) (h:Go (run X c K P r (a::vs) (⟨H,L⟩:St))):Go (run X c K P (I.attr x::r) (.ref p::vs) (⟨H,L⟩:St)):=⟨by have h:=h.out;exact k48 e hx ok h⟩
theorem o15 {p C x:Nat} {cx:Bool} {fs:NS} (e:H p=some (.exc (.ref C) cx fs)) (hx:fs.lookup x=some a) (ok:T8 X.K C x=true) (hv:a.plain=true) (h:Go (run X c K P r (a::vs) (⟨H,L⟩:St))):Go (run X c K P (I.attr x::r) (.ref p::vs) (⟨H,L⟩:St)):=⟨by have h:=h.out;exact z48 e hx ok hv h⟩
theorem v34 (n:O6 X c a σ) (h:WGI X c a b (fun v=>run X c K P r (v::vs)) (fx P) σ):Go (run X c K P (I.sub::r) (b::a::vs) σ):=by
 refine ⟨?_⟩;exact ⟨n,h⟩
theorem p49 (n:O6 X c a σ) (h:Y13 X c a b d (fun v=>run X c K P r (v::vs)) (fx P) σ):Go (run X c K P (I.cut::r) (d::b::a::vs) σ):=by
 refine ⟨?_⟩;exact ⟨n,h⟩
theorem p53 {n:Nat} {as ws:List AV} (e:O3 n vs []=some (as,ws)) (hl:as.length<=16777216) (h: ∀a,H a=none->Go (run X c K P r (.ref a::ws) ⟨upd H a (.list as),L⟩)):Go (run X c K P (I.lst n::r) vs (⟨H,L⟩:St)):=by
 refine ⟨?_⟩;have h:=fun x0 x1=>(h x0 x1).out;show I.lst n X c (run X c K P r) P vs (⟨H,L⟩:St);unfold I.lst;rw [e];exact ⟨hl,h⟩
theorem q53 {n:Nat} {as ws:List AV} (e:O3 n vs []=some (as,ws)) (hl:as.length<=16777216) (h: ∀a,H a=none->Go (run X c K P r (.ref a::ws) ⟨upd H a (.tuple as),L⟩)):Go (run X c K P (I.tup n::r) vs (⟨H,L⟩:St)):=by
 refine ⟨?_⟩;have h:=fun x0 x1=>(h x0 x1).out;show I.tup n X c (run X c K P r) P vs (⟨H,L⟩:St);unfold I.tup;rw [e];exact ⟨hl,h⟩
theorem s51 {x:Nat} (h:WGM X c a (N x) (fun q σ'=> ∃s,q.2=G4 s/\run X c K P r (s::q.1::vs) σ') (fx P) σ):Go (run X c K P (I.gm x::r) (a::vs) σ):=by
 refine ⟨?_⟩;exact h
theorem y44 {p C x f:Nat} {fs:NS} (e:H p=some (.inst C fs)) (hx:fs.lookup x=none) (ok:U6 X.K C x=some f) (h:Go (run X c K P r (.ref p:: .ref f::vs) (⟨H,L⟩:St))):Go (run X c K P (I.gm x::r) (.ref p::vs) (⟨H,L⟩:St)):=⟨by have h:=h.out;exact u52 e hx ok ⟨.ref p,rfl,h⟩⟩
theorem t11 {n:Nat} {ks:List Nat} {f:AV} {as ws us:List AV} {kw:List (Str×AV)} (e1:K4 ks.reverse vs []=some (kw,ws)) (e2:O3 n ws []=some (as,f::us)) (ok:U3 X c f σ) (h:J2 X c f as kw (fun v=>run X c K P r (v::us)) (fx P) σ):Go (run X c K P (I.call n ks::r) vs σ):=by
 refine ⟨?_⟩;show I.call n ks X c (run X c K P r) P vs σ;unfold I.call;rw [e1];dsimp only;rw [e2];exact ⟨ok,h⟩
theorem t14 {n:Nat} {ks:List Nat} {f s:AV} {as ws us:List AV} {kw:List (Str×AV)} (e1:K4 ks.reverse vs []=some (kw,ws)) (e2:O3 n ws []=some (as,s::f::us)) (ok:U3 X c f σ) (h:J2 X c f (G4 s++as) kw (fun v=>run X c K P r (v::us)) (fx P) σ):Go (run X c K P (I.J0 n ks::r) vs σ):=by
 refine ⟨?_⟩;show I.J0 n ks X c (run X c K P r) P vs σ;unfold I.J0;rw [e1];dsimp only;rw [e2];exact ⟨ok,h⟩
theorem w34 {p C x:Nat} {fs:NS} (e:H p=some (.inst C fs)) (ok:Y6 X.K C x=true) (hl:fs.length<=900) (h:Go (run X c K P r vs ⟨upd H p (.inst C (put fs x a)),L⟩)):Go (run X c K P (I.Y0 x::r) (.ref p::a::vs) (⟨H,L⟩:St)):=⟨by have h:=h.out;exact n33 e ok hl h⟩
theorem c26 {p C x:Nat} {cx:Bool} (e:H p=some (.exc (.ref C) cx [])) (ok:R8 X.K C x=true) (h:Go (run X c K P r vs ⟨upd H p (.exc (.ref C) cx [(x,a)]),L⟩)):Go (run X c K P (I.Y0 x::r) (.ref p::a::vs) (⟨H,L⟩:St)):=⟨by have h:=h.out;exact a49 e ok h⟩
theorem o28 {p C x:Nat} {fs:NS} (e:H p=some (.inst C fs)) (ok:Y6 X.K C x=true) (hl:fs.length<=900) (h:Go (run X c K P r vs ⟨upd H p (.inst C (put fs x a)),L⟩)):Go (run X c K P (I.G7 x::r) (a:: .ref p::vs) (⟨H,L⟩:St)):=⟨by have h:=h.out;exact n33 e ok hl h⟩
theorem d26 {p C x:Nat} {fs:NS} (ok:Y6 X.K C x=true) (hl:fs.length<=900) (h:Go (run X c K P r vs ⟨upd H p (.inst C (put fs x a)),L⟩)):Go (run X c K P (I.Y0 x::r) (.ref p::a::vs) (⟨upd H p (.inst C fs),L⟩:St)):=by
 exact w34 (i10 _ _ _) ok hl (by rw [y13];exact h)
theorem v23 {p C x:Nat} {fs:NS} (ok:Y6 X.K C x=true) (hl:fs.length<=900) (h:Go (run X c K P r vs ⟨upd H p (.inst C (put fs x a)),L⟩)):Go (run X c K P (I.G7 x::r) (a:: .ref p::vs) (⟨upd H p (.inst C fs),L⟩:St)):=by
 exact o28 (i10 _ _ _) ok hl (by rw [y13];exact h)
theorem q49 (h:Go (run X c K P r vs σ)):Go (run X c K P (I.drop::r) (a::vs) σ):=⟨by have h:=h.out;exact h⟩
theorem r53 (h:Go (run X c K P r (a::a::vs) σ)):Go (run X c K P (I.dup::r) (a::vs) σ):=⟨by have h:=h.out;exact h⟩
theorem r49 (h:Go (run X c K P r (b::a::b::a::vs) σ)):Go (run X c K P (I.dup2::r) (b::a::vs) σ):=⟨by have h:=h.out;exact h⟩
theorem s53 {n:Nat} (h:J14 X c a n (fun l σ'=>l.length=n/\run X c K P r (l++vs) σ') (fx P) σ):Go (run X c K P (I.unp n::r) (a::vs) σ):=by
 refine ⟨?_⟩;exact h
theorem c12 (h:P (.ret a) σ):Go (run X c K P (I.ret::r) (a::vs) σ):=by
 refine ⟨?_⟩;exact h
theorem s49 (h:P (.ret .none) σ):Go (run X c K P (I.Z14::r) vs σ):=by
 refine ⟨?_⟩;exact h
theorem t49 (h:P .brk σ):Go (run X c K P (I.brk::r) vs σ):=by
 refine ⟨?_⟩;exact h
theorem a42 {p C:Nat} {cx:Bool} {fs:NS} (hd:c.hd=none) (e:H p=some (.exc (.ref C) cx fs)) (ok:M6 X.K C=true) (h:P (.exc p) (⟨H,L⟩:St)):Go (run X c K P (I.I6::r) (.ref p::vs) (⟨H,L⟩:St)):=by
 refine ⟨?_⟩;exact p34 hd e ok h
theorem u49 {bd e:List Tr} {hs:List I.Hd} (h:Go (run X c (fun _ σ1=>run X c (run X c K P r) P e vs σ1) (fun o σ1=>match o with | .exc a=>I.hands X c (run X c K P r) P vs a hs σ1 | o=>P o σ1) bd vs σ)):Go (run X c K P (I.Q10 bd hs e::r) vs σ):=⟨by have h:=h.out;exact h⟩
theorem v49 {p:Nat} {C:Value} {cx:Bool} {fs:NS} {hd:I.Hd} {hs:List I.Hd} (e:H p=some (.exc C cx fs)) (m:I.S12 X.K C hd.ty=some true) (h:Go (run X (I.hcf c p) (fun _ σ3=>K vs (I.W3 hd.name σ3)) (fun o σ3=>match o with | .exc b=>P (.exc b) (I.W3 hd.name σ3) | o=>P o (I.W3 hd.name σ3)) hd.body [] (I.Z8 hd.name p (⟨H,L⟩:St)))):I.hands X c K P vs p (hd::hs) (⟨H,L⟩:St):=by
 have h:=h.out;exact ⟨C,cx,fs,true,e,m,h⟩
end
def Base (X:Cx) (a:Nat) (o:W0):Prop:= ∀own h,(∀b x,X.h₀.get? b=some x->h.get? b=some x)->Holds X own h a o
def See (X:Cx) (σ:St) (a:Nat) (o:W0):Prop:=σ.h a=some o\/Base X a o
section
variable {X:Cx} {c:Cf} {σ:St} {E:Nat->St->Prop} {Q:AV->St->Prop}
theorem See.holds {σ:St} {a:Nat} {o:W0} (h:See X σ a o) {own:Nat->Option Nat} {fs:List (Nat×NS)} {s:Shared} (R:Z0 X own fs σ.h s):Holds X own s.heap a o:=by
 rcases h with h | h
 ·exact (R.objs _ _ h).2
 ·exact h _ _ R.base
theorem q17 {K:Type} (kvs:List (Str×Value)) (es:NS) (h:kvs.map (fun p=>(p.1,ab p.2))=es.map (fun p=>(N p.1,p.2))) (k:Nat):(valueAt kvs (N k)).map ab=es.lookup k:=by
 induction kvs generalizing es with
 | nil=>cases es with
  | nil=>rfl
  | cons _ _=>cases h
 | cons p r ih=>
  obtain ⟨x,v⟩:=p;cases es with
  | nil=>cases h
  | cons q es=>
   obtain ⟨y,w⟩:=q;simp only [v5,List.cons.injEq,Prod.mk.injEq] at h;obtain ⟨⟨rfl,rfl⟩,h⟩:=h;unfold valueAt;rw [List.find?_cons];by_cases e:k=y
   ·subst e;rw [l11];simp
   ·rw [x12 _ _ e,show (decide (N y=N k))=false from by simp [z54];exact fun q=>e q.symm];exact ih es h
theorem x34 (kvs:List (Int×Value)) (k:Int):(valueAt kvs k).map ab=(kvs.map (fun p=>(p.1,ab p.2))).lookup k:=by
 induction kvs with
 | nil=>rfl
 | cons p r ih=>
  obtain ⟨x,v⟩:=p;rw [v5,List.lookup_cons];unfold valueAt;rw [List.find?_cons];by_cases e:k=x
  ·subst e;simp
  ·rw [show (decide (x=k))=false from by simp;exact fun q=>e q.symm,show (k==x)=false from by simp [e]];exact ih
theorem b14:typeLookup (.type "dict") "__getitem__"=pure (some (.builtin "dict.__getitem__")):=slot_dict_getitem.lookup
theorem p28 {d:Nat} {es:NS} (e:See X σ d (.dictS es)):O6 X c (.ref d) σ:=⟨"dict",_,b14,fun v s hv hp1=>hp1.elim fun own R=>by
 obtain rfl:=t10 hv;obtain ⟨kvs,hd,_⟩:=e.holds R;exact hd.typeIs⟩
theorem q28 {d:Nat} {es:List (Int×AV)} (e:See X σ d (.dictI es)):O6 X c (.ref d) σ:=⟨"dict",_,b14,fun v s hv hp2=>hp2.elim fun own R=>by
 obtain rfl:=t10 hv;obtain ⟨kvs,hd,_⟩:=e.holds R;exact hd.typeIs⟩
theorem r28 {d k:Nat} {es:NS} {v:AV} (e:See X σ d (.dictS es)) (hv:es.lookup k=some v) (h:Q v σ):WGI X c (.ref d) (.str (N k)) Q E σ:=fun V W hV hW A s g R=>by
 refine of ?_;obtain rfl:=t10 hV;obtain ⟨t,rfl⟩:=p11 hW;walk_at "o";obtain ⟨kvs,hd,hm⟩:=e.holds R;have:=q17 (K:=Nat) kvs es hm k;rw [hv] at this;obtain ⟨y,hy,rfl⟩:=Option.map_eq_some_iff.mp this;exact wpAny_getItem_of (knd:=strKind X.prog X.w) (k:=N k) (by simp [PySem.strKind,Value.isStrOf]) hd.mapOf hy ⟨σ,⟨own,R.toks _⟩,h⟩
theorem t28 {d:Nat} {k:Int} {es:List (Int×AV)} {v:AV} (e:See X σ d (.dictI es)) (hv:es.lookup k=some v) (h:Q v σ):WGI X c (.ref d) (.int k) Q E σ:=fun V W hV hW A s g R=>by
 refine of ?_;obtain rfl:=t10 hV;obtain ⟨t,rfl⟩:=o10 hW;walk_at "o";obtain ⟨kvs,hd,hm⟩:=e.holds R;have:=x34 kvs k;rw [hm,hv] at this;obtain ⟨y,hy,rfl⟩:=Option.map_eq_some_iff.mp this;exact wpAny_getItem_of (knd:=intKind X.prog X.w) (k:=k) (by simp [intKind,Value.isInt]) hd.mapOf hy ⟨σ,⟨own,R.toks _⟩,h⟩
set_option tactic.hygienic true in
theorem f30 (kvs:List (Str×Value)) (es:NS) (h:kvs.map (fun p=>(p.1,ab p.2))=es.map (fun p=>(N p.1,p.2))) (hn:(kvs.map (·.1)).Nodup) (k:Nat) (v:Value):
  (stored kvs (N k) v).map (fun p=>(p.1,ab p.2))=(put es k (ab v)).map (fun p=>(N p.1,p.2)):=by
 have key: ∀(kvs:List (Str×Value)) (es:NS),kvs.map (fun p=>(p.1,ab p.2))=es.map (fun p=>(N p.1,p.2))->(kvs.map (·.1)).Nodup->
   (if kvs.any (fun kv=>decide (kv.1=N k)) then (kvs.map (fun kv=>if kv.1=N k then (kv.1,v) else kv)).map (fun p=>(p.1,ab p.2)) else (kvs++[(N k,v)]).map (fun p=>(p.1,ab p.2)))=(put es k (ab v)).map (fun p=>(N p.1,p.2)):=by
  intro kvs
  induction kvs with
  | nil=>
   intro es h _;cases es with
   | nil=>rfl
   | cons _ _=>cases h
  | cons p r ih=>
   intro es h hn;obtain ⟨x,w⟩:=p;cases es with
   | nil=>cases h
   | cons q es=>
    obtain ⟨y,u⟩:=q;simp only [v5,List.cons.injEq,Prod.mk.injEq] at h;obtain ⟨⟨rfl,rfl⟩,h⟩:=h;rw [v5,List.nodup_cons] at hn;by_cases e:k=y
    ·subst e;rw [List.any_cons,show (decide (N k=N k))=true from by simp,Bool.true_or,if_pos rfl,put,if_pos rfl];simp only [v5,if_pos];congr 1;rw [<-h];have:r.map (fun kv=>if kv.1=N k then (kv.1,v) else kv)=r:=by
      conv=>rhs;rw [<-List.map_id r]
      refine List.map_congr_left fun kv hk=>?_;rw [if_neg];rfl;intro z;exact hn.1 (List.mem_map.mpr ⟨kv,hk,z⟩)
     rw [this]
    ·have ne: ¬N y=N k:=by rw [z54];exact fun q=>e q.symm
     have ih':=ih es h hn.2;rw [List.any_cons,show (decide (N y=N k))=false from by simp [ne],Bool.false_or,put,if_neg e]
     split
     ·rename_i ha;rw [if_pos ha] at ih';simp only [v5,if_neg ne,ih']
     ·rename_i ha;rw [if_neg ha] at ih';simp only [List.cons_append,v5,ih']
 have:=key kvs es h hn;unfold stored;rw [<-this]
 split at⊢ <;>rfl
theorem v28 {d k:Nat} {es:NS} {v:AV} {Q:St->Prop} (e:σ.h d=some (.dictS es)) (hl:es.length<=16777216) (h:Q {σ with h:=upd σ.h d (.dictS (put es k v))}):WSI X c (.ref d) (.str (N k)) v Q E σ:=fun U V W hU hV hW A s g R=>by
 refine of ?_;obtain rfl:=t10 hU;obtain ⟨t,rfl⟩:=p11 hV;walk_at "o";obtain ⟨kvs,hd,hm⟩:=(R.objs _ _ e).2;have hn:=hd.choose_spec.choose_spec.choose_spec.2.2.2.2.2;refine wpAny_setItem_pairs (knd:=strKind X.prog X.w) (k:=N k) (by simp [PySem.strKind,Value.isStrOf]) hd (fun h' hi hs=>⟨_,⟨own,R.update (tk:=s.toks+1) (o:= .dictS (put es k v)) e (fun b y hb hy=>(hs.2 b fun q=>?_).trans hy) (fun q hq=>?_) ⟨_,hi,?_⟩⟩,h⟩) ?_
 ·subst q;exact hb (R.objs _ _ e).1
 ·by_cases z:q=d
  ·subst z;obtain ⟨o,_,_,ho,_⟩:=hi;exact ⟨o,ho⟩
  ·obtain ⟨y,hy⟩:=(R.owned q d hq).1;exact ⟨y,(hs.2 q z).trans hy⟩
 ·rw [f30 kvs es hm hn k W,hW]
 ·have:=congrArg List.length hm;simp only [a7] at this;rw [sizeLine_eq,this];exact hl
end
section
variable {X:Cx} {c:Cf} {σ:St} {E:Nat->St->Prop}
theorem z44 {cls:String} {s:Shared} {h':Heap} {tk:Nat} {e:Nat} (R:O1 X c σ s) (hx:Heap.NewExc s.heap h' e cls) (q: ∀a,σ.h a=none->E a {σ with h:=upd σ.h a (.exc (.type cls) true [])}):Exn X c E (.ref e) {s with heap:=h',toks:=tk}:=by
 walk_at "o";obtain ⟨k,hn,ob,t,h1,h2,h3⟩:=hx;obtain ⟨own',R'⟩:=R.alloc (tk:=tk) (o:= .exc (.type cls) true []) [] k hn ⟨_,h1⟩ (fun q hq=>nomatch hq) fun own' _ _=>by
  obtain ⟨cl,dd,da,sl⟩:=ob;dsimp only at h2 h3;subst h2;subst h3;refine ⟨_,dd,sl,h1,rfl,fun _=>rfl,.inl rfl,?_⟩;cases dd with
  | none=>rfl
  | some dx=>exact .inr ⟨⟨_,rfl⟩,rfl⟩
 exact ⟨e,_,rfl,⟨_,_,_,i10 _ _ _⟩,⟨own',R'⟩,q e (R.fresh hn).1⟩
theorem d16 {prog:Program} {w:World} {A:Around} {E:Value->Shared->Prop} {s:Shared} {l:Addr} {items:Array Value} {k:Int} {t:Tok} {v:Value} {Q:Unit->Shared->Prop} (hA:A.handled=none) (hl:s.heap.IsList l items) (h0:0<=k) (hfit:k<2^63) (hn:items.size<=k)
  (hE: ∀h' tk e,Heap.NewExc s.heap h' e "IndexError"->E (.ref e) {s with heap:=h',toks:=tk}):wpAny (model prog w) A (setItem (.ref l) (.int k t) v) Q E s:=by
 obtain ⟨o,ho,hc,ne,hd⟩:=id hl;unfold setItem
 try with_reducible refine wpAny_holding ?_
 first | refine d0 (m0 ?_) | skip
 refine d0 (wpAny_sequenceKey hl.typeIs (by decide) ?_);refine d0 (wpAny_callSpecial?_slot (name:=Str.ofString "__setitem__") hl.typeIs slot_list_setitem
  (wpAny_call_entry slot_list_setitem hl.typeIs entry_list_setitem ?_ (args_list_setitem _ _ _)))
 show wpAny _ _ (Builtin.List.listSubscript? (.int k t)>>=_) _ _ s;refine d0 (wpAny_listSubscript_int (fitsIndex_of h0 hfit) ?_);clear hfit;obtain ⟨j,rfl⟩:=Int.eq_ofNat_of_zero_le h0;have hj:items.size<=j:=by (exact fk s!"hLwAwBoxAB" [] [_,_] rfl hn)
 have hx':items[j]? =none:=Array.getElem?_eq_none hj;show wpAny _ _ ((seqItemAt l j>>=fun r=>pure (r.map (j,·)))>>=_) _ _ s;refine d0 (d0 (wpAny_seqItemAt ho hd (m0 ?_)));rw [hx']
 first
  | exact d0 (wpAny_rule (by exact_raiseError plainExc_IndexError hA hE))
  | exact d0 (wpAny_rule (d0 (by exact_raiseError plainExc_IndexError hA hE)))
  | exact d0 (d0 (wpAny_rule (by exact_raiseError plainExc_IndexError hA hE)))
  | exact wpAny_rule (by exact_raiseError plainExc_IndexError hA hE)
theorem e26 {Q:St->Prop} {l:Nat} {xs:List AV} {k:Int} {v:AV} (e:σ.h l=some (.list xs)) (hd:c.hd=none) (h0:0<=k) (h1:k<2^63) (h2:xs.length<=k) (h: ∀a,σ.h a=none->E a {σ with h:=upd σ.h a (.exc (.type "IndexError") true [])}):WSI X c (.ref l) (.int k) v Q E σ:=fun U V W hU hV hW A s g R=>by
 refine of ?_;obtain rfl:=t10 hU;obtain ⟨t,rfl⟩:=o10 hV;have R0:=R;walk_at "o";obtain ⟨items,hL,hx⟩:=(R.objs _ _ e).2;have hL:=hL.isList;have hlen:xs.length=items.size:=by rw [<-hx];simp
 exact d16 (g.hd.trans hd) hL h0 h1 (by rw [<-hlen];exact h2) fun h' tk e hx=>z44 R0 hx h
end
end Mine
namespace Mine
open PySem.SeqAt
section
variable {prog:Program} {w:World}
theorem isL {h:Heap} {l:Nat} {items:Array Value} (hl:h.IsList l items): ∃n dd sl,h.get? l=some {cls:= .type "list",dict:=dd,data:= .seq items n,slots:=sl}:=by
 obtain ⟨⟨cls,dd,data,sl⟩,ho,hc,n,hd⟩:=hl;simp only at hc hd;subst hc hd;exact ⟨_,_,_,ho⟩
theorem q20 (a:Int) (t:Tok) (l:Addr) (items:Array Value) (n:Nat) (dd:Option Addr) (sl:Array (Option Value)):
  Meets (Builtin.«int.__rmul__» ⟨[.int a t,.ref l],[]⟩) (fun _ R s=>s.heap.get? l=some {cls:= .type "list",dict:=dd,data:= .seq items n,slots:=sl}/\R (.ok (.ret Value.notImplemented)) s):=
 .of_wp fun prog w A R s h=>by obtain ⟨hp,g,d,tk,os⟩:=s;obtain ⟨hl,h⟩:=h;wp_walk using AutoSeq1.wpAny_loadPart' hl;exact ⟨_,rfl,h⟩
theorem w23 (l:Addr) (items:Array Value) (n:Nat) (dd:Option Addr) (sl:Array (Option Value)) (x:Int) (u:Tok) (hc0: ¬(!Builtin.List.listFitsIndex x)=true) (hc1: ¬items.size*x.toNat>(2^63-1) / 8) (hc2: ¬Builtin.List.listTooLong (items.size*x.toNat)=true):
  Meets (Builtin.«list.__mul__» ⟨[.ref l,.int x u],[]⟩) (fun _ R s=>s.heap.get? l=some {cls:= .type "list",dict:=dd,data:= .seq items n,slots:=sl}/\R (.ok (.ret (Value.ref s.heap.objs.size))) {s with heap:=s.heap.push {cls:=Value.type "list",data:=Data.seq (List.foldl (fun x1 x2=>x1++x2) #[] (List.replicate (if items.isEmpty=true then 0 else x.toNat) items))},toks:=s.toks}):=
 .of_wp fun prog w A R s h=>by
  obtain ⟨hp,g,d,tk,os⟩:=s;obtain ⟨hl,h⟩:=h;have f1:=AutoSeq1.idx_int;have hsz:=AutoListH.joined_fits hc2
  wp_walk using AutoSeq1.wpAny_loadPart' hl;refine wpAny_ite_false (decide_eq_false (Nat.not_lt.mpr hsz)) ?_;wp_walk using AutoSeq1.wpAny_loadPart' hl;exact ⟨_,rfl,h⟩
end
section
variable {X:Cx} {c:Cf} {σ:St} {E:Nat->St->Prop} {Q:AV->St->Prop}
theorem See.list {l:Nat} {xs:List AV} (e:See X σ l (.list xs)) {own:Nat->Option Nat} {fs:List (Nat×NS)} {s:Shared} (R:Z0 X own fs σ.h s): ∃items,s.heap.IsList l items/\items.toList.map ab=xs:=by obtain ⟨i,h,k⟩:=(e.holds R: ∃items,s.heap.PlainList l items/\_);exact ⟨i,h.isList,k⟩
theorem g30 {l:Nat} {xs:List AV} {n:Int} (e:See X σ l (.list xs)) (h0:n<16777216) (h1: -16777216<n) (hz:xs.length*n.toNat<=16777216) (h: ∀a,σ.h a=none->Q (.ref a) {σ with h:=upd σ.h a (.list (List.replicate n.toNat xs).flatten)}):Z5 X c .Mult (.ref l) (.int n) Q E σ:=fun U V hU hV A s g R=>by
 refine of ?_;obtain rfl:=t10 hU;obtain ⟨t,rfl⟩:=o10 hV;walk_at "o";obtain ⟨i1,hi,rfl⟩:=e.list R;obtain ⟨n1,d1,s1,o1⟩:=isL hi;rw [a7,Array.length_toList] at hz;have key:(List.foldl (fun x1 x2=>x1++x2) #[] (List.replicate (if i1.isEmpty=true then 0 else n.toNat) i1)).toList.map ab=(List.replicate n.toNat (i1.toList.map ab)).flatten:=by
  rw [listMul_foldl_if];simp [List.map_flatten]
 obtain ⟨hn,own',R'⟩:=R.J4 (tk:=s.toks) (o:= .list (List.replicate n.toNat (i1.toList.map ab)).flatten) (ob:={cls:= .type "list",data:= .seq (List.foldl (fun x1 x2=>x1++x2) #[] (List.replicate (if i1.isEmpty=true then 0 else n.toNat) i1))}) rfl fun own'=>⟨_,⟨_,y3 _ rfl⟩,key⟩;exact wpAny_binaryOp_repeat_ref (T:="list") (U:="int") (by decide) ⟨_,o1,rfl⟩ (fun s'=>typeIs_int s' n t) noFill_list_mul PySem.F.fills_int_mul PySem.F.slot_int_rmul repeat_list PySem.F.slot_int_index.lookup
  (call_meets PySem.F.slot_int_rmul (typeIs_int s n t) PySem.F.entry_int_rmul (PySem.F.args_int_rmul_2 _ _) (q20 n t l i1 n1 d1 s1)
   ⟨o1,rfl,⟨_,o1,rfl⟩,call_meets PySem.F.slot_list_mul ⟨_,o1,rfl⟩ PySem.F.entry_list_mul (PySem.F.args_list_mul_2 _ _)
    (w23 l i1 n1 d1 s1 n t (by simp [Builtin.List.listFitsIndex];omega) (by omega) (by simp [Builtin.List.listTooLong,sizeLine];omega))
    ⟨o1,_,⟨own',R'⟩,h _ hn⟩⟩)
theorem j19 {l:Nat} {xs:List AV} (e:See X σ l (.list xs)) (hz:xs.length<=1099511627776) (h:Q (.int xs.length) σ):J2 X c (.builtin "len") [.ref l] [] Q E σ:=fun F vs ks hF hv hk A s g R=>by
 refine of ?_;obtain rfl:=d11 hF;obtain ⟨v,r,rfl,hv0,hv1⟩:=map_cons hv;obtain rfl:=v10 hv1;obtain rfl:=v10 hk;obtain rfl:=t10 hv0;walk_at "o";obtain ⟨i1,hi,rfl⟩:=e.list R;rw [a7,Array.length_toList] at hz h;exact call_len_list hi (by omega) ⟨σ,⟨own,R.toks _⟩,h⟩
theorem p15 {items:Array Value} {xs:List Int} (h:items.toList.map ab=xs.map .int) (j:Nat) (hj:j<items.size): ∃t,items[j]= .int (xs.getD j 0) t:=by
 have h1:=congrArg (·[j]?) h;simp only [List.getElem?_map,Array.getElem?_toList] at h1;rw [Array.getElem?_eq_getElem hj] at h1;cases hx:xs[j]? with
 | none=>rw [hx] at h1;cases h1
 | some x=>
  rw [hx] at h1;have:ab items[j]= .int x:=w5 h1;obtain ⟨t,ht⟩:=o10 this;exact ⟨t,by rw [<-ht,w0,hx];rfl⟩
theorem o16 {items:Array Value} {xs:List Int} (h:items.toList.map ab=xs.map .int):items.size=xs.length:=by
 have:=congrArg List.length h;simpa using this
theorem b42: ∀(xs ys:List Int),xs.length=ys.length->((List.range xs.length).all fun j=>xs.getD j 0==ys.getD j 0)=(xs==ys):=by
 intro xs ys hl;rw [Bool.eq_iff_iff,beq_iff_eq,List.all_eq_true];constructor
 ·intro h;refine List.ext_getElem hl fun j h1 h2=>?_;have:=h j (List.mem_range.mpr h1);simp only [w0,o5 h1,o5 h2,Option.getD_some,beq_iff_eq] at this;exact this
 ·intro h j _;subst h;exact beq_self_eq_true _
theorem y34 {l m:Nat} {xs ys:List Int} (e1:See X σ l (.list (xs.map .int))) (e2:See X σ m (.list (ys.map .int))) (h:Q (.bool (xs==ys)) σ):U4 X c .Eq (.ref l) (.ref m) Q E σ:=fun U V hU hV A s g R=>by
 refine of ?_;obtain rfl:=t10 hU;obtain rfl:=t10 hV;walk_at "o";obtain ⟨i1,h1,k1⟩:=e1.list R;obtain ⟨i2,h2,k2⟩:=e2.list R;have l1:=o16 k1;have l2:=o16 k2;have hu:A.units<cLine:=by have:=g.units;have:cLine=9900:=rfl;omega
 by_cases hl:xs.length=ys.length
 ·refine eq_listAt h1 h2 (by omega) hu (e:=fun j=>xs.getD j 0==ys.getD j 0) (fun j q1 q2=>?_) ⟨σ,⟨own,R⟩,?_⟩
  ·obtain ⟨t,ht⟩:=p15 k1 j q1;obtain ⟨u,hu⟩:=p15 k2 j q2;rw [ht,hu];exact EqAt.int_int _ _ _ _
  ·rw [l1,b42 _ _ hl];exact h
 ·refine eq_list_lengthsAt h1 h2 (by simp;omega) hu ⟨σ,⟨own,R⟩,?_⟩;rw [show (xs==ys)=false from by rw [beq_eq_false_iff_ne];exact fun q=>hl (by rw [q])] at h;exact h
theorem z34 {l m:Nat} {xs ys:List Int} (e1:See X σ l (.list (xs.map .int))) (e2:See X σ m (.list (ys.map .int))) (h:Q (.bool (xs != ys)) σ):U4 X c .NotEq (.ref l) (.ref m) Q E σ:=fun U V hU hV A s g R=>by
 refine of ?_;obtain rfl:=t10 hU;obtain rfl:=t10 hV;walk_at "o";obtain ⟨i1,h1,k1⟩:=e1.list R;obtain ⟨i2,h2,k2⟩:=e2.list R;have l1:=o16 k1;have l2:=o16 k2;have hu:A.units<cLine:=by have:=g.units;have:cLine=9900:=rfl;omega
 by_cases hl:xs.length=ys.length
 ·refine RcNeAt.lists h1 h2 (by omega) hu (e:=fun j=>xs.getD j 0==ys.getD j 0) (fun j q1 q2=>?_) _ _ _ _ ⟨σ,⟨own,R⟩,?_⟩
  ·obtain ⟨t,ht⟩:=p15 k1 j q1;obtain ⟨u,hu⟩:=p15 k2 j q2;rw [ht,hu];exact EqAt.int_int _ _ _ _
  ·rw [l1,b42 _ _ hl];exact h
 ·refine RcNeAt.lists_lengths h1 h2 (by simp;omega) hu _ _ _ _ ⟨σ,⟨own,R⟩,?_⟩;rw [show (xs != ys)=true from by rw [bne_iff_ne];exact fun q=>hl (by rw [q])] at h;exact h
theorem x38 {items:Array Value} {xs:List Int} (h:items.toList.map ab=xs.map .int) (k:Int):(items.any fun v=>match v with | .int i _=>i==k | _=>false)=xs.any (·==k):=by
 rw [<-Array.any_toList];have: ∀(l:List Value) (xs:List Int),l.map ab=xs.map .int->(l.any fun v=>match v with | .int i _=>i==k | _=>false)=xs.any (·==k):=by
  intro l
  induction l with
  | nil=>intro xs h;cases xs with
   | nil=>rfl
   | cons _ _=>cases h
  | cons v r ih=>intro xs h;cases xs with
   | nil=>cases h
   | cons x xs=>
    rw [v5,v5,List.cons.injEq] at h;obtain ⟨t,rfl⟩:=o10 h.1;rw [List.any_cons,List.any_cons,ih xs h.2]
 exact this _ _ h
theorem a35 {k:Int} {m:Nat} {ys:List Int} (e2:See X σ m (.list (ys.map .int))) (h:Q (.bool (ys.any (·==k))) σ):U4 X c .In (.int k) (.ref m) Q E σ:=fun U V hU hV A s g R=>by
 refine of ?_;obtain ⟨t,rfl⟩:=o10 hU;obtain rfl:=t10 hV;walk_at "o";obtain ⟨i2,h2,k2⟩:=e2.list R;refine in_listAt (fun v=>match v with | .int i _=>i==k | _=>false) h2 (fun y hy=>?_) ⟨σ,⟨own,R⟩,by rw [x38 k2];exact h⟩;obtain ⟨j,hj,rfl⟩:=Array.mem_iff_getElem.mp hy;obtain ⟨u,hu⟩:=p15 k2 j hj;rw [hu];exact EqAt.int_int _ _ _ _
theorem p18 {m:Nat} {ys:List Int} (e2:See X σ m (.list (ys.map .int))) (h:Q (.bool false) σ):U4 X c .In .none (.ref m) Q E σ:=fun U V hU hV A s g R=>by
 refine of ?_;obtain rfl:=x13 hU;obtain rfl:=t10 hV;walk_at "o";obtain ⟨i2,h2,k2⟩:=e2.list R;refine in_listAt (fun _=>false) h2 (fun y hy=>?_) ⟨σ,⟨own,R⟩,by rw [show i2.any (fun _=>false)=false from by simp];exact h⟩;obtain ⟨j,hj,rfl⟩:=Array.mem_iff_getElem.mp hy;obtain ⟨u,hu⟩:=p15 k2 j hj;rw [hu];exact EqAt.int_none _ _
end
end Mine
namespace Mine
open PySem.SeqAt
noncomputable def leB:Nat->Int->List UInt8
 | 0,_=>[]
 | n+1,x=>(x % 256).toNat.toUInt8::leB n (x / 256)
noncomputable def leV:List UInt8->Int
 | []=>0
 | b::r=>(b.toNat:Int)+256*leV r
theorem v14: ∀(n:Nat) (x:Int),(leB n x).length=n
 | 0,_=>rfl
 | n+1,x=>congrArg (·+1) (v14 n (x / 256))
theorem r20 (k:Int) (h0:0<=k) (h1:k<256):((k.toNat.toUInt8.toNat:Nat):Int)=k:=by
 have e:k.toNat.toUInt8.toNat=k.toNat:=by
  show (UInt8.ofNat k.toNat).toNat=_;rw [UInt8.toNat_ofNat'];exact Nat.mod_eq_of_lt ((Int.toNat_lt h0).mpr h1)
 rw [e];(exact t0 (Int.le_of_eq (y5 (h0))) (fk s!"h-EwAAoLAwA" [_] [_] rfl (y5 (h0))))
theorem k19: ∀(l:List UInt8) (n:Nat) (x:Int),l.map (fun c=>((c.toNat:Nat):Int))=KTBy.little n x->l=leB n x
 | [],0,_,_=>rfl
 | [],_+1,_,h=>by cases h
 | _::_,0,_,h=>by cases h
 | b::r,n+1,x,h=>by
  have h':((b.toNat:Nat):Int)::r.map (fun c=>((c.toNat:Nat):Int))=x % 256::KTBy.little n (x / 256):=h;rw [List.cons.injEq] at h';show _=(x % 256).toNat.toUInt8::leB n (x / 256);rw [<-k19 r n (x / 256) h'.2];congr 1;rw [<-h'.1];show b=UInt8.ofNat ((b.toNat:Int).toNat);rw [Int.toNat_natCast];simp
theorem w28: ∀(l:List UInt8),KFB.value (l.map (fun c=>((c.toNat:Nat):Int))).reverse=leV l
 | []=>rfl
 | b::r=>by
  unfold KFB.value;rw [v5,List.reverse_cons,List.foldl_append,List.foldl_cons,List.foldl_nil];show KFB.value _*256+_=_;rw [w28 r];show _=(b.toNat:Int)+256*leV r
  (exact fe (.o 1 (.E (.a (.r (.v 0) 256) (.w (.v 0))) (.a (.w (.v 0)) (.l 256 (.v 0))))) [_] [_] rfl)
section
variable {prog:Program} {w:World}
theorem b35 {A:Around} {E:Value->Shared->Prop} {s:Shared} {x:Int} {k:Nat} {t u v:Tok} {Q:Value->Shared->Prop} (hk:k<=16777216) (h0:0<=x) (h1:x<256^k) (h: ∀t' k',Q (.bytes (leB k x).toArray t') {s with toks:=k'}):
  wpAny (model prog w) A (call (.builtin "int.to_bytes") [.int x t,.int (k:Int) u,.str (PySem.Str.ofString "little") v]) Q E s:=by
 refine wpAny_call_entry KTBy.slot (typeIs_int s x t) KTBy.entry ?_ (KTBy.args _ _ _);have hb:=KTBy.bits_le (k:=k) rfl h0 h1;show wpAny _ _ (Builtin.Int.intOfSelf (.int x t)>>=fun y=>_) _ _ s;refine d0 (wpAny_of_eq (a:=x) rfl ?_);show wpAny _ _ (Builtin.Int.intBindNamed "to_bytes" ["length","byteorder","signed"] 0 2 [.int (k:Int) u,.str (PySem.Str.ofString "little") v] []>>=fun l=>_) _ _ s;refine d0 (wpAny_of_eq (a:=[some (.int (k:Int) u),some (.str (PySem.Str.ofString "little") v),none]) s!"." ?_);show wpAny _ _ (Builtin.Int.intIndex "int.to_bytes" (.int (k:Int) u)>>=fun n=>_) _ _ s;refine d0 (wpAny_of_eq (a:=(k:Int)) rfl ?_);refine KTBy.if_not (by show (decide ((k:Int)< -(2^63:Int))||decide ((k:Int)>=2^63))=false;rw [decide_eq_false (show¬((k:Int)< -(2^63:Int)) by (exact fun q4=>fk s!"hSwAgn2^63o0F" [] [_] rfl q4)),decide_eq_false (show¬((k:Int)>=2^63) by (exact fun q4=>fk s!"hxAn16777216hLn2^63wAo0F" [] [_] rfl hk q4))];rfl) ?_;refine d0 (wpAny_of_eq (a:=PySem.Str.ofString "little") s!"." ?_);refine d0 (wpAny_of_eq (a:=false) rfl ?_);refine d0 (wpAny_of_eq (a:=true) s!"." ?_);refine wpAny_ite_false (decide_eq_false (show¬((k:Int)<0) by (exact fun q4=>fk s!"hSwAn0o0F" [] [_] rfl q4))) ?_;refine wpAny_ite_false (decide_eq_false (show¬((k:Int)>2^63-1-33) by (exact fun q4=>fk s!"hxAn16777216hSmmn2^63n1n33wAo0F" [] [_] rfl hk q4))) ?_;refine wpAny_ite_false (decide_eq_false (show¬((k:Int)>(sizeLine:Int)) by rw [sizeLine_eq];(exact fun q4=>fk s!"hxAn16777216hSwn16777216wAo0F" [] [_] rfl hk q4))) ?_;refine KTBy.if_not (by show (decide (x<0)&&!false)=false;rw [decide_eq_false (show¬x<0 by (exact fun q4=>fk s!"hLn0AhSAn0o0F" [_] [] rfl h0 q4))];rfl) ?_;refine KTBy.if_not (by show (_&&decide ((Builtin.Int.intBits x:Int)>8*(k:Int)))=false;rw [decide_eq_false (show¬((Builtin.Int.intBits x:Int)>8*(k:Int)) by (exact fun q4=>fk s!"hxAl8BhSl8wBwAo0F" [] [_,_] rfl hb q4)),Bool.and_false]) ?_;have e:KTBy.low x (Int.toNat (k:Int))=leB k x:=by
  rw [Int.toNat_natCast];exact k19 _ _ _ (by rw [KTBy.low_ints h0 h1,<-KTBy.little_eq])
 refine d0 (wpAny_mkBytes (m0 ⟨_,rfl,?_⟩) (by show (KTBy.low x (Int.toNat (k:Int))).length<=sizeLine;rw [KTBy.low_length,Int.toNat_natCast,sizeLine_eq];(exact hk)));have:Q (.bytes (KTBy.low x (Int.toNat (k:Int))).toArray s.toks) {s with toks:=s.toks+1}:=by rw [e];exact h _ _
 exact this
theorem y38:fillsInplaceSlot (.type "list") "add" (Operator.Add== .Add)=pure false:=by
 unfold fillsInplaceSlot;show (typeLookup (.type "list") (dunderI "add")>>=fun fi=>_)=pure false;rw [PySem.F.slot_list_iadd.lookup]
 kernel_rfl
theorem c35:seqSlot? (.type "list") (dunderI "add")=pure (some (.builtin "list.__iadd__")):=PySem.seqSlot_of PySem.F.slot_list_iadd.lookup (by decide+kernel)
theorem f26 {A:Around} {E:Value->Shared->Prop} {s:Shared} {l m:Nat} {xs ys:Array Value} {Q:Value->Shared->Prop} (hl:s.heap.PlainList l xs) (hm:s.heap.PlainList m ys) (hz:xs.size+ys.size<=16777216)
  (hQ: ∀h',h'.PlainList l (xs++ys)->Heap.SameBut l s.heap h'->Q (.ref l) {s with heap:=h'}):wpAny (model prog w) A (inplaceOp .Add (.ref l) (.ref m)) Q E s:=by
 obtain ⟨n,ho⟩:=hl;obtain ⟨n2,ho2⟩:=hm;have hT:s.TypeIs (.ref l) "list":=⟨_,ho,rfl⟩;have hT2:s.TypeIs (.ref m) "list":=⟨_,ho2,rfl⟩;unfold inplaceOp;refine wpAny_holding ?_;refine d0 (wpAny_typeOf hT (d0 (wpAny_of_eq y38 ?_)));show wpAny _ A (if false=true then _ else _) Q E s;rw [if_neg Bool.false_ne_true];refine d0 (wpAny_binaryOp1_none (nm:="add") hT hT2 noFill_list_add ?_);refine d0 (wpAny_of_eq c35 ?_);refine d0 (wpAny_rule (wpAny_call_entry PySem.F.slot_list_iadd hT PySem.F.entry_list_iadd ?_ (PySem.F.args_list_iadd_2 _ _)));show wpAny _ _ (Builtin.List.listExtendWith (.ref l) (.ref m) (.ref l)) _ _ s;unfold Builtin.List.listExtendWith;refine d0 (wpAny_typeOf hT2 ?_);refine KFB.if_so (by rw [show (Value.type "list"==Value.type "list")=true from by decide];simp) ?_;refine d0 (listItems_at ho2 rfl (d0 (listItems_at ho rfl ?_)));refine KFB.if_not (by rw [show Builtin.List.listTooLong (xs.size+ys.size)=false from by simp [Builtin.List.listTooLong,sizeLine];(exact hz),Bool.and_false]) ?_;obtain ⟨n',hd'⟩: ∃n',Obj.mapSeq (·++ys) {cls:= .type "list",data:= .seq xs n}={cls:= .type "list",data:= .seq (xs++ys) n'}:=⟨_,rfl⟩;have hfin:(s.heap.update l (Obj.mapSeq (·++ys))).PlainList l (xs++ys):=⟨n',by rw [Heap.get?_update_self _ ho (by rw [hd'];rfl),hd']⟩;refine d0 (listUpdate_at ho rfl (m0 ⟨_,rfl,hQ _ hfin (Heap.SameBut.update ..)⟩) (by rw [sizeLine_eq];(exact fk s!"hxaABn16777216oxAn16777216" [] [_,_] rfl hz)) (by rw [sizeLine_eq,Array.size_append];(exact fk s!"hxaABn16777216oxaABan16777216n1" [] [_,_] rfl hz)))
end
end Mine
namespace Mine
open PySem.SeqAt
theorem g26:N `to_bytes=Str.ofString "to_bytes":=s!"."
theorem t20:N `from_bytes=Str.ofString "from_bytes":=s!"."
theorem x23:N `little=Str.ofString "little":=s!"."
section
variable {X:Cx} {c:Cf} {σ:St} {E:Nat->St->Prop} {Q:AV->St->Prop}
theorem h30 {l m:Nat} {xs ys:List AV} (e1:σ.h l=some (.list xs)) (e2:See X σ m (.list ys)) (hz:xs.length+ys.length<=16777216) (h:Q (.ref l) {σ with h:=upd σ.h l (.list (xs++ys))}):WIn X c .Add (.ref l) (.ref m) Q E σ:=fun U V hU hV A s g R=>by
 refine of ?_;obtain rfl:=t10 hU;obtain rfl:=t10 hV;walk_at "o";obtain ⟨i1,h1,rfl⟩:=(R.objs _ _ e1).2;obtain ⟨i2,h2,rfl⟩:=(e2.holds R: ∃items,s.heap.PlainList m items/\_);refine f26 h1 h2 (by simpa using hz) fun h' hi hs=>⟨_,⟨own,R.update (tk:=s.toks) (o:= .list (i1.toList.map ab++i2.toList.map ab)) e1 (fun b y hb hy=>(hs.2 b fun q=>?_).trans hy) (fun q hq=>?_) ⟨_,hi,by simp⟩⟩,h⟩
 ·subst q;exact hb (R.objs _ _ e1).1
 ·by_cases z:q=l
  ·subst z;obtain ⟨o,ho⟩:=hi;exact ⟨_,ho⟩
  ·obtain ⟨y,hy⟩:=(R.owned q l hq).1;exact ⟨y,(hs.2 q z).trans hy⟩
theorem h26 {n:Int} (h: ∀a,σ.h a=none->Q (.ref a) {σ with h:=upd σ.h a (.range 0 n 1)}):J2 X c (.type "range") [.int n] [] Q E σ:=fun F vs ks hF hv hk A s g R=>by
 refine of ?_;obtain rfl:=x11 hF;obtain ⟨y,r,rfl,hy,hr⟩:=map_cons hv;obtain rfl:=v10 hr;obtain rfl:=v10 hk;obtain ⟨t,rfl⟩:=o10 hy;walk_at "o";obtain ⟨hn,own',R'⟩:=R.J4 (tk:=s.toks+1+1) (o:= .range 0 n 1) (ob:={cls:= .type "range",data:= .fields #[.int 0 s.toks,.int n t,.int 1 (s.toks+1)]}) rfl fun own'=>⟨_,_,_,y3 _ rfl⟩;exact call_range_1 ⟨_,⟨own',R'⟩,h _ hn⟩
theorem i26 {m n:Int} (h: ∀a,σ.h a=none->Q (.ref a) {σ with h:=upd σ.h a (.range m n 1)}):J2 X c (.type "range") [.int m,.int n] [] Q E σ:=fun F vs ks hF hv hk A s g R=>by
 refine of ?_;obtain rfl:=x11 hF;obtain ⟨y,r,rfl,hy,hr⟩:=map_cons hv;obtain ⟨z,r2,rfl,hz2,hr2⟩:=map_cons hr;obtain rfl:=v10 hr2;obtain rfl:=v10 hk;obtain ⟨t,rfl⟩:=o10 hy;obtain ⟨u,rfl⟩:=o10 hz2;walk_at "o";obtain ⟨hn,own',R'⟩:=R.J4 (tk:=s.toks+1) (o:= .range m n 1) (ob:={cls:= .type "range",data:= .fields #[.int m t,.int n u,.int 1 s.toks]}) rfl fun own'=>⟨_,_,_,y3 _ rfl⟩;exact call_range_2 ⟨_,⟨own',R'⟩,h _ hn⟩
theorem j26 {m n k:Int} (h0:k≠0) (hp:Builtin.divisionGoesByPylong (n-m) k=false) (h: ∀a,σ.h a=none->Q (.ref a) {σ with h:=upd σ.h a (.range m n k)}):J2 X c (.type "range") [.int m,.int n,.int k] [] Q E σ:=fun F vs ks hF hv hk A s g R=>by
 refine of ?_;obtain rfl:=x11 hF;obtain ⟨y,r,rfl,hy,hr⟩:=map_cons hv;obtain ⟨z,r2,rfl,hz2,hr2⟩:=map_cons hr;obtain ⟨z3,r3,rfl,hz3,hr3⟩:=map_cons hr2;obtain rfl:=v10 hr3;obtain rfl:=v10 hk;obtain ⟨t,rfl⟩:=o10 hy;obtain ⟨u,rfl⟩:=o10 hz2;obtain ⟨v,rfl⟩:=o10 hz3;walk_at "o";obtain ⟨hn,own',R'⟩:=R.J4 (tk:=s.toks) (o:= .range m n k) (ob:={cls:= .type "range",data:= .fields #[.int m t,.int n u,.int k v]}) rfl fun own'=>⟨_,_,_,y3 _ rfl⟩;exact call_range_3 h0 ⟨_,⟨own',R'⟩,h _ hn⟩ (.inl hp)
theorem d35 {t n:Nat} {xs:List AV} {Q:List AV->St->Prop} (e:See X σ t (.tuple xs)) (hd:c.hd=none) (hl:xs.length=n) (h:Q xs σ):J14 X c (.ref t) n Q E σ:=fun V hV A s g R=>by
 refine of ?_;obtain rfl:=t10 hV;walk_at "o";obtain ⟨i1,h1,rfl⟩:=(e.holds R: ∃items,IsTup s.heap t items/\_);have hl:i1.size=n:=by simpa using hl
 subst hl;refine PyProof.Rows.unpackItems_tuple (g.hd.trans hd) h1 fun h' hs=>⟨σ,⟨own,R.keeps (fun b o e=>hs b o (Nat.ne_of_lt (Heap.lt_size e)) e) R.bare⟩,h⟩
theorem i30 {x:Int} {Q:AV×List AV->St->Prop} (h:Q (.builtin "int.to_bytes",[.int x]) σ):WGM X c (.int x) (N `to_bytes) Q E σ:=fun V pl hV A s g R=>by
 refine of ?_;obtain ⟨t,rfl⟩:=o10 hV;rw [g26];exact KTBy.method ⟨σ,R,h⟩
theorem y23 {x:Int} {k:Nat} {kk:Int} (hkk:kk=k) (hk:k<=16777216) (h0:0<=x) (h1:x<256^k) (h:Q (.bytes (leB k x)) σ):J2 X c (.builtin "int.to_bytes") [.int x,.int kk,.str (N `little)] [] Q E σ:=fun F vs ks hF hv hks A s g R=>by
 refine of ?_;subst hkk;obtain rfl:=d11 hF;obtain ⟨y,r,rfl,hy,hr⟩:=map_cons hv;obtain ⟨z,r2,rfl,hz2,hr2⟩:=map_cons hr;obtain ⟨z3,r3,rfl,hz3,hr3⟩:=map_cons hr2;obtain rfl:=v10 hr3;obtain rfl:=v10 hks;obtain ⟨t,rfl⟩:=o10 hy;obtain ⟨u,rfl⟩:=o10 hz2;obtain ⟨v,rfl⟩:=p11 hz3;rw [x23];exact b35 hk h0 h1 fun t' k'=>⟨σ,R.tk _,by first | exact h | simpa [ab] using h⟩
def R14 (K:Frag):Prop:=findCls K (.type "int") (.type "type") (PySem.Str.ofString "from_bytes")=some (.get (.builtin "classmethod_descriptor.__get__") (.builtin "int.from_bytes") .none (.type "int"))
theorem W15 {prog:Program} {w:World} {A:Around} {E:Value->Shared->Prop} {s:Shared} {K:Frag} {pl:Sem Bool} {Q:Value×List Value->Shared->Prop} (X:K.In s.heap) (e:R14 K)
  (h:Q (.ref s.heap.objs.size,[]) {s with heap:=s.heap.push KFB.bound,toks:=s.toks+1}):wpAny (model prog w) A (getMethod (.type "int") (PySem.Str.ofString "from_bytes") pl) Q E s:=by
 have hstub:opaqueClassAbove (.type "int")=pure none:=by unfold opaqueClassAbove;dsimp only;rw [show Manifest.isStub "int"=false by decide+kernel];rfl
 have ht:typeOf (.type "int")=pure (.type "type"):=by first | rfl | kernel_rfl
 have L0:Looks (model prog w) s.heap (typeOf (.type "int")) (.type "type"):=Looks.of_pure ht;have hg:findIn K (.type "type") "__getattribute__"=some (some (.builtin "type.__getattribute__")):=type_tga;unfold getMethod specialOf;refine d0 (d0 (L0.here ((looks_findIn X hg).here ?_)));dsimp only;rw [if_pos canon_tga];refine d0 (wpAny_mono (Q:=fun v=>Q (v,[])) (E:=E) ?_ (fun _ _ z=>m0 z) fun _ _ z=>z);have LO:Looks (model prog w) s.heap (opaqueClassAbove (.type "int")) none:=Looks.of_pure hstub;refine cls_open X LO L0 hg (looks_hook X (r:=none) (by rfl)) (by show subIn K _ _=_;rfl) e ?_;show wpAny _ _ (holding [.builtin "int.from_bytes"] (call (.builtin "classmethod_descriptor.__get__") [.builtin "int.from_bytes",.none,.type "int"])>>=fun v=>ret v) _ _ _;refine d0 (wpAny_holding (wpAny_call_entry KFB.slot_get KFB.type_fb KFB.entry_get (KFB.run_get ⟨_,rfl,m0 (m0 h)⟩) (KFB.args_get _ _ _)))
noncomputable def fbA:W0:= .fields "builtin_function_or_method" [.builtin "int.from_bytes",.type "int"]
theorem w49 {own:Nat->Option Nat} {hp:Heap} {a:Nat} (H:Holds X own hp a fbA):hp.get? a=some KFB.bound:=by
 obtain ⟨vs,h1,h2⟩:=H;obtain ⟨v,r,e,e1,e2⟩:=map_cons h2;obtain ⟨w,r2,rfl,e3,e4⟩:=map_cons e2;obtain rfl:=v10 e4;obtain rfl:=d11 e1;obtain rfl:=x11 e3;obtain ⟨l⟩:=vs;dsimp only at e;subst e;exact h1
theorem z23 {Q:AV×List AV->St->Prop} (e:R14 X.K) (h: ∀a,σ.h a=none->Q (.ref a,[]) {σ with h:=upd σ.h a fbA}):WGM X c (.type "int") (N `from_bytes) Q E σ:=fun V pl hV A s g R=>by
 refine of ?_;obtain rfl:=x11 hV;rw [t20];have RK:=R.inK;walk_at "o";obtain ⟨hn,own',R'⟩:=R.J4 (tk:=s.toks+1) (o:=fbA) (ob:=KFB.bound) rfl fun own'=>⟨_,y3 _ rfl,rfl⟩;exact W15 RK e ⟨_,⟨own',R'⟩,h _ hn⟩
theorem t53 {a:Nat} (e:σ.h a=some fbA):U3 X c (.ref a) σ:=fun F s hF R=>by
 obtain rfl:=t10 hF;walk_at "o";refine ⟨.machine,.inr (.inl rfl),?_⟩;unfold keeperOf;refine (Looks.ld (part:=none) (w49 (R.objs _ _ e).2)).andThen ?_;show Looks _ _ (if (Value.type "builtin_function_or_method" != Value.type "method")=true then _ else _) _;rw [if_pos (by decide)];exact .now
theorem r18 {a:Nat} {l:List UInt8} (e:σ.h a=some fbA) (hz:l.length<=8) (h:Q (.int (leV l)) σ):J2 X c (.ref a) [.bytes l,.str (N `little)] [] Q E σ:=fun F vs ks hF hv hks A s g R=>by
 refine of ?_;obtain rfl:=t10 hF;obtain ⟨y,r,rfl,hy,hr⟩:=map_cons hv;obtain ⟨z,r2,rfl,hz2,hr2⟩:=map_cons hr;obtain rfl:=v10 hr2;obtain rfl:=v10 hks;obtain ⟨t,rfl⟩:=h11 hy;obtain ⟨v,rfl⟩:=p11 hz2;rw [x23];walk_at "o";refine KFB.call_of (w49 (R.objs _ _ e).2) (fun z=>KFB.tree_little (by simpa using hz) z) ⟨σ,⟨own,R.toks _⟩,?_⟩;show Q (.int (KFB.value (KBw.bInts l.toArray).reverse)) σ;have:KBw.bInts l.toArray=l.map (fun c=>((c.toNat:Nat):Int)):=rfl;rw [this,w28];exact h
theorem l19: ∀(vs:List Value) (ns:List Int),vs.map ab=ns.map AV.int->IntsAre vs ns
 | [],[],_=> .nil
 | [],_::_,h=>by cases h
 | _::_,[],h=>by cases h
 | v::vs,n::ns,h=>by
  rw [v5,v5,List.cons.injEq] at h;obtain ⟨t,rfl⟩:=o10 h.1;exact .cons n t (l19 vs ns h.2)
theorem a24 {l:Nat} {ns:List Int} (e:See X σ l (.list (ns.map .int))) (hd:c.hd=none) (hr: ∀n∈ns,0<=n/\n<256) (hz:ns.length<=16777216) (h:Q (.bytes (ns.map fun n=>n.toNat.toUInt8)) σ):J2 X c (.type "bytes") [.ref l] [] Q E σ:=fun F vs ks hF hv hk A s g R=>by
 refine of ?_;obtain rfl:=x11 hF;obtain ⟨y,r,rfl,hy,hr2⟩:=map_cons hv;obtain rfl:=v10 hr2;obtain rfl:=v10 hk;obtain rfl:=t10 hy;walk_at "o";obtain ⟨i1,h1,k1⟩:=e.list R;have hi:=l19 _ _ k1;refine call_bytes_ints (vs:=i1.toList) (by simpa using h1) hi hr (by rw [hi.length,sizeLine_eq];exact hz) (g.hd.trans hd) fun h' t k hk=>⟨σ,⟨own,R.keeps hk R.bare⟩,?_⟩;show Q (.bytes (byteArr ns).toList) σ;unfold byteArr;simpa using h
theorem b24 {l:List UInt8} {i:Int} (hz:l.length<=1099511627776) (h0:i<0) (h1: -(l.length:Int)<=i) (h:Q (.int (l.getD (i+l.length).toNat 0).toNat) σ):WGI X c (.bytes l) (.int i) Q E σ:=fun V W hV hW A s g R=>by
 refine of ?_;obtain ⟨t,rfl⟩:=h11 hV;obtain ⟨u,rfl⟩:=o10 hW;refine getItem_gives (typeIs_bytes s _ t) (by decide) FB.slot_bytes_getitem FB.entry_bytes_getitem (FB.args_bytes_getitem_2 _ _) (gives_bytes_getitem _ i t u (l.getD (i+l.length).toNat 0) ?_ ?_) ⟨σ,R.tk _,h⟩
 ·simp only [Builtin.Bytes.fitsIndex,z0,decide_eq_true_eq];(exact ⟨fk s!"hxAn1099511627776hLgwAAoLgn2^63A" [_] [_] rfl hz h1,fk s!"hSAn0oSAn2^63" [_] [] rfl h0⟩)
 ·have hl:(i+l.length).toNat<l.length:=by (exact fk s!"hSAn0hEwAaAwBoyAB" [_] [_,_] rfl h0 (y5 (fk s!"hLgwAAoLn0aAwA" [_] [_] rfl h1)))
  rw [show seqIndex? i l.toArray.size=some (i+l.length).toNat from seqIndex_neg h0 (by simpa using h1)];simp [hl]
end
end Mine
namespace Mine
open PySem.SeqAt
noncomputable def tT:Value:= .type "type"
noncomputable def Z6 (K:Frag) (C x:Nat):Option AV:=if readsIn K C tT then (match findCls K (.ref C) tT (N x) with | some (.val v)=>if handedIn v then some (ab v) else none | _=>none) else none
def S11 (K:Frag) (C x f:Nat):Prop:= ∃p rest,readsIn K C tT=true/\specialIn K (.ref C) "__getattribute__"=some (some (.builtin "type.__getattribute__"))/\findCls K (.ref C) tT (N x)=some (.get (.builtin "staticmethod.__get__") (.ref p) .none (.ref C))/\recIn K p "staticmethod"=some (.ref f::rest)
def Z9 (K:Frag) (C x f:Nat):Prop:= ∃cd p rest,plainGet K C (N x)=true/\copiedNames.contains (N x)=false/\clsIn K C=some cd/\findIn K (.ref C) (N x)=some (some (.ref p))/\cd.hasDict=true/\specialIn K (.ref p) "__get__"=some (some (.builtin "staticmethod.__get__"))/\takesIn K (.ref p)=some false/\(typeIn K (.ref p)).any (fun t=>t != .type "function"&&t != .type "method_descriptor"&&t != .type "wrapper_descriptor")=true/\recIn K p "staticmethod"=some (.ref f::rest)
section
variable {X:Cx} {c:Cf} {σ:St} {E:Nat->St->Prop} {Q:AV->St->Prop}
set_option tactic.hygienic true in
theorem a45 {C x:Nat} {v:AV} (ok:Z6 X.K C x=some v) (h:Q v σ):WGA X c (.ref C) (N x) Q E σ:=fun V ex hV A s g R=>by
 refine of ?_;obtain rfl:=t10 hV;have RK:=R.inK;walk_at "o";unfold Z6 at ok
 split at ok
 ·rename_i hr
  split at ok
  ·rename_i v' e
   split at ok
   ·rename_i hh;cases ok;exact cls_value RK hr e hh ⟨σ,⟨own,R.toks _⟩,h⟩
   ·cases ok
  ·cases ok
 ·cases ok
theorem x49 {C x f:Nat} {Q:AV×List AV->St->Prop} (ok:S11 X.K C x f) (h:Q (.ref f,[]) σ):WGM X c (.ref C) (N x) Q E σ:=fun V pl hV A s g R=>by
 refine of ?_;obtain rfl:=t10 hV;have RK:=R.inK;walk_at "o";obtain ⟨p,rest,h1,h2,e,hp⟩:=ok;exact method_cls RK h2 (cls_bind RK h1 e (wpAny_call (sm_get (s:={s with toks:=s.toks+1}) RK hp (handed_on rfl ⟨σ,⟨own,R.toks _⟩,h⟩))))
theorem y49 {p0 C x f:Nat} {fs:NS} {Q:AV×List AV->St->Prop} (e:σ.h p0=some (.inst C fs)) (hx:fs.lookup x=none) (ok:Z9 X.K C x f) (h:Q (.ref f,[]) σ):WGM X c (.ref p0) (N x) Q E σ:=fun V pl hV A s g R=>by
 refine of ?_;obtain rfl:=t10 hV;have RK:=R.inK;walk_at "o";obtain ⟨dx,sl,es,n,_,_,_,h5,_,I⟩:=h17 (R.objs _ _ e).2;obtain ⟨cd,p,rest,q1,q2,hcd,hf,k0,k1,k2,k3,hp⟩:=ok;have hg:=g17 h5 x;rw [hx] at hg;have fo:findObj X.K C (some (dictOf es n)) (N x)=some (.bind (.builtin "staticmethod.__get__") (.ref p)):=by
  unfold findObj;rw [hcd,hf];simp only [Option.bind_some,k1,k2];show ((PySem.W.ownOf cd (some (dictOf es n)) (N x)).bind _)=_;unfold PySem.W.ownOf;rw [k0];simp only [if_true];rw [show lookIn (N x) (dictOf es n)=some none from by rw [lookIn_dict,hg]];show (if (copiedNames.contains (N x)&&_)=true then none else _)=_;rw [q2,Bool.false_and,if_neg Bool.false_ne_true]
 exact method_usual RK I (plainGet_of q1).1 (plainGet_of q1).2 hf k3 (get_bind RK I (plainGet_of q1).1 fo (plainGet_of q1).2 (wpAny_call (sm_get (s:={s with toks:=s.toks+1}) RK hp (handed_on rfl ⟨σ,⟨own,R.toks _⟩,h⟩))))
end
end Mine
namespace Mine
open PySem.SeqAt
noncomputable def V5:List (Nat×Nat×AV)->Nat->Nat->Option AV
 | [],_,_=>none
 | (C,x,v)::r,C',x'=>if C=C' then (if x=x' then some v else V5 r C' x') else V5 r C' x'
theorem v12: ∀{l:List (Nat×Nat×AV)} {C x:Nat} {v:AV},V5 l C x=some v->(C,x,v)∈l
 | [],_,_,_,h=>by cases h
 | (C',x',v')::r,C,x,v,h=>by
  have h:(if C'=C then (if x'=x then some v' else V5 r C x) else V5 r C x)=some v:=h;by_cases e:C'=C
  ·subst e;rw [if_pos rfl] at h;by_cases e:x'=x
   ·subst e;rw [if_pos rfl] at h;cases h;exact .head _
   ·rw [if_neg e] at h;exact .tail _ (v12 h)
  ·rw [if_neg e] at h;exact .tail _ (v12 h)
theorem m19 {x:Int} (h: -9223372036854775808<x/\x<9223372036854775808):Builtin.Int.intBits x<=64:=by
 refine intBits_le_iff.mpr ?_;omega
theorem u53 {x k:Int} (h0:0<=x) (h1:x<k) (e:decide (k<=18446744073709551616)=true):x.natAbs<2^64:=Int.ofNat_lt.mp (by rw [Int.natAbs_of_nonneg h0];exact Int.lt_of_lt_of_le h1 (of_decide_eq_true e))
theorem b45 {x y:Int} (h: -9223372036854775808<x/\x<9223372036854775808):IntMulOk x y:=IntMulOk.of_left (m19 h)
theorem c45 {x y:Int} (h: -9223372036854775808<y/\y<9223372036854775808):IntMulOk x y:=IntMulOk.of_right (m19 h)
section
variable {X:Cx} {c:Cf} {P:PT} {K:KT} {σ:St} {H:Nat->Option W0} {L:NS} {vs:List AV} {r:List Tr} {a b d:AV}
theorem z49 {P':PT} (h:Go (run X c K P r vs σ)):Go (run X c (run X c K P r) P' [] vs σ):=⟨by have h:=h.out;exact h⟩
theorem k26 {C x:Nat} (hC:C<100000) (ok:Z6 X.K C x=some a) (h:Go (run X c K P r (a::vs) σ)):Go (run X c K P (I.attr x::r) (.ref C::vs) σ):=⟨by have h:=h.out;exact a45 ok h⟩
theorem z38 {C x f:Nat} (ok:S11 X.K C x f) (h:Go (run X c K P r (.other:: .ref f::vs) σ)):Go (run X c K P (I.gm x::r) (.ref C::vs) σ):=⟨by have h:=h.out;exact x49 ok ⟨.other,rfl,h⟩⟩
theorem a39 {p C x f:Nat} {fs:NS} (e:H p=some (.inst C fs)) (hx:fs.lookup x=none) (ok:Z9 X.K C x f) (h:Go (run X c K P r (.other:: .ref f::vs) (⟨H,L⟩:St))):Go (run X c K P (I.gm x::r) (.ref p::vs) (⟨H,L⟩:St)):=⟨by have h:=h.out;exact y49 e hx ok ⟨.other,rfl,h⟩⟩
theorem j30 {p k:Nat} {fs:NS} (e:H p=some (.dictS fs)) (hx:fs.lookup k=some a) (h:Go (run X c K P r (a::vs) (⟨H,L⟩:St))):Go (run X c K P (I.sub::r) (.str (N k):: .ref p::vs) (⟨H,L⟩:St)):=⟨by have h:=h.out;exact ⟨p28 (.inl e),r28 (.inl e) hx h⟩⟩
theorem l26 {p k:Nat} {fs:NS} (e:Base X p (.dictS fs)) (hx:fs.lookup k=some a) (h:Go (run X c K P r (a::vs) σ)):Go (run X c K P (I.sub::r) (.str (N k):: .ref p::vs) σ):=⟨by have h:=h.out;exact ⟨p28 (.inr e),r28 (.inr e) hx h⟩⟩
theorem w14 {p:Nat} {k:Int} {fs:List (Int×AV)} (e:H p=some (.dictI fs)) (hx:fs.lookup k=some a) (h:Go (run X c K P r (a::vs) (⟨H,L⟩:St))):Go (run X c K P (I.sub::r) (.int k:: .ref p::vs) (⟨H,L⟩:St)):=⟨by have h:=h.out;exact ⟨q28 (.inl e),t28 (.inl e) hx h⟩⟩
theorem w11 {p:Nat} {k:Int} {xs:List AV} (e:H p=some (.list xs)) (h0:0<=k/\k<2^63) (hx:xs[k.toNat]? =some a) (h:Go (run X c K P r (a::vs) (⟨H,L⟩:St))):Go (run X c K P (I.sub::r) (.int k:: .ref p::vs) (⟨H,L⟩:St)):=⟨by have h:=h.out;exact ⟨o44 e,n44 e h0.1 h0.2 hx h⟩⟩
theorem m26 {p k:Nat} {fs:NS} (e:H p=some (.dictS fs)) (hl:fs.length<=900) (h:Go (run X c K P r vs ⟨upd H p (.dictS (put fs k a)),L⟩)):Go (run X c K P (I.I7::r) (.str (N k):: .ref p::a::vs) (⟨H,L⟩:St)):=⟨by have h:=h.out;exact v28 e (by exact fk s!"hxAn900oxAn16777216" [] [_] rfl hl) h⟩
theorem c24 {p k:Nat} {fs:NS} (e:H p=some (.dictS fs)) (hl:fs.length<=900) (h:Go (run X c K P r vs ⟨upd H p (.dictS (put fs k a)),L⟩)):Go (run X c K P (I.M7::r) (a:: .str (N k):: .ref p::vs) (⟨H,L⟩:St)):=⟨by have h:=h.out;exact v28 e (by exact fk s!"hxAn900oxAn16777216" [] [_] rfl hl) h⟩
theorem m11 {p:Nat} {k:Int} {xs:List AV} (e:H p=some (.list xs)) (h0:0<=k/\k<2^63) (hl:k<xs.length) (h:Go (run X c K P r vs ⟨upd H p (.list (xs.set k.toNat a)),L⟩)):Go (run X c K P (I.I7::r) (.int k:: .ref p::a::vs) (⟨H,L⟩:St)):=⟨by have h:=h.out;exact l34 e h0.1 h0.2 hl h⟩
theorem y12 {p:Nat} {k:Int} {xs:List AV} (e:H p=some (.list xs)) (h0:0<=k/\k<2^63) (hl:k<xs.length) (h:Go (run X c K P r vs ⟨upd H p (.list (xs.set k.toNat a)),L⟩)):Go (run X c K P (I.M7::r) (a:: .int k:: .ref p::vs) (⟨H,L⟩:St)):=⟨by have h:=h.out;exact l34 e h0.1 h0.2 hl h⟩
theorem a50 (h: ∀a,H a=none->Go (run X c K P r (.ref a::vs) ⟨upd H a (.dictS []),L⟩)):Go (run X c K P (I.Y11::r) vs (⟨H,L⟩:St)):=by
 refine ⟨?_⟩;have h:=fun x0 x1=>(h x0 x1).out;exact h
theorem d45 (h: ∀a,H a=none->Go (run X c K P r (.ref a::vs) ⟨upd H a (.dictI []),L⟩)):Go (run X c K P (I.Y10::r) vs (⟨H,L⟩:St)):=by
 refine ⟨?_⟩;have h:=fun x0 x1=>(h x0 x1).out;exact h
theorem b50 {ns:List Nat} {as ws:List AV} {p:Nat} (e:O3 ns.length vs []=some (as,.ref p::ws)) (e2:H p=some (.dictS [])) (h:Go (run X c K P r (.ref p::ws) ⟨upd H p (.dictS (ns.zip as)),L⟩)):Go (run X c K P (I.O12 ns::r) vs (⟨H,L⟩:St)):=by
 refine ⟨?_⟩;have h:=h.out;show I.O12 ns X c (run X c K P r) P vs (⟨H,L⟩:St);unfold I.O12;rw [e];exact ⟨e2,h⟩
theorem e45 {ns:List Int} {as ws:List AV} {p:Nat} (e:O3 ns.length vs []=some (as,.ref p::ws)) (e2:H p=some (.dictI [])) (h:Go (run X c K P r (.ref p::ws) ⟨upd H p (.dictI (ns.zip as)),L⟩)):Go (run X c K P (I.S8 ns::r) vs (⟨H,L⟩:St)):=by
 refine ⟨?_⟩;have h:=h.out;show I.S8 ns X c (run X c K P r) P vs (⟨H,L⟩:St);unfold I.S8;rw [e];exact ⟨e2,h⟩
theorem c50 {n f:Nat} {ks:List Nat} {as ws us:List AV} {kw:List (Str×AV)} (e1:K4 ks.reverse vs []=some (kw,ws)) (e2:O3 n ws []=some (as,.ref f::us)) (hf:f<100000) (ok:keepIn X.K (.ref f)=true) (h:P0 X c (.ref f) as kw (fun v=>run X c K P r (v::us)) (fx P) σ):Go (run X c K P (I.call n ks::r) vs σ):=by
 exact t11 e1 e2 (q41 ok) h.call
theorem f45 {n f:Nat} {s:AV} {ks:List Nat} {as ws us:List AV} {kw:List (Str×AV)} (e1:K4 ks.reverse vs []=some (kw,ws)) (e2:O3 n ws []=some (as,s:: .ref f::us)) (hf:f<100000) (ok:keepIn X.K (.ref f)=true) (h:P0 X c (.ref f) (G4 s++as) kw (fun v=>run X c K P r (v::us)) (fx P) σ):Go (run X c K P (I.J0 n ks::r) vs σ):=by
 exact t14 e1 e2 (q41 ok) h.call
end
end Mine
namespace Mine
open PySem.SeqAt
section
variable {X:Cx} {c:Cf} {P:PT} {K:KT} {σ:St} {H:Nat->Option W0} {L:NS} {vs:List AV} {r:List Tr} {a:AV}
theorem y10 {H:Nat->Option W0} {a b:Nat} {o:W0} (h:upd H b o a=none):H a=none:=(l10 h).2
theorem h13 {H:Nat->Option W0} {a b:Nat} {o:W0} {p:Prop} (k:Ap a b->H a=none->p):upd H b o a=none->p:=fun h=>k (l10 h).1 (l10 h).2
set_option tactic.hygienic true in
theorem q11 {H:Nat->Option W0} {a:Nat} {o:W0} (h:H a=none):del (upd H a o) a=H:=by
 funext b;unfold del
 split
 ·rename_i e;subst e;exact h.symm
 ·rename_i e;exact c11 _ _ e
def LJ (J:Nat->St->Prop) (N m:Nat):St->Prop:=Up (fun σ=> ∃j,j<=N/\m=N-j/\J j σ)
theorem l12 {N i:Nat} {J:Nat->St->Prop} {σ σ':St} (hi:i<N) (h:HGe [] σ.h σ'.h) (k:LGe σ.loc σ'.loc) (q:J (i+1) σ'): ∃m,m<N-i/\Up (LJ J N m) σ:=
 ⟨N-(i+1),by (exact fk s!"hzaAaBn1Ch-zaDBCoyAD" [] [_,_,_,_] rfl (n0 (hi)) (n0 (Nat.le_of_lt hi))),r12 h k (Up.same ⟨i+1,hi,rfl,q⟩)⟩
theorem r13 {x q:Nat} {lo hi:Int} {N:Nat} {b e:List Tr} (hq:H q=some (.range lo hi 1)) (hs:Builtin.Range.small lo hi 1=true) (hN:Builtin.Range.rangeSize lo hi 1=N) (hd:c.hd=none) (J:Nat->Nat->St->Prop) (h0: ∀it,H it=none->Up (J it 0) ⟨upd H it (.rangeIter lo N 1),L⟩) (hit: ∀it i σ,J it i σ->σ.h it=some (.rangeIter (lo+i) (N-i:Int) 1)) (step: ∀it i H' L',H it=none->i<N->J it i ⟨H',L'⟩->Go (run X c (fun _ σ3=> ∃m,m<N-i/\Up (LJ (J it) N m) σ3) (fun o σ3=>match o with | .cont=> ∃m,m<N-i/\Up (LJ (J it) N m) σ3 | .brk=>Up (run X c K P r vs) σ3 | o=>P o σ3) b [] ⟨upd H' it (.rangeIter (lo+((i+1:Nat):Int)) (N-((i+1:Nat):Int)) 1),(x,.int (lo+i))::L'⟩)) (done: ∀it H' L',H it=none->J it N ⟨H',L'⟩->Go (run X c (run X c K P r) P e vs ⟨del H' it,L'⟩)):Go (run X c K P (I.W4 [I.st x] b e::r) (.ref q::vs) ⟨H,L⟩):=by
 refine ⟨?_⟩;have step:=fun x0 x1 x2 x3 x4 x5 x6=>(step x0 x1 x2 x3 x4 x5 x6).out;have done:=fun x0 x1 x2 x3 x4=>(done x0 x1 x2 x3 x4).out;show Z1 X c (.ref q) _ (fx P) (⟨H,L⟩:St);refine m20 hq hs fun it hn=>⟨LJ (J it) N,N,Up.same (Up.mono (h0 it hn |> fun h=>by rw [hN];exact h) fun σ hσ=>⟨0,Nat.zero_le _,rfl,hσ⟩),fun m σ0 hpz=>?_⟩;obtain ⟨σ,ge,i,hi,hm,hJ⟩:=hpz;obtain ⟨H',L'⟩:=σ;refine fun y hy=>WT.down (n20 (c:=c) (hit it i _ hJ) hd (fun hl=>?_) (fun hl=>?_) y hy) ge
 ·have hi':i<N:=by (exact fk s!"hSn0mwAwBoyBA" [] [_,_] rfl hl)
  subst hm;have e1:lo+i+1=lo+((i+1:Nat):Int):=by (exact fe (.o 1 (.E (.a (.a (.v 0) (.w (.v 0))) (.n 1)) (.a (.v 0) (.w (.a (.v 0) (.n 1)))))) [_] [_] rfl)
  have e2:(N-i-1:Int)=N-((i+1:Nat):Int):=by (exact fe (.o 1 (.E (.m (.m (.w (.v 0)) (.w (.v 1))) (.n 1)) (.m (.w (.v 0)) (.w (.a (.v 1) (.n 1)))))) [] [_,_] rfl)
  rw [e1,e2];exact step it i H' L' hn hi' hJ
 ·have:i=N:=by (exact r0 (hi) (fk s!"hLmwAwBn0oxAB" [] [_,_] rfl hl))
  subst this;exact done it H' L' hn hJ
theorem x14 {l m:Nat} {xs ys:List AV} (e1:H l=some (.list xs)) (e2:H m=some (.list ys)) (hz:xs.length+ys.length<=16777216) (h:Go (run X c K P r (.ref l::vs) ⟨upd H l (.list (xs++ys)),L⟩)):Go (run X c K P (I.inp .Add::r) (.ref m:: .ref l::vs) (⟨H,L⟩:St)):=⟨by have h:=h.out;exact h30 e1 (.inl e2) hz h⟩
theorem j14 {x q:Nat} {xs:List AV} {b e:List Tr} (hq:H q=some (.list xs)) (hd:c.hd=none) (J:Nat->Nat->St->Prop) (h0: ∀it,H it=none->Up (J it 0) ⟨upd H it (.listIter q 0),L⟩) (hit: ∀it i σ,J it i σ->σ.h it=some (.listIter q i)/\σ.h q=some (.list xs)) (step: ∀it i v H' L',H it=none->xs[i]? =some v->J it i ⟨H',L'⟩->Go (run X c (fun _ σ3=> ∃m,m<xs.length-i/\Up (LJ (J it) xs.length m) σ3) (fun o σ3=>match o with | .cont=> ∃m,m<xs.length-i/\Up (LJ (J it) xs.length m) σ3 | .brk=>Up (run X c K P r vs) σ3 | o=>P o σ3) b [] ⟨upd H' it (.listIter q (i+1)),(x,v)::L'⟩)) (done: ∀it H' L',H it=none->J it xs.length ⟨H',L'⟩->Go (run X c (run X c K P r) P e vs ⟨del H' it,L'⟩)):Go (run X c K P (I.W4 [I.st x] b e::r) (.ref q::vs) ⟨H,L⟩):=by
 refine ⟨?_⟩;have step:=fun x0 x1 x2 x3 x4 x5 x6 x7=>(step x0 x1 x2 x3 x4 x5 x6 x7).out;have done:=fun x0 x1 x2 x3 x4=>(done x0 x1 x2 x3 x4).out;show Z1 X c (.ref q) _ (fx P) (⟨H,L⟩:St);refine l44 hq fun it hn=>⟨LJ (J it) xs.length,xs.length,Up.same (Up.mono (h0 it hn) fun σ hσ=>⟨0,Nat.zero_le _,rfl,hσ⟩),fun m σ0 hpz=>?_⟩;obtain ⟨σ,ge,i,hi,hm,hJ⟩:=hpz;obtain ⟨H',L'⟩:=σ;obtain ⟨g1,g2⟩:=hit it i _ hJ;refine fun y hy=>WT.down (m44 (c:=c) g1 g2 hd (fun v hv=>?_) (fun hv=>?_) y hy) ge
 ·subst hm;exact step it i v H' L' hn hv hJ
 ·have:i=xs.length:=by have:=List.getElem?_eq_none_iff.mp hv;(exact r0 (hi) (this))
  subst this;exact done it H' L' hn hJ
theorem g45 {t b:List Tr} (J:Nat->St->Prop) (n:Nat) (h0:Up (J n) σ) (turn: ∀m σ,J m σ->Go (run X c (fun ws σ1=>N8 (fun u _=>if u=true then
   run X c (fun _ σ2=> ∃k,k<m/\Up (J k) σ2) (fun o σ2=>match o with | .cont=> ∃k,k<m/\Up (J k) σ2 | .brk=>Up (run X c K P r vs) σ2 | o=>P o σ2) b [] σ1
   else Up (run X c K P r vs) σ1) ws) P t [] σ)):Go (run X c K P (I.whl t b::r) vs σ):=by
 refine ⟨?_⟩;have turn:=fun x0 x1 x2=>(turn x0 x1 x2).out;exact ⟨J,n,h0,turn⟩
theorem h45 {l:Nat} {xs:List AV} (e:H l=some (.list xs)) (hz:xs.length<=1099511627776) (h:Go (run X c K P r (.int xs.length::vs) (⟨H,L⟩:St))):Go (run X c K P (I.call 1 []::r) (.ref l:: .builtin "len"::vs) (⟨H,L⟩:St)):=by
 have h:=h.out;exact t11 rfl rfl g11 (j19 (.inl e) hz h)
theorem e35 {l:List UInt8} (hz:l.length<=1099511627776) (h:Go (run X c K P r (.int l.length::vs) σ)):Go (run X c K P (I.call 1 []::r) (.bytes l:: .builtin "len"::vs) σ):=by
 have h:=h.out;exact t11 rfl rfl g11 (m14 hz h)
theorem b39 {m:Int} (h: ∀q,H q=none->Go (run X c K P r (.ref q::vs) ⟨upd H q (.range 0 m 1),L⟩)):Go (run X c K P (I.call 1 []::r) (.int m:: .type "range"::vs) (⟨H,L⟩:St)):=by
 have h:=fun x0 x1=>(h x0 x1).out;exact t11 rfl rfl o13 (h26 h)
theorem c39 {l m:Int} (h: ∀q,H q=none->Go (run X c K P r (.ref q::vs) ⟨upd H q (.range l m 1),L⟩)):Go (run X c K P (I.call 2 []::r) (.int m:: .int l:: .type "range"::vs) (⟨H,L⟩:St)):=by
 have h:=fun x0 x1=>(h x0 x1).out;exact t11 rfl rfl o13 (i26 h)
theorem i45 (ok:R14 X.K) (h: ∀q,H q=none->Go (run X c K P r (.other:: .ref q::vs) ⟨upd H q fbA,L⟩)):Go (run X c K P (I.gm `from_bytes::r) (.type "int"::vs) (⟨H,L⟩:St)):=by
 refine ⟨?_⟩;have h:=fun x0 x1=>(h x0 x1).out;exact z23 ok fun q hq=>⟨.other,rfl,h q hq⟩
theorem f35 {q:Nat} {l:List UInt8} (e:H q=some fbA) (hz:l.length<=8) (h:Go (run X c K P r (.int (leV l)::vs) (⟨H,L⟩:St))):Go (run X c K P (I.J0 2 []::r) (.str (N `little):: .bytes l:: .other:: .ref q::vs) (⟨H,L⟩:St)):=by
 have h:=h.out;exact t14 rfl rfl (t53 e) (r18 e hz h)
theorem j45 {x:Int} (h:Go (run X c K P r (.int x:: .builtin "int.to_bytes"::vs) σ)):Go (run X c K P (I.gm `to_bytes::r) (.int x::vs) σ):=⟨by have h:=h.out;exact i30 ⟨.int x,rfl,h⟩⟩
theorem c15 {x kk:Int} {k:Nat} (hkk:kk=k) (hk:k<=16777216) (h0:0<=x/\x<256^k) (h:Go (run X c K P r (.bytes (leB k x)::vs) σ)):Go (run X c K P (I.J0 2 []::r) (.str (N `little):: .int kk:: .int x:: .builtin "int.to_bytes"::vs) σ):=by
 have h:=h.out;exact t14 rfl rfl g11 (y23 hkk hk h0.1 h0.2 h)
theorem k30 {l:Nat} {xs:List AV} {m:Int} (e:H l=some (.list xs)) (h0: -16777216<m/\m<16777216) (hz:xs.length*m.toNat<=16777216) (h: ∀q,H q=none->Go (run X c K P r (.ref q::vs) ⟨upd H q (.list (List.replicate m.toNat xs).flatten),L⟩)):Go (run X c K P (I.bin .Mult::r) (.int m:: .ref l::vs) (⟨H,L⟩:St)):=by
 refine ⟨?_⟩;have h:=fun x0 x1=>(h x0 x1).out;exact g30 (.inl e) h0.2 h0.1 hz h
end
end Mine
namespace Mine
open PySem.SeqAt
section
variable {X:Cx} {c:Cf} {P:PT} {K:KT} {σ:St} {H:Nat->Option W0} {L:NS} {vs:List AV} {r:List Tr} {a b d:AV}
theorem v53 {Q:AV->St->Prop} {E:Nat->St->Prop} {a n:Int} (h0:0<=n) (h:Q (.int (a.fdiv (2^n.toNat))) σ):WIn X c .RShift (.int a) (.int n) Q E σ:=fun x y hx hy A s g R=>by
 refine of ?_;obtain ⟨t,rfl⟩:=o10 hx;obtain ⟨u,rfl⟩:=o10 hy;exact irshift_int h0 ⟨σ,R.tk _,h⟩
theorem d50 {x y:Int} (e:0<=y) (h:Go (run X c K P r (.int (x.fdiv (2^y.toNat))::vs) σ)):Go (run X c K P (I.inp .RShift::r) (.int y:: .int x::vs) σ):=⟨v53 e h.out⟩
theorem g35 {m:Nat} {ys:List Int} (e:H m=some (.list (ys.map .int))) (h:Go (run X c K P r (.bool false::vs) (⟨H,L⟩:St))):Go (run X c K P (I.cmp .In::r) (.ref m:: .none::vs) (⟨H,L⟩:St)):=⟨p18 (.inl e) h.out⟩
theorem h35 {m:Nat} {k:Int} {ys:List Int} (e:H m=some (.list (ys.map .int))) (h:Go (run X c K P r (.bool (ys.any (·==k))::vs) (⟨H,L⟩:St))):Go (run X c K P (I.cmp .In::r) (.ref m:: .int k::vs) (⟨H,L⟩:St)):=⟨a35 (.inl e) h.out⟩
theorem e50 {e:List Tr} {K':KT} {P':PT} {ws:List AV} (h:Go (run X c K' P' e ws σ)):Go (run X c (fun _ σ1=>run X c K' P' e ws σ1) P [] vs σ):=⟨h.out⟩
theorem f50 {p:Nat} {C:Value} {cx:Bool} {fs:NS} {ty:AV} {bd:List Tr} {hs:List I.Hd} (e:H p=some (.exc C cx fs)) (m:I.S12 X.K C ty=some true) (h:Go (run X (I.hcf c p) (fun _=>K vs) P bd [] (⟨H,L⟩:St))):I.hands X c K P vs p (⟨ty,none,bd⟩::hs) (⟨H,L⟩:St):=by
 refine v49 e m ?_;have e1:(fun (o:Out) (σ3:St)=>match o with | .exc b=>P (.exc b) (I.W3 none σ3) | o=>P o (I.W3 none σ3))=P:=by
  funext o σ3;cases o<;>rfl
 show Go (run X (I.hcf c p) (fun _=>K vs) (fun (o:Out) (σ3:St)=>match o with | .exc b=>P (.exc b) (I.W3 none σ3) | o=>P o (I.W3 none σ3)) bd [] (⟨H,L⟩:St));rw [e1];exact h
theorem g50 {l:List UInt8} {lo hi:AV} {lo' hi':Option Int} (h1:part lo=some lo') (h2:part hi=some hi') (hz:l.length<=16777216) (h:Go (run X c K P r (.bytes (slc l lo' hi')::vs) σ)):Go (run X c K P (I.cut::r) (hi::lo:: .bytes l::vs) σ):=p49 p20 (n34 h1 h2 hz h.out)
theorem n26 {l:List UInt8} {i:Int} (h0:0<=i/\i<l.length) (hz:l.length<=1099511627776) (h:Go (run X c K P r (.int (l.getD i.toNat 0).toNat::vs) σ)):Go (run X c K P (I.sub::r) (.int i:: .bytes l::vs) σ):=v34 p20 (o38 hz h0.1 h0.2 h.out)
theorem r17 {l:List UInt8} {i:Int} (h0:i<0/\ -(l.length:Int)<=i) (hz:l.length<=1099511627776) (h:Go (run X c K P r (.int (l.getD (i+l.length).toNat 0).toNat::vs) σ)):Go (run X c K P (I.sub::r) (.int i:: .bytes l::vs) σ):=v34 p20 (b24 hz h0.1 h0.2 h.out)
theorem l30 {p:Nat} {k:Int} {xs:List AV} (hd:c.hd=none) (e:H p=some (.list xs)) (h0:0<=k/\k<2^63) (hl:xs.length<=k) (h: ∀q,H q=none->P (.exc q) ⟨upd H q (.exc (.type "IndexError") true []),L⟩):Go (run X c K P (I.I7::r) (.int k:: .ref p::a::vs) (⟨H,L⟩:St)):=⟨e26 e hd h0.1 h0.2 hl h⟩
theorem d39 {l m:Nat} {xs ys:List Int} (e1:H l=some (.list (xs.map .int))) (e2:H m=some (.list (ys.map .int))) (h:Go (run X c K P r (.bool (xs==ys)::vs) (⟨H,L⟩:St))):Go (run X c K P (I.cmp .Eq::r) (.ref m:: .ref l::vs) (⟨H,L⟩:St)):=⟨y34 (.inl e1) (.inl e2) h.out⟩
theorem x28 {l m:Nat} {xs ys:List Int} (e1:H l=some (.list (xs.map .int))) (e2:H m=some (.list (ys.map .int))) (h:Go (run X c K P r (.bool (xs != ys)::vs) (⟨H,L⟩:St))):Go (run X c K P (I.cmp .NotEq::r) (.ref m:: .ref l::vs) (⟨H,L⟩:St)):=⟨z34 (.inl e1) (.inl e2) h.out⟩
theorem t17 {l:Nat} {ns:List Int} (hd:c.hd=none) (e:H l=some (.list (ns.map .int))) (hr: ∀n∈ns,0<=n/\n<256) (hz:ns.length<=16777216) (h:Go (run X c K P r (.bytes (ns.map fun n=>n.toNat.toUInt8)::vs) (⟨H,L⟩:St))):Go (run X c K P (I.call 1 []::r) (.ref l:: .type "bytes"::vs) (⟨H,L⟩:St)):=t11 rfl rfl o13 (a24 (.inl e) hd hr hz h.out)
theorem v20 {m n k:Int} (h0:k≠0) (hp:Builtin.divisionGoesByPylong (n-m) k=false) (h: ∀q,H q=none->Go (run X c K P r (.ref q::vs) ⟨upd H q (.range m n k),L⟩)):Go (run X c K P (I.call 3 []::r) (.int k:: .int n:: .int m:: .type "range"::vs) (⟨H,L⟩:St)):=t11 rfl rfl o13 (j26 h0 hp fun q hq=>(h q hq).out)
end
end Mine
namespace Mine
open PySem.SeqAt
section
variable {X:Cx} {c:Cf} {P:PT} {K:KT} {σ:St} {H:Nat->Option W0} {L:NS} {vs:List AV} {r:List Tr} {a b d:AV} {E:Nat->St->Prop}
theorem v17 {h:Heap} {o:Obj} {b:Nat} (z: ¬b=h.objs.size):(h.push o).get? b=h.get? b:=by
 by_cases hb:b<h.objs.size
 ·unfold Heap.get? Heap.push;simp [Array.getElem?_push,z]
 ·have e1:=l6 (h:=h) (a:=b) (Nat.not_lt.mp hb);have e2:=l6 (h:=h.push o) (a:=b) (by rw [Heap.size_push];(exact (Nat.lt_or_gt_of_ne z).elim (fun qs1=>fk s!"hkABhyABo0xaBn1A" [] [_,_] rfl hb qs1) fun qs1=>fk s!"hyABoxaAn1B" [] [_,_] rfl qs1));rw [e1,e2]
theorem i35 {l:Nat} {xs:List AV} {Q:AV->St->Prop} (e:σ.h l=some (.list xs)) (h: ∀q,σ.h q=none->Q (.ref q) {σ with h:=upd σ.h q (.enum l 0)}):J2 X c (.type "enumerate") [.ref l] [] Q E σ:=fun F vs ks hF hv hk A s g R=>by
 refine of ?_;obtain rfl:=x11 hF;obtain ⟨v,rs,rfl,hv1,hv2⟩:=map_cons hv;obtain rfl:=v10 hv2;obtain rfl:=v10 hk;obtain rfl:=t10 hv1;walk_at "o";obtain ⟨items,hL,hx⟩:=(R.objs _ _ e).2;refine call_enumerate_list hL.isList fun h' he hi hz hk=>?_;have n1:s.heap.get? (s.heap.objs.size+1)=none:=l6 (Nat.le_succ _);obtain ⟨own',R'⟩:=R.alloc (tk:=s.toks) (a:=s.heap.objs.size+1) (o:= .enum l 0) [s.heap.objs.size] hk n1 ⟨_,he⟩ (fun q hq=>by
  obtain rfl:=List.mem_singleton.mp hq;obtain ⟨o,ho,_⟩:=hi;exact ⟨l6 (Nat.le_refl _),⟨o,ho⟩,by (exact fun q1=>fk κ4 [] [_] rfl q1)⟩) (fun own' h1 h2=>⟨s.heap.objs.size,.none,h2 _ (.head _),by (exact fun q1=>fk κ4 [] [_] rfl q1),he,hi⟩)
 exact ⟨_,⟨own',R'⟩,h _ (R.fresh n1).1⟩
theorem k45 {q l i:Nat} {Q:AV->St->Prop} (e:σ.h q=some (.enum l i)) (h:Q (.ref q) σ):Z1 X c (.ref q) Q E σ:=fun V hV A s g R=>by
 refine of ?_;obtain rfl:=t10 hV;walk_at "o";obtain ⟨it,old,h1,h2,h3,h4⟩:=(R.objs _ _ e).2;exact wpAny_pyIter_enum h3 ⟨σ,⟨own,R⟩,h⟩
theorem l45 {q l i:Nat} {xs:List AV} {Q:Option AV->St->Prop} (e:σ.h q=some (.enum l i)) (el:σ.h l=some (.list xs)) (hd:c.hd=none)
  (h1: ∀x t,xs[i]? =some x->σ.h t=none->Q (some (.ref t)) {σ with h:=upd (upd σ.h t (.tuple [.int i,x])) q (.enum l (i+1))})
  (h2:xs[i]? =none->Q none {σ with h:=del σ.h q}):S5 X c (.ref q) Q E σ:=fun V hV A s g R=>by
 refine of ?_;obtain rfl:=t10 hV;walk_at "o";obtain ⟨it,old,o1,o2,he,hit⟩:=(R.objs _ _ e).2;obtain ⟨items,hL,hx⟩:=(R.objs _ _ el).2;have hL:=hL.isList;have hq1:=(R.objs _ _ e).1;have hget:xs[i]? =(items[i]?).map ab:=by rw [<-hx,List.getElem?_map,Array.getElem?_toList]
 cases hi:items[i]? with
 | some v=>
  refine wpAny_pyNext_enum_item he hit hL hi (Ne.symm o2) fun h' heo hi' ht hz hk=>?_;refine of <| wpAny_letOwnedTupleGo_enum heo fun h'' he'' hs=>?_;have tn:s.heap.get? s.heap.objs.size=none:=l6 (Nat.le_refl _);have qlt:q≠s.heap.objs.size:=Nat.ne_of_lt (Heap.lt_size he);have itlt:it≠s.heap.objs.size:=by obtain ⟨o,ho,_⟩:=hit;exact Nat.ne_of_lt (Heap.lt_size ho)
  obtain ⟨own',R1⟩:=R.alloc (h':=s.heap.push {cls:= .type "tuple",data:= .seq #[.int i s.toks,v]}) (tk:=s.toks) (a:=s.heap.objs.size) (o:= .tuple [.int i,ab v]) [] (fun b o e=>i3 _ e) tn ⟨_,y3 _ rfl⟩ (fun q hq=>by cases hq)
   (fun own' h1 h2=>⟨#[.int i s.toks,v],⟨_,y3 _ rfl,by simp⟩,rfl⟩)
  have eq1:upd σ.h s.heap.objs.size (.tuple [.int i,ab v]) q=some (.enum l i):=b15 qlt e;obtain ⟨it',old',p1,p2,p3,p4⟩:=(R1.objs _ _ eq1).2;have pe:=i3 {cls:= .type "tuple",data:= .seq #[.int i s.toks,v]} he;have hit':it'=it:=by
   have z:=p3.symm.trans pe;exact (by simpa using z:it'=it/\old'=old).1
  subst hit';have R2:=R1.update (h':=h'') (tk:=s.toks+1) (o:= .enum l (i+1)) eq1 (fun b y hb hy=>?_) (fun q' hq'=>?_) ⟨it',v,p1,p2,he'',?_⟩
  ·exact ⟨_,⟨own',R2⟩,h1 _ _ (by rw [hget,hi];rfl) (R.fresh tn).1⟩
  ·have hbq:b≠q:=fun z=>hb (by rw [z];exact (R1.objs _ _ eq1).1);have hbi:b≠it':=fun z=>hb (by rw [z];exact p1);refine (hs.2 b hbq).trans ?_;by_cases z:b=s.heap.objs.size
   ·subst z;rw [y3 _ rfl] at hy;cases hy;exact ht
   ·have hy':s.heap.get? b=some y:=by
     rw [<-hy];exact (v17 z).symm
    exact hk b y hbq hbi hy'
  ·by_cases z:q'=q
   ·subst z;exact ⟨_,he''⟩
   ·by_cases z2:q'=it'
    ·subst z2;obtain ⟨o,ho,_⟩:=hi';exact ⟨o,(hs.2 _ z).trans ho⟩
    ·obtain ⟨y,hy⟩:=(R1.owned q' q hq').1;by_cases z3:q'=s.heap.objs.size
     ·subst z3;exact ⟨_,(hs.2 _ z).trans ht⟩
     ·have hy':s.heap.get? q'=some y:=by
       rw [<-hy];exact (v17 z3).symm
      exact ⟨y,(hs.2 _ z).trans (hk _ _ z z2 hy')⟩
  ·obtain ⟨o,ho,r⟩:=hi';exact ⟨o,(hs.2 _ o2).trans ho,r⟩
 | none=>
  refine wpAny_pyNext_enum_end (g.hd.trans hd) he hit hL hi fun h' hx=>?_;obtain ⟨own',R'⟩:=R.drop (tk:=s.toks) e (h':=h') fun b y hb hy=>hx b y (fun z=>hb (by rw [z];exact o1)) hy;exact ⟨_,⟨own',R'⟩,h2 (by rw [hget,hi];rfl)⟩
theorem S5.down {a:AV} {Q:Option AV->St->Prop} {σ':St} (h:S5 X c a Q E σ') (hs:σ.ge σ'):S5 X c a Q E σ:=fun V hV A s g R=>h V hV A s g (R.down hs)
theorem h50 {l:Nat} {xs:List AV} (e:H l=some (.list xs)) (h: ∀q,H q=none->Go (run X c K P r (.ref q::vs) ⟨upd H q (.enum l 0),L⟩)):Go (run X c K P (I.call 1 []::r) (.ref l:: .type "enumerate"::vs) (⟨H,L⟩:St)):=t11 rfl rfl o13 (i35 e fun q hq=>(h q hq).out)
theorem n11 {t n:Nat} {xs:List AV} (e:H t=some (.tuple xs)) (hd:c.hd=none) (hl:xs.length=n) (h:Go (run X c K P r (xs++vs) (⟨H,L⟩:St))):Go (run X c K P (I.unp n::r) (.ref t::vs) (⟨H,L⟩:St)):=s53 (d35 (.inl e) hd hl ⟨hl,h.out⟩)
theorem m30 {x y q l:Nat} {xs:List AV} {b e:List Tr} (hq:H q=some (.enum l 0)) (hd:c.hd=none) (J:Nat->St->Prop)
  (h0:Up (J 0) ⟨H,L⟩)
  (hit: ∀i σ,J i σ->σ.h q=some (.enum l i)/\σ.h l=some (.list xs)/\i<=xs.length)
  (step: ∀i t v H' L',H' t=none->xs[i]? =some v->J i ⟨H',L'⟩->Go (run X c (fun _ σ3=> ∃m,m<xs.length-i/\Up (LJ J xs.length m) σ3) (fun o σ3=>match o with | .cont=> ∃m,m<xs.length-i/\Up (LJ J xs.length m) σ3 | .brk=>Up (run X c K P r vs) σ3 | o=>P o σ3) b [] ⟨upd (upd H' t (.tuple [.int i,v])) q (.enum l (i+1)),(y,v)::(x,.int i)::L'⟩))
  (done: ∀H' L',J xs.length ⟨H',L'⟩->Go (run X c (run X c K P r) P e vs ⟨del H' q,L'⟩)):Go (run X c K P (I.Q15 [I.unp 2,I.st x,I.st y] b e::r) (.ref q::vs) ⟨H,L⟩):=by
 refine ⟨?_⟩;show Z1 X c (.ref q) _ (fx P) (⟨H,L⟩:St);refine k45 hq ⟨LJ J xs.length,xs.length,Up.same (Up.mono h0 fun σ hσ=>⟨0,Nat.zero_le _,rfl,hσ⟩),fun m σ0 hpz=>?_⟩;obtain ⟨σ,ge,i,hi,hm,hJ⟩:=hpz;obtain ⟨H',L'⟩:=σ;obtain ⟨g1,g2,g3⟩:=hit i _ hJ;refine S5.down (l45 (c:=c) (σ:=⟨H',L'⟩) g1 g2 hd (fun v t hv ht=>?_) (fun hv=>?_)) ge
 ·subst hm;have st:=(step i t v H' L' ht hv hJ).out;have ge:upd (upd H' t (.tuple [.int i,v])) q (.enum l (i+1)) t=some (.tuple [.int i,v]):=b15 (i11 ht g1).symm (i10 _ _ _);generalize upd (upd H' t (.tuple [.int i,v])) q (.enum l (i+1))=H2 at st ge⊢;show run X c _ P [I.unp 2,I.st x,I.st y] [.ref t] ⟨H2,L'⟩;refine (n11 (n:=2) (r:=[I.st x,I.st y]) ge hd rfl ⟨?_⟩).out;exact st
 ·have:i=xs.length:=by have:=List.getElem?_eq_none_iff.mp hv;(exact r0 (hi) (this))
  subst this;exact (done H' L' hJ).out
end
end Mine
namespace Mine
open PySem.SeqAt
theorem w20:typeLookup (.type "bytes") (dunderI "add")=pure none:=by rw [typeLookup_type,builtinLookup_eq_fast];kernel_rfl
section
variable {prog:Program} {w:World} {A:Around} {E:Value->Shared->Prop} {s:Shared} {b c:Array UInt8} {t u:Tok} {Q:Value->Shared->Prop}
theorem n30 (hsz:b.size+c.size<=16777216) (h: ∀t' k,Q (.bytes (b++c) t') {s with toks:=k}):wpAny (model prog w) A (inplaceOp .Add (.bytes b t) (.bytes c u)) Q E s:=by
 refine iconcat_gives (typeIs_bytes s b t) (typeIs_bytes s c u) w20 KBy.noFill_bytes_add KBy.seq_bytes_add FB.slot_bytes_add FB.entry_bytes_add (FB.args_bytes_add_2 _ _) (KBy.gives_bytes_add (KBy.tooLong_not hsz)) ?_;by_cases hb:b.isEmpty=true
 ·rw [if_pos hb];have e:b= #[]:=Array.isEmpty_iff.1 hb;have h':=h u s.toks;rw [e,Array.empty_append] at h';exact h'
 ·rw [if_neg hb];by_cases hc:c.isEmpty=true
  ·rw [if_pos hc];have e:c= #[]:=Array.isEmpty_iff.1 hc;have h':=h t s.toks;rw [e,Array.append_empty] at h';exact h'
  ·rw [if_neg hc];exact ⟨by rw [Array.size_append,sizeLine_eq];exact hsz,h s.toks (s.toks+1)⟩
end
section
variable {X:Cx} {c:Cf} {P:PT} {K:KT} {σ:St} {H:Nat->Option W0} {L:NS} {vs:List AV} {r:List Tr}
theorem o26 {Q:AV->St->Prop} {E:Nat->St->Prop} {a b:List UInt8} (hs:a.length+b.length<=16777216) (h:Q (.bytes (a++b)) σ):WIn X c .Add (.bytes a) (.bytes b) Q E σ:=fun x y hx hy A s g R=>by
 refine of ?_;obtain ⟨t,rfl⟩:=h11 hx;obtain ⟨u,rfl⟩:=h11 hy;exact n30 (by simpa using hs) fun t' k=>⟨σ,R.tk _,by first | exact h | simpa [ab] using h⟩
theorem w17 {x y:List UInt8} (e:x.length+y.length<=16777216) (h:Go (run X c K P r (.bytes (x++y)::vs) σ)):Go (run X c K P (I.inp .Add::r) (.bytes y:: .bytes x::vs) σ):=⟨o26 e h.out⟩
theorem j35 {o:Bool} {t:List Tr} {x:Bool} (h1:x=o->Go (run X c (run X c K P r) P t vs σ)) (h2:x≠o->Go (run X c K P r (.bool x::vs) σ)):Go (run X c K P (I.bop o t::r) (.bool x::vs) σ):=o49 h1 h2
end
end Mine
namespace Mine
open PySem.SeqAt PySem.Builtin.Str
theorem e39:N `upper=Str.ofString "upper":=s!"."
theorem f39:N `rfind=Str.ofString "rfind":=s!"."
theorem g39:N `strip=Str.ofString "strip":=s!"."
theorem h39:N `ljust=Str.ofString "ljust":=s!"."
section
variable {X:Cx} {c:Cf} {P:PT} {K:KT} {σ:St} {H:Nat->Option W0} {L:NS} {vs:List AV} {r:List Tr} {E:Nat->St->Prop}
theorem x20 {k:Nat} {name:Str} {id:String} {x:Str} {Q:AV×List AV->St->Prop} (hn:N k=name) (slot:Slot "str" name id) (ty:typeOf (.builtin id)=pure (.type "method_descriptor")) (h:Q (.builtin id,[.str x]) σ):WGM X c (.str x) (N k) Q E σ:=fun V pl hV A s g R=>by
 refine of ?_;obtain ⟨t,rfl⟩:=p11 hV;obtain ⟨ga,h1,h2⟩:=F.plainAttrs_str.ga;rw [hn];exact getMethod_value (typeIs_str s x t) (fun a e=>by cases e) h1 h2 F.plainAttrs_str.noGetattr slot.lookup ty ⟨σ,R,h⟩
theorem o30 {x:Str} (h:Go (run X c K P r (.str x:: .builtin "str.upper"::vs) σ)):Go (run X c K P (I.gm `upper::r) (.str x::vs) σ):=s51 (x20 e39 F.slot_str_upper F.type_str_upper ⟨.str x,rfl,h.out⟩)
theorem n19 {x:Str} (h:Go (run X c K P r (.str x:: .builtin "str.rfind"::vs) σ)):Go (run X c K P (I.gm `rfind::r) (.str x::vs) σ):=s51 (x20 f39 F.slot_str_rfind F.type_str_rfind ⟨.str x,rfl,h.out⟩)
theorem o19 {x:Str} (h:Go (run X c K P r (.str x:: .builtin "str.strip"::vs) σ)):Go (run X c K P (I.gm `strip::r) (.str x::vs) σ):=s51 (x20 g39 F.slot_str_strip F.type_str_strip ⟨.str x,rfl,h.out⟩)
theorem p19 {x:Str} (h:Go (run X c K P r (.str x:: .builtin "str.ljust"::vs) σ)):Go (run X c K P (I.gm `ljust::r) (.str x::vs) σ):=s51 (x20 h39 F.slot_str_ljust F.type_str_ljust ⟨.str x,rfl,h.out⟩)
theorem p30 {x:Str} {Q:AV->St->Prop} (hf:tooLong (Txt.upper x).length=false) (h:Q (.str (Txt.upper x)) σ):J2 X c (.builtin "str.upper") [.str x] [] Q E σ:=fun F0 vs ks hF hv hk A s g R=>by
 refine of ?_;obtain rfl:=d11 hF;obtain ⟨v,rs,rfl,hv1,hv2⟩:=map_cons hv;obtain rfl:=v10 hv2;obtain rfl:=v10 hk;obtain ⟨t,rfl⟩:=p11 hv1;exact call_gives F.slot_str_upper (typeIs_str s x t) F.entry_str_upper (F.args_str_upper_1 _) (gives_str_upper x t hf) ⟨fit_le hf,σ,R.tk _,h⟩
theorem q30 {x y:Str} {Q:AV->St->Prop} (h:Q (.int (Txt.rfind x y)) σ):J2 X c (.builtin "str.rfind") [.str x,.str y] [] Q E σ:=fun F0 vs ks hF hv hk A s g R=>by
 refine of ?_;obtain rfl:=d11 hF;obtain ⟨v,rs,rfl,hv1,hv2⟩:=map_cons hv;obtain ⟨v2,rs,rfl,hv3,hv4⟩:=map_cons hv2;obtain rfl:=v10 hv4;obtain rfl:=v10 hk;obtain ⟨t,rfl⟩:=p11 hv1;obtain ⟨u,rfl⟩:=p11 hv3;exact call_gives F.slot_str_rfind (typeIs_str s x t) F.entry_str_rfind (F.args_str_rfind_2 _ _) (gives_str_rfind x y t u) ⟨σ,R.tk _,h⟩
theorem r30 {x:Str} {Q:AV->St->Prop} (hsz:x.length<=16777216) (h:Q (.str (Txt.strip x)) σ):J2 X c (.builtin "str.strip") [.str x] [] Q E σ:=fun F0 vs ks hF hv hk A s g R=>by
 refine of ?_;obtain rfl:=d11 hF;obtain ⟨v,rs,rfl,hv1,hv2⟩:=map_cons hv;obtain rfl:=v10 hv2;obtain rfl:=v10 hk;obtain ⟨t,rfl⟩:=p11 hv1;exact call_gives F.slot_str_strip (typeIs_str s x t) F.entry_str_strip (F.args_str_strip_1 _) (gives_str_strip x t) (post_val_or_made (fun _=>fits_stripped _ _ _ (by rw [sizeLine_eq];exact hsz)) fun t' k=>⟨σ,R.tk _,h⟩)
theorem t30 {x:Str} {i:Int} {Q:AV->St->Prop} (hp:PadOk i=true) (h:Q (.str (Txt.ljust x i)) σ):J2 X c (.builtin "str.ljust") [.str x,.int i] [] Q E σ:=fun F0 vs ks hF hv hk A s g R=>by
 refine of ?_;obtain rfl:=d11 hF;obtain ⟨v,rs,rfl,hv1,hv2⟩:=map_cons hv;obtain ⟨v2,rs,rfl,hv3,hv4⟩:=map_cons hv2;obtain rfl:=v10 hv4;obtain rfl:=v10 hk;obtain ⟨t,rfl⟩:=p11 hv1;obtain ⟨u,rfl⟩:=o10 hv3;exact call_gives F.slot_str_ljust (typeIs_str s x t) F.entry_str_ljust (F.args_str_ljust_2 _ _) (gives_str_ljust x i t u (PadOk.parts hp).1 (PadOk.parts hp).2) (post_val_or_made (fits_padR 32 (PadOk.parts hp).2) fun t' k=>⟨σ,R.tk _,h⟩)
theorem d24 {x:Str} {Q:AV->St->Prop} (hz:x.length<=16777216) (h:Q (.int x.length) σ):J2 X c (.builtin "len") [.str x] [] Q E σ:=fun F0 vs ks hF hv hk A s g R=>by
 refine of ?_;obtain rfl:=d11 hF;obtain ⟨v,rs,rfl,hv1,hv2⟩:=map_cons hv;obtain rfl:=v10 hv2;obtain rfl:=v10 hk;obtain ⟨t,rfl⟩:=p11 hv1;exact len_str (by exact fun q1=>fk s!"hxAn16777216hLn2^63wAo0F" [] [_] rfl hz q1) ⟨σ,R.tk _,h⟩
theorem k35 {x y:Str} {Q:AV->St->Prop} (hsz:x.length+y.length<=16777216) (h:Q (.str (x++y)) σ):Z5 X c .Add (.str x) (.str y) Q E σ:=fun u v hu hv A s g R=>by
 refine of ?_;obtain ⟨t,rfl⟩:=p11 hu;obtain ⟨t',rfl⟩:=p11 hv;exact SB.add (fun t' k=>⟨σ,R.tk _,h⟩) (by rw [sizeLine_eq];exact hsz)
theorem i39 {x y:Str} {Q:AV->St->Prop} (h:Q (.bool (x != y)) σ):U4 X c .NotEq (.str x) (.str y) Q E σ:=fun u v hu hv A s g R=>by
 refine of ?_;obtain ⟨t,rfl⟩:=p11 hu;obtain ⟨t',rfl⟩:=p11 hv;exact ne_str ⟨σ,R,h⟩
theorem i50 {x:Str}:O6 X c (.str x) σ:=⟨"str",_,F.slot_str_getitem.lookup,fun v s hv R=>by
 obtain ⟨t,rfl⟩:=p11 hv;exact typeIs_str _ _ _⟩
theorem m45 {x y:Str} (hf:tooLong (Txt.upper x).length=false) (hy:Txt.upper x=y) (h:Go (run X c K P r (.str y::vs) σ)):Go (run X c K P (I.J0 0 []::r) (.str x:: .builtin "str.upper"::vs) σ):=t14 rfl rfl g11 (p30 hf (hy▸h.out))
theorem l35 {x y:Str} {i:Int} (hy:Txt.rfind x y=i) (h:Go (run X c K P r (.int i::vs) σ)):Go (run X c K P (I.J0 1 []::r) (.str y:: .str x:: .builtin "str.rfind"::vs) σ):=t14 rfl rfl g11 (q30 (hy▸h.out))
theorem m35 {x y:Str} (hz:x.length<=16777216) (hy:Txt.strip x=y) (h:Go (run X c K P r (.str y::vs) σ)):Go (run X c K P (I.J0 0 []::r) (.str x:: .builtin "str.strip"::vs) σ):=t14 rfl rfl g11 (r30 hz (hy▸h.out))
theorem n35 {x y:Str} {i:Int} (hf:PadOk i=true) (hy:Txt.ljust x i=y) (h:Go (run X c K P r (.str y::vs) σ)):Go (run X c K P (I.J0 1 []::r) (.int i:: .str x:: .builtin "str.ljust"::vs) σ):=t14 rfl rfl g11 (t30 hf (hy▸h.out))
theorem y20 {x:Str} {i:Int} (hz:x.length<=16777216) (hy:(x.length:Int)=i) (h:Go (run X c K P r (.int i::vs) σ)):Go (run X c K P (I.call 1 []::r) (.str x:: .builtin "len"::vs) σ):=t11 rfl rfl g11 (d24 hz (hy▸h.out))
theorem j50 {x y z:Str} (hz:x.length+y.length<=16777216) (hy:x++y=z) (h:Go (run X c K P r (.str z::vs) σ)):Go (run X c K P (I.bin .Add::r) (.str y:: .str x::vs) σ):=d53 (k35 hz (hy▸h.out))
theorem w53 {x y:Str} (h:Go (run X c K P r (.bool (x != y)::vs) σ)):Go (run X c K P (I.cmp .NotEq::r) (.str y:: .str x::vs) σ):=m53 (i39 h.out)
theorem j39 {i:Int} {Q:AV->St->Prop} (h:Q (.int i) σ):J2 X c (.type "int") [.int i] [] Q E σ:=fun F0 vs ks hF hv hk A s g R=>by
 refine of ?_;obtain rfl:=x11 hF;obtain ⟨v,rs,rfl,hv1,hv2⟩:=map_cons hv;obtain rfl:=v10 hv2;obtain rfl:=v10 hk;obtain ⟨t,rfl⟩:=o10 hv1;exact call_int_int ⟨σ,R,h⟩
theorem x53 {i:Int} (h:Go (run X c K P r (.int i::vs) σ)):Go (run X c K P (I.call 1 []::r) (.int i:: .type "int"::vs) σ):=t11 rfl rfl o13 (j39 h.out)
theorem n45 {x:Str} {Q:AV->St->Prop} (h:Q (.bool true) σ):J2 X c (.builtin "isinstance") [.str x,.type "str"] [] Q E σ:=fun F0 vs ks hF hv hk A s g R=>by
 refine of ?_;obtain rfl:=d11 hF;obtain ⟨v,rs,rfl,hv1,hv2⟩:=map_cons hv;obtain ⟨v2,rs,rfl,hv3,hv4⟩:=map_cons hv2;obtain rfl:=v10 hv4;obtain rfl:=v10 hk;obtain ⟨t,rfl⟩:=p11 hv1;obtain rfl:=x11 hv3;exact call_isinstance_yes (Tx:="str") (typeIs_str s x t) s!"." (by rw [isSubtype_type];kernel_rfl) ⟨σ,R,h⟩
theorem o35 {x:List UInt8} {Q:AV->St->Prop} (h:Q (.bool true) σ):J2 X c (.builtin "isinstance") [.bytes x,.type "bytes"] [] Q E σ:=fun F0 vs ks hF hv hk A s g R=>by
 refine of ?_;obtain rfl:=d11 hF;obtain ⟨v,rs,rfl,hv1,hv2⟩:=map_cons hv;obtain ⟨v2,rs,rfl,hv3,hv4⟩:=map_cons hv2;obtain rfl:=v10 hv4;obtain rfl:=v10 hk;obtain ⟨t,rfl⟩:=h11 hv1;obtain rfl:=x11 hv3;exact call_isinstance_yes (Tx:="bytes") (typeIs_bytes s _ t) s!"." (by rw [isSubtype_type];kernel_rfl) ⟨σ,R,h⟩
theorem p35 {x:Str} (h:Go (run X c K P r (.bool true::vs) σ)):Go (run X c K P (I.call 2 []::r) (.type "str":: .str x:: .builtin "isinstance"::vs) σ):=t11 rfl rfl g11 (n45 h.out)
theorem p26 {x:List UInt8} (h:Go (run X c K P r (.bool true::vs) σ)):Go (run X c K P (I.call 2 []::r) (.type "bytes":: .bytes x:: .builtin "isinstance"::vs) σ):=t11 rfl rfl g11 (o35 h.out)
end
theorem c42:mroOf (.type "bytearray")=pure [.type "bytearray",.type "object"]:=by rw [mroOf_type];kernel_rfl
theorem z20:typeLookup (.type "bytearray") "__new__"=pure (some (.builtin "bytearray.__new__")):=by rw [typeLookup_type,builtinLookup_eq_fast];kernel_rfl
theorem e24:Slot "bytearray" "__init__" "bytearray.__init__":=
 .of (owner:="bytearray") (n:="__init__") (by rw [typeLookup_type,builtinLookup_eq_fast];kernel_rfl) (by decide+kernel) (by decide+kernel) (by decide+kernel)
  (by first | exact .inl (by decide+kernel) | exact .inr (by decide+kernel)) (by rw [isSubtype_type];kernel_rfl)
theorem q35:TypeCalled "bytearray" "bytearray.__new__" "bytearray.__init__":=
 ⟨by decide+kernel,by decide+kernel,⟨_,_,c42⟩,madeBy_type c42 z20 (by decide+kernel),by decide+kernel,by rw [isSubtype_type];kernel_rfl,e24⟩
theorem q26 (a:Value):checkTypeCall "bytearray" ⟨[a],[]⟩=pure ():=s!"."
theorem v30 (a:Value):checkBuiltinCall "bytearray.__new__" ⟨[.type "bytearray",a],[]⟩=pure ():=s!"."
theorem y28:plainId "bytearray.__new__"=true:=by decide+kernel
theorem k39:entryFor table "bytearray.__new__"=some Builtin.«list.__new__» :=entryFor_alias (id':="list.__new__") s!"." rfl (by decide+kernel) s!"."
theorem a21:entryFor table "bytearray.__init__"=some Builtin.«bytearray.__init__» :=entryFor_of_tree s!"."
theorem f24 (a b:Value):argsOk "bytearray.__init__" ⟨[a,b],[]⟩:=by
 unfold argsOk;kernel_rfl
theorem k50:isSubtype (.type "bytearray") (.type "bytearray")=pure true:=by rw [isSubtype_type];kernel_rfl
set_option maxRecDepth 1000000 in
set_option maxHeartbeats 4000000 in
theorem l39:("bytearray.__new__".splitOn ".__new__").headD ""="bytearray":=by simp+decide [String.splitOn,String.splitOnAux]
theorem w30:typeLookup (.type "bytearray") "__release_buffer__"=pure (some (.builtin "bytearray.__release_buffer__")):=by rw [typeLookup_type,builtinLookup_eq_fast];kernel_rfl
theorem o45 (v:Value):Builtin.Bytes.bindOptional "bytearray.__init__" "bytearray" ["source","encoding","errors"] [v] []=pure [some v,none,none]:=s!"."
theorem r26:typeLookup (.type "bytes") "__index__"=pure none:=by rw [typeLookup_type,builtinLookup_eq_fast];kernel_rfl
section
variable {prog:Program} {w:World} {A:Around} {E:Value->Shared->Prop} {s:Shared}
theorem l50 (a:Value) {Q₁:Value->Shared->Prop}
  (h:Q₁ (.ref s.heap.objs.size) {s with heap:=s.heap.push {cls:= .type "bytearray",data:= .bytearray #[]}}):
  codeAny (model prog w) A (.call (.builtin "bytearray.__new__") ⟨[.type "bytearray",a],[]⟩) (wants Q₁ E) s:=by
 refine codeAny_of_tree ?_;show wpAny _ A.in1 (do checkBuiltinCall "bytearray.__new__" ⟨[.type "bytearray",a],[]⟩;again (.builtin "bytearray.__new__" ⟨[.type "bytearray",a],[]⟩)) _ _ s;refine d0 (wpAny_of_eq (v30 a) (m0 ⟨plainId_quiet y28 _,codeAny_builtin_stack k39 rfl fun p st=>?_⟩));rw [Around.under_plainId y28 _];have hsub:=k50;have hown:=l39;obtain ⟨hp,g,d,tk,os⟩:=s;simp only [hown]
 wp_walk
 exact h
end
section
variable {prog:Program} {w:World} {A:Around} {E:Value->Shared->Prop} {s:Shared}
theorem h16 {Z:Bool} {M:Model} {f:Code×Pos->Bool} {Q:Bool->Shared->Prop} (hZ:Z=true) (hf: ∀c p,okC c=true->f (c,p)=false) (h:Q false s):wpZ Z M A (do return (<-stack).any f) Q E s:=fun Γ p hΓ hz=>by
 have hc:=hz hZ;rw [Sem.wp_bind'];unfold stack;rw [Sem.wp_stack];have e:(((Γ.code,p)::Γ.below).any f)=false:=by
  rw [List.any_eq_false];intro x hx;rw [Bool.not_eq_true];rcases List.mem_cons.mp hx with rfl | hx
  ·exact hf _ _ hc.1
  ·exact hf x.1 x.2 (hc.2 x hx)
 show Q (((Γ.code,p)::Γ.below).any f) s;rw [e];exact h
theorem p45 {id:String} {args:Args} (h:okC (.builtin id args)=true):holders.contains id=false:=by
 unfold okC at h;simpa using h
theorem x30 {Z:Bool} {M:Model} {self:Value} {Q:Bool->Shared->Prop} (hZ:Z=true) (h:Q false s):wpZ Z M A (Builtin.Bytes.exported self) Q E s:=by
 refine h16 hZ (fun c p k=>?_) h;cases c with
 | builtin id args=>
  have k':=p45 k;have n: ∀y,holders.contains y=true-> ¬id=y:=fun y hy e=>by rw [e,hy] at k';cases k'
  delta Builtin.Bytes.exported.match_1 Builtin.Bytes.exported._sparseCasesOn_1 Builtin.Bytes.exported._sparseCasesOn_2
  dsimp only;refine (dif_neg (n "bytearray.__contains__" rfl)).trans ?_;refine (dif_neg (n "bytearray.__mod__" rfl)).trans ?_;refine (dif_neg (n "bytearray.__rmod__" rfl)).trans ?_;refine (dif_neg (n "_struct.pack_into.held" rfl)).trans ?_;refine (dif_neg (n "bytearray.find.held" rfl)).trans ?_;cases args with
  | mk pos kw=>
  cases pos with
  | nil=>rfl
  | cons v tl=>
   have k2:Builtin.Bytes.decodersThatHold.contains id=false:=by
    cases q:Builtin.Bytes.decodersThatHold.contains id with
    | false=>rfl
    | true=>exact absurd (List.contains_iff_mem.mpr (List.mem_append_right _ (List.contains_iff_mem.mp q)):holders.contains id=true) (by rw [k'];decide)
   show (_&&Builtin.Bytes.decodersThatHold.contains id)=false;rw [k2,Bool.and_false]
 | _=>rfl
end
section
variable {prog:Program} {w:World} {A:Around} {E:Value->Shared->Prop} {s:Shared}
theorem t26 {id:String} {b:Array UInt8} {t:Tok}:Builtin.Bytes.buffer? id (.bytes b t) true=pure (some b):=by
 unfold Builtin.Bytes.buffer?;rw [KBy.special_eq KBy.look_buffer,KBy.own_buffer,KBy.own_release]
 kernel_rfl
theorem m50 {M:Model} {a:Nat} {o:Obj} {Q:Bool->Shared->Prop} (ho:s.heap.get? a=some o) (hc:o.cls= .type "bytearray") (h:Q false s):wpAny M A (Builtin.Bytes.ownRelease (.ref a)) Q E s:=by
 unfold Builtin.Bytes.ownRelease Builtin.Bytes.slotIsOwn;have hT:s.TypeIs (.ref a) "bytearray":=⟨_,ho,hc⟩;refine d0 (d0 (wpAny_specialOf hT w30 ?_));dsimp only;rw [if_neg (by decide+kernel)];exact wpAny_isInstance (b:=true) hT (by rw [isSubtype_type];kernel_rfl) (m0 h)
theorem x17 {M:Model} {a:Nat} {o:Obj} {b:Array UInt8} {n:Nat} {f:Array UInt8->Array UInt8} {Q:Unit->Shared->Prop} (ho:s.heap.get? a=some o) (hd:o.data= .bytearray b n) (hz:(f b).size<=sizeLine) (h:Q () {s with heap:=s.heap.update a (Obj.mapBytearray f)}):wpAny M A (Builtin.Bytes.write (.ref a) f) Q E s:=by
 show wpAny _ _ (updateBytearray a f) _ _ _;unfold updateBytearray;refine d0 (wpAny_load ho ?_);rw [hd];show wpAny _ _ (update a (Obj.mapBytearray f)>>=fun _=>lookBehind a) _ _ _;refine d0 (wpAny_update ho ?_);obtain ⟨c,d,dt,sl⟩:=o;dsimp only at hd;subst hd;refine wpAny_lookBehind (Heap.get?_update_self (Obj.mapBytearray f) ho rfl) ?_ h;show (if (f b).size>sizeLine then some "bytearray:memory" else none)=none;rw [if_neg (by omega)]
theorem u26 {Z:Bool} {α:Type} {M:Model} {c:Bool} {a b:Sem α} {Q:α->Shared->Prop} (hc:c=false) (h:wpZ Z M A b Q E s):wpZ Z M A (if c=true then a else b) Q E s:=by
 subst hc;exact h
theorem q45 {Z:Bool} {a:Nat} {b:Array UInt8} {t:Tok} {R:Fin->Shared->Prop} (hZ:Z=true) (ho:s.heap.get? a=some {cls:= .type "bytearray",data:= .bytearray #[]}) (hz:b.size<=sizeLine)
  (h:R (.done (.ret .none)) {s with heap:=(s.heap.update a (Obj.mapBytearray fun _=> #[])).update a (Obj.mapBytearray fun _=>b)}):wpZ Z (model prog w) A (Builtin.«bytearray.__init__» ⟨[.ref a,.bytes b t],[]⟩) R E s:=by
 unfold Builtin.«bytearray.__init__»;refine a10 (of (m50 ho rfl ?_));refine u26 rfl ?_;refine a10 (of (wpAny_of_eq (o45 _) ?_));dsimp only;refine a10 (of (wpAny_of_eq (a:=()) rfl ?_));refine a10 (of (wpAny_of_eq (a:=()) rfl ?_));refine a10 (c10 (Q:=fun b s'=>b=false/\s'=s) (E:=E) ?_ (fun b s' q=>?_) fun _ _ e=>e)
 ·unfold orM;refine a10 (x30 hZ ?_);show wpZ _ _ _ (Builtin.Bytes.exportsOf (.ref a)>>=fun n=>pure (decide (n>0))) _ _ _;refine of (d0 ?_);unfold Builtin.Bytes.exportsOf;exact d0 (wpAny_load ho (m0 (m0 ⟨rfl,rfl⟩)))
 obtain ⟨rfl,rfl⟩:=q;refine u26 rfl (of ?_);refine d0 (x17 ho rfl (Nat.zero_le _) ?_);have ho2:=Heap.get?_update_self (Obj.mapBytearray fun _=> #[]) ho rfl;refine d0 (wpAny_of_eq (a:=none) rfl ?_);refine bm_if_false rfl ?_;refine d0 (wpAny_of_eq (a:=()) rfl ?_);refine d0 (wpAny_specialOf (T:="bytes") (v:= .bytes b t) rfl r26 ?_);refine bm_if_false rfl ?_;refine d0 (wpAny_of_eq (t26) ?_);dsimp only;refine d0 (wpAny_rule ?_);refine d0 (x17 ho2 rfl hz ?_);exact m0 h
end
section
variable {prog:Program} {w:World} {A:Around} {E:Value->Shared->Prop} {s:Shared}
theorem d15 {Z:Bool} {id:String} {args:Args} {b:Builtin} {R:Result->Shared->Prop} (hb:entryFor table id=some b) (hk:holders.contains id=false)
  (h:wpZ Z (model prog w) (A.under (.builtin id args)) (b args)
   (fun fin s'=>match fin with | .done f=>R (.ok f) s' | .again c'=>c'.quiet=true/\K1 Z (model prog w) A c' R s') (fun e s'=>R (.error e) s') s):
  K1 Z (model prog w) A (.builtin id args) R s:=by
 refine j11 (by show (!(holders.contains id))=true;rw [hk];rfl) ?_;show wpZ _ _ _ (match entryFor table id with | some b=>b args | none=>unsupported ((withoutEnding? id "#data").getD id)) _ _ s;rw [hb];exact h
theorem e15 {Z:Bool} {id:String} {args:Args} {b:Builtin} {R:Result->Shared->Prop} (hq:plainId id=true) (hb:entryFor table id=some b) (hk:holders.contains id=false)
  (h:wpAny (model prog w) A.in1 (checkBuiltinCall id args) (fun _ s₁=>wpZ Z (model prog w) A.in1 (b args)
   (fun fin s'=>match fin with | .done f=>R (.ok f) s' | .again c'=>c'.quiet=true/\K1 Z (model prog w) A c' R s') (fun e s'=>R (.error e) s') s₁)
   (fun e s'=>R (.error e) s') s):K1 Z (model prog w) A (.call (.builtin id) args) R s:=by
 refine j11 rfl ?_;show wpZ _ _ A.in1 (do checkBuiltinCall id args;again (.builtin id args)) _ _ s;refine a10 (of (wpAny_mono h (fun _ s1 h1=>?_) fun _ _ e=>e));refine m10 ⟨plainId_quiet hq _,d15 hb hk ?_⟩;rw [Around.under_plainId hq _];exact h1
theorem i16 {Z:Bool} {b:Array UInt8} {t:Tok} {Q:Value->Shared->Prop} (hZ:Z=true) (hz:b.size<=sizeLine)
  (h: ∀h',(∀a o,s.heap.get? a=some o->h'.get? a=some o)->h'.get? s.heap.objs.size=some {cls:= .type "bytearray",data:= .bytearray b}->Q (.ref s.heap.objs.size) {s with heap:=h'}):
  wpZ Z (model prog w) A (call (.type "bytearray") [.bytes b t]) Q E s:=by
 have ft:=q35;obtain ⟨c,tl,hmro⟩:=ft.mro;refine q22 (j11 rfl ?_);show wpZ _ _ _ (callAny (.type "bytearray") _) _ _ _;refine m10 ⟨Code.quiet_builtin _ (by decide+kernel),d15 F.entry_type_call (by decide) ?_⟩;rw [Around.under_plain (weight_type_call_type "bytearray" _ []) rfl];unfold Builtin.«type.__call__»;refine u26 ft.notType ?_;dsimp only;refine u26 ft.canCreate ?_;refine a10 (of (wpAny_of_eq (q26 _) ?_));refine a10 (of (wpAny_of_eq hmro ?_));refine u26 rfl ?_;refine a10 (of (wpAny_of_eq ft.made ?_));refine a10 (m10 ?_);refine a10 (j10 (q22 (ofC (codeAny_mono (l50 _ (Q₁:=fun v s'=>v= .ref s.heap.objs.size/\s'={s with heap:=s.heap.push {cls:= .type "bytearray",data:= .bytearray #[]}}) (E:=fun _ _=>False) ⟨rfl,rfl⟩) fun r s1 hr=>?_))));cases r with
 | error e=>exact hr.elim
 | ok fl=>
  cases fl with
  | ret obj=>
   obtain ⟨rfl,rfl⟩:=hr;have hS:(s.heap.push {cls:= .type "bytearray",data:= .bytearray #[]}).get? s.heap.objs.size=some {cls:= .type "bytearray",data:= .bytearray #[]}:=y3 _ rfl;have hT:Shared.TypeIs {s with heap:=s.heap.push {cls:= .type "bytearray",data:= .bytearray #[]}} (.ref s.heap.objs.size) "bytearray":=⟨_,hS,rfl⟩;refine a10 (of (wpAny_isInstance hT ft.sub ?_));refine u26 rfl ?_;refine a10 (j10 ?_);unfold callSpecial?;refine a10 (of (wpAny_specialOf hT ft.init.lookup ?_));dsimp only;refine j10 ?_;refine a10 (of (wpAny_of_eq (ft.init.bind _) ?_));dsimp only;refine a10 (q22 (e15 ft.init.plain a21 (by decide) (ft.init.check _ _ _ _ _ _ _ _ hT (f24 _ _) (q45 hZ hS hz ?_))));refine m10 (u26 rfl (m10 ?_));have hS2:=Heap.get?_update_self (Obj.mapBytearray fun _=> #[]) hS rfl;have hS3:=Heap.get?_update_self (Obj.mapBytearray fun _=>b) hS2 rfl;refine h _ (fun a o e=>?_) hS3;have ne:s.heap.objs.size≠a:=(Nat.ne_of_lt (Heap.lt_size e)).symm;rw [Heap.get?_update_other _ _ ne,Heap.get?_update_other _ _ ne];exact i3 _ e
  | _=>exact hr.elim
end
theorem y17:Slot "bytearray" "__len__" "bytearray.__len__":=
 .of (owner:="bytearray") (n:="__len__") (by rw [typeLookup_type,builtinLookup_eq_fast];kernel_rfl) (by decide+kernel) (by decide+kernel) (by decide+kernel)
  (by first | exact .inl (by decide+kernel) | exact .inr (by decide+kernel)) (by rw [isSubtype_type];kernel_rfl)
theorem g24:entryFor table "bytearray.__len__"=some Builtin.«bytearray.__len__» :=entryFor_of_tree s!"."
theorem v26 (a:Value):argsOk "bytearray.__len__" ⟨[a],[]⟩:=by unfold argsOk;kernel_rfl
theorem w12:Slot "bytearray" "__getitem__" "bytearray.__getitem__":=
 .of (owner:="bytearray") (n:="__getitem__") (by rw [typeLookup_type,builtinLookup_eq_fast];kernel_rfl) (by decide+kernel) (by decide+kernel) (by decide+kernel)
  (by first | exact .inl (by decide+kernel) | exact .inr (by decide+kernel)) (by rw [isSubtype_type];kernel_rfl)
theorem j16:entryFor table "bytearray.__getitem__"=some Builtin.«bytearray.__getitem__» :=entryFor_of_tree s!"."
theorem z17 (a b:Value):argsOk "bytearray.__getitem__" ⟨[a,b],[]⟩:=by unfold argsOk;kernel_rfl
section
variable {prog:Program} {w:World} {A:Around} {E:Value->Shared->Prop} {s:Shared}
theorem r19 {M:Model} {a:Nat} {b:Array UInt8} {Q:Array UInt8->Shared->Prop} (ho:s.heap.get? a=some {cls:= .type "bytearray",data:= .bytearray b}) (h:Q b s):wpAny M A (Builtin.Bytes.payload (.ref a)) Q E s:=by
 unfold Builtin.Bytes.payload Builtin.Bytes.payload?;exact d0 (d0 (wpAny_load ho (m0 (m0 h))))
theorem n50 {a:Nat} {b:Array UInt8} {Q:Value->Shared->Prop} (ho:s.heap.get? a=some {cls:= .type "bytearray",data:= .bytearray b}) (hz:b.size<=1099511627776)
  (h:Q (.int b.size (s.toks+1)) {s with toks:=s.toks+1+1}):wpAny (model prog w) A (call (.builtin "len") [.ref a]) Q E s:=by
 have hT:s.TypeIs (.ref a) "bytearray":=⟨_,ho,rfl⟩;refine Calls.call_function_entry kind_len plain_len entry_len (args_len1 _) ?_;unfold Builtin.«len»;refine d0 (m:=oneArg "len" _) (m0 ?_);refine d0 (m:=callSpecial? _ (Str.ofString "__len__")) (wpAny_callSpecial?_slot (name:=Str.ofString "__len__") hT y17 (wpAny_call_entry y17 hT g24 ?_ (v26 _)))
 ·show wpAny _ _ (Builtin.Bytes.payload (.ref a)>>=fun b=>retInt b.size) _ _ _;refine d0 (r19 ho ?_);refine d0 (wpAny_mkInt (m0 ⟨_,rfl,?_⟩));show wpAny _ _ _ _ _ {s with toks:=s.toks+1};refine d0 (wpAny_holding (m0 ?_));refine d0 (wpAny_letGo ?_);show wpAny _ _ (if (b.size:Int)<0 then _ else _) _ _ _;rw [if_neg (by exact fun q1=>fk s!"hSwAn0o0F" [] [_] rfl q1)];show wpAny _ _ (if (b.size:Int)>=2^63 then _ else _) _ _ _;rw [if_neg (by exact fun q1=>fk s!"hxAn1099511627776hLn2^63wAo0F" [] [_] rfl hz q1)];exact d0 (wpAny_mkInt (m0 ⟨_,rfl,h⟩))
theorem y30 {a:Nat} {b:Array UInt8} {i:Int} {u:Tok} {c:UInt8} {Q:Value->Shared->Prop} (ho:s.heap.get? a=some {cls:= .type "bytearray",data:= .bytearray b})
  (hr:Builtin.Bytes.fitsIndex i=true) (hi:(seqIndex? i b.size).bind (b[·]?)=some c) (h:Q (.int c.toNat s.toks) {s with toks:=s.toks+1}):wpAny (model prog w) A (getItem (.ref a) (.int i u)) Q E s:=by
 have hT:s.TypeIs (.ref a) "bytearray":=⟨_,ho,rfl⟩;refine wpAny_getItem_slot hT (by decide) w12 (wpAny_call_entry w12 hT j16 ?_ (z17 _ _));show wpAny _ _ (Builtin.Bytes.subscript? (.int i u)>>=fun r=>_) _ _ s;refine d0 ?_;unfold Builtin.Bytes.subscript?;refine d0 (wpAny_specialOf (typeIs_int s i u) F.slot_int_index.lookup ?_);show wpAny _ _ (if (!Builtin.Bytes.fitsIndex i)=true then _ else pure (some i)) _ _ s;rw [hr];refine m0 ?_;refine d0 (r19 ho ?_);show wpAny _ _ (match (seqIndex? i b.size).bind (b[·]?) with | some x=>retInt x.toNat | none=>_) _ _ s;rw [hi];exact d0 (wpAny_mkInt (m0 ⟨_,rfl,h⟩))
end
section
variable {X:Cx} {c:Cf} {σ:St} {E:Nat->St->Prop} {Q:AV->St->Prop}
theorem t18 {l:List UInt8} (hZ:X.Z=true) (hz:l.length<=16777216) (h: ∀p,σ.h p=none->Q (.ref p) {σ with h:=upd σ.h p (.bytearray l)}):J2 X c (.type "bytearray") [.bytes l] [] Q E σ:=fun F vs ks hF hv hk A s g R=>by
 obtain rfl:=x11 hF;obtain ⟨v,r,rfl,hv1,hr⟩:=map_cons hv;obtain rfl:=v10 hr;obtain rfl:=v10 hk;obtain ⟨t,rfl⟩:=h11 hv1;walk_at "o";have n1:s.heap.get? s.heap.objs.size=none:=l6 (Nat.le_refl _);refine i16 hZ (by rw [sizeLine_eq];simpa using hz) fun h' k hn=>?_;obtain ⟨own',R'⟩:=R.alloc (tk:=s.toks) (o:= .bytearray l) [] k n1 ⟨_,hn⟩ (fun q hq=>by cases hq) (fun own' h1 h2=>⟨l.toArray,hn,by simp⟩);exact ⟨_,⟨own',R'⟩,h _ (R.fresh n1).1⟩
theorem w26 {p:Nat} {l:List UInt8} (e:σ.h p=some (.bytearray l)) (hz:l.length<=16777216) (h:Q (.int l.length) σ):J2 X c (.builtin "len") [.ref p] [] Q E σ:=fun F vs ks hF hv hk A s g R=>by
 refine of ?_;obtain rfl:=d11 hF;obtain ⟨v,r,rfl,hv1,hr⟩:=map_cons hv;obtain rfl:=v10 hr;obtain rfl:=v10 hk;obtain rfl:=t10 hv1;walk_at "o";obtain ⟨b,hb,rfl⟩:=(R.objs _ _ e).2;rw [Array.length_toList] at h hz;exact n50 hb (by exact fk s!"hxAn16777216oxAn1099511627776" [] [_] rfl hz) ⟨σ,⟨own,R.toks _⟩,h⟩
theorem y53 {p:Nat} {l:List UInt8} {i:Int} (e:σ.h p=some (.bytearray l)) (hz:l.length<=16777216) (h0:0<=i) (h1:i<l.length) (h:Q (.int (l.getD i.toNat 0).toNat) σ):WGI X c (.ref p) (.int i) Q E σ:=fun V W hV hW A s g R=>by
 refine of ?_;obtain rfl:=t10 hV;obtain ⟨u,rfl⟩:=o10 hW;walk_at "o";obtain ⟨b,hb,rfl⟩:=(R.objs _ _ e).2;have hs:b.toList.length=b.size:=Array.length_toList;refine y30 (c:=b.toList.getD i.toNat 0) hb ?_ ?_ ⟨σ,⟨own,R.toks _⟩,h⟩
 ·simp only [Builtin.Bytes.fitsIndex,z0,decide_eq_true_eq];(exact ⟨fk s!"hLn0AoLgn2^63A" [_] [] rfl h0,fk s!"hxAn16777216hSAwAoSAn2^63" [_] [_] rfl hz h1⟩)
 ·have hn: ¬i<0:=by (exact fun q4=>fk s!"hLn0AhSAn0o0F" [_] [] rfl h0 q4)
  have:seqIndex? i b.size=some i.toNat:=by simp [seqIndex?,hn,h0];(exact fk s!"hSAwAhzABoSAwB" [_] [_,_] rfl h1 hs)
  rw [this];have hl:i.toNat<b.size:=by (exact fk s!"hSAwAhzABhEwCAoyCB" [_] [_,_,_] rfl h1 hs (y5 (h0)))
  simp [hl]
end
theorem r35 {H:Nat->Option W0} {a b:Nat} {x y u z:W0} (h:a≠b):upd (upd (upd (upd H a x) b y) a u) b z=upd (upd H a u) b z:=by
 funext k;unfold upd;by_cases h1:k=b
 ·simp [h1]
 ·by_cases h2:k=a<;>simp [h1,h2]
theorem s35 {H:Nat->Option W0} {a b:Nat} {x y:W0} (h:a≠b) (hn:H a=none):del (upd (upd H a x) b y) a=upd H b y:=by
 funext k;unfold del upd;by_cases h1:k=a
 ·subst h1;simp [h,hn]
 ·by_cases h2:k=b
  ·subst h2;simp [h1]
  ·simp [h1,h2]
theorem b21 {H:Nat->Option W0} {a:Nat} {x:W0} (hn:H a=none):del (upd H a x) a=H:=by
 funext k;unfold del upd;by_cases h1:k=a
 ·subst h1;simp [hn]
 ·simp [h1]
section
variable {X:Cx} {c:Cf} {σ:St} {E:Nat->St->Prop} {Q:AV->St->Prop}
theorem r45 {x:Str} {lo hi:AV} {lo' hi':Option Int} (h1:part lo=some lo') (h2:part hi=some hi') (hz:x.length<=16777216) (h:Q (.str (Txt.slice x lo' hi')) σ):Y13 X c (.str x) lo hi Q E σ:=fun o lv uv ho hl hu A s g R=>by
 refine of ?_;obtain ⟨t,rfl⟩:=p11 ho;walk_at "o";have fin: ∀l u:Option (Int×Tok),l.map (·.1)=lo'->u.map (·.1)=hi'->(sliceMade x t l u none).post (fun v s'=> ∃σ',O1 X c σ' s'/\Q (ab v) σ') {s with heap:=s.heap.push (K6 lv uv)}:=fun l u e1 e2=>by
  subst e1;subst e2;exact post_val_or_str ⟨Nat.le_trans (Txt.slice_le x _ _) (by rw [sizeLine_eq];exact hz),fun t' k=>⟨σ,⟨own,R.push _ _⟩,h⟩⟩
 have p1:=d20 h1 hl;have p2:=d20 h2 hu;cases p1 with
 | none=>cases p2 with
  | none=>exact wpAny_getItem_str_slice (l:=none) (u:=none) (st:=none) ⟨_,y3 _ rfl,rfl,rfl⟩ rfl (fin none none rfl rfl)
  | int j v=>exact wpAny_getItem_str_slice (l:=none) (u:=some (j,v)) (st:=none) ⟨_,y3 _ rfl,rfl,rfl⟩ rfl (fin none (some (j,v)) rfl rfl)
 | int i u=>cases p2 with
  | none=>exact wpAny_getItem_str_slice (l:=some (i,u)) (u:=none) (st:=none) ⟨_,y3 _ rfl,rfl,rfl⟩ rfl (fin (some (i,u)) none rfl rfl)
  | int j v=>exact wpAny_getItem_str_slice (l:=some (i,u)) (u:=some (j,v)) (st:=none) ⟨_,y3 _ rfl,rfl,rfl⟩ rfl (fin (some (i,u)) (some (j,v)) rfl rfl)
theorem o50 {x:Str} (ha:x.cps.all (·<128)=true) (h: ∀it,σ.h it=none->Q (.ref it) {σ with h:=upd σ.h it (.seqIter "str_ascii_iterator" (.str x) 0)}):Z1 X c (.str x) Q E σ:=fun V hV A s g R=>by
 refine of ?_;obtain ⟨t,rfl⟩:=p11 hV;walk_at "o";obtain ⟨h1,own',R'⟩:=R.J4 (o:= .seqIter "str_ascii_iterator" (.str x) 0) (tk:=s.toks) (ob:={cls:= .type "str_ascii_iterator",data:= .fields #[.str x t,.int 0 0]}) rfl fun own'=>⟨_,_,y3 _ rfl,rfl,rfl,rfl⟩;exact wpAny_pyIter_ascii ha ⟨_,⟨own',R'⟩,h _ h1⟩
theorem x26 {q i:Nat} {x:Str} (e:σ.h q=some (.seqIter "str_ascii_iterator" (.str x) i)) (h:Q (.ref q) σ):Z1 X c (.ref q) Q E σ:=fun V hV A s g R=>by
 refine of ?_;obtain rfl:=t10 hV;walk_at "o";obtain ⟨v,o,h1,h2,h3,h4⟩:=(R.objs _ _ e).2;obtain ⟨t,rfl⟩:=p11 h4;exact wpAny_pyIter_striter_ascii (i:=i) ⟨o,h1,h2,h3⟩ ⟨σ,⟨own,R⟩,h⟩
theorem p50 {q i:Nat} {x:Str} {Q:Option AV->St->Prop} (e:σ.h q=some (.seqIter "str_ascii_iterator" (.str x) i)) (hd:c.hd=none)
  (h1: ∀ch,x.cps[i]? =some ch->Q (some (.str ⟨#[ch]⟩)) {σ with h:=upd σ.h q (.seqIter "str_ascii_iterator" (.str x) (i+1))})
  (h2:x.cps[i]? =none->Q none {σ with h:=del σ.h q}):W5 X c (.ref q) Q E σ:=fun V hV A s g R=>by
 refine of ?_;obtain rfl:=t10 hV;walk_at "o";obtain ⟨v,o,o1,o2,o3,o4⟩:=(R.objs _ _ e).2;obtain ⟨t,rfl⟩:=p11 o4;have hit:s.heap.IsStrIter q "str_ascii_iterator" x t i:=⟨o,o1,o2,o3⟩;cases hi:x.cps[i]? with
 | some ch=>
  refine wpAny_pyNext_ascii_item hit hi fun h' hi' hs=>⟨_,⟨own,R.update (tk:=s.toks+1) (o:= .seqIter "str_ascii_iterator" (.str x) (i+1)) e (fun b y hb hy=>(hs.2 b fun q=>?_).trans hy) (fun q' hq=>?_) (by obtain ⟨o',p1,p2,p3⟩:=hi';exact ⟨_,o',p1,p2,p3,rfl⟩)⟩,h1 _ hi⟩
  ·subst q;exact hb (R.objs _ _ e).1
  ·by_cases z:q'=q
   ·subst z;obtain ⟨o,ho,_⟩:=hi';exact ⟨o,ho⟩
   ·obtain ⟨y,hy⟩:=(R.owned q' q hq).1;exact ⟨y,(hs.2 q' z).trans hy⟩
 | none=>
  refine wpAny_pyNext_ascii_end (g.hd.trans hd) hit hi fun h' hx=>?_;obtain ⟨own',R'⟩:=R.drop (tk:=s.toks) e (h':=h') fun b y hb hy=>hx b y (fun q=>by subst q;exact hb (R.objs _ _ e).1) hy;exact ⟨_,⟨own',R'⟩,h2 hi⟩
theorem m39 {n:Nat} (h:Q (.int n) σ):J2 X c (.builtin "ord") [.str ⟨#[n]⟩] [] Q E σ:=fun F0 vs ks hF hv hk A s g R=>by
 refine of ?_;obtain rfl:=d11 hF;obtain ⟨v,rs,rfl,hv1,hv2⟩:=map_cons hv;obtain rfl:=v10 hv2;obtain rfl:=v10 hk;obtain ⟨t,rfl⟩:=p11 hv1;exact P.ord_of_char ⟨σ,R.tk _,h⟩
theorem n39 {l:List UInt8} (h: ∀it,σ.h it=none->Q (.ref it) {σ with h:=upd σ.h it (.seqIter "bytes_iterator" (.bytes l) 0)}):Z1 X c (.bytes l) Q E σ:=fun V hV A s g R=>by
 refine of ?_;obtain ⟨t,rfl⟩:=h11 hV;walk_at "o";obtain ⟨h1,own',R'⟩:=R.J4 (o:= .seqIter "bytes_iterator" (.bytes l) 0) (tk:=s.toks) (ob:={cls:= .type "bytes_iterator",data:= .fields #[.bytes l.toArray t,.int 0 0]}) rfl fun own'=>⟨_,_,y3 _ rfl,rfl,rfl,by first | rfl | simp [ab]⟩;exact KBw.pyIter_bytes ⟨_,⟨own',R'⟩,h _ h1⟩
theorem o39 {q i:Nat} {l:List UInt8} {Q:Option AV->St->Prop} (e:σ.h q=some (.seqIter "bytes_iterator" (.bytes l) i)) (hd:c.hd=none)
  (h1: ∀b,l[i]? =some b->Q (some (.int b.toNat)) {σ with h:=upd σ.h q (.seqIter "bytes_iterator" (.bytes l) (i+1))})
  (h2:l[i]? =none->Q none {σ with h:=del σ.h q}):W5 X c (.ref q) Q E σ:=fun V hV A s g R=>by
 refine of ?_;obtain rfl:=t10 hV;walk_at "o";obtain ⟨v,o,o1,o2,o3,o4⟩:=(R.objs _ _ e).2;obtain ⟨t,rfl⟩:=h11 o4;have hit:KBw.IsBytesIter s.heap q l.toArray t i:=⟨o,o1,o2,o3⟩;have hget:l[i]? =l.toArray[i]? :=by simp
 cases hi:l[i]? with
 | some ch=>
  refine KBw.next_item hit (hget▸hi) fun h' hi' hs=>⟨_,⟨own,R.update (tk:=s.toks+1) (o:= .seqIter "bytes_iterator" (.bytes l) (i+1)) e (fun b y hb hy=>(hs.2 b fun q=>?_).trans hy) (fun q' hq=>?_) (by obtain ⟨o',p1,p2,p3⟩:=hi';exact ⟨_,o',p1,p2,p3,by simp [ab]⟩)⟩,h1 _ hi⟩
  ·subst q;exact hb (R.objs _ _ e).1
  ·by_cases z:q'=q
   ·subst z;obtain ⟨o,ho,_⟩:=hi';exact ⟨o,ho⟩
   ·obtain ⟨y,hy⟩:=(R.owned q' q hq).1;exact ⟨y,(hs.2 q' z).trans hy⟩
 | none=>
  refine KBw.next_end (g.hd.trans hd) hit (hget▸hi) fun h' hx=>?_;obtain ⟨own',R'⟩:=R.drop (tk:=s.toks) e (h':=h') fun b y hb hy=>hx b y (fun q=>by subst q;exact hb (R.objs _ _ e).1) hy;exact ⟨_,⟨own',R'⟩,h2 hi⟩
end
section
variable {X:Cx} {c:Cf} {H:Nat->Option W0} {L:NS} {K:KT} {P:PT} {vs:List AV} {r:List Tr}
theorem a18 {l:List UInt8} (hZ:X.Z=true) (hz:l.length<=16777216) (h: ∀q,H q=none->Go (run X c K P r (.ref q::vs) ⟨upd H q (.bytearray l),L⟩)):Go (run X c K P (I.call 1 []::r) (.bytes l:: .type "bytearray"::vs) (⟨H,L⟩:St)):=t11 rfl rfl o13 (t18 hZ hz fun q hq=>(h q hq).out)
theorem p39 {p:Nat} {l:List UInt8} (e:H p=some (.bytearray l)) (hz:l.length<=16777216) (h:Go (run X c K P r (.int l.length::vs) (⟨H,L⟩:St))):Go (run X c K P (I.call 1 []::r) (.ref p:: .builtin "len"::vs) (⟨H,L⟩:St)):=t11 rfl rfl g11 (w26 e hz h.out)
theorem z53 {n:Nat} {σ:St} (h:Go (run X c K P r (.int n::vs) σ)):Go (run X c K P (I.call 1 []::r) (.str ⟨#[n]⟩:: .builtin "ord"::vs) σ):=t11 rfl rfl g11 (m39 h.out)
theorem a54 {p:Nat} {l:List UInt8} {σ:St} (e:σ.h p=some (.bytearray l)):O6 X c (.ref p) σ:=⟨"bytearray",_,w12.lookup,fun v s hv hp1=>hp1.elim fun own R=>by
 obtain rfl:=t10 hv;obtain ⟨b,hb,_⟩:=(R.objs _ _ e).2;exact ⟨_,hb,rfl⟩⟩
theorem c21 {p:Nat} {l:List UInt8} {i:Int} (e:H p=some (.bytearray l)) (hz:l.length<=16777216) (hi:0<=i/\i<l.length) (h:Go (run X c K P r (.int (l.getD i.toNat 0).toNat::vs) (⟨H,L⟩:St))):Go (run X c K P (I.sub::r) (.int i:: .ref p::vs) (⟨H,L⟩:St)):=
 v34 (a54 e) (y53 e hz hi.1 hi.2 h.out)
theorem y26 {cks:List (Nat×NameKind)} {x:Str} {v:Nat} {e:List Tr} {f:Nat->AV} (hx:x.cps.all (·<128)=true) (hz:x.cps.size<=100000) (hd:c.hd=none)
  (body: ∀(c':Cf) (ch:Nat) (H':Nat->Option W0) (L':NS) (K':KT),c'.n=c.n->c'.ks=Z4 c.ks cks->c'.cs=Y4 c.cs cks->c'.hd=c.hd->K' [f ch] ⟨H',(v,.str ⟨#[ch]⟩)::L'⟩->Go (run X c' K' noP e [] ⟨H',(v,.str ⟨#[ch]⟩)::L'⟩))
  (h: ∀D,H D=none->Go (run X c K P r (.ref D::vs) ⟨upd H D (.list (x.cps.toList.map f)),L⟩)):Go (run X c K P (I.Z7 cks [I.st v] [I.push (.bool true)] e::r) (.str x::vs) (⟨H,L⟩:St)):=by
 refine ⟨?_⟩;show Z1 X c (.str x) _ (fx P) (⟨H,L⟩:St);refine o50 hx fun it hit D hD c' h1 h2 h3 h4=>?_;obtain ⟨n1,n2⟩:=l10 hD;have hD':H D=none:=n2;have ne:it≠D:=Ne.symm n1.ne;have key:I.X8 X c' [I.st v] [I.push (.bool true)] e (.ref it) D (fun σ'=>run X c K P r (.ref D::vs) ⟨σ'.h,L⟩) ⟨upd (upd H it (.seqIter "str_ascii_iterator" (.str x) 0)) D (.list []),[]⟩:=by
  refine ⟨fun n σ=> ∃i,i+n=x.cps.size/\σ.h=upd (upd H it (.seqIter "str_ascii_iterator" (.str x) i)) D (.list ((x.cps.toList.take i).map f)),x.cps.size,⟨0,by (exact fe (.o 1 (.e (.a (.n 0) (.v 0)) (.v 0))) [] [_] rfl),by simp⟩,fun n σ hp2=>U0 hp2 fun i hi hσ=>?_⟩;obtain ⟨H',L'⟩:=σ;dsimp only at hσ;subst hσ;refine p50 (i:=i) (x:=x) (b15 ne (i10 _ _ _)) (h4.trans hd) (fun ch hch=>?_) (fun hch=>?_)
  ·show run X c' _ noP e [] ⟨_,(v,.str ⟨#[ch]⟩)::L'⟩;refine (body c' ch _ L' _ h1 h2 h3 h4 ?_).out;have hlt:i<x.cps.size:=by
    by_cases q:i<x.cps.size
    ·exact q
    ·rw [Array.getElem?_eq_none (by omega)] at hch;cases hch
   refine ⟨(x.cps.toList.take i).map f,b15 (Ne.symm ne) (i10 _ _ _),by simp;(exact fk s!"hxAn100000hyBAhzCBoxCn16777216" [] [_,_,_] rfl hz hlt (j6 (Nat.le_of_lt hlt))),x.cps.size-(i+1),by (exact fk s!"h-zaABChzaDaAn1CoyDB" [] [_,_,_,_] rfl hi (n0 (hlt))),Up.same ⟨i+1,by (exact fe (.h 1 (.e (.a (.v 0) (.a (.v 1) (.n 1))) (.v 2)) <| .o 1 (.e (.a (.a (.v 1) (.n 1)) (.v 0)) (.v 2))) [] [_,_,_] rfl (n0 (hlt))),?_⟩⟩;dsimp only;rw [r35 ne,List.take_add_one];have:x.cps.toList[i]? =some ch:=by rw [Array.getElem?_toList];exact hch
   rw [this];simp
  ·have hge:x.cps.size<=i:=by
    by_cases q:i<x.cps.size
    ·rw [Array.getElem?_eq_getElem q] at hch;cases hch
    ·(exact Nat.le_of_not_lt q)
   dsimp only;rw [s35 ne hit,List.take_of_length_le (by simpa using hge)];exact (h D hD').out
 exact ⟨key,x26 (b15 ne (i10 _ _ _)) key⟩
theorem h24 {t b e:List Tr} (hd:c.hd=none) (h:Go (run X c (run X c K P r) P e vs ⟨H,L⟩)):Go (run X c K P (I.W4 t b e::r) (.bytes []::vs) (⟨H,L⟩:St)):=by
 refine ⟨?_⟩;show Z1 X c (.bytes []) _ (fx P) (⟨H,L⟩:St);refine n39 fun it hn=>⟨fun _ σ=>σ=⟨upd H it (.seqIter "bytes_iterator" (.bytes []) 0),L⟩,0,Up.same rfl,fun n σ hσ=>?_⟩;subst hσ;refine o39 (i:=0) (l:=[]) (i10 _ _ _) hd (fun b hb=>by cases hb) (fun _=>?_);dsimp only;rw [b21 hn];exact h.out
end
noncomputable def W2 (ty:Int) (t:List UInt8) (k:Nat):Int:=
 if ty=12 then (if k % 2=0 then (leV ((t.drop (3*k / 2)).take 2)) % 4096 else (leV ((t.drop (3*k / 2)).take 2)) / 16)
 else if ty=16 then leV ((t.drop (2*k)).take 2)
 else (leV ((t.drop (4*k)).take 4)) % 268435456
noncomputable def Q4 (ty:Int) (t:List UInt8):List Int:=(List.range (t.length*8 / ty.toNat)).map (W2 ty t)
theorem k14: ∀l:List UInt8,0<=leV l
 | []=>Int.le_refl _
 | b::r=>by have:=k14 r;show 0<=(b.toNat:Int)+256*leV r;(exact fk s!"h256Ln0AoLn0awAl256A" [_] [_] rfl this)
theorem z28: ∀l:List UInt8,leV l<256^l.length
 | []=>by decide
 | b::r=>by
  have h:=z28 r;have hb:(b.toNat:Int)<256:=by have:=b.toNat_lt;(exact fk s!"hyAn2^8oSwAn256" [] [_] rfl this)
  rw [List.length_cons,Int.pow_succ];show (b.toNat:Int)+256*leV r<_
  (exact fk s!"h256SABhSwAn256oSawAl256Ar256B" [_,_] [_] rfl h hb)
theorem t35: ∀l:List UInt8,leB l.length (leV l)=l
 | []=>rfl
 | b::r=>by
  have hb:(b.toNat:Int)<256:=by have:=b.toNat_lt;(exact fk s!"hyAn2^8oSwAn256" [] [_] rfl this)
  have e1:((b.toNat:Int)+256*leV r) % 256=b.toNat:=by rw [Int.add_mul_emod_self_left];exact Int.emod_eq_of_lt (Int.natCast_nonneg _) hb
  have e2:((b.toNat:Int)+256*leV r) / 256=leV r:=by (exact fe (.h (-1) (.E (.v 0) (.w (.v 0))) <| .h 1 (.E (.a (.l 256 (.v 1)) (.v 0)) (.a (.w (.v 0)) (.l 256 (.v 2)))) <| .o 256 (.E (.v 1) (.v 2))) [_,_,_] [_] rfl e1 (Int.mul_ediv_add_emod _ 256))
  show (((b.toNat:Int)+256*leV r) % 256).toNat.toUInt8::leB r.length (((b.toNat:Int)+256*leV r) / 256)=_;rw [e1,e2,t35 r];congr 1;show UInt8.ofNat ((b.toNat:Int).toNat)=b;rw [Int.toNat_natCast];simp
theorem z26: ∀(n:Nat) (x:Int),0<=x->x<256^n->leV (leB n x)=x
 | 0,x,h0,h1=>by
  have:x=0:=by simp at h1;(exact t0 (fk s!"hSAn1oLAn0" [_] [] rfl h1) (h0))
  subst this;rfl
 | n+1,x,h0,h1=>by
  rw [Int.pow_succ] at h1;show (((x % 256).toNat.toUInt8.toNat:Nat):Int)+256*leV (leB n (x / 256))=x;rw [r20 _ (by exact (Qm1 _ 256 rfl)) (by exact (Qm2 _ 256 rfl)),z26 n (x / 256) (by exact fk s!"hLn0AhSAal256Bn256o256Ln0B" [_,_] [] rfl h0 (Qd2 _ 256 rfl)) (by exact fk s!"hSAr256BhLl256CAo256SCB" [_,_,_] [] rfl h1 (Qd1 _ 256 rfl))]
  (exact fe (.h 1 (.E (.a (.l 256 (.v 0)) (.v 1)) (.v 2)) <| .o 1 (.E (.a (.v 1) (.l 256 (.v 0))) (.v 2))) [_,_,_] [] rfl (Int.mul_ediv_add_emod _ 256))
theorem d12: ∀(a b:List UInt8),leV (a++b)=leV a+256^a.length*leV b
 | [],b=>((Int.zero_add _).trans (Int.one_mul _)).symm
 | x::r,b=>by
  show (x.toNat:Int)+256*leV (r++b)=(x.toNat:Int)+256*leV r+256^(r.length+1)*leV b;rw [d12 r b,Int.pow_succ,Int.mul_add,Int.mul_comm (256^r.length) 256,Int.mul_assoc]
  (exact fe (.o 1 (.E (.a (.w (.v 0)) (.a (.l 256 (.v 0)) (.l 256 (.v 1)))) (.a (.a (.w (.v 0)) (.l 256 (.v 0))) (.l 256 (.v 1))))) [_,_] [_] rfl)
set_option tactic.hygienic true in
theorem d21 (n k:Nat):clipAt n (k:Int)=min k n:=by unfold clipAt;split<;>(first | (rename_i hz0;exact r0 (fk s!"hSwAn0o0xBC" [] [_,_,_] rfl hz0) (fk s!"hSwAn0h-EAn0h-EwBAhzCAoxCB" [_] [_,_,_] rfl hz0 (Int.max_eq_left (fk s!"hSwAn0o0LAn0" [_] [_] rfl hz0)) (y5 (fk s!"h-EAn0oLn0A" [_] [] rfl (Int.max_eq_left (fk s!"hSwAn0o0LAn0" [_] [_] rfl hz0)))) (j6 (fk s!"hSwAn0o0xAB" [] [_,_] rfl hz0)))) | (rename_i hz0;exact (Int.le_total _ _).elim (fun qs8=>fe (.h 1 (.E (.w (.v 0)) (.v 0)) <| .h 1 (.E (.v 1) (.w (.v 1))) <| .h 1 (.E (.v 0) (.v 1)) <| .h (-1) (.e (.v 2) (.v 1)) <| .o 1 (.e (.v 0) (.v 2))) [_,_] [_,_,_] rfl (y5 ((Int.le_max_left _ _))) (Int.min_eq_left (qs8)) (Int.max_eq_right (fk s!"hKwAn0h-EAwAoLn0A" [_] [_] rfl hz0 (Int.min_eq_left (qs8)))) (j6 (fk s!"hLAwAh-EAwBoxBA" [_] [_,_] rfl (Int.min_le_right _ _) (Int.min_eq_left (qs8))))) fun qs8=>fe (.h 1 (.E (.w (.v 0)) (.v 0)) <| .h 1 (.E (.v 1) (.w (.v 1))) <| .h 1 (.E (.v 0) (.v 1)) <| .h (-1) (.e (.v 2) (.v 1)) <| .o 1 (.e (.v 0) (.v 2))) [_,_] [_,_,_] rfl (y5 ((Int.le_max_left _ _))) (Int.min_eq_right (qs8)) (Int.max_eq_right (fk s!"h-EAwAoLn0A" [_] [_] rfl (Int.min_eq_right (qs8)))) (Nat.min_eq_right (fk s!"hLAwAh-EAwBoxBA" [_] [_,_] rfl (Int.min_le_left _ _) (Int.min_eq_right (qs8))))) | omega)
theorem s45 {α:Type} (l:List α) (a b:Nat):slc l (some (a:Int)) (some (b:Int))=(l.drop a).take (b-a):=by
 unfold slc;simp only [Option.elim_some,d21];by_cases h:a<=l.length
 ·rw [j6 h];by_cases h2:b<=l.length
  ·rw [j6 h2]
  ·rw [Nat.min_eq_right (by exact Nat.le_of_not_le h2),List.take_of_length_le (by rw [List.length_drop];(exact fk s!"oxAA" [] [_] rfl)),List.take_of_length_le (by rw [List.length_drop];(exact fk s!"hjABhzaCDBh-zaGDAoxCG" [] [_,_,_,_,_] rfl h2 (n0 (h)) (n0 (fk s!"hxABhjCBoxAC" [] [_,_,_] rfl h h2))))]
 ·rw [show min a l.length=l.length from by (exact r0 (Nat.le_of_eq (Nat.min_eq_right (Nat.le_of_not_le h))) (fk s!"h-zABoxBA" [] [_,_] rfl (Nat.min_eq_right (Nat.le_of_not_le h)))),List.drop_eq_nil_of_le (Nat.le_refl _),List.drop_eq_nil_of_le (by exact Nat.le_of_not_le h)];simp
theorem d42 {α:Type} (l:List α) (b:Nat):slc l none (some (b:Int))=l.take b:=by
 unfold slc;simp only [Option.elim_some,Option.elim_none,d21,List.drop_zero,Nat.sub_zero];by_cases h2:b<=l.length
 ·rw [j6 h2]
 ·rw [Nat.min_eq_right (by exact Nat.le_of_not_le h2),List.take_length,List.take_of_length_le (by exact Nat.le_of_not_le h2)]
theorem q39 {α:Type} (l:List α) (a:Nat):slc l (some (a:Int)) none=l.drop a:=by
 unfold slc;simp only [Option.elim_some,Option.elim_none,d21];by_cases h:a<=l.length
 ·rw [j6 h,List.take_of_length_le (by rw [List.length_drop];(exact fk s!"oxAA" [] [_] rfl))]
 ·rw [show min a l.length=l.length from by (exact r0 (Nat.le_of_eq (Nat.min_eq_right (Nat.le_of_not_le h))) (fk s!"h-zABoxBA" [] [_,_] rfl (Nat.min_eq_right (Nat.le_of_not_le h)))),List.drop_eq_nil_of_le (Nat.le_refl _),List.drop_eq_nil_of_le (by exact Nat.le_of_not_le h)];simp
theorem b18 {α:Type} {l:List α} {a b:Int} (m k:Nat) (ha:a=m) (hb:b=((m+k:Nat):Int)):slc l (some a) (some b)=(l.drop m).take k:=by
 rw [ha,hb,s45,Nat.add_sub_cancel_left]
theorem H10 (x:Int):Builtin.bitAnd x 4095=x % 4096:=kbt_mask x 12
theorem P13 (x:Int):Builtin.bitAnd x 268435455=x % 268435456:=kbt_mask x 28
noncomputable def pl (f:Nat->Int) (T i:Nat):List AV:=(List.range T).map fun k=>if k<i then .int (f k) else .none
theorem n14 (f:Nat->Int) (T i:Nat):(pl f T i).length=T:=by simp [pl]
theorem t45 (f:Nat->Int) (T:Nat):(List.replicate T [AV.none]).flatten=pl f T 0:=by
 have h: ∀T:Nat,(List.replicate T [AV.none]).flatten=List.replicate T AV.none:=fun T=>by
  induction T with
  | zero=>rfl
  | succ T ih=>rw [List.replicate_succ,List.flatten_cons,ih];rfl
 rw [h,pl];apply List.ext_getElem
 ·simp
 ·intro i h1 h2;simp
theorem a29 (f:Nat->Int) {T i:Nat} (h:i<T):(pl f T i).set i (.int (f i))=pl f T (i+1):=by
 unfold pl;apply List.ext_getElem
 ·simp
 ·intro j h1 h2;rw [List.getElem_set];simp only [List.getElem_map,List.getElem_range];by_cases e:i=j
  ·subst e;simp
  ·rw [if_neg e];by_cases h3:j<i
   ·rw [if_pos h3,if_pos (by exact fk s!"hyABoyAaBn1" [] [_,_] rfl h3)]
   ·rw [if_neg h3,if_neg (by exact (Nat.lt_or_gt_of_ne e).elim (fun qs4=>fun q5=>fk s!"hyABhyBaAn1o0F" [] [_,_] rfl qs4 q5) fun qs4=>fun q5=>fk s!"hkABhyABo0F" [] [_,_] rfl h3 qs4)]
theorem u35 (f:Nat->Int) (T:Nat):pl f T T=((List.range T).map f).map .int:=by
 unfold pl;rw [List.map_map];apply List.map_congr_left;intro k hk;rw [if_pos (List.mem_range.mp hk)];rfl
theorem a27 {b:Bool} {A B:St->Prop} {σ:St} (h1:b=true->A σ) (h2:b=false->B σ):N8 (fun u _=>if u=true then A σ else B σ) [.bool b]:=by
 cases b with
 | true=>exact h1 rfl
 | false=>exact h2 rfl
theorem g15 (x:Int):Builtin.bitAnd x 0=0:=by
 have:=kbt_mask x 0;rw [show ((2:Int)^0-1)=0 from by decide,show ((2:Int)^0)=1 from by decide,Int.emod_one] at this;exact this
theorem u45 (a b:Int) (h0:0<=b) (h1:b<16):Builtin.bitAnd (16*a) b=0:=by
 have s1:=kbt_halves (16*a) b;have s2:=kbt_halves (16*a / 2) (b / 2);have s3:=kbt_halves (16*a / 2 / 2) (b / 2 / 2);have s4:=kbt_halves (16*a / 2 / 2 / 2) (b / 2 / 2 / 2);have z:b / 2 / 2 / 2 / 2=0:=by (exact t0 (fk s!"hSAn16hLl2BAh2Ll2CBh4Ll2DCh8Ll2GDo16LGn0" [_,_,_,_,_] [] rfl h1 (Qd1 _ 2 rfl) (Qd1 _ 2 rfl) (Qd1 _ 2 rfl) (Qd1 _ 2 rfl)) (fk s!"hLn0AhSAal2Bn2h2SBal2Cn2h4SCal2Dn2h8SDal2Gn2o16Ln0G" [_,_,_,_,_] [] rfl h0 (Qd2 _ 2 rfl) (Qd2 _ 2 rfl) (Qd2 _ 2 rfl) (Qd2 _ 2 rfl)))
 rw [z,g15] at s4;rw [if_neg (by (first | lia | omega))] at s1 s2 s3 s4
 (exact fe (.h 1 (.E (.v 0) (.a (.l 2 (.v 1)) (.n 0))) <| .h 2 (.E (.v 1) (.a (.l 2 (.v 2)) (.n 0))) <| .h 4 (.E (.v 2) (.a (.l 2 (.v 3)) (.n 0))) <| .h 8 (.E (.v 3) (.a (.l 2 (.n 0)) (.n 0))) <| .o 1 (.E (.v 0) (.n 0))) [_,_,_,_] [] rfl s1 s2 s3 s4)
theorem e42 (a b:Int) (h0:0<=b) (h1:b<16):Builtin.bitOr (16*a) b=16*a+b:=by
 rw [bitOr_and,u45 a b h0 h1];(exact fe (.o 1 (.E (.m (.a (.l 16 (.v 0)) (.v 1)) (.n 0)) (.a (.l 16 (.v 0)) (.v 1)))) [_,_] [] rfl)
theorem W8 (x:Int):Builtin.bitAnd x 15=x % 16:=kbt_mask x 4
theorem r39 {x y:Int} (hx:0<=x) (hy:0<=y):Builtin.bitAnd x (Builtin.bitNot y)=x-Builtin.bitAnd x y:=by
 have e:Builtin.bitNot (Builtin.bitNot y)=y:=by unfold Builtin.bitNot;(exact fe (.o 1 (.E (.m (.g (.m (.g (.v 0)) (.n 1))) (.n 1)) (.v 0))) [_] [] rfl)
 have h1:decide (0<=x)=true:=by simpa using hx
 have h2:decide (0<=Builtin.bitNot y)=false:=by simp only [decide_eq_false_iff_not];unfold Builtin.bitNot;(exact fun q3=>fk s!"hLn0AhLn0mgAn1o0F" [_] [] rfl hy q3)
 have h3:decide (0<=y)=true:=by simpa using hy
 unfold Builtin.bitAnd;rw [h1,h2,h3,e]
theorem s39 {α:Type} {l:List α} (h:0<l.length):slc l none (some (-1))=l.dropLast:=by
 have e:clipAt l.length (-1)=l.length-1:=by unfold clipAt;rw [if_pos (by decide)];(exact fe (.h 1 (.E (.v 0) (.a (.g (.n 1)) (.w (.v 0)))) <| .h 1 (.E (.v 1) (.v 0)) <| .h 1 (.E (.w (.v 1)) (.v 1)) <| .h (-1) (.e (.a (.v 2) (.n 1)) (.v 0)) <| .o 1 (.e (.v 1) (.v 2))) [_,_] [_,_,_] rfl (Int.min_eq_left (fk s!"oLagn1wAwA" [] [_] rfl)) (Int.max_eq_right (fk s!"hyn0Ah-EAagn1wAoLn0A" [_] [_] rfl h (Int.min_eq_left (fk s!"oLagn1wAwA" [] [_] rfl)))) (y5 (fk s!"hyn0Ah-EAagn1wAh-EBAoLn0B" [_,_] [_] rfl h (Int.min_eq_left (fk s!"oLagn1wAwA" [] [_] rfl)) (Int.max_eq_right (fk s!"hyn0Ah-EAagn1wAoLn0A" [_] [_] rfl h (Int.min_eq_left (fk s!"oLagn1wAwA" [] [_] rfl)))))) (n0 (fk κ8 [] [_] rfl h)))
 unfold slc;simp only [Option.elim_some,Option.elim_none,e,List.drop_zero,Nat.sub_zero];exact List.dropLast_eq_take.symm
noncomputable def clr (m e:Int):Int:=Builtin.bitOr (Builtin.bitAnd e (Builtin.bitNot m)) (Builtin.bitAnd 0 m)
theorem f42 {k:Nat} {e:Int} (h:0<=e):clr (2^k) e=e-(e / 2^k % 2)*2^k:=by
 have hp:(0:Int)<=2^k:=Int.le_of_lt (Int.pow_pos (by decide));unfold clr;rw [r39 h hp,kbt_bit,bitAnd_comm 0,g15,bitOr_and,g15]
 (exact fe (.o 1 (.E (.m (.a (.m (.v 0) (.v 1)) (.n 0)) (.n 0)) (.m (.v 0) (.v 1)))) [_,_] [] rfl)
noncomputable def O7 (i:Nat) (b:List UInt8) (e:Int):List UInt8:=
 if i % 2=0 then b++leB 2 e else b.dropLast++[(Builtin.bitOr (Builtin.bitAnd e 15*2^(4:Int).toNat) (b.getD (-1+(b.length:Int)).toNat 0).toNat).toNat.toUInt8,(e.fdiv (2^(4:Int).toNat)).toNat.toUInt8]
noncomputable def O4 (es:List Int):Nat->List UInt8
 | 0=>[]
 | i+1=>O7 i (O4 es i) (es.getD i 0)
noncomputable def tbW (k:Nat) (es:List Int):Nat->List UInt8
 | 0=>[]
 | i+1=>tbW k es i++leB k (es.getD i 0)
noncomputable def Q3 (ty:Int) (es:List Int):List UInt8:=if ty=12 then O4 es es.length else tbW (if ty=16 then 2 else 4) es es.length
theorem r15 (k:Nat) (es:List Int): ∀i,(tbW k es i).length=k*i
 | 0=>rfl
 | i+1=>by rw [tbW,w6,v14,r15 k es i,Nat.mul_succ]
set_option tactic.hygienic true in
theorem t13 (es:List Int): ∀i,(O4 es i).length=3*(i / 2)+2*(i % 2)
 | 0=>rfl
 | i+1=>by
  rw [O4,O7]
  split
  ·rw [w6,v14,t13 es i];(rename_i hz0;exact r0 (fk s!"hzAn0h3zal2BAChxl2DaCn1h-4zal2DGaCn1o2xaal3Bl2An2al3Dl2G" [] [_,_,_,_,_] rfl hz0 (o0 _ 2) (qd1 _ 2) (o0 _ 2)) (fk s!"h-zAn0h-3zal2BAChyaCn1al2Dn2h4zal2DGaCn1o2xal3Dl2Gaal3Bl2An2" [] [_,_,_,_,_] rfl hz0 (o0 _ 2) (qd2 _ 2 rfl) (o0 _ 2)))
  ·rw [w6,List.length_dropLast,t13 es i];show _-1+2=_
   (first | lia | omega)
theorem i24 (es:List Int) (i:Nat) (h:i % 2=1) (hb: ∀e∈es,0<=e/\e<4096):(((O4 es i).getD (-1+((O4 es i).length:Int)).toNat 0).toNat:Int)<16:=by
 obtain ⟨j,rfl⟩: ∃j,i=j+1:=⟨i-1,by (exact r0 (fk s!"h-zaAn1BoxBaAn1" [] [_,_] rfl (n0 (fk s!"h-zAn1hzal2BACoxn1C" [] [_,_,_] rfl h (o0 _ 2)))) (Nat.le_of_eq (n0 (fk s!"h-zAn1hzal2BACoxn1C" [] [_,_,_] rfl h (o0 _ 2)))))⟩;have hj:j % 2=0:=by (exact r0 (Decidable.byContradiction fun q5=>fk κ19 [] [_,_] rfl (fk s!"h-zAn1hzal2BAaCn1hyDn2h-zal2GDCo2Ln0agwBwG" [] [_,_,_,_,_] rfl h (o0 _ 2) (qm1 _ 2 rfl) (o0 _ 2)) (fk s!"hzAn1h-zal2BAaCn1hzal2DGChjGn0o2Ln0aawBgwDgn1" [] [_,_,_,_,_] rfl h (o0 _ 2) (o0 _ 2) q5)) (fk s!"oxn0A" [] [_] rfl))
 have hl:=t13 es (j+1);have e1:O4 es (j+1)=O4 es j++leB 2 (es.getD j 0):=by rw [O4,O7,if_pos hj]
 have hl0:=t13 es j;have hx:0<=es.getD j 0/\es.getD j 0<4096:=by
  by_cases hjl:j<es.length
  ·rw [w0,o5 hjl];exact hb _ (List.getElem_mem hjl)
  ·rw [w0,List.getElem?_eq_none (by exact Nat.le_of_not_lt hjl)];decide
 rw [e1];have hln:(O4 es j++leB 2 (es.getD j 0)).length=(O4 es j).length+2:=by rw [w6,v14]
 rw [hln,show (-1+(((O4 es j).length+2:Nat):Int)).toNat=(O4 es j).length+1 from by (exact fe (.h 1 (.E (.w (.v 0)) (.a (.g (.n 1)) (.w (.a (.v 1) (.n 2))))) <| .o 1 (.e (.v 0) (.a (.v 1) (.n 1)))) [] [_,_] rfl (y5 (fk s!"h-3zAn1h-zBn0h-2zCal3Dl2Bh3zal2GAaHn1h-3zal2DBHo2Ln0agn1waCn2" [] [_,_,_,_,_,_] rfl h hj hl0 (o0 _ 2) (o0 _ 2))))];rw [w0,List.getElem?_append_right (by exact fk s!"oxAaAn1" [] [_] rfl),show (O4 es j).length+1-(O4 es j).length=1 from by (exact fe (.h 1 (.e (.a (.v 0) (.v 1)) (.a (.v 1) (.n 1))) <| .o 1 (.e (.v 0) (.n 1))) [] [_,_] rfl (n0 (fk s!"oxAaAn1" [] [_] rfl)))];generalize es.getD j 0=x at hx;show (((((x / 256) % 256).toNat.toUInt8).toNat:Nat):Int)<16;rw [r20 _ (by exact (Qm1 _ 256 rfl)) (by exact (Qm2 _ 256 rfl))]
 (first | lia | omega)
noncomputable def O5 (K:Frag) (C:Nat):Bool:=(clsIn K C).isSome&&typeIn K (.ref C)==some (.type "type")&&subIn K (.type "NoneType") (.ref C)==some false
section
variable {prog:Program} {w:World} {A:Around} {E:Value->Shared->Prop} {s:Shared} {K:Frag} {C:Addr}
theorem v35 {K:Frag} {C:Addr} {cd:ClassData} (e:clsIn K C=some cd): ∃o,K.lookup C=some o/\o.data= .cls cd:=by
 unfold clsIn at e;cases h:K.lookup C with
 | none=>rw [h] at e;exact no_ns e
 | some o=>
  rw [h] at e;obtain ⟨c,d,dt,sl⟩:=o;cases dt with
  | cls cd'=>exact ⟨_,rfl,congrArg Data.cls (w5 e)⟩
  | _=>exact no_ns e
theorem c18 {dep:Int} {tk:Tok} {Q:Fin->Shared->Prop} (X:K.In s.heap) (e:O5 K C=true) (h:Q (.done (.ret (.bool false))) {s with toks:=s.toks+1}):
  wpAny (model prog w) A (Builtin.«isinstance.nested» ⟨[.none,.ref C,.int dep tk],[]⟩) Q E s:=by
 unfold O5 at e;rw [z0,z0] at e;obtain ⟨⟨e1,e2⟩,e3⟩:=e;have hty:Looks (model prog w) s.heap (typeOf (.ref C)) (.type "type"):=looks_typeIn X (beq_iff_eq.mp e2);have hsub:Looks (model prog w) s.heap (isSubtype (.type "NoneType") (.ref C)) false:=looks_subIn X (beq_iff_eq.mp e3);have his:Looks (model prog w) s.heap (isType (.ref C)) true:=by
  obtain ⟨cd,hc⟩:=Option.isSome_iff_exists.mp e1;obtain ⟨o,ho,hd⟩:=v35 hc;exact fun A' Q' E' s' k q=>ks_wpAny_isType_cls (k _ _ (X _ _ ho)) hd q
 obtain ⟨h0,g,d,tt,os⟩:=s;have LI:Looks (model prog w) h0 (isInstance .none (.ref C)) false:=(Looks.of_pure rfl:Looks (model prog w) h0 (typeOf .none) (.type "NoneType")).andThen hsub;unfold Builtin.«isinstance.nested»;refine d0 (wpAny_of_eq (a:= .type "NoneType") rfl ?_);rw [if_neg (by intro q;cases beq_iff_eq.mp q)];refine d0 (hty.at ?_);rw [if_pos (by decide)]
 k_delta "plainIsInstance"
 refine d0 (d0 (his.at ?_));simp only [Bool.not_true,Bool.false_eq_true,if_false];refine d0 (LI.at ?_);simp only [Bool.false_eq_true,if_false];refine d0 (class_attr_none ?_);refine d0 (wpAny_of_eq (a:=true) rfl ?_);simp only [Bool.not_true,Bool.false_eq_true,if_false];refine d0 (wpAny_rule ?_);refine hsub.at ?_
 first
  | exact m0 h
  | exact m0 (m0 h)
  | exact d0 (m0 (m0 h))
theorem e21 {Q:Value->Shared->Prop} (X:K.In s.heap) (e:O5 K C=true) (h:Q (.bool false) {s with toks:=s.toks+1}):wpAny (model prog w) A (call (.builtin "isinstance") [.none,.ref C]) Q E s:=
 call_isinstance (S:=fun _ R s=>K.In s.heap/\R (.ok (.ret (.bool false))) {s with toks:=s.toks+1})
  (fun _ _ _ _ _ hs=>isinstance_outer (c18 hs.1 e hs.2) (by intro q;cases q)) ⟨X,h⟩
end
section
variable {X:Cx} {c:Cf} {σ:St} {E:Nat->St->Prop} {Q:AV->St->Prop}
theorem t39 {C:Nat} (ok:O5 X.K C=true) (h:Q (.bool false) σ):J2 X c (.builtin "isinstance") [.none,.ref C] [] Q E σ:=fun F0 vs ks hF hv hk A s g R=>by
 refine of ?_;obtain rfl:=d11 hF;obtain ⟨v,rs,rfl,hv1,hv2⟩:=map_cons hv;obtain ⟨v2,rs,rfl,hv3,hv4⟩:=map_cons hv2;obtain rfl:=v10 hv4;obtain rfl:=v10 hk;obtain rfl:=x13 hv1;obtain rfl:=t10 hv3;exact e21 R.inK ok ⟨σ,R.tk _,h⟩
variable {H:Nat->Option W0} {L:NS} {K:KT} {P:PT} {vs:List AV} {r:List Tr}
theorem z30 {C:Nat} (ok:O5 X.K C=true) (h:Go (run X c K P r (.bool false::vs) σ)):Go (run X c K P (I.call 2 []::r) (.ref C:: .none:: .builtin "isinstance"::vs) σ):=t11 rfl rfl g11 (t39 ok h.out)
end
section
variable {X:Cx} {c:Cf} {H:Nat->Option W0} {L:NS} {K:KT} {P:PT} {vs:List AV} {r:List Tr}
theorem c14 {x q:Nat} {lo hi st:Int} {N:Nat} {b e:List Tr} (hq:H q=some (.range lo hi st)) (hs:Builtin.Range.small lo hi st=true) (hN:Builtin.Range.rangeSize lo hi st=N) (hd:c.hd=none) (J:Nat->Nat->St->Prop)
  (h0: ∀it,H it=none->Up (J it 0) ⟨upd H it (.rangeIter lo N st),L⟩) (hit: ∀it i σ,J it i σ->σ.h it=some (.rangeIter (lo+i*st) (N-i:Int) st))
  (step: ∀it i H' L',H it=none->i<N->J it i ⟨H',L'⟩->Go (run X c (fun _ σ3=> ∃m,m<N-i/\Up (LJ (J it) N m) σ3) (fun o σ3=>match o with | .cont=> ∃m,m<N-i/\Up (LJ (J it) N m) σ3 | .brk=>Up (run X c K P r vs) σ3 | o=>P o σ3) b [] ⟨upd H' it (.rangeIter (lo+((i+1:Nat):Int)*st) (N-((i+1:Nat):Int)) st),(x,.int (lo+i*st))::L'⟩))
  (done: ∀it H' L',H it=none->J it N ⟨H',L'⟩->Go (run X c (run X c K P r) P e vs ⟨del H' it,L'⟩)):Go (run X c K P (I.W4 [I.st x] b e::r) (.ref q::vs) ⟨H,L⟩):=by
 refine ⟨?_⟩;have step:=fun x0 x1 x2 x3 x4 x5 x6=>(step x0 x1 x2 x3 x4 x5 x6).out;have done:=fun x0 x1 x2 x3 x4=>(done x0 x1 x2 x3 x4).out;show Z1 X c (.ref q) _ (fx P) (⟨H,L⟩:St);refine m20 hq hs fun it hn=>⟨LJ (J it) N,N,Up.same (Up.mono (h0 it hn |> fun h=>by rw [hN];exact h) fun σ hσ=>⟨0,Nat.zero_le _,rfl,hσ⟩),fun m σ0 hpz=>?_⟩;obtain ⟨σ,ge,i,hi,hm,hJ⟩:=hpz;obtain ⟨H',L'⟩:=σ;refine fun y hy=>WT.down (n20 (c:=c) (hit it i _ hJ) hd (fun hl=>?_) (fun hl=>?_) y hy) ge
 ·have hi':i<N:=by (exact fk s!"hSn0mwAwBoyBA" [] [_,_] rfl hl)
  subst hm;have e1:lo+i*st+st=lo+((i+1:Nat):Int)*st:=by rw [Int.natCast_add,Int.add_mul,Int.add_assoc];exact congrArg (fun z=>lo+(i*st+z)) (Int.one_mul st).symm
  have e2:((N:Int)-i)-1=(N:Int)-((i+1:Nat):Int):=by (exact fe (.o 1 (.E (.m (.m (.w (.v 0)) (.w (.v 1))) (.n 1)) (.m (.w (.v 0)) (.w (.a (.v 1) (.n 1)))))) [] [_,_] rfl)
  have s:=step it i H' L' hn hi' hJ;rw [<-e1,<-e2] at s;exact s
 ·have:i=N:=by (exact r0 (hi) (fk s!"hLmwAwBn0oxAB" [] [_,_] rfl hl))
  subst this;exact done it H' L' hn hJ
end
end Mine
namespace Mine
open Sem (wp)
section
variable {M:Model}
def O2 (M:Model) (A:Around) (Φ:End->Shared->Prop) (c:Code) (t:Sem Fin) (fs:List Frame) (s:Shared):Prop:=
 ∀Γ p,Γ.code=c->Γ.Woken A-> ∃e s',Runs M Γ p t fs s e s'/\Φ e s'
def K7 (M:Model) (A:Around) (Φ:End->Shared->Prop) (y:GenState) (s:Shared):Prop:=match y with
 | .fresh c=>O2 M A Φ c (M.den c) [] s
 | .suspended k _ c _ fs _=>O2 M A Φ c (k (.send .none)) fs s
 | _=>False
variable {A:Around} {Φ:End->Shared->Prop} {c:Code} {fs:List Frame} {s:Shared} {env:Env} {K:Flow->Sem Fin} {H:Value->Sem Fin} {gd:Bool->Bool} {lv:List Value->List Value}
theorem t15 {α:Type} {m:Sem α} {K:α->Sem Fin} {H:Value->Sem Fin} {gd lv}
  (h:wpAny M (A.over c fs) m (fun a s'=>O2 M A Φ c (K a) fs s') (fun x s'=>O2 M A Φ c (H x) fs s') s):O2 M A Φ c (m.wrap K H gd lv) fs s:=by
 rintro Γ p rfl hΓ
 exact runs_wrap_of_wp K H gd lv m (h (Γ.over fs) p (hΓ.over fs)) (fun a p' s' h'=>h' Γ p' rfl hΓ) (fun x p' s' h'=>h' Γ p' rfl hΓ)
theorem w35 {p':Pos} {k:Unit->Sem Fin} (h:O2 M A Φ c (k ()) fs s):O2 M A Φ c (.at p' k) fs s:=
 t15 (m:=standAt p') (K:=k) (H:= .raise) (gd:=id) (lv:=id) (wpAny_standAt h)
theorem u39 {l:List Value} {k:Unit->Sem Fin} (h:O2 M A Φ c (k ()) fs s):O2 M A Φ c (.point l k) fs s:=
 t15 (m:=point) (K:=k) (H:= .raise) (gd:=id) (lv:=fun _=>l) (wpAny_point h)
theorem v45 {c':Code} {h g l} {k:Result->Sem Fin} (hc: ∀p,O2 M A Φ c' (M.den c') (.ret k h g l c p []::fs) s):O2 M A Φ c (.call c' h g l k) fs s:=by
 rintro Γ p rfl hΓ
 obtain ⟨e,s',hr,he⟩:=hc p (Γ.goto c') p rfl (hΓ.goto c');exact ⟨e,s',runs_call_seg hr,he⟩
theorem w45 {k h g l c₁ p₁ kp} (r:Result) (hk:O2 M A Φ c₁ (k r) fs s):O2 M A Φ c (leafOf r) (.ret k h g l c₁ p₁ kp::fs) s:=by
 rintro Γ p rfl hΓ
 obtain ⟨e,s',hr,he⟩:=hk (Γ.goto c₁) p₁ rfl (hΓ.goto c₁);exact ⟨e,s',Runs.pop r hr,he⟩
theorem v39 {c':Code} (hq:c'.quiet=true) (hc:O2 M A Φ c' (M.den c') fs s):O2 M A Φ c (.pure (.again c')) fs s:=by
 rintro Γ p rfl hΓ
 obtain ⟨e,s',hr,he⟩:=hc (Γ.goto c') p rfl (hΓ.goto c');exact ⟨e,s',Runs.head (c₁:=c') (fun _ _ x=> .again hq x) hr,he⟩
theorem q50 (r:Result) (h:Φ (.ret r) s):O2 M A Φ c (leafOf r) [] s:=by
 rintro Γ p rfl _
 exact ⟨.ret r,s,Runs.leaf r,h⟩
theorem w39 {v g l} {k:Resume->Sem Fin} (hfs:splitAtGen fs=none) (h: ∀p,Φ (.susp v g l k c p fs) s):O2 M A Φ c (.yield v g l k) fs s:=by
 rintro Γ p rfl _
 exact ⟨_,s,Runs.yield' fs hfs,h p⟩
theorem o11 {st:Stmt} {rest:List Stmt}
  (h:O2 M A Φ c ((exec st env).wrap (fun f=>match f with | .next=>(execs rest env).wrap K H gd lv | f=>K f) H gd lv) fs s):O2 M A Φ c ((execs (st::rest) env).wrap K H gd lv) fs s:=by rw [execs_cons_wrap];exact h
theorem v18 (l rest:List Stmt) (K:Flow->Sem Fin):(execs (l++rest) env).wrap K H gd lv=
  (execs l env).wrap (fun f=>match f with | .next=>(execs rest env).wrap K H gd lv | f=>K f) H gd lv:=by
 induction l generalizing K with
 | nil=>rfl
 | cons st l ih=>
  rw [List.cons_append,execs_cons_wrap,execs_cons_wrap];refine Sem.wrap_congr _ _ _ (fun f=>?_) fun _=>rfl;cases f<;>first | exact ih _ | rfl
theorem j24 {l rest:List Stmt}
  (h:O2 M A Φ c ((execs l env).wrap (fun f=>match f with | .next=>(execs rest env).wrap K H gd lv | f=>K f) H gd lv) fs s):O2 M A Φ c ((execs (l++rest) env).wrap K H gd lv) fs s:=by rw [v18];exact h
theorem h15 {e:Expr} {ypos pos:Pos} (hfs:splitAtGen fs=none) (hgd:gd false=false) (hfg:fs.any Frame.guarded=false)
  (h:wpAny M (A.over c fs) (eval e env) (fun v s'=> ∀ed:End,ed.quiet=true->ed.result= .yielded v->(∀A' Φ' s'',O2 M A' Φ' c (K .next) fs s''->K7 M A' Φ' ed.genState s'')->Φ ed s')
   (fun x s'=>O2 M A Φ c (H x) fs s') s) (hco:env.scope.isCoroutine=false:=by rfl) (hi:interactive env=false:=by rfl):
  O2 M A Φ c ((exec (.Expr (.Yield (some e) ypos) pos) env).wrap K H gd lv) fs s:=by
 rw [exec_Expr env _ pos hi rfl];show O2 M A Φ c (.at pos fun _=>((eval e env>>=fun v=>(standAt ypos>>=fun _=>yieldOut env v))>>=fun x=>
  dropValue (.Yield (some e) ypos) pos x).wrap K H gd lv) fs s
 have hy: ∀v,yieldOut env v=yieldValue v:=fun v=>by simp only [yieldOut,hco,Bool.false_eq_true,if_false]
 simp only [hy];refine w35 ?_;rw [Sem.bind_eq_wrap',Sem.bind_eq_wrap',Sem.wrap_wrap,Sem.wrap_wrap];refine t15 (wpAny_mono h (fun v s' h'=>?_) ide);refine w35 (w39 hfs fun p=>?_);exact h' _ (by simp [End.quiet,hgd,hfg]) rfl fun A' Φ' s'' x=>x
theorem x39 {test:Expr} {body orelse:List Stmt} {pos:Pos}
  (h: ∀p,O2 M A Φ (.whileLoop test body orelse env) (M.den (.whileLoop test body orelse env))
   (.ret (fun r=>((match r with | .ok f=>(.pure f:Sem Flow) | .error e=> .raise e).onRaise fun (x:Value)=>do
    if (<-field x 1)==Value.none then unsupported "frame.own-activation:exception-without-traceback"
    setFlight x env.frame).wrap K H gd lv) none (gd false) (lv []) c p []::fs) s):
  O2 M A Φ c ((exec (.While test body orelse pos) env).wrap K H gd lv) fs s:=
 w35 (v45 h)
theorem y39 {test:Expr} {body orelse:List Stmt} {pos:Pos}
  (h:wpAny M (A.over c fs) (isTrue test env (eval test env)) (fun b s'=>if b=true then O2 M A Φ c ((execs body env).wrap K H gd lv) fs s' else O2 M A Φ c ((execs orelse env).wrap K H gd lv) fs s')
   (fun x s'=>O2 M A Φ c (H x) fs s') s):
  O2 M A Φ c ((exec (.If test body orelse pos) env).wrap K H gd lv) fs s:=by
 rw [exec_If];refine w35 ?_;show O2 M A Φ c (Sem.wrap K H gd lv (isTrue test env (eval test env)>>=fun b=>if b=true then execs body env else execs orelse env)) fs s;rw [Sem.bind_eq_wrap',Sem.wrap_wrap];refine t15 (wpAny_mono h (fun b s' h'=>?_) ide);cases b with
 | true=>exact h'
 | false=>exact h'
theorem w18 {pos:Pos} (h:O2 M A Φ c (K (.ret .none)) fs s):O2 M A Φ c ((exec (.Return none pos) env).wrap K H gd lv) fs s:=by
 rw [exec_Return_none];exact w35 h
theorem f21 {E:Value->Shared->Prop} {g:Nat} {gs:GenState} {l:List Value} {α:Type} {k:GenResult->Sem α} {Q:α->Shared->Prop} (hg:s.gens[g]? =some gs)
  (hgo:K7 M A Φ gs (s.setGen g .running)) (hk: ∀e s₁,Φ e s₁->e.quiet=true/\wpAny M A (k e.result) Q E (s₁.setGen g e.genState)):wpAny M A (.resume g (.send .none) l k) Q E s:=by
 intro Γ p hΓ;rw [Sem.wp_resume];have hB: ∀c,(Γ.wake c p).Woken A:=fun c=>hΓ.wake c p;cases gs with
 | fresh c=>
  obtain ⟨e₁,s₁,hr,he⟩:=hgo (Γ.wake c p) p rfl (hB c);exact ⟨_,_,by unfold Wakes;rw [hg];exact ⟨e₁,s₁,hr,(hk e₁ s₁ he).1,rfl,rfl⟩,(hk e₁ s₁ he).2 Γ p hΓ⟩
 | suspended k₀ l₀ c₀ p₀ fs₀ cl=>
  obtain ⟨e₁,s₁,hr,he⟩:=hgo (Γ.wake c₀ p) p₀ rfl (hB c₀);exact ⟨_,_,by unfold Wakes;rw [hg];exact ⟨e₁,s₁,hr,(hk e₁ s₁ he).1,rfl,rfl⟩,(hk e₁ s₁ he).2 Γ p hΓ⟩
 | running=>exact hgo.elim
 | finished=>exact hgo.elim
end
section
variable {prog:Program} {w:World} {A:Around} {Φ:End->Shared->Prop} {fs:List Frame} {s:Shared} {env:Env}
theorem k24 {test:Expr} {body orelse:List Stmt}
  (h:wpAny (model prog w) (A.over (.whileLoop test body orelse env) fs) (isTrue test env (eval test env)) (fun b s'=>
    if b=true then
     O2 (model prog w) A Φ (.whileLoop test body orelse env) ((execs body env).wrap (fun f=>match f with
      | .next | .cont=> .pure (.again (.whileLoop test body orelse env))
      | .brk=> .pure (.done .next)
      | .ret v=> .pure (.done (.ret v))) (fun e=>(do noteFrame e env;theTreesLotGoes e:Sem Unit).wrap (fun _=> .raise e) .raise id id) id id) fs s'
    else O2 (model prog w) A Φ (.whileLoop test body orelse env) ((execs orelse env).wrap (fun f=> .pure (.done f)) (fun e=>(do noteFrame e env;theTreesLotGoes e:Sem Unit).wrap (fun _=> .raise e) .raise id id) id id) fs s')
   (fun x s'=>O2 (model prog w) A Φ (.whileLoop test body orelse env) ((do noteFrame x env;theTreesLotGoes x:Sem Unit).wrap (fun _=> .raise x) .raise id id) fs s') s):
  O2 (model prog w) A Φ (.whileLoop test body orelse env) ((model prog w).den (.whileLoop test body orelse env)) fs s:=by
 show O2 _ A Φ _ ((whileTurn test body orelse env).onRaise (fun x=>do noteFrame x env;theTreesLotGoes x)) fs s;unfold whileTurn;rw [Sem.onRaise_eq_wrap,Sem.bind_eq_wrap',Sem.wrap_wrap];refine t15 (wpAny_mono h (fun b s' hb=>?_) fun x s' hx=>?_)
 ·cases b with
  | true=>
   rw [if_pos rfl] at hb;show O2 _ A Φ _ (Sem.wrap _ _ _ _ (if true=true then _ else _)) fs s';rw [if_pos rfl,Sem.bind_eq_wrap',Sem.wrap_wrap];rw [Sem.wrap_congr (execs body env) _ _ (K':=fun f=>match f with
      | .next | .cont=> .pure (.again (.whileLoop test body orelse env))
      | .brk=> .pure (.done .next)
      | .ret v=> .pure (.done (.ret v))) (H':=(fun e=>(do noteFrame e env;theTreesLotGoes e:Sem Unit).wrap (fun _=> .raise e) .raise id id))
    (fun f=>by cases f<;>rfl)
    (fun e=>by first | exact Sem.bind_eq_wrap _ _ | (show (do noteFrame e env;theTreesLotGoes e:Sem Unit).bind (fun _=> .raise e)=_;rw [Sem.bind_eq_wrap]))]
   exact hb
  | false=>
   rw [if_neg Bool.false_ne_true] at hb;show O2 _ A Φ _ (Sem.wrap _ _ _ _ (if false=true then _ else _)) fs s';rw [if_neg Bool.false_ne_true,Sem.bind_eq_wrap',Sem.wrap_wrap];rw [Sem.wrap_congr (execs orelse env) _ _ (K':=fun f=>(.pure (.done f):Sem Fin)) (H':=(fun e=>(do noteFrame e env;theTreesLotGoes e:Sem Unit).wrap (fun _=> .raise e) .raise id id))
    (fun f=>by rfl)
    (fun e=>by first | exact Sem.bind_eq_wrap _ _ | (show (do noteFrame e env;theTreesLotGoes e:Sem Unit).bind (fun _=> .raise e)=_;rw [Sem.bind_eq_wrap]))]
   exact hb
 ·first
   | (rw [<-Sem.bind_eq_wrap] at hx;exact hx)
   | (show O2 _ A Φ _ ((do noteFrame x env;theTreesLotGoes x:Sem Unit).bind fun _=> .raise x) fs s';rw [Sem.bind_eq_wrap];exact hx)
theorem x45 {body:List Stmt}
  (h:O2 (model prog w) A Φ (.func body env) ((execs body env).wrap (fun f=> .pure (.done (.ret (match f with | .ret v=>v | _=> .none))))
   (fun e=>(leaving env e).wrap (fun _=> .raise e) .raise id id) id id) fs s):
  O2 (model prog w) A Φ (.func body env) ((model prog w).den (.func body env)) fs s:=by
 show O2 _ A Φ _ (.point [] fun _=>((execs body env).onRaise (leaving env))>>=_) fs s;refine u39 ?_;rw [Sem.onRaise_eq_wrap,Sem.bind_eq_wrap',Sem.wrap_wrap];rw [Sem.wrap_congr (execs body env) _ _ (K':=fun f=> .pure (.done (.ret (match f with | .ret v=>v | _=> .none))))
  (H':=fun e=>(leaving env e).wrap (fun _=> .raise e) .raise id id) (fun f=>by cases f<;>rfl)
  (fun e=>by rw [Sem.bind_eq_wrap,Sem.wrap_wrap];rfl)]
 exact h
theorem i13 {E:Value->Shared->Prop} {a:Addr} {g:Nat} {gs:GenState} {Q:Option Value->Shared->Prop} (hh:A.handled=none) (hl:s.heap.NoLimit) (hroom:A.depth<recursionLimit)
  (hg:s.heap.IsGen a g) (hgs:s.gens[g]? =some gs) (hgo:K7 (model prog w) A.in1 Φ gs (s.setGen g .running))
  (hΦ: ∀e s₁,Φ e s₁->e.quiet=true/\((∃v,e.result= .yielded v/\Q (some v) (s₁.setGen g e.genState))\/
   (e.result= .returned .none/\ ∀h',(∀b o,s₁.heap.get? b=some o->h'.get? b=some o)->Q none {s₁.setGen g e.genState with heap:=h'}))):
  wpAny (model prog w) A (pyNext (.ref a)) Q E s:=by
 unfold pyNext;refine d0 (wpAny_attempt (wpAny_callSpecial?_slot (name:=Str.ofString "__next__") hg.typeIs slot_gen_next
  (wpAny_call_entry slot_gen_next hg.typeIs entry_gen_next ?_ (args_gen_next _))))
 show wpAny _ _ (Builtin.Generator.genWake (.ref a) (.send .none)) _ _ s;unfold Builtin.Generator.genWake;refine d0 (wpAny_holding (wpAny_genNumber hg (d0 (wpAny_genState hgs ?_))));cases gs with
 | running=>exact hgo.elim
 | finished=>exact hgo.elim
 | _=>
  refine d0 (wpAny_roomToWake hl hroom ?_);refine f21 hgs hgo (fun e s₁ he=>?_);obtain ⟨hq,h⟩:=hΦ e s₁ he;refine ⟨hq,?_⟩;rcases h with ⟨v,hv,h⟩ | ⟨hv,h⟩
  ·rw [hv];exact m0 ⟨v,rfl,m0 h⟩
  ·rw [hv];show wpAny _ _ (newExc (.type "StopIteration") []>>=_) _ _ _;refine d0 ?_;simp only [newExc,newTuple];refine d0 (wpAny_newObj_type ?_ (by size_fits));refine d0 (m:=firstArgMember _ _) (wpAny_of_eq (a:=Value.none) (by first | rfl | (simp only [firstArgMember];rfl)) ?_);refine wpAny_newObj_type ?_ (by size_fits);unfold raiseNew;dsimp only;refine d0 (d0 (wpAny_handled ?_));rw [show A.in1.handled=none from hh];refine wpAny_throw ?_;refine d0 (wpAny_isInstance (T:="StopIteration") (b:=true) ⟨_,y3 _ rfl,rfl⟩ isSubtype_stop ?_);exact m0 (h _ fun b o hb=>i3 _ (i3 _ hb))
end
noncomputable def Cx.wake (X:Cx) (k:Nat):Cx:={X with gens:=fun i=>if i=k then some .running else X.gens i,Z:=false}
section
variable {X:Cx} {own:Nat->Option Nat} {fs:List (Nat×NS)} {σh:Nat->Option W0} {s:Shared}
theorem z12 {k i:Nat} (h:i≠k):(X.wake k).gens i=X.gens i:=if_neg h
theorem m12 {k:Nat}:(X.wake k).gens k=some .running:=if_pos rfl
theorem a31 {k a:Nat} {h:Heap} {o:W0} (ho: ∀k' y L l,o= .genS k' y L l->k'≠k) (x:Holds X own h a o):Holds (X.wake k) own h a o:=by
 cases o with
 | genS k' y L l=>obtain ⟨h1,h2,h3,h4,h5,h6⟩:=x;exact ⟨h1,h2,h3,h4,(z12 (ho _ _ _ _ rfl)).trans h5,h6⟩
 | _=>exact x
theorem a13 {k a:Nat} {h:Heap} {o:W0} (x:Holds (X.wake k) own h a o):Holds X own h a o/\ ∀k' y L l,o= .genS k' y L l->k'≠k:=by
 cases o with
 | genS k' y L l=>
  obtain ⟨h1,h2,h3,h4,h5,h6⟩:=x;have hk:k'≠k:=fun z=>by rw [z,m12] at h5;cases h5
  refine ⟨⟨h1,h2,h3,h4,(z12 hk).symm.trans h5,h6⟩,fun k'' y' L' l' e=>?_⟩;cases e;exact hk
 | _=>exact ⟨x,fun k' y L l e=>by cases e⟩
set_option tactic.hygienic true in
theorem Z0.G11 (R:Z0 X own fs σh s) {h':Heap} {tk:Nat} {d:Drawn} {q L:Nat} {y:GenState} {l:NS} (k: ∀b o,s.heap.get? b=some o->h'.get? b=some o) (hq:s.heap.get? q=none) (hL:s.heap.get? L=none) (hqL:L≠q)
  (hG:h'.IsGen q s.gens.size) (hN:NsA h' L l) (hy:y.bare=true): ∃own',Z0 X own' fs (upd σh q (.genS s.gens.size y L l)) ⟨h',s.gens.push y,d,tk,s.os⟩:=by
 have hx:X.gens s.gens.size=none:=by
  cases e:X.gens s.gens.size with
  | none=>rfl
  | some z=>have:=R.bare.1 s.gens.size;rw [e] at this;dsimp only at this;rw [Array.getElem?_eq_none (Nat.le_refl _)] at this;cases this
 let own':Nat->Option Nat:=fun p=>if p=q\/p=L then some q else own p
 have old: ∀p x,own p=some x->own' p=some x:=fun p x e=>by
  obtain ⟨⟨y,hy⟩,_⟩:=R.owned p x e;show (if p=q\/p=L then some q else own p)=_;rw [if_neg,e]
  rintro (h2 | h2)
  ·subst h2;rw [hq] at hy;cases hy
  ·subst h2;rw [hL] at hy;cases hy
 have gold: ∀(i:Nat) (z:GenState),s.gens[i]? =some z->(s.gens.push y)[i]? =some z:=fun i z e=>by
  rw [Array.getElem?_push];have:i<s.gens.size:=by
   rcases Nat.lt_or_ge i s.gens.size with h | h
   ·exact h
   ·rw [Array.getElem?_eq_none h] at e;cases e
  rw [if_neg (Nat.ne_of_lt this)];exact e
 refine ⟨own',⟨fun b o e=>k b o (R.base b o e),fun b x e=>?_,fun p hp'=>?_,R.nodup,fun p x e=>?_,R.os,⟨fun i=>?_,?_,?_⟩⟩⟩
 ·unfold upd at e
  split at e
  ·rename_i hb;subst hb;cases e;exact ⟨if_pos (.inl rfl),hG,if_pos (.inr rfl),hqL,hN,hx,hy⟩
  ·obtain ⟨h2,h3⟩:=R.objs b x e;exact ⟨old _ _ h2,h3.move h2 (fun _ _ _=>k _ _) fun q hq=>old _ _ hq⟩
 ·obtain ⟨h1,h2,h4⟩:=R.frs p hp';refine ⟨old _ _ h1,?_,h4.move fun _=>k _ _⟩;obtain ⟨⟨y,hy⟩,_⟩:=R.owned _ _ h1;rw [c11 _ _ (fun z=>by rw [z,hq] at hy;cases hy)];exact h2
 ·by_cases hp:p=q\/p=L
  ·rcases hp with rfl | rfl
   ·exact ⟨by obtain ⟨o,_,_,e,_⟩:=hG;exact ⟨o,e⟩,(R.fresh hq).2.2⟩
   ·exact ⟨by obtain ⟨_,⟨o,_,_,e,_⟩,_⟩:=hN;exact ⟨o,e⟩,(R.fresh hL).2.2⟩
  ·have e':own' p=own p:=if_neg hp;rw [e'] at e;obtain ⟨⟨y,hy⟩,h2⟩:=R.owned p x e;exact ⟨⟨y,k _ _ hy⟩,h2⟩
 ·have:=R.bare.1 i;cases e:X.gens i with
  | some z=>rw [e] at this;exact gold _ _ this
  | none=>
   rw [e] at this;intro z hz;rw [Array.getElem?_push] at hz
   split at hz
   ·cases hz;exact hy
   ·exact this z hz
 ·intro a k' y' L' l' e;unfold upd at e
  split at e
  ·cases e;exact Array.getElem?_push_size
  ·exact gold _ _ (R.bare.2.1 _ _ _ _ _ e)
 ·have nk: ∀a k' y' L' l',σh a=some (.genS k' y' L' l')->k'≠s.gens.size:=fun a k' y' L' l' e z=>by
   have:=R.bare.2.1 _ _ _ _ _ e;rw [z,Array.getElem?_eq_none (Nat.le_refl _)] at this;cases this
  intro a a' k' y' y'' L' L'' l' l'' e e';unfold upd at e e'
  split at e
  ·rename_i h1
   split at e'
   ·rename_i h2;exact h1.trans h2.symm
   ·cases e;exact absurd rfl (nk _ _ _ _ _ e')
  ·split at e'
   ·cases e';exact absurd rfl (nk _ _ _ _ _ e)
   ·exact R.bare.2.2 _ _ _ _ _ _ _ _ _ e e'
theorem j12 {g:Array GenState} {k i:Nat} {y:GenState} (h:i≠k):(g.setIfInBounds k y)[i]? =g[i]? :=by
 rw [Array.getElem?_setIfInBounds,if_neg (Ne.symm h)]
theorem d14 {g:Array GenState} {k:Nat} {y z:GenState} (h:g[k]? =some z):(g.setIfInBounds k y)[k]? =some y:=by
 have:k<g.size:=by
  rcases Nat.lt_or_ge k g.size with h' | h'
  ·exact h'
  ·rw [Array.getElem?_eq_none h'] at h;cases h
 rw [Array.getElem?_setIfInBounds,if_pos rfl,if_pos this]
theorem Z0.wake (R:Z0 X own fs σh s) {q k L:Nat} {y:GenState} {l:NS} (e:σh q=some (.genS k y L l)): ∃own',Z0 (X.wake k) own' ((L,l)::fs) (upd σh q (.gen k)) (s.setGen k .running):=by
 obtain ⟨oq,hG,oL,hLq,hN,hx,hy⟩:=R.objs _ _ e;have gk:=R.bare.2.1 _ _ _ _ _ e;have oneg: ∀b k' y' L' l',b≠q->σh b=some (.genS k' y' L' l')->k'≠k:=fun b k' y' L' l' hb e' z=>by
  subst z;exact hb (R.bare.2.2 _ _ _ _ _ _ _ _ _ e' e)
 have nL: ∀o,σh L=some o->False:=fun o e'=>by
  have:=(R.objs _ _ e').1;rw [oL] at this;exact hLq (w5 this).symm
 let own':Nat->Option Nat:=fun p=>if p=L then some L else own p
 have old: ∀p x,p≠L->own p=some x->own' p=some x:=fun p x h e=>by
  show (if p=L then some L else own p)=_;rw [if_neg h,e]
 refine ⟨own',⟨R.base,fun b x e'=>?_,fun p hp=>?_,?_,fun p x e'=>?_,R.os,⟨fun i=>?_,?_,?_⟩⟩⟩
 ·by_cases hb:b=q
  ·subst hb;rw [i10] at e';cases e';exact ⟨old _ _ (Ne.symm hLq) oq,hG⟩
  ·rw [c11 _ _ hb] at e';obtain ⟨h2,h3⟩:=R.objs b x e';have hbL:b≠L:=fun z=>nL x (z▸e');refine ⟨old _ _ hbL h2,(a31 (fun k' y' L' l' z=>oneg b k' y' L' l' hb (z▸e')) h3).move h2 (fun _ _ _ z=>z) fun p hp=>old _ _ (fun z=>?_) hp⟩;rw [z,oL] at hp;exact hb (w5 hp).symm
 ·rcases List.mem_cons.mp hp with rfl | hp
  ·refine ⟨if_pos rfl,?_,hN⟩;rw [c11 _ _ hLq];cases z:σh L with
   | none=>rfl
   | some o=>exact (nL o z).elim
  ·obtain ⟨h1,h2,h4⟩:=R.frs p hp;have hb:p.1≠L:=fun z=>by rw [z,oL] at h1;exact hLq (w5 h1).symm
   have hq:p.1≠q:=fun z=>by rw [z,e] at h2;cases h2
   exact ⟨old _ _ hb h1,by rw [c11 _ _ hq];exact h2,h4⟩
 ·rw [v5,List.nodup_cons];refine ⟨fun hm=>?_,R.nodup⟩;obtain ⟨p,hp,z⟩:=List.mem_map.mp hm;have h1:=(R.frs p hp).1;dsimp only at z;rw [z,oL] at h1;exact hLq (w5 h1).symm
 ·by_cases hp:p=L
  ·subst hp;exact R.owned _ _ oL
  ·have z:own' p=own p:=if_neg hp;rw [z] at e';exact R.owned p x e'
 ·by_cases hi:i=k
  ·subst hi;rw [m12];exact d14 gk
  ·rw [z12 hi];have:=R.bare.1 i;cases z:X.gens i with
   | some w=>rw [z] at this;exact (j12 hi).trans this
   | none=>rw [z] at this;exact fun w hw=>this w ((j12 hi).symm.trans hw)
 ·intro b k' y' L' l' e';by_cases hb:b=q
  ·subst hb;rw [i10] at e';cases e'
  ·rw [c11 _ _ hb] at e';exact (j12 (oneg _ _ _ _ _ hb e')).trans (R.bare.2.1 _ _ _ _ _ e')
 ·intro b b' k' y' y'' L' L'' l' l'' e1 e2;by_cases hb:b=q
  ·subst hb;rw [i10] at e1;cases e1
  ·by_cases hb':b'=q
   ·subst hb';rw [i10] at e2;cases e2
   ·rw [c11 _ _ hb] at e1;rw [c11 _ _ hb'] at e2;exact R.bare.2.2 _ _ _ _ _ _ _ _ _ e1 e2
theorem Q14.L10 {k:Nat} {g:Array GenState} {y:GenState} (x:Q14 (X.wake k) g) (hx:X.gens k=none) (hb:y.bare=true):Q14 X (g.setIfInBounds k y):=fun i=>by
 by_cases hi:i=k
 ·subst hi;rw [hx];intro w hw;have:=x i;rw [m12] at this;rw [d14 this] at hw;cases hw;exact hb
 ·have:=x i;rw [z12 hi] at this;cases z:X.gens i with
  | some w=>rw [z] at this;exact (j12 hi).trans this
  | none=>rw [z] at this;exact fun w hw=>this w ((j12 hi).symm.trans hw)
theorem Z0.sleep {q k L:Nat} {y:GenState} {l:NS} (R:Z0 (X.wake k) own ((L,l)::fs) σh s) (e:σh q=some (.gen k)) (hx:X.gens k=none) (hy:y.bare=true):
  ∃own',Z0 X own' fs (upd σh q (.genS k y L l)) (s.setGen k y):=by
 obtain ⟨oq,hG⟩:=R.objs _ _ e;obtain ⟨oL,nL,hN⟩:=R.frs _ (.head _);dsimp only at oL nL hN;have hLq:L≠q:=fun z=>by rw [z,e] at nL;cases nL
 have gk:s.gens[k]? =some .running:=by have:=R.bare.1 k;rw [m12] at this;exact this
 have oneg: ∀b k' y' L' l',σh b=some (.genS k' y' L' l')->k'≠k:=fun b k' y' L' l' e'=>(a13 (R.objs _ _ e').2).2 _ _ _ _ rfl;have nd:=R.nodup;rw [v5,List.nodup_cons] at nd
 let own':Nat->Option Nat:=fun p=>if p=L then some q else own p
 have old: ∀p x,p≠L->own p=some x->own' p=some x:=fun p x h e=>by
  show (if p=L then some q else own p)=_;rw [if_neg h,e]
 refine ⟨own',⟨R.base,fun b x e'=>?_,fun p hp=>?_,nd.2,fun p x e'=>?_,R.os,⟨R.bare.1.L10 hx hy,?_,?_⟩⟩⟩
 ·by_cases hb:b=q
  ·subst hb;rw [i10] at e';cases e';exact ⟨old _ _ (Ne.symm hLq) oq,hG,if_pos rfl,hLq,hN,hx,hy⟩
  ·rw [c11 _ _ hb] at e';obtain ⟨h2,h3⟩:=R.objs b x e';have hbL:b≠L:=fun z=>by rw [z,nL] at e';cases e'
   refine ⟨old _ _ hbL h2,(a13 h3).1.move h2 (fun _ _ _ z=>z) fun p hp=>old _ _ (fun z=>?_) hp⟩;rw [z,oL] at hp;exact hbL (w5 hp).symm
 ·obtain ⟨h1,h2,h4⟩:=R.frs p (.tail _ hp);have hb:p.1≠L:=fun z=>nd.1 (List.mem_map.mpr ⟨p,hp,z⟩);have hq:p.1≠q:=fun z=>by rw [z,e] at h2;cases h2
  exact ⟨old _ _ hb h1,by rw [c11 _ _ hq];exact h2,h4⟩
 ·by_cases hp:p=L
  ·subst hp;exact R.owned _ _ oL
  ·have z:own' p=own p:=if_neg hp;rw [z] at e';exact R.owned p x e'
 ·intro b k' y' L' l' e';by_cases hb:b=q
  ·subst hb;rw [i10] at e';cases e';exact d14 gk
  ·rw [c11 _ _ hb] at e';exact (j12 (oneg _ _ _ _ _ e')).trans (R.bare.2.1 _ _ _ _ _ e')
 ·intro b b' k' y' y'' L' L'' l' l'' e1 e2;by_cases hb:b=q
  ·subst hb;by_cases hb':b'=b
   ·exact hb'.symm
   ·rw [i10] at e1;cases e1;rw [c11 _ _ hb'] at e2;exact absurd rfl (oneg _ _ _ _ _ e2)
  ·rw [c11 _ _ hb] at e1;by_cases hb':b'=q
   ·subst hb';rw [i10] at e2;cases e2;exact absurd rfl (oneg _ _ _ _ _ e1)
   ·rw [c11 _ _ hb'] at e2;exact R.bare.2.2 _ _ _ _ _ _ _ _ _ e1 e2
theorem Z0.ended {k L:Nat} {l:NS} (R:Z0 (X.wake k) own ((L,l)::fs) σh s) (hx:X.gens k=none):Z0 X own fs σh (s.setGen k .finished):=by
 have R1:=R.leave;refine ⟨R1.base,fun b x e'=>?_,R1.frs,R1.nodup,R1.owned,R1.os,⟨R1.bare.1.L10 hx rfl,?_,R1.bare.2.2⟩⟩
 ·obtain ⟨h2,h3⟩:=R1.objs b x e';exact ⟨h2,(a13 h3).1⟩
 ·intro b k' y' L' l' e';exact (j12 ((a13 (R1.objs _ _ e').2).2 _ _ _ _ rfl)).trans (R1.bare.2.1 _ _ _ _ _ e')
end
noncomputable abbrev FnG:=FnB true
section
variable {X:Cx} {c:Cf} {σ:St} {E:Nat->St->Prop}
theorem z39 {Q:AV->St->Prop} {f n:Nat} {fd:FuncData} {ks:List (Nat×NameKind)} {cs:List (Nat×Nat)} {body:List Stmt} {as:List AV} {kw:List (Str×AV)} {l:NS} (F:FnG X f fd ks cs body) (hn:c.n=n+1) (hb:Binds X fd as kw l)
  (h: ∀q k L,σ.h q=none->Q (.ref q) {σ with h:=upd σ.h q (.genS k (.fresh (.func body (callEnv fd L f))) L l)}):P0 X c (.ref f) as kw Q E σ:=fun F' vs kws hF hvs hks A s g R=>by
 obtain rfl:=t10 hF;obtain ⟨binds,hbi,hl,hloc⟩:=hb vs kws s hvs hks R.inK;obtain ⟨o,ho,hd⟩:=F.at_;walk_at "o";refine ofC (codeAny_call_generator (by have:=g.depth;rw [hn] at this;show A.depth<1000;(exact fk κ12 [] [_,_,_] rfl hn this)) (R.base _ _ ho) hd F.co F.gen F.body (F.code.keeps R.base) ?_);refine hbi _ _ _ _ (wpAny_newFunctionEnv (fun x hx=>?_) hloc (fun h0 hns hsb=>?_) F.kind)
 ·rw [F.names] at hx;obtain ⟨p,hp,rfl⟩:=List.mem_map.mp hx;exact F.nocell p hp
 ·have k1: ∀b o,s.heap.get? b=some o->h0.get? b=some o:=fun b o e=>hsb.extBut b o (Nat.ne_of_lt (Heap.lt_size e)) (i3 _ e);have hLl:=hns;obtain ⟨oL,_,_,eL,_⟩:=hLl;have hlt:=Heap.lt_size eL;refine ⟨(X.lim.keeps R.base).keeps k1,?_⟩;have k2: ∀b o,h0.get? b=some o->(h0.push {cls:= .type "generator",data:= .fields #[.int s.gens.size 0,.str fd.name (s.toks+binds.length),.str fd.qualname (s.toks+binds.length+1)]}).get? b=some o:=fun b o e=>i3 _ e;have hq:s.heap.get? h0.objs.size=none:=by
   cases z:s.heap.get? h0.objs.size with
   | none=>rfl
   | some o=>exact absurd (Heap.lt_size (k1 _ _ z)) (Nat.lt_irrefl _)
  obtain ⟨own',R'⟩:=R.G11 (y:= .fresh (.func body (callEnv fd s.heap.objs.size f))) (l:=l) (tk:=s.toks+binds.length+1+1) (d:=s.drawn) (q:=h0.objs.size) (L:=s.heap.objs.size) (fun b o e=>k2 b o (k1 b o e)) hq (l6 (Nat.le_refl _)) (Nat.ne_of_lt hlt)
   ⟨_,_,_,y3 _ rfl,rfl,rfl,rfl⟩
   (NsA.move ⟨_,hns,fun x v hx=>by
    have:=a14 _ _ hl x;rw [hx] at this;exact Option.map_eq_some_iff.mp this⟩ fun o=>k2 _ _) rfl
  exact ⟨_,⟨own',R'⟩,h _ _ _ (R.fresh hq).1⟩
def H8 (X:Cx) (n:Nat) (Pre:(Nat->Option W0)->Prop) (k L:Nat):List AV->GenState->NS->Prop
 | [],y,l=> ∀(c:Cf) (A:Around) (Φ:End->Shared->Prop) (s:Shared) (H:Nat->Option W0) (loc:NS),c.n=n+1->c.hd=none->c.Good A->Rel (X.wake k) ((L,l)::(c.env.locals,loc)::c.nss) H s->Pre H->
   (∀s1 l1,Rel (X.wake k) ((L,l1)::(c.env.locals,loc)::c.nss) H s1->Φ (.ret (.ok (.ret .none))) s1)->K7 X.M A.in1 Φ y s
 | v::r,y,l=> ∀(c:Cf) (A:Around) (Φ:End->Shared->Prop) (s:Shared) (H:Nat->Option W0) (loc:NS),c.n=n+1->c.hd=none->c.Good A->Rel (X.wake k) ((L,l)::(c.env.locals,loc)::c.nss) H s->Pre H->
   (∀s1 l1 (ed:End) v',Rel (X.wake k) ((L,l1)::(c.env.locals,loc)::c.nss) H s1->ab v'=v->ed.quiet=true->ed.result= .yielded v'->H8 X n Pre k L r ed.genState l1->Φ ed s1)->K7 X.M A.in1 Φ y s
theorem r50 {q k L:Nat} {y:GenState} {l:NS} {Q:AV->St->Prop} (e:σ.h q=some (.genS k y L l)) (h:Q (.ref q) σ):Z1 X c (.ref q) Q E σ:=fun V hV A s g R=>by
 refine of ?_;obtain rfl:=t10 hV;walk_at "o";exact wpAny_pyIter_gen (R.objs _ _ e).2.1 ⟨σ,⟨own,R⟩,h⟩
set_option tactic.hygienic true in
theorem s50 {n q k L:Nat} {y:GenState} {l:NS} {ys:List AV} {Pre:(Nat->Option W0)->Prop} {Q:Option AV->St->Prop} (e:σ.h q=some (.genS k y L l)) (G:H8 X n Pre k L ys y l) (hn:c.n=n+1) (hd:c.hd=none) (hP:Pre (upd σ.h q (.gen k)))
  (h1: ∀v r y' l',ys=v::r->H8 X n Pre k L r y' l'->Q (some v) {σ with h:=upd σ.h q (.genS k y' L l')})
  (h2:ys=[]->Q none {σ with h:=del σ.h q}):W5 X c (.ref q) Q E σ:=fun V hV A s g R=>by
 refine of ?_;obtain rfl:=t10 hV;walk_at "o";obtain ⟨oq,hG,oL,hLq,hN,hx,hy⟩:=R.objs _ _ e;obtain ⟨own1,R1⟩:=R.wake e;have hroom:A.depth<recursionLimit:=by have:=g.depth;rw [hn] at this;show A.depth<1000;(exact fk κ12 [] [_,_,_] rfl hn this)
 have lim:=X.lim.keeps R.base;have gk:=R.bare.2.1 _ _ _ _ _ e;cases ys with
 | nil=>
  refine i13 (Φ:=fun ed s1=> ∃l1,ed= .ret (.ok (.ret .none))/\Rel (X.wake k) ((L,l1)::(c.env.locals,σ.loc)::c.nss) (upd σ.h q (.gen k)) s1) (g.hd.trans hd) lim hroom hG gk ?_ fun ed s1 hΦ=>?_
  ·exact G c A _ _ _ _ hn hd g ⟨own1,R1⟩ hP fun s1 l1 R2=>⟨l1,rfl,R2⟩
  ·obtain ⟨l1,rfl,own2,R2⟩:=hΦ;refine ⟨rfl,.inr ⟨rfl,fun h' k'=>⟨{σ with h:=del σ.h q},⟨own2,((R2.ended hx).keeps (tk:=s1.toks) (d:=s1.drawn) (g:=(s1.setGen k .finished).gens) k' (R2.ended hx).bare).forget fun a o e'=>?_⟩,h2 rfl⟩⟩⟩;have:(if a=q then none else σ.h a)=some o:=e'
   split at this
   ·cases this
   ·rename_i hne;rw [c11 _ _ hne];exact this
 | cons v r=>
  refine i13 (Φ:=fun ed s1=> ∃l1 v',Rel (X.wake k) ((L,l1)::(c.env.locals,σ.loc)::c.nss) (upd σ.h q (.gen k)) s1/\ab v'=v/\ed.quiet=true/\ed.result= .yielded v'/\H8 X n Pre k L r ed.genState l1) (g.hd.trans hd) lim hroom hG gk ?_ fun ed s1 hΦ=>?_
  ·exact G c A _ _ _ _ hn hd g ⟨own1,R1⟩ hP fun s1 l1 ed v' R2 h3 h4 h5 h6=>⟨l1,v',R2,h3,h4,h5,h6⟩
  ·obtain ⟨l1,v',⟨own2,R2⟩,rfl,h4,h5,h6⟩:=hΦ;refine ⟨h4,.inl ⟨v',h5,?_⟩⟩;obtain ⟨own3,R3⟩:=R2.sleep (y:=ed.genState) (i10 _ _ _) hx (End.bare_of_quiet h4);rw [y13] at R3;exact ⟨_,⟨own3,R3⟩,h1 _ _ _ _ rfl h6⟩
end
section
variable {X:Cx} {c:Cf} {H:Nat->Option W0} {L:NS} {K:KT} {P:PT} {vs:List AV} {r:List Tr}
theorem x35 {x q k F n:Nat} {ys:List AV} {y0:GenState} {l0:NS} {Pre:(Nat->Option W0)->Prop} {b e:List Tr} (hq:H q=some (.genS k y0 F l0)) (hG:H8 X n Pre k F ys y0 l0) (hn:c.n=n+1) (hd:c.hd=none) (J:Nat->GenState->NS->St->Prop)
  (h0:Up (J 0 y0 l0) ⟨H,L⟩) (hit: ∀i y l σ,J i y l σ->σ.h q=some (.genS k y F l)/\Pre (upd σ.h q (.gen k)))
  (step: ∀i y l v y' l' H' L',ys[i]? =some v->J i y l ⟨H',L'⟩->H8 X n Pre k F (ys.drop (i+1)) y' l'->Go (run X c (fun _ σ3=> ∃m,m<ys.length-i/\Up (fun σ=> ∃i y l,i<=ys.length/\m=ys.length-i/\H8 X n Pre k F (ys.drop i) y l/\J i y l σ) σ3) (fun o σ3=>match o with | .cont=> ∃m,m<ys.length-i/\Up (fun σ=> ∃i y l,i<=ys.length/\m=ys.length-i/\H8 X n Pre k F (ys.drop i) y l/\J i y l σ) σ3 | .brk=>Up (run X c K P r vs) σ3 | o=>P o σ3) b [] ⟨upd H' q (.genS k y' F l'),(x,v)::L'⟩))
  (done: ∀y l H' L',J ys.length y l ⟨H',L'⟩->Go (run X c (run X c K P r) P e vs ⟨del H' q,L'⟩)):Go (run X c K P (I.W4 [I.st x] b e::r) (.ref q::vs) ⟨H,L⟩):=by
 refine ⟨?_⟩;have step:=fun x0 x1 x2 x3 x4 x5 x6 x7 x8 x9 x10=>(step x0 x1 x2 x3 x4 x5 x6 x7 x8 x9 x10).out;have done:=fun x0 x1 x2 x3 x4=>(done x0 x1 x2 x3 x4).out;show Z1 X c (.ref q) _ (fx P) (⟨H,L⟩:St);refine r50 hq ⟨fun m=>fun σ=> ∃i y l,i<=ys.length/\m=ys.length-i/\H8 X n Pre k F (ys.drop i) y l/\J i y l σ,ys.length,Up.mono h0 fun σ hσ=>⟨0,y0,l0,Nat.zero_le _,rfl,hG,hσ⟩,fun m σ0 hpz=>?_⟩;obtain ⟨i,y,l,hi,hm,hg,hJ⟩:=hpz;obtain ⟨H',L'⟩:=σ0;obtain ⟨g1,g2⟩:=hit i y l _ hJ;subst hm;refine s50 g1 hg hn hd g2 (fun v r' y' l' e1 e2=>?_) (fun e1=>?_)
 ·have hi':i<ys.length:=by
   rcases Nat.lt_or_ge i ys.length with h | h
   ·exact h
   ·rw [List.drop_eq_nil_of_le h] at e1;cases e1
  have e3:=List.drop_eq_getElem_cons hi';rw [e3] at e1;have e4:ys[i]=v:=(List.cons.inj e1).1;have e5:ys.drop (i+1)=r':=(List.cons.inj e1).2;exact step i y l v y' l' H' L' (by rw [o5 hi',e4]) hJ (e5▸e2)
 ·have:i=ys.length:=by have:=List.drop_eq_nil_iff.mp e1;(exact r0 (hi) (this))
  subst this;exact done y l H' L' hJ
end
section
variable {X:Cx} {c:Cf} {A:Around} {body orelse:List Stmt} {env:Env}
theorem y35 (A:Around):A.over (.func body env) []=⟨A.handled,A.depth+1,A.frames.map (env:: ·),A.guards,A.units+3⟩:=by
 obtain ⟨h,d,f,g,u⟩:=A;rfl
theorem b31 (A:Around) {test:Expr} {k:Result->Sem Fin} {gd:Bool} {l l':List Value} {p:Pos}:A.over (.whileLoop test body orelse env) [.ret k none gd l (.func body' env) p l']=⟨A.handled,A.depth+1,A.frames.map (env:: ·),A.guards,A.units+3⟩:=by
 obtain ⟨h,d,f,g,u⟩:=A;rfl
theorem Cf.Good.stretch {g0:Option (List Code)} (g:c.Good A) {l:NS} {n:Nat} {ks:List (Nat×NameKind)} {cs:List (Nat×Nat)} {env:Env} (hn:c.n=n+1) (hfn:env.scope.kind= .function) (hks:env.scope.names=ks.map fun p=>(N p.1,p.2))
  (hcs: ∀x a,cs.lookup x=some a->env.cells.lookup (N x)=some a) (hg:env.globals=mainGlobals) (hb:env.builtins=builtinsNs) (hf:env.frame=some env.locals):(c.inn l n ks cs env).Good ⟨A.handled,A.depth+1,A.frames.map (env:: ·),g0,A.units+1+3⟩ where
 ok:=(g.inn (l:=l) hn hfn hks hcs hg hb hf).ok
 frames:=(g.inn (l:=l) hn hfn hks hcs hg hb hf).frames
 depth:=(g.inn (l:=l) hn hfn hks hcs hg hb hf).depth
 units:=by have:=g.units;rw [hn] at this;show A.units+1+3+200*n<=9700;(exact fk s!"hxaAl200aBn1n9700oxaaaAn1n3l200Bn9700" [] [_,_] rfl this)
 hd:=g.hd
def M4 (X:Cx) (n:Nat) (Pre:(Nat->Option W0)->Prop) (k L:Nat) (T:Around->(End->Shared->Prop)->Shared->Prop):List AV->NS->Prop
 | [],l=> ∀(c:Cf) (A:Around) (Φ:End->Shared->Prop) (s:Shared) (H:Nat->Option W0) (loc:NS),c.n=n+1->c.hd=none->c.Good A->Rel (X.wake k) ((L,l)::(c.env.locals,loc)::c.nss) H s->Pre H->
   (∀s1 l1,Rel (X.wake k) ((L,l1)::(c.env.locals,loc)::c.nss) H s1->Φ (.ret (.ok (.ret .none))) s1)->T A.in1 Φ s
 | v::r,l=> ∀(c:Cf) (A:Around) (Φ:End->Shared->Prop) (s:Shared) (H:Nat->Option W0) (loc:NS),c.n=n+1->c.hd=none->c.Good A->Rel (X.wake k) ((L,l)::(c.env.locals,loc)::c.nss) H s->Pre H->
   (∀s1 l1 (ed:End) v',Rel (X.wake k) ((L,l1)::(c.env.locals,loc)::c.nss) H s1->ab v'=v->ed.quiet=true->ed.result= .yielded v'->H8 X n Pre k L r ed.genState l1->Φ ed s1)->T A.in1 Φ s
variable {n k L:Nat} {Pre:(Nat->Option W0)->Prop} {T T':Around->(End->Shared->Prop)->Shared->Prop} {ys:List AV} {l l':NS}
theorem z35 {y:GenState} (h:M4 X n Pre k L (fun A Φ s=>K7 X.M A Φ y s) ys l):H8 X n Pre k L ys y l:=by
 cases ys<;>exact h
theorem M4.step (h1:M4 X n Pre k L T' ys l') (h: ∀(c:Cf) (A:Around) (Φ:End->Shared->Prop) (s:Shared) (H:Nat->Option W0) (loc:NS),c.n=n+1->c.hd=none->c.Good A->Rel (X.wake k) ((L,l)::(c.env.locals,loc)::c.nss) H s->Pre H->
  (∀s',Rel (X.wake k) ((L,l')::(c.env.locals,loc)::c.nss) H s'->T' A.in1 Φ s')->T A.in1 Φ s):M4 X n Pre k L T ys l:=by
 cases ys with
 | nil=>exact fun c A Φ s H loc hn hd g R hP q=>h c A Φ s H loc hn hd g R hP fun s' R'=>h1 c A Φ s' H loc hn hd g R' hP q
 | cons v r=>exact fun c A Φ s H loc hn hd g R hP q=>h c A Φ s H loc hn hd g R hP fun s' R'=>h1 c A Φ s' H loc hn hd g R' hP q
theorem M4.yld {v:AV} (h1:M4 X n Pre k L T' ys l') (h: ∀(c:Cf) (A:Around) (Φ:End->Shared->Prop) (s:Shared) (H:Nat->Option W0) (loc:NS),c.n=n+1->c.hd=none->c.Good A->Rel (X.wake k) ((L,l)::(c.env.locals,loc)::c.nss) H s->Pre H->
  (∀s' v' (ed:End),Rel (X.wake k) ((L,l')::(c.env.locals,loc)::c.nss) H s'->ab v'=v->ed.quiet=true->ed.result= .yielded v'->(∀A' Φ' s'',T' A' Φ' s''->K7 X.M A' Φ' ed.genState s'')->Φ ed s')->T A.in1 Φ s):M4 X n Pre k L T (v::ys) l:=
 fun c A Φ s H loc hn hd g R hP q=>h c A Φ s H loc hn hd g R hP fun s' v' ed R' hv hq hr hT=>q s' l' ed v' R' hv hq hr (z35 (by
  cases ys with
  | nil=>exact fun c A Φ s H loc hn hd g R hP q=>hT _ _ _ (h1 c A Φ s H loc hn hd g R hP q)
  | cons v r=>exact fun c A Φ s H loc hn hd g R hP q=>hT _ _ _ (h1 c A Φ s H loc hn hd g R hP q)))
theorem M4.fin (h: ∀(c:Cf) (A:Around) (Φ:End->Shared->Prop) (s:Shared) (H:Nat->Option W0) (loc:NS),c.n=n+1->c.hd=none->c.Good A->Rel (X.wake k) ((L,l)::(c.env.locals,loc)::c.nss) H s->Pre H->
  Φ (.ret (.ok (.ret .none))) s->T A.in1 Φ s):M4 X n Pre k L T [] l:=fun c A Φ s H loc hn hd g R hP q=>h c A Φ s H loc hn hd g R hP (q s l R)
end
section
variable {X:Cx} {cg:Cf} {A:Around} {Φ:End->Shared->Prop} {cd:Code} {fs:List Frame} {s:Shared} {σ:St} {ks:List (Nat×NameKind)} {G:List (Nat×AV)} {code:List Tr} {K:Flow->Sem Fin} {H:Value->Sem Fin} {gd:Bool->Bool} {lv:List Value->List Value}
theorem a36 {V:Value} {s:Shared} (x:Exn X cg (fx noP) V s):False:=by
 obtain ⟨_,_,_,_,_,q⟩:=x;exact q
theorem g42 {sts:List Stmt} {Q:St->Prop} (hZ:X.Z=false) (g:cg.Good (A.over cd fs)) (R:O1 X cg σ s) (hk:cg.ks=ks) (hG: ∀k v,G.lookup k=some v->Glo X k v) (hc:J5 ks G sts=code)
  (h:Go (run X cg (fun _ σ'=>Up Q σ') noP code [] σ)) (hn: ∀s' σ',O1 X cg σ' s'->Q σ'->O2 X.M A Φ cd (K .next) fs s'):O2 X.M A Φ cd ((execs sts cg.env).wrap K H gd lv) fs s:=by
 subst hc;have h2:=l14 (L14 hG 20 cg hk) sts (fun _ σ'=>Up Q σ') noP [] σ h.out _ _ g R;rw [hZ] at h2;refine t15 (wpAny_mono (Q8 h2) (fun fl s' hp1=>U0 hp1 fun σ' R' q=>?_) fun e s' x=>(a36 x).elim);cases fl with
 | next=>obtain ⟨σ2,ge,q⟩:=q;exact hn s' σ2 (R'.down ge) q
 | _=>exact q.elim
theorem d18 {e:Expr} {Q:Bool->St->Prop} (hZ:X.Z=false) (g:cg.Good (A.over cd fs)) (R:O1 X cg σ s) (hk:cg.ks=ks) (hG: ∀k v,G.lookup k=some v->Glo X k v) (hc:cc ks G 30 true e=code)
  (h:Go (run X cg (fun bs σ'=>N8 (fun b _=>Up (Q b) σ') bs) noP code [] σ)) {E:Value->Shared->Prop} {Q':Bool->Shared->Prop} (hq: ∀b s' σ',O1 X cg σ' s'->Q b σ'->Q' b s'):wpAny X.M (A.over cd fs) (PySem.isTrue e cg.env (eval e cg.env)) Q' E s:=by
 subst hc;have h2:=(w48 hG 30).2 cg ks hk e _ _ _ _ h.out _ _ g R;rw [hZ] at h2;refine wpAny_mono (Q8 h2) (fun b s' hp2=>U0 hp2 fun σ' R' q=>?_) fun e s' x=>(a36 x).elim;obtain ⟨σ2,ge,q⟩:=q;exact hq b s' σ2 (R'.down ge) q
theorem h42 {e:Expr} {Q:AV->St->Prop} (hZ:X.Z=false) (g:cg.Good (A.over cd fs)) (R:O1 X cg σ s) (hk:cg.ks=ks) (hG: ∀k v,G.lookup k=some v->Glo X k v) (hc:cc ks G 30 false e=code)
  (h:Go (run X cg (fun vs σ'=>S6 (fun v _=>Up (Q v) σ') vs) noP code [] σ)) {E:Value->Shared->Prop} {Q':Value->Shared->Prop} (hq: ∀v s' σ',O1 X cg σ' s'->Q (ab v) σ'->Q' v s'):wpAny X.M (A.over cd fs) (eval e cg.env) Q' E s:=by
 subst hc;have h2:=(w48 hG 30).1 cg ks hk e _ _ _ _ h.out _ _ g R;rw [hZ] at h2;refine wpAny_mono (Q8 h2) (fun v s' hp3=>U0 hp3 fun σ' R' q=>?_) fun e s' x=>(a36 x).elim;obtain ⟨σ2,ge,q⟩:=q;exact hq v s' σ2 (R'.down ge) q
end
noncomputable def noE:Expr:= .Constant .none 0 ⟨0,0,0,0⟩
noncomputable def P12 (s:Stmt):Expr:=if h:s.ctorIdx=11 then Stmt.While.elim (motive_2:=fun _=>Expr) s h fun t _ _ _=>t else noE
noncomputable def V15 (s:Stmt):List Stmt:=if h:s.ctorIdx=11 then Stmt.While.elim (motive_2:=fun _=>List Stmt) s h fun _ b _ _=>b else []
noncomputable def Y12 (s:Stmt):Expr:=if h:s.ctorIdx=12 then Stmt.If.elim (motive_2:=fun _=>Expr) s h fun t _ _ _=>t else noE
noncomputable def J10 (s:Stmt):List Stmt:=if h:s.ctorIdx=12 then Stmt.If.elim (motive_2:=fun _=>List Stmt) s h fun _ b _ _=>b else []
noncomputable def M10 (s:Stmt):List Stmt:=if h:s.ctorIdx=12 then Stmt.If.elim (motive_2:=fun _=>List Stmt) s h fun _ _ o _=>o else []
noncomputable def eYl (e:Expr):Option Expr:=if h:e.ctorIdx=13 then Expr.Yield.elim (motive_1:=fun _=>Option Expr) e h fun v _=>v else none
noncomputable def sYl (s:Stmt):Expr:=if h:s.ctorIdx=24 then Stmt.Expr.elim (motive_2:=fun _=>Expr) s h fun e _=>(eYl e).getD noE else noE
noncomputable def J15 (s:Stmt):Bool:=if h:s.ctorIdx=11 then Stmt.While.elim (motive_2:=fun _=>Bool) s h fun _ _ o _=>o.isEmpty else false
noncomputable def T14 (s:Stmt):Bool:=s.ctorIdx==12
noncomputable def O14 (s:Stmt):Bool:=if h:s.ctorIdx=24 then Stmt.Expr.elim (motive_2:=fun _=>Bool) s h fun e _=>(eYl e).isSome else false
noncomputable def L15 (s:Stmt):Bool:=if h:s.ctorIdx=3 then Stmt.Return.elim (motive_2:=fun _=>Bool) s h fun e _=>e.isNone else false
theorem b36 {p:Prop} [Decidable p] {f:p->Bool} (h:(if q:p then f q else false)=true): ∃q:p,f q=true:=by
 by_cases q:p
 ·rw [dif_pos q] at h;exact ⟨q,h⟩
 ·rw [dif_neg q] at h;cases h
theorem b54 {st:Stmt} (h:J15 st=true): ∃p,st= .While (P12 st) (V15 st) [] p:=by
 obtain ⟨q,_⟩:=b36 h;exact Stmt.While.elim (motive_2:=fun st=>J15 st=true-> ∃p,st= .While (P12 st) (V15 st) [] p) st q (fun t b o p h=>⟨p,congrArg (fun o=>Stmt.While t b o p) (List.isEmpty_iff.mp h)⟩) h
theorem y45 {st:Stmt} (h:T14 st=true): ∃p,st= .If (Y12 st) (J10 st) (M10 st) p:=
 Stmt.If.elim (motive_2:=fun st=> ∃p,st= .If (Y12 st) (J10 st) (M10 st) p) st (eq_of_beq h) fun t b o p=>⟨p,rfl⟩
theorem t50 {e:Expr} (h:(eYl e).isSome=true): ∃p,e= .Yield (some ((eYl e).getD noE)) p:=by
 by_cases q:e.ctorIdx=13
 ·refine Expr.Yield.elim (motive_1:=fun e=>(eYl e).isSome=true-> ∃p,e= .Yield (some ((eYl e).getD noE)) p) e q (fun v p h=>⟨p,?_⟩) h;obtain ⟨x,hx⟩:=Option.isSome_iff_exists.mp (show v.isSome=true from h);subst hx;rfl
 ·unfold eYl at h;rw [dif_neg q] at h;cases h
theorem v50 {st:Stmt} (h:O14 st=true): ∃p q,st= .Expr (.Yield (some (sYl st)) p) q:=by
 obtain ⟨q,_⟩:=b36 h;exact Stmt.Expr.elim (motive_2:=fun st=>O14 st=true-> ∃p q,st= .Expr (.Yield (some (sYl st)) p) q) st q (fun e q h=>(t50 h).elim fun p hp=>⟨p,q,congrArg (fun e=>Stmt.Expr e q) hp⟩) h
theorem c54 {st:Stmt} (h:L15 st=true): ∃p,st= .Return none p:=by
 obtain ⟨q,_⟩:=b36 h;exact Stmt.Return.elim (motive_2:=fun st=>L15 st=true-> ∃p,st= .Return none p) st q (fun e p h=>⟨p,congrArg (fun e=>Stmt.Return e p) (Option.isNone_iff_eq_none.mp h)⟩) h
noncomputable def sAt (l:List Stmt) (i:Nat):Stmt:=l.getD i (.Pass ⟨0,0,0,0⟩)
theorem d54 {l:List Stmt} {m:Nat} (h:l.length=m+1):l=l.take m++[sAt l m]:=by
 have h2:m<l.length:=by (exact fk s!"h-zAaBn1oyBA" [] [_,_] rfl h)
 rw [sAt,w0,o5 h2,Option.getD_some,<-List.take_succ_eq_append_getElem h2,List.take_of_length_le (by omega)]
noncomputable def Kf:Flow->Sem Fin:=fun f=> .pure (.done (.ret (match f with | .ret v=>v | _=> .none)))
noncomputable def Hf (env:Env):Value->Sem Fin:=fun e=>(leaving env e).wrap (fun _=> .raise e) .raise id id
noncomputable def frW (env:Env) (b:List Stmt) (p:Pos):Frame:= .ret (fun r=>((match r with | .ok f=>(.pure f:Sem Flow) | .error e=> .raise e).onRaise fun (x:Value)=>do
    if (<-field x 1)==Value.none then unsupported "frame.own-activation:exception-without-traceback"
    setFlight x env.frame).wrap (fun (f:Flow)=>match f with | .next=>(execs [] env).wrap Kf (Hf env) id id | f=>Kf f) (Hf env) id id) none (id false) (id []) (.func b env) p []
noncomputable def KB (cd:Code):Flow->Sem Fin:=fun f=>match f with
      | .next | .cont=> .pure (.again cd)
      | .brk=> .pure (.done .next)
      | .ret v=> .pure (.done (.ret v))
noncomputable def HB (env:Env):Value->Sem Fin:=fun e=>(do noteFrame e env;theTreesLotGoes e:Sem Unit).wrap (fun _=> .raise e) .raise id id
section
variable {X:Cx} {A:Around} {Φ:End->Shared->Prop} {b B:List Stmt} {T:Expr} {env:Env} {s:Shared}
def S9 (X:Cx) (env:Env) (b:List Stmt) (T:Expr) (B:List Stmt) (A:Around) (Φ:End->Shared->Prop) (s:Shared):Prop:= ∀p,O2 X.M A Φ (.whileLoop T B [] env) (X.M.den (.whileLoop T B [] env)) [frW env b p] s
theorem a40 {p:Pos} (h:S9 X env b T B A Φ s):O2 X.M A Φ (.func b env) ((execs [.While T B [] p] env).wrap Kf (Hf env) id id) [] s:=o11 (x39 h)
theorem z45 (h:O2 X.M A Φ (.func b env) ((execs b env).wrap Kf (Hf env) id id) [] s):O2 X.M A Φ (.func b env) (X.M.den (.func b env)) [] s:=x45 h
theorem w50 {p:Pos} (h:Φ (.ret (.ok (.ret .none))) s):O2 X.M A Φ (.whileLoop T B [] env) (KB (.whileLoop T B [] env) (.ret .none)) [frW env b p] s:=
 w45 (c:= .whileLoop T B [] env) (.ok (.ret .none)) (q50 (.ok (.ret .none)) h)
theorem b40 {p:Pos} (h:S9 X env b T B A Φ s):O2 X.M A Φ (.whileLoop T B [] env) (KB (.whileLoop T B [] env) .next) [frW env b p] s:=v39 rfl (h p)
theorem a46 (h: ∀p,wpAny X.M (A.over (.whileLoop T B [] env) [frW env b p]) (PySem.isTrue T env (eval T env)) (fun v s'=>v=true/\O2 X.M A Φ (.whileLoop T B [] env) ((execs B env).wrap (KB (.whileLoop T B [] env)) (HB env) id id) [frW env b p] s') (fun _ _=>False) s):S9 X env b T B A Φ s:=fun p=>
 k24 (wpAny_mono (h p) (fun v s' hp1=>hp1.elim fun e q=>by subst e;rw [if_pos rfl];exact q) fun _ _ x=>x.elim)
end
theorem c36 {l:List Stmt} (h:l.length=1):l=[sAt l 0]:=by
 match l,h with
 | [a],_=>rfl
theorem i42 {l:List Stmt} (h:l.length=2):l=[sAt l 0,sAt l 1]:=by
 match l,h with
 | [a,b],_=>rfl
abbrev I5 (h:Heap) (z TI TO:Addr) (f0 f1:Value):Prop:=
 h.get? z=some {cls:= .type "zip",dict:=none,data:= .fields #[f0,f1,.bool false,.ref TI,.ref TO],slots:= #[]}
section
variable {prog:Program} {w:World} {A:Around} {E:Value->Shared->Prop} {s:Shared}
theorem c40 {M:Model} {a:Addr} {Q:Option Obj->Shared->Prop} (h:Q (s.heap.get? a) s):wpAny M A (loadIfAlive a) Q E s:=fun _ _ _=>h
theorem i15 {z TI TO T:Addr} {b:Bool} {o:Obj} {Q:Bool->Shared->Prop} (hz:I5 s.heap z TI TO (rawInt T) (.bool b)) (hT:s.heap.get? T=some o)
  (hQ: ∀h',I5 h' z TI TO (rawInt T) (.bool true)->Heap.SameBut z s.heap h'->Q false {s with heap:=h'}):wpAny (model prog w) A (Builtin.SmallTypes.ownedTupleIsFree (.ref z)) Q E s:=by
 unfold Builtin.SmallTypes.ownedTupleIsFree;refine d0 (wpAny_field hz rfl (x:=rawInt T) rfl ?_);show wpAny _ _ (loadIfAlive ((T:Int).toNat)>>=_) _ _ _;refine d0 (c40 ?_);rw [Int.toNat_natCast,hT];refine d0 (wpAny_field hz rfl (x:= .bool b) rfl ?_);cases b with
 | true=>exact m0 (hQ _ hz ⟨rfl,fun _ _=>rfl⟩)
 | false=>
  refine d0 (wpAny_setField_rec hz (by simp) fun h' hz' hs'=>m0 (hQ h' hz' hs'))
theorem g21 {z TI TO i1 i2 l1 l2 T:Addr} {k1 k2:Nat} {xs ys:Array Value} {x y:Value} {b:Bool} {o:Obj} {Q:Value->Shared->Prop} (D:ZipApart z TI TO i1 i2 l1 l2)
  (hz:I5 s.heap z TI TO (rawInt T) (.bool b)) (hT:s.heap.get? T=some o) (hTI:IsPair s.heap TI (.ref i1) (.ref i2))
  (h1:s.heap.IsListIter i1 l1 k1) (h2:s.heap.IsListIter i2 l2 k2) (hl1:s.heap.IsList l1 xs) (hl2:s.heap.IsList l2 ys) (hx:xs[k1]? =some x) (hy:ys[k2]? =some y)
  (hQ: ∀h',I5 h' z TI TO (rawInt T) (.bool true)->h'.IsListIter i1 l1 (k1+1)->h'.IsListIter i2 l2 (k2+1)->IsPair h' s.heap.objs.size x y->h'.objs.size=s.heap.objs.size+1->
   (∀c o,c≠z->c≠i1->c≠i2->s.heap.get? c=some o->h'.get? c=some o)->Q (.ref s.heap.objs.size) {s with heap:=h'}):
  wpAny (model prog w) A (Builtin.«zip.__next__» ⟨[.ref z],[]⟩) (fun fin s'=> ∃v,fin= .done (.ret v)/\Q v s') E s:=by
 show wpAny _ _ (field (.ref z) 2>>=_) _ _ _;refine d0 (wpAny_field hz rfl (x:= .bool false) rfl ?_);show wpAny _ _ (field (.ref z) 3>>=_) _ _ _;refine d0 (wpAny_field hz rfl (x:= .ref TI) rfl ?_);refine d0 (wpAny_seqItems hTI rfl ?_);show wpAny _ _ (Builtin.SmallTypes.ownedTupleIsFree (.ref z)>>=_) _ _ _;refine d0 (i15 hz hT fun h₁ hz₁ hs₁=>?_);simp -iota only [Bool.false_eq_true,if_false];refine d0 ?_;simp -iota only [<-Array.forIn_toList,List.forIn_cons,List.forIn_nil];refine d0 (d0 (wpAny_holding ?_));show wpAny _ _ (Builtin.SmallTypes.nextOf (.ref i1)>>=_) _ _ _;refine d0 (wpAny_nextOf_list_item (h1.extBut hs₁.extBut D.i1z) (hl1.extBut hs₁.extBut D.l1z) hx fun h₂ h1₂ hs₂=>m0 (m0 ?_));refine d0 (d0 (wpAny_holding ?_));show wpAny _ _ (Builtin.SmallTypes.nextOf (.ref i2)>>=_) _ _ _;refine d0 (wpAny_nextOf_list_item ((h2.extBut hs₁.extBut D.i2z).extBut hs₂.extBut D.i12.symm) ((hl2.extBut hs₁.extBut D.l2z).extBut hs₂.extBut D.l2i1) hy fun h₃ h2₃ hs₃=>m0 (m0 (m0 ?_)));show wpAny _ _ (newTuple [x,y]>>=_) _ _ _;refine d0 (wpAny_newTuple (m0 ⟨_,rfl,?_⟩));have hsz:h₃.objs.size=s.heap.objs.size:=by rw [hs₃.1,hs₂.1,hs₁.1]
 have hz₃:I5 h₃ z TI TO (rawInt T) (.bool true):=hs₃.extBut _ _ D.i2z.symm (hs₂.extBut _ _ D.i1z.symm hz₁);have hk₃: ∀c o,c≠z->c≠i1->c≠i2->s.heap.get? c=some o->h₃.get? c=some o:=fun c o c1 c3 c4 e=>hs₃.extBut _ _ c4 (hs₂.extBut _ _ c3 (hs₁.extBut _ _ c1 e));show Q (.ref h₃.objs.size) _;have hT':IsPair (h₃.push {cls:= .type "tuple",data:= .seq #[x,y]}) h₃.objs.size x y:=y3 _ rfl;rw [hsz] at hT'⊢;exact hQ _ (i3 _ hz₃) ((h1₂.extBut hs₃.extBut D.i12).at fun o e=>i3 _ e) (h2₃.at fun o e=>i3 _ e) hT' (by rw [Heap.size_push,hsz]) fun c o c1 c2 c3 e=>i3 _ (hk₃ c o c1 c2 c3 e)
theorem h21 {z TI TO i1 i2 l1 l2 T:Addr} {k1:Nat} {xs:Array Value} {b:Bool} {o:Obj} {Q:Fin->Shared->Prop} (hh:A.handled=none) (D:ZipApart z TI TO i1 i2 l1 l2)
  (hz:I5 s.heap z TI TO (rawInt T) (.bool b)) (hT:s.heap.get? T=some o) (hTI:IsPair s.heap TI (.ref i1) (.ref i2))
  (h1:s.heap.IsListIter i1 l1 k1) (hl1:s.heap.IsList l1 xs) (hx:xs[k1]? =none)
  (hE: ∀h' e,(∀c o,c≠z->c≠i1->s.heap.get? c=some o->h'.get? c=some o)->(∃o,h'.get? e=some o/\o.cls= .type "StopIteration")->E (.ref e) {s with heap:=h'}):
  wpAny (model prog w) A (Builtin.«zip.__next__» ⟨[.ref z],[]⟩) Q E s:=by
 show wpAny _ _ (field (.ref z) 2>>=_) _ _ _;refine d0 (wpAny_field hz rfl (x:= .bool false) rfl ?_);show wpAny _ _ (field (.ref z) 3>>=_) _ _ _;refine d0 (wpAny_field hz rfl (x:= .ref TI) rfl ?_);refine d0 (wpAny_seqItems hTI rfl ?_);show wpAny _ _ (Builtin.SmallTypes.ownedTupleIsFree (.ref z)>>=_) _ _ _;refine d0 (i15 hz hT fun h₁ hz₁ hs₁=>?_);simp -iota only [Bool.false_eq_true,if_false];refine d0 ?_;simp -iota only [<-Array.forIn_toList,List.forIn_cons,List.forIn_nil];refine d0 (d0 (wpAny_holding ?_));show wpAny _ _ (Builtin.SmallTypes.nextOf (.ref i1)>>=_) _ _ _;refine d0 (wpAny_nextOf_list_end hh (h1.extBut hs₁.extBut D.i1z) (hl1.extBut hs₁.extBut D.l1z) hx fun h₂ e hs₂ he=>?_);exact hE h₂ e (fun c o c1 c3 x=>hs₂ _ _ c3 (hs₁.extBut _ _ c1 x)) he
end
theorem k16:typeLookup (.type "zip") "__getattr__"=pure none:=by rw [typeLookup_type,builtinLookup_eq_fast];kernel_rfl
theorem i21:typeLookup (.type "zip") "keys"=pure none:=by rw [typeLookup_type,builtinLookup_eq_fast];kernel_rfl
theorem w13:entryFor table "zip.__getattribute__"=some Builtin.«object.__getattribute__» :=
 entryFor_alias (id':="object.__getattribute__") s!"." (by decide+kernel) (by decide+kernel) s!"."
theorem l24 (a:Addr) (vs:Array Value) (name:Str) (u:Tok) (hmiss:typeLookup (.type "zip") name=pure none) (hname:(["__module__","__name__","__qualname__","__doc__","__annotations__"]:List Str).contains name=false) (hsz:name.length+100<=sizeLine):
  Meets (Builtin.«object.__getattribute__» ⟨[.ref a,.str name u],[]⟩) (fun A R s=>s.heap.get? a=some {cls:= .type "zip",dict:=none,data:= .fields vs,slots:= #[]}/\raisesAttr (.ref a) name A R s):=
 Meets.of_wp fun prog w A R s hs=>by
  obtain ⟨hp,g,d,tk,os⟩:=s;obtain ⟨hx,hs⟩:=hs;have hT:(⟨hp,g,d,tk,os⟩:Shared).TypeIs (.ref a) "zip":=⟨_,hx,rfl⟩;unfold Builtin.«object.__getattribute__»
  repeat (any_goals (first | assumption | wp_step))
  simp -iota only [hname,Bool.false_eq_true,if_false]
  repeat (any_goals (first | assumption | wp_step))
  exact wpAny_raiseAttrError hs.1 hs.2 (attrMsg_fits (by decide+kernel) hsz)
section
variable {prog:Program} {w:World} {A:Around} {E:Value->Shared->Prop} {s:Shared}
theorem b27 {a:Addr} {vs:Array Value} {Q:Option Value->Shared->Prop} (hx:s.heap.get? a=some {cls:= .type "zip",dict:=none,data:= .fields vs,slots:= #[]}) (hA:A.handled=none)
  (h: ∀h' tk,(∀b o,s.heap.get? b=some o->h'.get? b=some o)->Q none {s with heap:=h',toks:=tk}):wpAny (model prog w) A (getAttr? (.ref a) "keys") Q E s:=by
 have hmiss:=i21;have hname:(["__module__","__name__","__qualname__","__doc__","__annotations__"]:List Str).contains ("keys":Str)=false:=by decide+kernel
 have hsz:("keys":Str).length+100<=sizeLine:=by size_fits
 obtain ⟨hp,g,d,tk,os⟩:=s;have hT: ∀tk',(⟨hp,g,d,tk',os⟩:Shared).TypeIs (.ref a) "zip":=fun _=>⟨_,hx,rfl⟩;have f1:=sub_AttributeError;have f3:=F.slot_zip_getattribute.lookup;have f4:=F.slot_zip_getattribute.bind (.ref a);have f5:=k16;unfold getAttr? getAttrBy? getAttrBy
 repeat (any_goals (first | assumption | exact hT _ | ((with_reducible show wpAny _ _ (call (Value.builtin "zip.__getattribute__") _ _) _ _ _);refine call_meets F.slot_zip_getattribute (hT _) w13 (F.args_zip_getattribute_2 _ _) (l24 a vs "keys" _ hmiss hname hsz) ⟨hx,hA,fun h' tk' e hx'=>?_⟩) | wp_step))
 obtain ⟨t',u',he⟩:=hx'.there;show wpAny _ _ (getattributeRaised _ _ _ _ _ _ _) _ _ _;unfold getattributeRaised
 repeat (any_goals (first | assumption | wp_step))
 exact h _ _ hx'.keeps
end
theorem e14:entryFor table "dict.update.loop"=some Builtin.«dict.update.loop» :=entryFor_of_tree s!"."
theorem a12:plainId "dict.update.loop"=true:=by decide+kernel
structure ZSt (h:Heap) (z TI TO i1 i2 l1 l2 d:Addr) (xs ys:Array Value) (i:Nat):Prop where
 ti:IsPair h TI (.ref i1) (.ref i2)
 a1:h.IsListIter i1 l1 i
 a2:h.IsListIter i2 l2 i
 b1:h.IsList l1 xs
 b2:h.IsList l2 ys
 zz:(i=0/\IsZip h z TI TO .none/\IsPair h TO .none .none)\/ ∃(T:Addr) (b:Bool) (o:Obj),I5 h z TI TO (rawInt T) (.bool b)/\h.get? T=some o/\T≠z/\T≠i1/\T≠i2/\T≠d
section
variable {prog:Program} {w:World} {A:Around} {E:Value->Shared->Prop} {s:Shared} {z TI TO i1 i2 l1 l2 d:Addr} {xs ys:Array Value}
theorem ZSt.typeIs {i:Nat} (Z:ZSt s.heap z TI TO i1 i2 l1 l2 d xs ys i):s.TypeIs (.ref z) "zip":=by
 rcases Z.zz with ⟨_,h,_⟩ | ⟨T,b,o,h,_⟩
 ·exact ⟨_,h,rfl⟩
 ·exact ⟨_,h,rfl⟩
theorem d40 {i:Nat} {x y:Value} {Q:Option Value->Shared->Prop} (D:ZipApart z TI TO i1 i2 l1 l2) (Z:ZSt s.heap z TI TO i1 i2 l1 l2 d xs ys i) (hx:xs[i]? =some x) (hy:ys[i]? =some y) (hd:d<s.heap.objs.size)
  (hQ: ∀h' T,ZSt h' z TI TO i1 i2 l1 l2 d xs ys (i+1)->IsPair h' T x y->(∀c o,c≠z->c≠TO->c≠i1->c≠i2->s.heap.get? c=some o->h'.get? c=some o)->Q (some (.ref T)) {s with heap:=h'}):
  wpAny (model prog w) A (pyNext (.ref z)) Q E s:=by
 have hT:=Z.typeIs;have lt1:z<s.heap.objs.size:=by obtain ⟨_,e,_⟩:=hT;exact Heap.lt_size e
 have lt2:i1<s.heap.objs.size:=by obtain ⟨_,e,_⟩:=Z.a1;exact Heap.lt_size e
 have lt3:i2<s.heap.objs.size:=by obtain ⟨_,e,_⟩:=Z.a2;exact Heap.lt_size e
 rcases Z.zz with ⟨rfl,h,hTO⟩ | ⟨T,b,o,h,hTo,t1,t2,t3,t4⟩
 ·refine wpAny_pyNext_zip_item D h Z.ti hTO Z.a1 Z.a2 Z.b1 Z.b2 hx hy fun h' c1 c2 c3 c4 c5 c6 c7=>hQ h' _ ⟨c7 _ _ D.TIz D.TITO D.TIi1 D.TIi2 Z.ti,c3,c4,Z.b1.at fun o e=>c7 _ o D.l1z D.l1TO D.l1i1 D.l1i2 e,Z.b2.at fun o e=>c7 _ o D.l2z D.l2TO D.l2i1 D.l2i2 e,.inr ⟨_,_,_,c1,c5,Nat.ne_of_gt lt1,Nat.ne_of_gt lt2,Nat.ne_of_gt lt3,Nat.ne_of_gt hd⟩⟩ c5 c7
 ·unfold pyNext;refine d0 (wpAny_attempt (wpAny_callSpecial?_slot (name:=Str.ofString "__next__") hT F.slot_zip_next
   (wpAny_call_entry F.slot_zip_next hT F.entry_zip_next
    (g21 D h hTo Z.ti Z.a1 Z.a2 Z.b1 Z.b2 hx hy fun h' c1 c3 c4 c5 c6 c7=>m0 (hQ h' _ ⟨c7 _ _ D.TIz D.TIi1 D.TIi2 Z.ti,c3,c4,Z.b1.at fun o e=>c7 _ o D.l1z D.l1i1 D.l1i2 e,Z.b2.at fun o e=>c7 _ o D.l2z D.l2i1 D.l2i2 e,.inr ⟨_,_,_,c1,c7 _ _ t1 t2 t3 hTo,t1,t2,t3,t4⟩⟩ c5 fun c o e1 _ e3 e4=>c7 c o e1 e3 e4)) (F.args_zip_next_1 _))))
theorem b46 {i:Nat} {Q:Option Value->Shared->Prop} (hh:A.handled=none) (D:ZipApart z TI TO i1 i2 l1 l2) (Z:ZSt s.heap z TI TO i1 i2 l1 l2 d xs ys i) (hi:i≠0) (hx:xs[i]? =none)
  (hQ: ∀h',(∀c o,c≠z->c≠i1->s.heap.get? c=some o->h'.get? c=some o)->Q none {s with heap:=h'}):
  wpAny (model prog w) A (pyNext (.ref z)) Q E s:=by
 have hT:=Z.typeIs;rcases Z.zz with ⟨rfl,h,hTO⟩ | ⟨T,b,o,h,hTo,t1,t2,t3,t4⟩
 ·exact absurd rfl hi
 ·unfold pyNext;refine d0 (wpAny_attempt (wpAny_callSpecial?_slot (name:=Str.ofString "__next__") hT F.slot_zip_next
   (wpAny_call_entry F.slot_zip_next hT F.entry_zip_next (h21 hh D h hTo Z.ti Z.a1 Z.b1 hx fun h' e hk he=>?_) (F.args_zip_next_1 _))))
  obtain ⟨o,ho,hc⟩:=he;refine d0 (wpAny_isInstance (T:="StopIteration") (b:=true) ⟨o,ho,hc⟩ isSubtype_stop ?_);exact m0 (hQ _ hk)
theorem ZSt.keeps {h h':Heap} {i:Nat} (D:ZipApart z TI TO i1 i2 l1 l2) (Z:ZSt h z TI TO i1 i2 l1 l2 d xs ys i) (hd:d≠z/\d≠TI/\d≠TO/\d≠i1/\d≠i2/\d≠l1/\d≠l2) (k: ∀c o,c≠d->h.get? c=some o->h'.get? c=some o):ZSt h' z TI TO i1 i2 l1 l2 d xs ys i:=by
 obtain ⟨d1,d2,d3,d4,d5,d6,d7⟩:=hd;refine ⟨k _ _ (Ne.symm d2) Z.ti,Z.a1.at fun o e=>k _ o (Ne.symm d4) e,Z.a2.at fun o e=>k _ o (Ne.symm d5) e,Z.b1.at fun o e=>k _ o (Ne.symm d6) e,Z.b2.at fun o e=>k _ o (Ne.symm d7) e,?_⟩;rcases Z.zz with ⟨e,h,hTO⟩ | ⟨T,b,o,h,hTo,t1,t2,t3,t4⟩
 ·exact .inl ⟨e,k _ _ (Ne.symm d1) h,k _ _ (Ne.symm d3) hTO⟩
 ·exact .inr ⟨T,b,o,k _ _ (Ne.symm d1) h,k _ _ t4 hTo,t1,t2,t3,t4⟩
variable {K:Type} [DecidableEq K] {knd:PySem.KeyKind prog w K}
theorem c31 {kvs:List (K×Value)} {k:K} {v:Value} (h:k∉kvs.map (·.1)):stored kvs k v=kvs++[(k,v)]:=by
 rw [stored,if_neg];intro e;obtain ⟨p,hp,hk⟩:=List.any_eq_true.mp e;exact h (List.mem_map.mpr ⟨p,hp,of_decide_eq_true hk⟩)
theorem d36 {R:Result->Shared->Prop} {ks:List K} (hh:A.handled=none) (D:ZipApart z TI TO i1 i2 l1 l2) (hd:d≠z/\d≠TI/\d≠TO/\d≠i1/\d≠i2/\d≠l1/\d≠l2) (nd:ks.Nodup) (e1:ks.length=xs.size) (e2:ys.size=xs.size) (e0:0<xs.size) (ez:xs.size<=1000)
  (hk: ∀(j:Nat) k x,ks[j]? =some k->xs[j]? =some x->knd.is k x=true): ∀(m i:Nat) (s:Shared),xs.size-i=m->i<=xs.size->ZSt s.heap z TI TO i1 i2 l1 l2 d xs ys i->s.heap.DictOf knd d ((ks.zip ys.toList).take i)->
   (∀h' tk,(∀c o,c≠z->c≠TO->c≠i1->c≠i2->c≠d->s.heap.get? c=some o->h'.get? c=some o)->h'.DictOf knd d (ks.zip ys.toList)->R (.ok (.ret .none)) {s with heap:=h',toks:=tk})->
   codeAny (model prog w) A (.builtin "dict.update.loop" ⟨[.ref d,.ref z,rawInt i,.none],[]⟩) R s:=by
 obtain ⟨d1,d2,d3,d4,d5,d6,d7⟩:=hd;have hzl:(ks.zip ys.toList).length=xs.size:=by rw [List.length_zip,e1,Array.length_toList,e2,Nat.min_self]
 intro m
 induction m with
 | zero=>
  intro i s hm hi Z hD hR;have hin:i=xs.size:=by (exact fe (.h (-1) (.e (.v 0) (.n 0)) <| .h 1 (.e (.a (.v 0) (.v 1)) (.v 2)) <| .o 1 (.e (.v 1) (.v 2))) [] [_,_,_] rfl hm (n0 (hi)))
  refine codeAny_builtin e14 ?_;rw [Around.under_plainId a12 _];show wpAny _ A.in1 (pyNext (.ref z)>>=_) _ _ s;refine d0 (b46 hh D Z (by exact fun q9=>fk s!"hyn0Ah-zBAhzBn0o0F" [] [_,_] rfl e0 hin q9) (Array.getElem?_eq_none (by exact fk s!"h-zABoxBA" [] [_,_] rfl hin)) fun h' kk=>?_);show wpAny _ A.in1 (Builtin.Dict.addKeywords d []>>=_) _ _ _;refine d0 (m0 (m0 (hR h' s.toks (fun c o c1 _ c3 _ _ e=>kk c o c1 c3 e) ?_)));rw [List.take_of_length_le (by rw [hzl];(exact fk s!"h-zABoxBA" [] [_,_] rfl hin))] at hD;obtain ⟨o,es,ep,ho,r⟩:=hD;exact ⟨o,es,ep,kk _ _ d1 d4 ho,r⟩
 | succ m ih=>
  intro i s hm hi Z hD hR;have hlt:i<xs.size:=by (exact fk s!"h-zAaBn1hzaACDoyCD" [] [_,_,_,_] rfl hm (n0 (hi)))
  have hx:xs[i]? =some xs[i]:=Array.getElem?_eq_getElem hlt;have hy:ys[i]? =some (ys[i]'(by exact fk κ2 [] [_,_,_] rfl e2 hlt)):=Array.getElem?_eq_getElem (by exact fk κ2 [] [_,_,_] rfl e2 hlt);have hkk:ks[i]? =some (ks[i]'(by exact fk κ2 [] [_,_,_] rfl e1 hlt)):=o5 (by exact fk κ2 [] [_,_,_] rfl e1 hlt);generalize xs[i]=x at hx;generalize ys[i]'(by exact fk κ2 [] [_,_,_] rfl e2 hlt)=y at hy;generalize ks[i]'(by exact fk κ2 [] [_,_,_] rfl e1 hlt)=k at hkk;have hdl:d<s.heap.objs.size:=by obtain ⟨_,_,_,ho,_⟩:=hD;exact Heap.lt_size ho
  refine codeAny_builtin e14 ?_;rw [Around.under_plainId a12 _];show wpAny _ A.in1 (pyNext (.ref z)>>=_) _ _ s;refine d0 (d40 D Z hx hy hdl fun h' T Z' hT kk=>?_);show wpAny _ A.in1 (holding [Value.ref T] _>>=_) _ _ _;refine d0 (wpAny_holding (d0 (wpAny_tryCatch ?_)));unfold Builtin.Dict.pairItems;refine d0 (wpAny_typeOf ⟨_,hT,rfl⟩ ?_);simp -iota only [show ((Value.type "tuple"==Value.type "list")||(Value.type "tuple"==Value.type "tuple"))=true from by decide,if_true];refine d0 (wpAny_seqItems hT rfl (m0 ?_));show wpAny _ A.in1 (holding [x,y] (dictSet d x y)) _ _ _;have hD':h'.DictOf knd d ((ks.zip ys.toList).take i):=by
   obtain ⟨o,es,ep,ho,r⟩:=hD;exact ⟨o,es,ep,kk _ _ d1 d3 d4 d5 ho,r⟩
  have hni:k∉((ks.zip ys.toList).take i).map (·.1):=by
   rw [List.map_take,List.map_fst_zip (by have:=Array.length_toList (xs:=ys);(exact fk s!"hzABh-zCBh-zDCoxAD" [] [_,_,_,_] rfl e1 e2 this))];intro hm;obtain ⟨j,hj,e⟩:=List.mem_iff_getElem.mp hm;rw [List.length_take] at hj;rw [List.getElem_take] at e;have e3:=(List.getElem?_eq_some_iff.mp hkk);obtain ⟨hi',e4⟩:=e3;exact List.pairwise_iff_getElem.mp nd j i _ hi' (by exact fk s!"hyABhzBCoyAC" [] [_,_,_] rfl hj (j6 (fk s!"h-zABhxCBoxCA" [] [_,_,_] rfl e1 hi))) (e.trans e4.symm)
  refine wpAny_holding (wpAny_dictSet_pairs (knd:=knd) (k:=k) (hk i k x hkk hx) hD' (fun h'' hD'' hs=>?_) (by rw [List.length_take,sizeLine_eq];(exact fk s!"hxAn1000hxBAhzCBoxCn16777216" [] [_,_,_] rfl ez hi (j6 (fk s!"h-zABhxCBoxCA" [] [_,_,_] rfl hzl hi)))));rw [c31 hni] at hD'';have htk:(ks.zip ys.toList).take i++[(k,y)]=(ks.zip ys.toList).take (i+1):=by
   have hi2:i<(ks.zip ys.toList).length:=by (exact fk κ2 [] [_,_,_] rfl hzl hlt)
   have eg:(ks.zip ys.toList)[i]=(k,y):=by
    rw [List.getElem_zip];rw [o5 (by exact fk κ2 [] [_,_,_] rfl e1 hlt)] at hkk;rw [Array.getElem?_eq_getElem (by exact fk κ2 [] [_,_,_] rfl e2 hlt)] at hy;rw [w5 hkk];simp -iota only [Array.getElem_toList];rw [w5 hy]
   rw [List.take_succ_eq_append_getElem hi2,eg]
  rw [htk] at hD'';have kk2: ∀c o,c≠d->h'.get? c=some o->h''.get? c=some o:=fun c o hc e=>(hs.2 c hc).trans e;refine m0 ⟨plainId_quiet a12 _,?_⟩;refine ih (i+1) _ (by exact fe (.h 1 (.e (.v 0) (.a (.v 1) (.n 1))) <| .h (-1) (.e (.a (.v 0) (.v 2)) (.v 3)) <| .h 1 (.e (.a (.v 4) (.a (.v 2) (.n 1))) (.v 3)) <| .o 1 (.e (.v 4) (.v 1))) [] [_,_,_,_,_] rfl hm (n0 (hi)) (n0 (hlt))) hlt (Z'.keeps D ⟨d1,d2,d3,d4,d5,d6,d7⟩ kk2) hD'' fun h3 tk k3 hD3=>?_;exact hR h3 tk (fun c o c1 c2 c3 c4 c5 e=>k3 c o c1 c2 c3 c4 c5 (kk2 c o c5 (kk c o c1 c2 c3 c4 e))) hD3
theorem c27 {ks:List K} {Q:Value->Shared->Prop} (hh:A.handled=none) (D:ZipApart z TI TO i1 i2 l1 l2) (nd:ks.Nodup) (e1:ks.length=xs.size) (e2:ys.size=xs.size) (e0:0<xs.size) (ez:xs.size<=1000)
  (hk: ∀(j:Nat) k x,ks[j]? =some k->xs[j]? =some x->knd.is k x=true)
  (hz:IsZip s.heap z TI TO .none) (hTO:IsPair s.heap TO .none .none) (hTI:IsPair s.heap TI (.ref i1) (.ref i2)) (a1:s.heap.IsListIter i1 l1 0) (a2:s.heap.IsListIter i2 l2 0) (b1:s.heap.IsList l1 xs) (b2:s.heap.IsList l2 ys)
  (h: ∀h' tk,h'.DictOf knd s.heap.objs.size (ks.zip ys.toList)->(∀c o,c≠z->c≠TO->c≠i1->c≠i2->s.heap.get? c=some o->h'.get? c=some o)->Q (.ref s.heap.objs.size) {s with heap:=h',toks:=tk}):
  wpAny (model prog w) A (call (.type "dict") [.ref z]) Q E s:=by
 refine callType_codes (Q₁:=fun obj s₁=>obj= .ref s.heap.objs.size/\s₁={s with heap:=s.heap.push {cls:= .type "dict",data:= .dict #[]}}) F.kt_called_dict (F.kt_typeCall_dict_1 _) F.entry_dict_init (kt_code_dict_new _ ⟨rfl,rfl⟩) ?_
 rintro obj s₁ ⟨rfl,rfl⟩
 have hnew:(s.heap.push {cls:= .type "dict",data:= .dict #[]}).DictOf knd s.heap.objs.size []:=Heap.DictOf.new s.heap;have up: ∀c o,s.heap.get? c=some o->(s.heap.push {cls:= .type "dict",data:= .dict #[]}).get? c=some o:=fun c o e=>i3 _ e;have ne: ∀{c o},s.heap.get? c=some o->s.heap.objs.size≠c:=fun e=>Nat.ne_of_gt (Heap.lt_size e);have hdz:s.heap.objs.size≠z/\s.heap.objs.size≠TI/\s.heap.objs.size≠TO/\s.heap.objs.size≠i1/\s.heap.objs.size≠i2/\s.heap.objs.size≠l1/\s.heap.objs.size≠l2:=
  ⟨ne hz,ne hTI,ne hTO,(by obtain ⟨_,e,_⟩:=a1;exact ne e),(by obtain ⟨_,e,_⟩:=a2;exact ne e),(by obtain ⟨_,e,_⟩:=b1;exact ne e),(by obtain ⟨_,e,_⟩:=b2;exact ne e)⟩
 refine ⟨hnew.typeIs,F.args_dict_init_2 _ _,?_⟩;unfold Builtin.«dict.__init__»;refine d0 ?_;unfold Builtin.Dict.selfAndRest;refine d0 (wpAny_notOrdered_dict hnew.typeIs ?_);show wpAny _ _ (pure (s.heap.objs.size,[Value.ref z])) _ _ _;refine m0 ?_;show wpAny _ _ (Builtin.Dict.updateFrom "dict.__init__" s.heap.objs.size (.ref z) [] .none) _ _ _;unfold Builtin.Dict.updateFrom;refine d0 (wpAny_typeOf (T:="zip") ⟨_,up _ _ hz,rfl⟩ ?_);rw [if_pos (by decide)];refine d0 (b27 (up _ _ hz) hh fun h1 tk k1=>?_);have k2: ∀c o,s.heap.get? c=some o->h1.get? c=some o:=fun c o e=>k1 c o (up c o e);simp -iota only [Option.isNone_none,if_true];refine d0 (wpAny_rule (d0 (wpAny_pyIter_zip (k2 _ _ hz) ?_)));have hD1:h1.DictOf knd s.heap.objs.size ((ks.zip ys.toList).take 0):=by
  obtain ⟨o,es,ep,ho,r⟩:=hnew;exact ⟨o,es,ep,k1 _ _ ho,r⟩
 refine d0 (m0 (m0 ⟨plainId_quiet a12 _,?_⟩));refine d36 (knd:=knd) (A:=A.in1) hh D hdz nd e1 e2 e0 ez hk xs.size 0 {s with heap:=h1,toks:=tk} rfl (Nat.zero_le _) ⟨k2 _ _ hTI,a1.at fun o e=>k2 _ o e,a2.at fun o e=>k2 _ o e,b1.at fun o e=>k2 _ o e,b2.at fun o e=>k2 _ o e,.inl ⟨rfl,k2 _ _ hz,k2 _ _ hTO⟩⟩ hD1 fun h' tk' k3 hD3=>?_;exact ⟨rfl,h h' tk' hD3 fun c o c1 c2 c3 c4 e=>k3 c o c1 c2 c3 c4 (Ne.symm (ne e)) (k2 c o e)⟩
end
section
variable {X:Cx} {own:Nat->Option Nat} {fs:List (Nat×NS)} {σh:Nat->Option W0} {s:Shared}
set_option tactic.hygienic true in
theorem Z0.G10 (R:Z0 X own fs σh s) {h':Heap} {tk:Nat} {a d:Nat} {o₀ o:W0} (h0:σh a=some o₀) (k: ∀b x,own b≠some a->s.heap.get? b=some x->h'.get? b=some x) (hd:s.heap.get? d=none) (hd': ∃y,h'.get? d=some y)
  (H: ∀own',own' d=some d->Holds X own' h' d o) (ng:NoG o:=by exact trivial): ∃own',Z0 X own' fs (upd (del σh a) d o) ⟨h',s.gens,s.drawn,tk,s.os⟩:=by
 let own':Nat->Option Nat:=fun q=>if q=d then some d else if own q=some a then none else own q
 have nd: ∀q x,own q=some x->q≠d:=fun q x e z=>by
  subst z;obtain ⟨⟨y,hy⟩,_⟩:=R.owned q x e;rw [hd] at hy;cases hy
 have sub: ∀q x,own' q=some x->(q=d/\x=d)\/(own q=some x/\x≠a):=fun q x e=>by
  have e:(if q=d then some d else if own q=some a then none else own q)=some x:=e
  split at e
  ·rename_i h;cases e;exact .inl ⟨h,rfl⟩
  ·split at e
   ·cases e
   ·rename_i hn;exact .inr ⟨e,fun z=>hn (z▸e)⟩
 have sup: ∀q x,own q=some x->x≠a->own' q=some x:=fun q x e hx=>by
  show (if q=d then some d else if own q=some a then none else own q)=some x;rw [if_neg (nd q x e),if_neg,e];intro z;rw [e] at z;exact hx (w5 z)
 refine ⟨own',fun b x e=>k b x (fun q=>?_) (R.base b x e),fun b x e=>?_,fun p hp=>?_,R.nodup,fun q x e=>?_,R.os,R.bare.less fun b x e=>?_⟩
 ·have:=(R.owned b a q).2;rw [e] at this;cases this
 ·by_cases hb:b=d
  ·subst hb;rw [i10] at e;cases e;exact ⟨if_pos rfl,H _ (if_pos rfl)⟩
  ·rw [c11 _ _ hb] at e;have e:(if b=a then none else σh b)=some x:=e
   split at e
   ·cases e
   ·rename_i hb;obtain ⟨h2,h3⟩:=R.objs b x e;exact ⟨sup _ _ h2 hb,h3.move h2 (fun q y hq hy=>k q y (fun z=>hb (w5 (hq.symm.trans z))) hy) fun q hq=>sup _ _ hq hb⟩
 ·obtain ⟨h1,h2,h4⟩:=R.frs p hp;have hne:p.1≠a:=fun z=>by rw [z,h0] at h2;cases h2
  refine ⟨sup _ _ h1 hne,?_,h4.move fun o ho=>k _ _ (fun z=>?_) ho⟩
  ·rw [c11 _ _ (nd _ _ h1)];show (if p.1=a then none else σh p.1)=none;rw [if_neg hne];exact h2
  ·rw [h1] at z;exact hne (w5 z)
 ·rcases sub q x e with ⟨rfl,rfl⟩ | ⟨e1,e2⟩
  ·exact ⟨hd',(R.fresh hd).2.2⟩
  ·obtain ⟨⟨y,hy⟩,h2⟩:=R.owned q x e1;exact ⟨⟨y,k _ _ (fun z=>e2 (w5 (e1.symm.trans z))) hy⟩,h2⟩
 ·by_cases hb:b=d
  ·subst hb;rw [i10] at e;cases e;exact .inl ng
  ·rw [c11 _ _ hb] at e;have e:(if b=a then none else σh b)=some x:=e
   split at e
   ·cases e
   ·exact .inr e
end
theorem e36: ∀(ns:List Nat) (x2:List Value),((ns.map N).zip x2).map (fun p=>(p.1,ab p.2))=(ns.zip (x2.map ab)).map (fun p=>(N p.1,p.2))
 | [],_=>rfl
 | _::_,[]=>rfl
 | n::ns,x::x2=>by
  simp only [v5,List.zip_cons_cons,List.cons.injEq,true_and];exact e36 ns x2
section
variable {X:Cx} {c:Cf} {σ:St} {E:Nat->St->Prop} {Q:AV->St->Prop}
theorem e40 {l m:Nat} {xs ys:List AV} (e1:See X σ l (.list xs)) (e2:See X σ m (.list ys)) (h: ∀q,σ.h q=none->Q (.ref q) {σ with h:=upd σ.h q (.zip l m)}):J2 X c (.type "zip") [.ref l,.ref m] [] Q E σ:=fun F' vs kws hF hv hk A s g R=>by
 refine of ?_;obtain rfl:=x11 hF;obtain ⟨v,rs,rfl,hv1,hv2⟩:=map_cons hv;obtain ⟨v2,rs,rfl,hv3,hv4⟩:=map_cons hv2;obtain rfl:=v10 hv4;obtain rfl:=v10 hk;obtain rfl:=t10 hv1;obtain rfl:=t10 hv3;walk_at "o";obtain ⟨i1,hL1,_⟩:=e1.holds R;obtain ⟨i2,hL2,_⟩:=e2.holds R;refine call_zip_2 hL1.isList hL2.isList fun h' hz hTI hTO a1 a2 hsz hk=>?_;have nn: ∀j,s.heap.get? (s.heap.objs.size+j)=none:=fun j=>l6 (by exact fk s!"oxAaAB" [] [_,_] rfl);obtain ⟨own',R'⟩:=R.alloc (tk:=s.toks) (a:=s.heap.objs.size+4) (o:= .zip l m) [s.heap.objs.size+2,s.heap.objs.size+3,s.heap.objs.size,s.heap.objs.size+1] hk (nn 4) ⟨_,hz⟩ (fun q hq=>by
  simp only [List.mem_cons,List.mem_nil_iff,or_false] at hq;rcases hq with rfl | rfl | rfl | rfl
  ·exact ⟨nn 2,⟨_,hTI⟩,by (exact fun q1=>fk s!"h-zaAn2aAn4o0F" [] [_] rfl q1)⟩
  ·exact ⟨nn 3,⟨_,hTO⟩,by (exact fun q1=>fk s!"h-zaAn3aAn4o0F" [] [_] rfl q1)⟩
  ·exact ⟨nn 0,by obtain ⟨o,e,_⟩:=a1;exact ⟨o,e⟩,by (exact fun q1=>fk s!"h-zAaAn4o0F" [] [_] rfl q1)⟩
  ·exact ⟨nn 1,by obtain ⟨o,e,_⟩:=a2;exact ⟨o,e⟩,by (exact fun q1=>fk s!"h-zaAn1aAn4o0F" [] [_] rfl q1)⟩) (fun own' h1 h2=>⟨s.heap.objs.size+2,s.heap.objs.size+3,s.heap.objs.size,s.heap.objs.size+1,⟨h2 _ (by simp),h2 _ (by simp),h2 _ (by simp),h2 _ (by simp)⟩,by (exact ⟨fun q1=>fk s!"h-zaAn2aAn4o0F" [] [_] rfl q1,⟨fun q1=>fk s!"h-zaAn3aAn4o0F" [] [_] rfl q1,⟨fun q1=>fk s!"h-zAaAn4o0F" [] [_] rfl q1,⟨fun q1=>fk s!"h-zaAn1aAn4o0F" [] [_] rfl q1,⟨fun q1=>fk s!"h-zaAn2aAn3o0F" [] [_] rfl q1,⟨fun q1=>fk s!"hzaAn2Ao0F" [] [_] rfl q1,⟨fun q1=>fk s!"hzaAn2aAn1o0F" [] [_] rfl q1,⟨fun q1=>fk s!"hzaAn3Ao0F" [] [_] rfl q1,⟨fun q1=>fk s!"hzaAn3aAn1o0F" [] [_] rfl q1,fun q1=>fk κ4 [] [_] rfl q1⟩⟩⟩⟩⟩⟩⟩⟩⟩),hz,hTI,hTO,a1,a2⟩)
 exact ⟨_,⟨own',R'⟩,h _ (R.fresh (nn 4)).1⟩
theorem c13 {l:Nat} {xs:List AV} (e1:See X σ l (.list xs)) {own:Nat->Option Nat} {fs:List (Nat×NS)} {s:Shared} (R:Z0 X own fs σ.h s) {z q:Nat} {a b:Nat} (hz:σ.h z=some (.zip a b)) (hq:own q=some z):l≠q:=fun e=>by
 subst e;rcases e1 with e1 | e1
 ·have:=(R.objs _ _ e1).1;rw [hq] at this;have:=w5 this;subst this;rw [hz] at e1;cases e1
 ·obtain ⟨_,⟨_,ho⟩,_⟩:=e1 (fun _=>none) X.h₀ fun _ _ e=>e;have:=(R.owned _ _ hq).2;rw [ho] at this;cases this
theorem j21 {z l m:Nat} {ns:List Nat} {ys:List AV} (hd:c.hd=none) (ez:σ.h z=some (.zip l m)) (e1:See X σ l (.list (ns.map fun n=> .str (N n)))) (e2:See X σ m (.list ys)) (nd:X3 ns=true) (el:ys.length=ns.length) (e0:0<ns.length) (e9:ns.length<=1000)
  (h: ∀q,σ.h q=none->Q (.ref q) {σ with h:=upd (del σ.h z) q (.dictS (ns.zip ys))}):J2 X c (.type "dict") [.ref z] [] Q E σ:=fun F' vs kws hF hv hk A s g R=>by
 refine of ?_;obtain rfl:=x11 hF;obtain ⟨v,rs,rfl,hv1,hv2⟩:=map_cons hv;obtain rfl:=v10 hv2;obtain rfl:=v10 hk;obtain rfl:=t10 hv1;walk_at "o";obtain ⟨x1,hL1,hx1⟩:=e1.holds R;obtain ⟨x2,hL2,hx2⟩:=e2.holds R;obtain ⟨TI,TO,i1,i2,⟨o1,o2,o3,o4⟩,⟨n1,n2,n3,n4,n5,n6,n7,n8,n9,n10⟩,hz,hTI,hTO,a1,a2⟩:=(R.objs _ _ ez).2;have oz:=(R.objs _ _ ez).1;have D:ZipApart z TI TO i1 i2 l m:=⟨n1,n2,n3,n4,n5,n6,n7,n8,n9,n10,c13 e1 R ez oz,c13 e1 R ez o2,c13 e1 R ez o3,c13 e1 R ez o4,c13 e2 R ez oz,c13 e2 R ez o2,c13 e2 R ez o3,c13 e2 R ez o4⟩;have s1:x1.size=ns.length:=by have:=congrArg List.length hx1;simpa using this
 have s2:x2.size=ys.length:=by have:=congrArg List.length hx2;simpa using this
 refine c27 (knd:=PySem.strKind X.prog X.w) (ks:=ns.map N) (g.hd.trans hd) D (List.Pairwise.map N (fun x y (hxy:x≠y) e=>hxy (o14 e)) (r11 nd)) (by rw [a7,s1]) (by exact fe (.h 1 (.e (.v 0) (.v 1)) <| .h (-1) (.e (.v 2) (.v 1)) <| .h 1 (.e (.v 3) (.v 0)) <| .o 1 (.e (.v 3) (.v 2))) [] [_,_,_,_] rfl el s1 s2) (by exact fk s!"hyn0Ah-zBAoyn0B" [] [_,_] rfl e0 s1) (by exact fk s!"hxAn1000hzBAoxBn1000" [] [_,_] rfl e9 s1) (fun j k x hk' hx'=>?_) hz hTO hTI a1 a2 hL1.isList hL2.isList fun h' tk hD kk=>?_
 ·have e3:(x1.toList.map ab)[j]? =some (ab x):=by rw [List.getElem?_map,Array.getElem?_toList,hx'];rfl
  rw [hx1,List.getElem?_map] at e3;rw [List.getElem?_map] at hk';cases en:ns[j]? with
  | none=>rw [en] at e3;cases e3
  | some n=>
   rw [en] at e3 hk';cases hk';obtain ⟨t,rfl⟩:=p11 (w5 e3).symm;exact beq_self_eq_true (N n)
 ·have nn:s.heap.get? s.heap.objs.size=none:=l6 (Nat.le_refl _);have hmap:((ns.map N).zip x2.toList).map (fun p=>(p.1,ab p.2))=(ns.zip ys).map (fun p=>(N p.1,p.2)):=by rw [<-hx2];exact e36 ns x2.toList
  obtain ⟨own',R'⟩:=R.G10 (tk:=tk) (h':=h') (d:=s.heap.objs.size) (o:= .dictS (ns.zip ys)) ez (fun b x hb e=>kk b x (fun q=>hb (q▸oz)) (fun q=>hb (q▸o2)) (fun q=>hb (q▸o3)) (fun q=>hb (q▸o4)) e) nn (by obtain ⟨o,_,_,e,_⟩:=hD;exact ⟨o,e⟩) fun own' _=>⟨_,hD,hmap⟩;exact ⟨_,⟨own',R'⟩,h _ (R.fresh nn).1⟩
end
section
variable {X:Cx} {c:Cf} {P:PT} {K:KT} {H:Nat->Option W0} {L:NS} {vs:List AV} {r:List Tr}
theorem e54 {l m:Nat} {xs ys:List AV} (e1:See X ⟨H,L⟩ l (.list xs)) (e2:See X ⟨H,L⟩ m (.list ys)) (h: ∀q,H q=none->Go (run X c K P r (.ref q::vs) ⟨upd H q (.zip l m),L⟩)):Go (run X c K P (I.call 2 []::r) (.ref m:: .ref l:: .type "zip"::vs) (⟨H,L⟩:St)):=by
 have h:=fun x0 x1=>(h x0 x1).out;exact t11 rfl rfl o13 (e40 e1 e2 h)
theorem d31 {z l m:Nat} {ns:List Nat} {ys:List AV} (hd:c.hd=none) (ez:H z=some (.zip l m)) (e1:See X ⟨H,L⟩ l (.list (ns.map fun n=> .str (N n)))) (e2:See X ⟨H,L⟩ m (.list ys)) (nd:X3 ns=true) (el:ys.length=ns.length) (e0:0<ns.length) (e9:ns.length<=1000)
  (h: ∀q,H q=none->Go (run X c K P r (.ref q::vs) ⟨upd (del H z) q (.dictS (ns.zip ys)),L⟩)):Go (run X c K P (I.call 1 []::r) (.ref z:: .type "dict"::vs) (⟨H,L⟩:St)):=by
 have h:=fun x0 x1=>(h x0 x1).out;exact t11 rfl rfl o13 (j21 hd ez e1 e2 nd el e0 e9 h)
end
section
variable {X:Cx} {c:Cf} {H:Nat->Option W0} {L:NS} {K:KT} {P:PT} {vs:List AV} {r:List Tr}
theorem e18 {x q:Nat} {b e:List Tr} (hq:H q=some (.list [])) (hd:c.hd=none) (h:Go (run X c (run X c K P r) P e vs ⟨H,L⟩)):Go (run X c K P (I.W4 [I.st x] b e::r) (.ref q::vs) ⟨H,L⟩):=by
 refine j14 hq hd (fun it i σ=>H it=none/\σ=⟨upd H it (.listIter q i),L⟩) (fun it hit=>Up.same ⟨hit,rfl⟩) (fun it i σ hJ=>?_) (fun it i v H' L' hit hv hJ=>by cases hv) fun it H' L' hit hJ=>?_
 ·obtain ⟨hn,rfl⟩:=hJ;exact ⟨i10 _ _ _,(c11 _ _ (fun z=>by rw [z,hn] at hq;cases hq)).trans hq⟩
 ·obtain ⟨hn,e⟩:=hJ;walk_at "S";rw [q11 hn];exact h
theorem j42 {p x:Nat} {C:Value} {cx:Bool} {fs:NS} {ty:AV} {bd:List Tr} {hs:List I.Hd} (e:H p=some (.exc C cx fs)) (m:I.S12 X.K C ty=some true)
  (h:Go (run X (I.hcf c p) (fun _ σ3=>K vs (I.W3 (some x) σ3)) (fun o σ3=>match o with | .exc b=>P (.exc b) (I.W3 (some x) σ3) | o=>P o (I.W3 (some x) σ3)) bd [] (⟨H,(x,.ref p)::L⟩:St))):I.hands X c K P vs p (⟨ty,some x,bd⟩::hs) (⟨H,L⟩:St):=v49 e m h
end
theorem d27 (a b:Int):Builtin.Range.rangeSize a b 32=if a<b then (b-a-1) / 32+1 else 0:=by
 unfold Builtin.Range.rangeSize;simp only [show (32:Int)>0 by decide,if_true]
set_option tactic.hygienic true in
theorem b29 {a b:Int} (ha:0<=a/\a<2^40) (hb:0<=b/\b<2^40):Builtin.Range.small a b 32=true:=by
 unfold Builtin.Range.small;rw [d27];simp only [Builtin.Range.rangeFitsLong,z0,Bool.or_eq_true,decide_eq_true_eq,beq_iff_eq,show (32:Int)>0 by decide,if_true];have A: -2^63<=a/\a<2^63:=⟨Int.le_trans (by decide) ha.1,Int.lt_trans ha.2 (by decide)⟩;have B: -2^63<=b/\b<2^63:=⟨Int.le_trans (by decide) hb.1,Int.lt_trans hb.2 (by decide)⟩
 split
 ·rename_i h;refine ⟨⟨⟨⟨A,B⟩,by decide,by decide⟩,?_,?_⟩,.inr ⟨?_,?_⟩⟩
  ·(exact fk s!"hSABhSmmBAn1al32Cn32o32Lgn2^63aCn1" [_,_,_] [] rfl h (Qd2 _ 32 rfl))
  ·(exact fk s!"hLn0AhSBn2^40hLl32CmmBAn1o32SaCn1n2^63" [_,_,_] [] rfl ha.1 hb.2 (Qd1 _ 32 rfl))
  ·(exact fk s!"hLn0AoLgn2^63aAmn32n1" [_] [] rfl hb.1)
  ·(exact fk s!"hSAn2^40oSaAmn32n1n2^63" [_] [] rfl hb.2)
 ·exact ⟨⟨⟨⟨A,B⟩,by decide,by decide⟩,by decide,by decide⟩,.inl rfl⟩
section
variable {X:Cx} {c:Cf} {σ:St} {E:Nat->St->Prop} {Q:AV->St->Prop}
theorem c46 {l:Nat} {xs:List AV} {Q:Bool->St->Prop} (e:See X σ l (.list xs)) (hz:xs.length<=16777216) (h:Q (xs.length != 0) σ):X7 X c (.ref l) Q E σ:=fun x hx A s g R=>by
 refine of ?_;obtain rfl:=t10 hx;walk_at "o";obtain ⟨i1,hi1,rfl⟩:=e.list R;have hs:(i1.toList.map ab).length=i1.size:=by simp
 rw [hs] at h hz;have he:(!i1.isEmpty)=(i1.size != 0):=by
  cases hq:i1.size<;>simp [Array.isEmpty,hq]
 exact wpAny_truthy_list hi1 (by exact fk s!"hxAn16777216oSwAn2^63" [] [_] rfl hz) ⟨σ,⟨own,R.toks _⟩,he▸h⟩
set_option tactic.hygienic true in
theorem f36 {a b:Int} (hd:c.hd=none) (h:Q (.int (if b<a then b else a)) σ):J2 X c (.builtin "min") [.int a,.int b] [] Q E σ:=fun F vs ks hF hv hk A s g R=>by
 refine of ?_;obtain rfl:=d11 hF;obtain ⟨y,r,rfl,hy,hr⟩:=map_cons hv;obtain ⟨z,r2,rfl,hz2,hr2⟩:=map_cons hr;obtain rfl:=v10 hr2;obtain rfl:=v10 hk;obtain ⟨t,rfl⟩:=o10 hy;obtain ⟨u,rfl⟩:=o10 hz2;walk_at "o";refine min_two_ints (g.hd.trans hd) fun h' tk k=>⟨σ,⟨own,R.keeps k R.bare⟩,?_⟩
 split<;>rename_i hb
 ·rw [if_pos hb] at h;exact h
 ·rw [if_neg hb] at h;exact h
end
section
variable {X:Cx} {c:Cf} {H:Nat->Option W0} {L:NS} {K:KT} {P:PT} {vs:List AV} {r:List Tr}
theorem x50 {a b:Int} {σ:St} (hd:c.hd=none) (h:Go (run X c K P r (.int (if b<a then b else a)::vs) σ)):Go (run X c K P (I.call 2 []::r) (.int b:: .int a:: .builtin "min"::vs) σ):=by
 have h:=h.out;exact t11 rfl rfl g11 (f36 hd h)
end
section
variable {X:Cx} {c:Cf} {σ:St} {E:Nat->St->Prop} {Q:AV->St->Prop}
theorem f40 {l:Nat} {xs:List AV} {k:Int} {v:AV} (e:See X σ l (.list xs)) (h0:0<=k) (h1:k<2^63) (hv:xs[k.toNat]? =some v) (h:Q v σ):WGI X c (.ref l) (.int k) Q E σ:=fun V W hV hW A s g R=>by
 refine of ?_;obtain rfl:=t10 hV;obtain ⟨t,rfl⟩:=o10 hW;walk_at "o";obtain ⟨items,hL,rfl⟩:=e.list R;rw [List.getElem?_map,Array.getElem?_toList] at hv;obtain ⟨y,hi,rfl⟩:=Option.map_eq_some_iff.mp hv;exact wpAny_getItem_list hL h0 h1 hi ⟨σ,⟨own,R⟩,h⟩
theorem g40 {l:Nat} {xs:List AV} (e:See X σ l (.list xs)):O6 X c (.ref l) σ:=⟨"list",_,list_getitem_lookup,fun v s hv hp1=>hp1.elim fun own R=>by
 obtain rfl:=t10 hv;obtain ⟨items,⟨o,ho⟩,_⟩:=e.holds R;exact ⟨_,ho,rfl⟩⟩
end
section
variable {X:Cx} {c:Cf} {H:Nat->Option W0} {L:NS} {K:KT} {P:PT} {vs:List AV} {r:List Tr}
theorem e27 {l:Nat} {xs:List AV} (e:See X ⟨H,L⟩ l (.list xs)) (hz:xs.length<=16777216) (h:Go (run X c K P r (.bool (xs.length != 0)::vs) (⟨H,L⟩:St))):Go (run X c K P (I.tru::r) (.ref l::vs) (⟨H,L⟩:St)):=k49 (c46 e hz h.out)
theorem f27 {p:Nat} {k:Int} {xs:List AV} {a:AV} (e:See X ⟨H,L⟩ p (.list xs)) (h0:0<=k/\k<2^63) (hx:xs[k.toNat]? =some a) (h:Go (run X c K P r (a::vs) (⟨H,L⟩:St))):Go (run X c K P (I.sub::r) (.int k:: .ref p::vs) (⟨H,L⟩:St)):=⟨g40 e,f40 e h0.1 h0.2 hx h.out⟩
end
end Mine
namespace Mine
open PySem.Spec
theorem h40 {prog:Program} {w:World} {t:Sem Fin} {s:Shared} {R:Result->Shared->Prop} (hs:s.asleep)
  (h:wpZ true (model prog w) callerA t (fun fin s'=> ∃f,fin= .done f/\R (.ok f) s'/\AllBare s'.gens) (fun _ _=>False) s):
  ∃n r s' s'',runN (denote table) prog w n s ⟨t,.builtin "claim.caller" {},default,[]⟩= .halted (outcomeOf r) s'/\
   schedN (denote table) prog w n (.single s ⟨t,.builtin "claim.caller" {},default,[]⟩)= .halted (outcomeOf r) s'/\s'.forget=s''.forget/\R r s'':=by
 have h':=h ⟨.builtin "claim.caller" {},none,none,[],none⟩ default caller_in fun _=>⟨by decide,fun x hx=>nomatch hx⟩;obtain ⟨n,r,s1,s2,e1,e2,e3,e4⟩:=wp_halts_full (M:=model prog w) (R:=R) hs (Sem.wp_mono (model prog w) _ t (fun fin p' s' q=>by
  obtain ⟨f,rfl,q1,q2⟩:=q;exact ⟨q1,leftWithCleanup_false_of_bare q2⟩) (fun _ _ _ q=>q.elim) default s h')
 exact ⟨n,r,s2,s1,e2,e1,e3,e4⟩
def V11 (q:Program) (loose:List Str) {α:Type} (Yf:Shared->α) (Ya:World->α) (r:RowW) (name:Str):Prop:=
 ∀(w:World) (s₀ s₁:Shared) (mg mb:Str->Option Value),Ground q loose r.records (fun _ _=>True) w s₀ mg mb s₁.heap->Yf s₀=Ya w-> ∀(f:Value),mg name=some f->
  ∀(args:List WData) (vals:List Value) (as:List Addr),Laid r.records w s₀ s₁ args vals as->r.claim.pre args=true->
   wpZ true (model r.prog w) callerA (PySem.call f vals) (fun v s'=>v= .bool true/\(∀b o,s₁.heap.get? b=some o->s'.heap.get? b=some o)/\s'.os=s₁.os/\AllBare s'.gens) (fun _ _=>False) s₁
theorem y50 {c:ClaimW} {tree:List Value->Sem Fin} {w:World} {s:Shared} {free:Addr->Prop} {gens:Prop} {kept:Heap->Prop} (hz:s.asleep) (hg:s.gens= #[])
  (spec: ∀args,c.pre args=true->WData.layableAll args=true-> ∀ord:List DictEntry->List DictEntry,(∀l,(ord l).Perm l)-> ∃vs s₁,layAllW c.records (classAt s.heap) w.params ord args s=some (vs,s₁)/\
   wpZ true (model c.prog w) callerA (tree vs) (fun fin s'=> ∃f,fin= .done f/\(c.Ends s args vs s₁ (.ok f) s'/\s'.os=s.os/\kept s'.heap)/\AllBare s'.gens) (fun _ _=>False) s₁):c.CallFrom (fun vs=>⟨tree vs,.builtin "claim.caller" {},default,[]⟩) w free gens kept s:=fun args hpre hlay ord hord=>by
 obtain ⟨vs,s₁,hl,run⟩:=spec args hpre hlay ord hord;have hal:=layAllW_rest _ _ _ hl;obtain ⟨k,res,t',t'',hrun,hsched,hfo,hend,hos,hkp⟩:=h40 (R:=fun res t=>c.Ends s args vs s₁ res t/\t.os=s.os/\kept t.heap) (Shared.asleep_of_life hal.2.2.2 hz) run;obtain ⟨eh,_,_,eo,_⟩:=Shared.forget_eq hfo;have hend:=hend.congr eh;rw [<-eh] at hkp;rw [<-eo] at hos;refine ⟨vs,s₁,hl,k,_,t',hsched,?_,(fun _ i x hx=>by rw [hg] at hx;simp at hx),hkp,by rw [(runN_life _ _ _ hrun).trans hal.2.2.2],Shared.rest_eq hos⟩;rcases hend with ⟨v,rfl,d1,d2,d3,d4,d5⟩ | ⟨e,ob,cls,rfl,d1,d2,d3,d4,d5⟩
 ·exact .inl ⟨v,rfl,d1,d2,d3,fun b o y _=>d4 b o y,d5⟩
 ·exact .inr ⟨e,ob,cls,rfl,d1,d2,d3,d4,fun b o y _=>d5 b o y⟩
theorem z50 {c:ClaimW} {w:World} {s s₁:Shared} {args:List WData} {vs:List Value} {as:List Addr} {name:Str} {f:Value} {mg:Str->Option Value} {kept:Heap->Prop} (hsame:c.same=none) (hwi:c.within=[]) (hi: ∀a b,c.ident a b=true) (L:Laid c.records w s s₁ args vs as) (hm:s₁.heap.Ns mainGlobals mg) (h1:mg name=some f)
  (hr: ∀args cls,c.raises args cls=false) (hpost: ∀args,c.post args (.bool true) args=true) (hk: ∀h,OldK s₁.heap h->kept h)
  (walk:wpZ true (model c.prog w) callerA (PySem.call f vs) (fun v s'=>v= .bool true/\(∀b o,s₁.heap.get? b=some o->s'.heap.get? b=some o)/\s'.os=s₁.os/\AllBare s'.gens) (fun _ _=>False) s₁):
  wpZ true (model c.prog w) callerA (do match<-nsGet mainNs name with
   | some f=>do ret (<-PySem.call f vs)
   | none=>unsupported "claim.caller:no-such-global") (fun fin s'=> ∃f,fin= .done f/\(c.Ends s args vs s₁ (.ok f) s'/\s'.os=s.os/\kept s'.heap)/\AllBare s'.gens) (fun _ _=>False) s₁:=
 a10 (of (wpAny_nsGet hm (by
  rw [h1];refine a10 (c10 walk (fun v s' q=>m10 ?_) ide);obtain ⟨rfl,q1,q2,q3⟩:=q;have O:OldK s₁.heap s'.heap:= .of_keep q1;have z:=GoodWG.laid hsame hwi hi L (r:= .ok (.ret (.bool true))) ⟨.inl ⟨_,_,[],rfl,hr args,ReadsW.bool true,hpost args,fun _=>⟨List.nodup_nil,fun _ hm=>(nomatch hm)⟩⟩,O,q2,q3⟩;exact ⟨_,rfl,⟨z.1,z.2.1,hk _ O⟩,z.2.2⟩)))
theorem N12 {r:OpenRow} {q:Program} {loose:List Str} {Xt:Shared->Bool} {α:Type} {Yf:Shared->α} {Ya:World->α} {d:DefRec} {kwd:List (Str×Expr)} {N:Nat}
  (left:LeftO r.prog q loose Xt Yf Ya N) (hdef:defOf q r.name=some (d,kwd)) (hp:r.prog.theDef r.name=some (d.params,d.body,d.scope)) (hk:kwWritten? d.params.kwonlyargs d.params.kw_defaults=some kwd)
  (hRf: ∀s,Xt s=true->RecFacts r.records s.heap) (hwr:(!r.writes||r.records.isEmpty)=true) (k1:r.wellSaid=true) (ok:(chainsOk q&&opensWell r.prog&&(frees r.toRowW&&r.within.isEmpty))=true) (hb:r.prog.bare) (hw:r.toRowW.promised)
  (hr: ∀args cls,r.claim.raises args cls=false) (hpost: ∀args,r.claim.post args (.bool true) args=true) (call:V11 q loose Yf Ya r.toRowW r.name):r.Holds:=by
 obtain ⟨ok,k5⟩:=Bool.and_eq_true_iff.mp ok;obtain ⟨hch,o1⟩:=Bool.and_eq_true_iff.mp ok;obtain ⟨k5,k6⟩:=Bool.and_eq_true_iff.mp k5;obtain ⟨hsame,hu,ha,hap,hm⟩:=frees_parts k5;have hwi:r.claim.within=[]:=List.isEmpty_iff.mp k6;refine ⟨k1,hw,⟨hb,o1,by show r.makers.map _=[];rw [hm];rfl⟩,hw.witness,fun w=>?_⟩;have lb:=left.behind (XP:=fun _ h=>True/\RecFacts r.records h) (fun s hs=>⟨trivial,hRf s hs⟩) hch w;refine ⟨lb.1,fun s' hs'=>?_⟩;obtain ⟨s₀,hf,hg0,s,hT,hz,hgens,hg,G00,y⟩:=lb.2 s' hs';have RF:=G00.X.2;have G0:Ground q loose [] (fun _ _=>True) w s (s.heap.nsMap mainGlobals) (s.heap.nsMap builtinsNs) s.heap:=⟨G00.T,G00.B,G00.D,G00.TE,G00.TD,G00.W,trivial,G00.cls,G00.has,G00.apart,G00.once,G00.K⟩;refine ⟨s₀,hf,hg0,s,hT,fun n hn=>?_,RF.1,RF.2.1,y50 hz (Array.eq_empty_of_size_eq_zero (beq_iff_eq.mp hgens)) fun args hpre hlay ord hord=>?_⟩
 ·have hn:n=r.name:=by
   cases hc:r.pinned with
   | true=>rw [hc] at hn;exact List.mem_singleton.mp hn
   | false=>rw [hc] at hn;exact absurd hn List.not_mem_nil
  subst hn;exact pinned_of_view hg G0 hdef hp hk
 have hg':s.gens= #[]:=Array.eq_empty_of_size_eq_zero (beq_iff_eq.mp hgens);obtain ⟨⟨vs,s₁⟩,hl⟩:=Option.isSome_iff_exists.mp (layAllW_isSome (P:=w.params) (ord:=ord) (RF.ground G0).has args r.args s (pre_splitW hpre).1);have keeps:=layAllW_keeps _ _ _ hl;have hal:=layAllW_rest _ _ _ hl;obtain ⟨as,hrd,hin,hold⟩:=reads_layAllW hord _ _ _ hl hlay s₁.heap (fun _ _ e=>e);have L:Laid r.records w s s₁ args vs as:=⟨⟨ord,hord,hl⟩,hrd,hin,hold,keeps,hal.1.trans hg',hal.2.2.1⟩;have G₁:=(RF.ground G0).keeps (fun _ _ _ x _=>x) keeps;obtain ⟨a,_,_,_,_,_,_,h1,_⟩:=G₁.fn hdef;exact ⟨vs,s₁,hl,z50 (c:=r.claim) hsame hwi (ident_freeW (r:=r.toRowW) hu ha hap) L G₁.T.g h1 hr hpost (kept:=fun h'=>r.writes=true->namesKept r.prog r.keeps s.heap h'/\ ∀x∈r.records,∀a,classAt s.heap x.1=some a->recordClass h' a x.1 (x.2.map (·.1))=true) (fun h O=>fun y=>⟨namesKept_of (s':={s with heap:=h}) hT hg r.keeps keeps O.old,noTable hwr y⟩) (call w s s₁ _ _ G₁ y (.ref a) h1 args vs as L hpre)⟩
end Mine
namespace Mine
open PySem.Spec
theorem i40 {R:WRecords} {P:Params} {h:Heap} {vs:List Value} {xs:List WData} (W:WellAll P h vs xs) (e:WShape.hasItems R xs .int=true): ∃ns:List Int,ns.length=xs.length/\vs.map ab=ns.map .int:=by
 induction xs generalizing vs with
 | nil=>cases W;exact ⟨[],rfl,rfl⟩
 | cons x xs ih=>
  have e':(WShape.has R x .int&&WShape.hasItems R xs .int)=true:=e;rw [z0] at e';cases W with
  | cons w ws=>
   obtain ⟨ns,h1,h2⟩:=ih ws e'.2;cases w with
   | int i t=>exact ⟨i::ns,congrArg (·+1) h1,congrArg (AV.int i:: ·) h2⟩
   | _=>exact absurd e'.1 Bool.false_ne_true
theorem j40 {R:WRecords} {P:Params} {h:Heap} {vals:List Value} {args:List WData} (W:WellAll P h vals args) (hs:WShape.hasAll R args [.list .int]=true): ∃(m:Nat) (vs:List Value) (xs:List WData) (ns:List Int),vals=[.ref m]/\args=[.list xs]/\h.get? m=some {cls:= .type "list",data:= .seq vs.toArray}/\ns.length=xs.length/\vs.map ab=ns.map .int:=by
 obtain ⟨d,r,rfl,h1,h2⟩:=hasAllW_cons hs;obtain rfl:=hasAllW_nil h2;cases W with
 | cons w ws=>
  cases ws;cases w with
  | list e ws=>
   obtain ⟨ns,q1,q2⟩:=i40 (R:=R) ws ((Bool.or_false _).symm.trans h1);exact ⟨_,_,_,ns,rfl,rfl,e,q1,q2⟩
  | _=>exact absurd h1 Bool.false_ne_true
theorem k40 {R:WRecords} {n:Nat} {xs:List WData} (h:(WTm.and (.not (.lt (.lit (.int n)) (.len (.arg 0)))) (.lit (.bool true))).holds R {args:=[.list xs]}=true):xs.length<=n:=by
 by_cases q:xs.length<=n
 ·exact q
 ·exfalso;have e:(WTm.and (.not (.lt (.lit (.int n)) (.len (.arg 0)))) (.lit (.bool true))).holds R {args:=[.list xs]}=!(decide ((n:Int)<(xs.length:Int))):=by
   have e0:(WTm.and (.not (.lt (.lit (.int n)) (.len (.arg 0)))) (.lit (.bool true))).value R {args:=[.list xs]}=some (.bool (!(decide ((n:Int)<(xs.length:Int))))):=by
    simp only [WTm.value,List.getElem?_cons_zero,PySem.W.less?,PySem.W.Num.less?,Option.map_some];cases decide ((n:Int)<(xs.length:Int))<;>rfl
   unfold WTm.holds;rw [e0];cases decide ((n:Int)<(xs.length:Int))<;>rfl
  rw [e,decide_eq_true (by exact fk s!"hjABoSwBwA" [] [_,_] rfl q)] at h;cases h
theorem g36 {R:WRecords} {as bs:List WData}:(WShape.has R (.bool true) .bool&&(WTm.eq .res (.lit (.bool true))).holds R {args:=as,res:=some (.bool true),after:=bs})=true:=by
 have e1:WShape.has R (.bool true) .bool=true:=rfl;have e2:(WTm.eq .res (.lit (.bool true))).value R {args:=as,res:=some (.bool true),after:=bs}=some (.bool true):=by simp [WTm.value,PySem.W.same]
 unfold WTm.holds;rw [e1,e2];rfl
section
variable {X:Cx} {own:Nat->Option Nat} {fs:List (Nat×NS)} {σh:Nat->Option W0} {s:Shared}
set_option tactic.hygienic true in
theorem Z0.adopt (R:Z0 X own fs σh s) {a:Nat} {o:W0} (ho:own a=none) (hy: ∃y,s.heap.get? a=some y) (hf:X.h₀.get? a=none) (H: ∀own',own' a=some a->Holds X own' s.heap a o) (ng:NoG o:=by exact trivial):
  ∃own',Z0 X own' fs (upd σh a o) s/\ ∀q,q≠a->own' q=own q:=by
 let own':Nat->Option Nat:=fun q=>if q=a then some a else own q
 have ne: ∀q x,own q=some x->q≠a:=fun q x e h=>by rw [h,ho] at e;cases e
 have old: ∀q x,own q=some x->own' q=some x:=fun q x e=>(if_neg (ne q x e)).trans e;refine ⟨own',⟨R.base,fun b x e=>?_,fun p hp=>?_,R.nodup,fun q x e=>?_,R.os,R.bare.less fun b x e=>by (unfold upd at e;split at e;(cases e;exact .inl ng);exact .inr e)⟩,fun q hq=>if_neg hq⟩
 ·unfold upd at e
  split at e
  ·rename_i hb;subst hb;cases e;exact ⟨if_pos rfl,H own' (if_pos rfl)⟩
  ·obtain ⟨h2,h3⟩:=R.objs b x e;exact ⟨old _ _ h2,h3.move h2 (fun _ _ _ e=>e) fun q hq=>old _ _ hq⟩
 ·obtain ⟨h1,h2,h4⟩:=R.frs p hp;exact ⟨old _ _ h1,(c11 _ _ (ne _ _ h1)).trans h2,h4⟩
 ·by_cases hq:q=a
  ·subst hq;exact ⟨hy,hf⟩
  ·exact R.owned q x ((if_neg hq).symm.trans e)
theorem Z0.S13 (R:Z0 X own fs σh s) {L:Nat} {l:NS} (ho:own L=none) (hf:X.h₀.get? L=none) (H:NsA s.heap L l):
  ∃own',Z0 X own' ((L,l)::fs) σh s/\ ∀q,q≠L->own' q=own q:=by
 let own':Nat->Option Nat:=fun q=>if q=L then some L else own q
 have ne: ∀q x,own q=some x->q≠L:=fun q x e h=>by rw [h,ho] at e;cases e
 have old: ∀q x,own q=some x->own' q=some x:=fun q x e=>(if_neg (ne q x e)).trans e;refine ⟨own',⟨R.base,fun b x e=>?_,fun p hp=>?_,?_,fun q x e=>?_,R.os,R.bare⟩,fun q hq=>if_neg hq⟩
 ·obtain ⟨h2,h3⟩:=R.objs b x e;exact ⟨old _ _ h2,h3.move h2 (fun _ _ _ e=>e) fun q hq=>old _ _ hq⟩
 ·rcases List.mem_cons.mp hp with rfl | hp
  ·refine ⟨if_pos rfl,?_,H⟩;cases q:σh L with
   | none=>rfl
   | some o=>exact absurd rfl (ne _ _ (R.objs L o q).1)
  ·obtain ⟨h1,h2,h4⟩:=R.frs p hp;exact ⟨old _ _ h1,h2,h4⟩
 ·rw [v5,List.nodup_cons];refine ⟨fun hm=>?_,R.nodup⟩;obtain ⟨p,hp,e⟩:=List.mem_map.mp hm;exact ne _ _ (R.frs p hp).1 e
 ·by_cases hq:q=L
  ·subst hq;obtain ⟨m,⟨o,_,_,ho,_⟩,_⟩:=H;exact ⟨⟨o,ho⟩,hf⟩
  ·exact R.owned q x ((if_neg hq).symm.trans e)
end
section
variable {Z:Bool} {prog:Program} {w:World} {A:Around} {s:Shared} {R:Result->Shared->Prop}
theorem l16 {a:Addr} {o:Obj} {fd:FuncData} {body:List Stmt} {args:Args} {binds:List (Str×Value)}
  (hroom:A.depth<recursionLimit) (ho:s.heap.get? a=some o) (hdata:o.data= .func fd) (hlim:s.heap.NoLimit) (hcd:s.heap.CodeRec fd.code fd.qualname)
  (hbody:fd.body= .stmts body) (hbind:BindsTo s fd args binds) (hclo:fd.closure=[])
  (hkind: ∀x∈binds,fd.scope.names.lookup x.1=some .local\/(fd.scope.names.lookup x.1=some .cell/\((cellsFrom (s.heap.objs.size+1) fd.scope.names []).lookup x.1).isSome=true))
  (h: ∀s₁,InCallC s (callEnvC fd s.heap.objs.size a).locals (bindL (callEnvC fd s.heap.objs.size a).kindOf binds fun _=>none) (callEnvC fd s.heap.objs.size a).cells (bindC (callEnvC fd s.heap.objs.size a).kindOf binds fun _=>none) s₁->
   wpZ Z (model prog w) (A.deeper (callEnvC fd s.heap.objs.size a)) (execs body (callEnvC fd s.heap.objs.size a)) (fun f s'=>R (.ok (.ret (match f with | .ret v=>v | _=> .none))) s')
    (fun e s'=>wpAny (model prog w) (A.deeper (callEnvC fd s.heap.objs.size a)) (leaving (callEnvC fd s.heap.objs.size a) e) (fun _ s''=>R (.error e) s'') (fun e' s''=>R (.error e') s'') s') s₁)
  (hco:fd.scope.isCoroutine=false) (hgen:fd.scope.isGenerator=false) (hk:fd.scope.kind= .function):K1 Z (model prog w) A (.call (.ref a) args) R s:=by
 refine j11 rfl ?_;show wpZ _ _ A.in1 (load a>>=_) _ _ s;refine a10 (of (wpAny_load ho ?_));obtain ⟨c,oc,vs,tq,hc,hoc,hdc,hq⟩:=hcd;dsimp only;rw [hdata];dsimp only;unfold callFunction;rw [hco,hgen,hbody,hc];dsimp only;refine a10 (m:=field (.ref c) 1) (of (wpAny_field hoc hdc hq (a10 (m10 ?_))));rw [<-hc,hclo];refine a10 (of (hbind _ _ _ _ (a10 (of (wpAny_newFunctionEnv_cells hk hkind fun env he s' x=>?_)))));subst he;exact a10 (of (wpAny_enterFrame (hlim.keeps x.toInCall.keep) hroom (m10 (And.intro rfl (c19 (h s' x))))))
end
noncomputable def J1:Nat->List (Nat×NameKind)->List (Nat×Nat)->List (Nat×Nat)
 | _,[],acc=>acc
 | n,p::r,acc=>if p.2== .cell then J1 (n+1) r ((p.1,n)::acc) else J1 n r acc
theorem g27: ∀(ks:List (Nat×NameKind)) (n:Nat) (acc:List (Nat×Nat)),cellsFrom n (ks.map fun p=>(N p.1,p.2)) (acc.map fun p=>(N p.1,p.2))=(J1 n ks acc).map fun p=>(N p.1,p.2):=by
 intro ks
 induction ks with
 | nil=>exact fun _ _=>rfl
 | cons p r ih=>
  intro n acc;show (if p.2== .cell then cellsFrom (n+1) (r.map fun p=>(N p.1,p.2)) ((N p.1,n)::acc.map fun p=>(N p.1,p.2)) else cellsFrom n (r.map fun p=>(N p.1,p.2)) (acc.map fun p=>(N p.1,p.2)))=(if p.2== .cell then J1 (n+1) r ((p.1,n)::acc) else J1 n r acc).map fun p=>(N p.1,p.2);by_cases h:(p.2== .cell)=true
  ·rw [if_pos h,if_pos h];exact ih (n+1) ((p.1,n)::acc)
  ·rw [if_neg h,if_neg h];exact ih n acc
noncomputable def M5 (cv:Nat->Option AV):List (Nat×Nat)->(Nat->Option W0)->Nat->Option W0
 | [],H=>H
 | p::r,H=>upd (M5 cv r H) p.2 (.cell (cv p.1))
theorem Z0.cells {X:Cx} {fs:List (Nat×NS)} {σh:Nat->Option W0} {s:Shared} {cv:Nat->Option AV}: ∀(cl:List (Nat×Nat)) {own:Nat->Option Nat},Z0 X own fs σh s->(cl.map (·.2)).Nodup->
  (∀p∈cl,own p.2=none/\X.h₀.get? p.2=none/\ ∃V,s.heap.IsCell p.2 V/\V.map ab=cv p.1)-> ∃own',Z0 X own' fs (M5 cv cl σh) s/\ ∀q,q∉cl.map (·.2)->own' q=own q:=by
 intro cl
 induction cl with
 | nil=>exact fun {own} R _ _=>⟨own,R,fun _ _=>rfl⟩
 | cons p r ih=>
  intro own R hd h;rw [v5,List.nodup_cons] at hd;obtain ⟨own1,R1,k1⟩:=ih R hd.2 fun q hq=>h q (.tail _ hq);obtain ⟨h1,h2,V,h3,h4⟩:=h p (.head _);obtain ⟨own2,R2,k2⟩:=R1.adopt (a:=p.2) (o:= .cell (cv p.1)) ((k1 _ hd.1).trans h1) (by obtain ⟨o,ho,_⟩:=h3;exact ⟨o,ho⟩) h2 fun _ _=>⟨V,h3,h4⟩;refine ⟨own2,R2,fun q hq=>?_⟩;rw [v5,List.mem_cons,not_or] at hq;exact (k2 q hq.1).trans (k1 q hq.2)
structure FnC (X:Cx) (f:Nat) (fd:FuncData) (ks:List (Nat×NameKind)) (body:List Stmt):Prop where
 at_: ∃o,X.h₀.get? f=some o/\o.data= .func fd
 code:X.h₀.CodeRec fd.code fd.qualname
 body:fd.body= .stmts body
 gl:fd.globals=mainGlobals
 bi:fd.builtins=builtinsNs
 clo:fd.closure=[]
 kind:fd.scope.kind= .function
 co:fd.scope.isCoroutine=false
 gen:fd.scope.isGenerator=false
 names:fd.scope.names=ks.map fun p=>(N p.1,p.2)
 dist:(ks.map (·.1)).Nodup
def J8 (X:Cx) (fd:FuncData) (as:List AV) (kw:List (Str×AV)) (l:NS) (cv:Nat->Option AV):Prop:= ∀vs kws s,vs.map ab=as->kws.map (fun p=>(p.1,ab p.2))=kw->X.K.In s.heap->
 ∃binds,BindsTo s fd ⟨vs,kws⟩ binds/\(∀x∈binds,fd.scope.names.lookup x.1=some .local\/(fd.scope.names.lookup x.1=some .cell/\ ∀n,((cellsFrom n fd.scope.names []).lookup x.1).isSome=true))/\
  (∀y v,l.lookup y=some v-> ∃V,bindL (fun x=>fd.scope.names.lookup x) binds (fun _=>none) (N y)=some V/\ab V=v)/\(∀y,(bindC (fun x=>fd.scope.names.lookup x) binds (fun _=>none) (N y)).map ab=cv y)
theorem h36: ∀(ks:List (Nat×NameKind)) (n:Nat) (acc:List (Nat×Nat)) (p:Nat×Nat),p∈J1 n ks acc->p∈acc\/n<=p.2:=by
 intro ks
 induction ks with
 | nil=>exact fun _ _ _ h=> .inl h
 | cons q r ih=>
  intro n acc p h;have h:p∈(if q.2== .cell then J1 (n+1) r ((q.1,n)::acc) else J1 n r acc):=h;by_cases c:(q.2== .cell)=true
  ·rw [if_pos c] at h;rcases ih _ _ _ h with h | h
   ·rcases List.mem_cons.mp h with rfl | h
    ·exact .inr (Nat.le_refl _)
    ·exact .inl h
   ·exact .inr (Nat.le_of_succ_le h)
  ·rw [if_neg c] at h;exact ih _ _ _ h
theorem t19 {α:Type} {l:List (Nat×α)} (hn:(l.map (·.1)).Nodup) {p:Nat×α} (hp:p∈l):l.lookup p.1=some p.2:=by
 induction l with
 | nil=>cases hp
 | cons q r ih=>
  obtain ⟨y,w⟩:=q;rw [v5,List.nodup_cons] at hn;rcases List.mem_cons.mp hp with rfl | hp
  ·exact l11 _ _ _
  ·refine (x12 _ _ fun z=>hn.1 (List.mem_map.mpr ⟨p,hp,z⟩)).trans (ih hn.2 hp)
theorem h27: ∀(ks:List (Nat×NameKind)) (n:Nat) (acc:List (Nat×Nat)),(ks.map (·.1)).Nodup->(acc.map (·.1)).Nodup->(∀p∈acc,p.1∉ks.map (·.1))->((J1 n ks acc).map (·.1)).Nodup:=by
 intro ks
 induction ks with
 | nil=>exact fun _ _ _ h _=>h
 | cons q r ih=>
  intro n acc h1 h2 h3;rw [v5,List.nodup_cons] at h1;show ((if q.2== .cell then J1 (n+1) r ((q.1,n)::acc) else J1 n r acc).map (·.1)).Nodup;by_cases c:(q.2== .cell)=true
  ·rw [if_pos c];refine ih _ _ h1.2 ?_ fun p hp=>?_
   ·rw [v5,List.nodup_cons];refine ⟨fun hm=>?_,h2⟩;obtain ⟨p,hp,e⟩:=List.mem_map.mp hm;exact h3 p hp (by rw [e];exact .head _)
   ·rcases List.mem_cons.mp hp with rfl | hp
    ·exact h1.1
    ·exact fun z=>h3 p hp (.tail _ z)
  ·rw [if_neg c];exact ih _ _ h1.2 h2 fun p hp z=>h3 p hp (.tail _ z)
noncomputable def W9 (K:Frag) (f:Nat) (ks:List (Nat×NameKind)):Bool:=(T11 K f).any fun fd=>codeIn K fd.code fd.qualname&&fd.globals==mainGlobals&&fd.builtins==builtinsNs&&fd.closure==[]&&fd.scope.kind== .function&&!fd.scope.isCoroutine&&!fd.scope.isGenerator&&(fd.scope.names==ks.map fun p=>(N p.1,p.2))&&Q7 fd.body&&X3 (ks.map (·.1))
theorem FnC.of {X:Cx} {f:Nat} {ks:List (Nat×NameKind)} (h:W9 X.K f ks=true):FnC X f (fdK X.K f) ks (Z2 X.K f):=by
 obtain ⟨fd,e,h⟩:=(Option.any_eq_true _ _).mp h;have e':fdK X.K f=fd:=by unfold fdK;rw [e];rfl
 obtain ⟨o,ho,hf⟩:=Option.bind_eq_some_iff.mp e;simp only [z0,Bool.not_eq_true',beq_iff_eq] at h;obtain ⟨⟨⟨⟨⟨⟨⟨⟨⟨h1,h2⟩,h3⟩,h4⟩,h5⟩,h6⟩,h7⟩,h8⟩,h9⟩,h10⟩:=h;unfold Z2;rw [e'];exact ⟨⟨o,X.inK _ _ ho,j34 hf⟩,codeRec_of X.inK h1,k23 h9,h2,h3,h4,h5,h6,h7,h8,r11 h10⟩
section
variable {X:Cx} {c:Cf} {σ:St} {E:Nat->St->Prop} {Q:AV->St->Prop}
theorem i36 {q:Nat} {x l z:Int} (e:σ.h q=some (.rangeIter x l z)) (h:Q (.ref q) σ):Z1 X c (.ref q) Q E σ:=fun V hV A s g R=>by
 refine of ?_;obtain rfl:=t10 hV;walk_at "o";exact wpAny_pyIter_rangeiter (R.objs _ _ e).2 ⟨σ,⟨own,R⟩,h⟩
end
section
variable {X:Cx} {c:Cf} {P:PT} {K:KT} {H:Nat->Option W0} {L:NS} {vs:List AV} {r:List Tr} {a:AV}
theorem l40 {H:Nat->Option W0} {a b:Nat} {x y u:W0} (h:a≠b):upd (upd (upd H a x) b y) a u=upd (upd H a u) b y:=by
 funext k;unfold upd;by_cases h1:k=a
 ·subst h1;rw [if_pos rfl,if_neg h,if_pos rfl]
 ·rw [if_neg h1];by_cases h2:k=b
  ·rw [if_pos h2,if_pos h2]
  ·rw [if_neg h2,if_neg h2,if_neg h1,if_neg h1]
theorem j15 {cks:List (Nat×NameKind)} {q v N:Nat} {hi:Int} {e:List Tr} {p:Nat->AV->Prop} (hq:H q=some (.range 0 hi 1)) (hs:Builtin.Range.small 0 hi 1=true) (hN:Builtin.Range.rangeSize 0 hi 1=N) (hz:N<=16777216) (hd:c.hd=none)
  (body: ∀(c':Cf) (i:Nat) (H':Nat->Option W0) (L':NS) (K':KT),c'.n=c.n->c'.ks=Z4 c.ks cks->c'.cs=Y4 c.cs cks->c'.hd=c.hd->i<N->(∀b o,H b=some o->H' b=some o)->(∀x σ,p i x->HGe [] σ.h H'->K' [x] σ)->Go (run X c' K' noP e [] ⟨H',(v,.int i)::L'⟩))
  (h: ∀D xs,H D=none->xs.length=N->(∀i x,xs[i]? =some x->p i x)->Go (run X c K P r (.ref D::vs) ⟨upd H D (.list xs),L⟩)):Go (run X c K P (I.Z7 cks [I.st v] [I.push (.bool true)] e::r) (.ref q::vs) (⟨H,L⟩:St)):=by
 refine ⟨?_⟩;show Z1 X c (.ref q) _ (fx P) (⟨H,L⟩:St);refine m20 hq hs fun it hit D hD c' h1 h2 h3 h4=>?_;obtain ⟨n1,n2⟩:=l10 hD;have n2:H D=none:=n2;have hit:H it=none:=hit;have ne:it≠D:=Ne.symm n1.ne;rw [hN];have key:I.X8 X c' [I.st v] [I.push (.bool true)] e (.ref it) D (fun σ'=>run X c K P r (.ref D::vs) ⟨σ'.h,L⟩) ⟨upd (upd H it (.rangeIter 0 N 1)) D (.list []),[]⟩:=by
  refine ⟨fun n σ=> ∃i xs,i+n=N/\xs.length=i/\(∀j x,xs[j]? =some x->p j x)/\σ.h=upd (upd H it (.rangeIter i (N-i:Int) 1)) D (.list xs),N,⟨0,[],by (exact fe (.o 1 (.e (.a (.n 0) (.v 0)) (.v 0))) [] [_] rfl),rfl,(fun j x e=>nomatch e),by simp⟩,fun n σ hJ=>?_⟩;obtain ⟨i,xs,hi,hl,hp,hσ⟩:=hJ;obtain ⟨H',L'⟩:=σ;dsimp only at hσ;subst hσ;refine n20 (x:=i) (b15 ne (i10 _ _ _)) (h4.trans hd) (fun hlt=>?_) (fun hge=>?_)
  ·show run X c' _ noP e [] ⟨upd (upd (upd H it (.rangeIter i (N-i:Int) 1)) D (.list xs)) it (.rangeIter (i+1:Int) (N-i-1:Int) 1),(v,.int i)::L'⟩;rw [l40 ne];have e1:(N-i-1:Int)=N-((i+1:Nat):Int):=by (exact fe (.o 1 (.E (.m (.m (.w (.v 0)) (.w (.v 1))) (.n 1)) (.m (.w (.v 0)) (.w (.a (.v 1) (.n 1)))))) [] [_,_] rfl)
   rw [e1];refine (body c' i _ L' _ h1 h2 h3 h4 (by exact fk s!"hSn0mwAwBoyBA" [] [_,_] rfl hlt) (fun b o hb=>?_) fun x σ hx hge=>?_).out
   ·exact (c11 _ _ (fun z=>by rw [z,n2] at hb;cases hb)).trans ((c11 _ _ (fun z=>by rw [z,hit] at hb;cases hb)).trans hb)
   ·refine ⟨xs,hge D _ List.not_mem_nil (i10 _ _ _),by (exact fk s!"hxAn16777216hzBChSn0mwAwCoxBn16777216" [] [_,_,_] rfl hz hl hlt),n-1,by (exact fk s!"hzaAn1BoyAB" [] [_,_] rfl (n0 (fk s!"h-zaABChSn0mwCwAoxn1B" [] [_,_,_] rfl hi hlt))),⟨upd (upd H it (.rangeIter ((i+1:Nat):Int) (N-((i+1:Nat):Int)) 1)) D (.list (xs++[x])),[]⟩,⟨fun b o hb=>?_,fun y w z=>nomatch z⟩,i+1,xs++[x],by (exact fe (.h 1 (.e (.a (.v 0) (.v 1)) (.v 2)) <| .h 1 (.e (.a (.v 3) (.n 1)) (.v 1)) <| .o 1 (.e (.a (.a (.v 0) (.n 1)) (.v 3)) (.v 2))) [] [_,_,_,_] rfl hi (n0 (fk s!"h-zaABChSn0mwCwAoxn1B" [] [_,_,_] rfl hi hlt))),by rw [w6,hl];rfl,fun j y hj=>?_,rfl⟩
    ·dsimp only at hb⊢;by_cases z:b=D
     ·subst z;rw [i10] at hb⊢;exact hb
     ·rw [c11 _ _ z] at hb⊢;exact hge b o List.not_mem_nil ((c11 _ _ z).trans hb)
    ·by_cases z:j<i
     ·rw [List.getElem?_append_left (by omega)] at hj;exact hp j y hj
     ·have z2:j=i:=by
       have:=(List.getElem?_eq_some_iff.mp hj).1;rw [w6,hl] at this;have:j<i+1:=this
       (exact r0 (fk s!"hyAaBn1oxAB" [] [_,_] rfl this) (Nat.le_of_not_lt z))
      subst z2;rw [List.getElem?_append_right (by omega),hl,Nat.sub_self] at hj;cases hj;exact hx
  ·have:i=N:=by (exact r0 (fk s!"hzaABCoxAC" [] [_,_,_] rfl hi) (fk s!"hLmwAwBn0oxAB" [] [_,_] rfl hge))
   subst this;dsimp only;rw [s35 ne hit];exact (h D xs n2 hl hp).out
 exact ⟨key,i36 (b15 ne (i10 _ _ _)) key⟩
theorem c29 {xs:List AV} {p:Int->Prop} (h: ∀(i:Nat) x,xs[i]? =some x-> ∃n,x= .int n/\p n): ∃ns:List Int,xs=ns.map .int/\ ∀n∈ns,p n:=by
 induction xs with
 | nil=>exact ⟨[],rfl,fun _ z=>nomatch z⟩
 | cons x r ih=>
  obtain ⟨n,e1,e2⟩:=h 0 x rfl;obtain ⟨ns,e3,e4⟩:=ih fun i y hy=>h (i+1) y hy;exact ⟨n::ns,by rw [e1,e3];rfl,fun m hm=>(List.mem_cons.mp hm).elim (fun z=>z▸e2) (e4 m)⟩
end
theorem x18 {x:Str}: ∀(names:List (Str×NameKind)) (n:Nat) (acc:List (Str×Addr)),(acc.lookup x).isSome=true->((cellsFrom n names acc).lookup x).isSome=true:=by
 intro names
 induction names with
 | nil=>exact fun _ _ h=>h
 | cons p r ih=>
  intro n acc h;show ((if p.2== .cell then cellsFrom (n+1) r ((p.1,n)::acc) else cellsFrom n r acc).lookup x).isSome=true;by_cases q:(p.2== .cell)=true
  ·rw [if_pos q];refine ih _ _ ?_;rw [List.lookup_cons];by_cases z:(x==p.1)=true
   ·rw [z];rfl
   ·rw [Bool.eq_false_iff.mpr z];exact h
  ·rw [if_neg q];exact ih _ _ h
theorem y18 {x:Str}: ∀(names:List (Str×NameKind)) (n:Nat) (acc:List (Str×Addr)),names.lookup x=some .cell->((cellsFrom n names acc).lookup x).isSome=true:=by
 intro names
 induction names with
 | nil=>exact fun _ _ h=>nomatch h
 | cons p r ih=>
  intro n acc h;obtain ⟨y,k⟩:=p;show ((if k== .cell then cellsFrom (n+1) r ((y,n)::acc) else cellsFrom n r acc).lookup x).isSome=true;rw [List.lookup_cons] at h;by_cases z:(x==y)=true
  ·rw [z] at h;cases h;rw [if_pos (by rfl)];refine x18 _ _ _ ?_;rw [List.lookup_cons,z];rfl
  ·rw [Bool.eq_false_iff.mpr z] at h;by_cases q:(k== .cell)=true
   ·rw [if_pos q];exact ih _ _ h
   ·rw [if_neg q];exact ih _ _ h
theorem M11 {X:Cx} {K:Frag} {f x:Nat} {a:AV} (hX:X.K=K) (h: ∀S v,peek K S (bindArgs (fdK K f) ⟨[v],[]⟩)=some [(N x,v)]) (hc:(fdK K f).scope.names.lookup (N x)=some .cell):J8 X (fdK X.K f) [a] [] [] (fun y=>if y=x then some a else none):=fun vs ks s hv hk hK=>by
 rw [hX] at hK⊢;obtain ⟨v,r,rfl,hv1,hv2⟩:=map_cons hv;obtain rfl:=v10 hv2;obtain rfl:=v10 hk;refine ⟨[(N x,v)],kp_binds hK fun S=>h S v,fun y hy=>?_,(fun y w e=>nomatch e),fun y=>?_⟩
 ·obtain rfl:=List.mem_singleton.mp hy;exact .inr ⟨hc,fun n=>y18 _ _ _ hc⟩
 ·show ((if (fdK K f).scope.names.lookup (N x)=some .local then fun _=>none else fun y=>if y=N x then some v else none) (N y)).map ab=_;rw [hc,if_neg (by decide)];by_cases z:y=x
  ·subst z;dsimp only;rw [if_pos rfl,if_pos rfl,Option.map_some,hv1]
  ·dsimp only;rw [if_neg z,if_neg (fun q=>z (o14 q))];rfl
theorem Z0.callC {X:Cx} {own:Nat->Option Nat} {fs:List (Nat×NS)} {σh:Nat->Option W0} {s s₁:Shared} {f:Nat} {fd:FuncData} {ks:List (Nat×NameKind)} {body:List Stmt} {l:NS} {cv:Nat->Option AV} {binds:List (Str×Value)} (F:FnC X f fd ks body) (R:Z0 X own fs σh s)
  (x:InCallC s (callEnvC fd s.heap.objs.size f).locals (bindL (callEnvC fd s.heap.objs.size f).kindOf binds fun _=>none) (callEnvC fd s.heap.objs.size f).cells (bindC (callEnvC fd s.heap.objs.size f).kindOf binds fun _=>none) s₁)
  (hl: ∀y v,l.lookup y=some v-> ∃V,bindL (fun x=>fd.scope.names.lookup x) binds (fun _=>none) (N y)=some V/\ab V=v) (hcv: ∀y,(bindC (fun x=>fd.scope.names.lookup x) binds (fun _=>none) (N y)).map ab=cv y):
  (∀p∈J1 (s.heap.objs.size+1) ks [],σh p.2=none)/\((J1 (s.heap.objs.size+1) ks []).map (·.2)).Nodup/\(∀y a,(J1 (s.heap.objs.size+1) ks []).lookup y=some a->(callEnvC fd s.heap.objs.size f).cells.lookup (N y)=some a)/\
   ∃own',Z0 X own' ((s.heap.objs.size,l)::fs) (M5 cv (J1 (s.heap.objs.size+1) ks []) σh) s₁:=by
 obtain ⟨h₁,tk,rfl⟩:=x.toInCall.same;have hcl:(callEnvC fd s.heap.objs.size f).cells=(J1 (s.heap.objs.size+1) ks []).map fun p=>(N p.1,p.2):=by
  show cellsFrom (s.heap.objs.size+1) fd.scope.names []=_;rw [F.names];exact g27 ks _ []
 have hlk: ∀p∈J1 (s.heap.objs.size+1) ks [],(callEnvC fd s.heap.objs.size f).cells.lookup (N p.1)=some p.2:=fun p hp=>by
  rw [hcl,n13];exact t19 (h27 ks _ [] F.dist List.nodup_nil fun _ z=>nomatch z) hp
 have hge: ∀p∈J1 (s.heap.objs.size+1) ks [],s.heap.objs.size<p.2:=fun p hp=>(h36 _ _ _ _ hp).elim (fun z=>nomatch z) id;have hfr: ∀q,s.heap.objs.size<=q->s.heap.get? q=none:=fun q hq=>l6 hq;have hnd:((J1 (s.heap.objs.size+1) ks []).map (·.2)).Nodup:=by
  have:=x.apart;rw [hcl,List.pairwise_map] at this;rw [List.nodup_iff_pairwise_ne,List.pairwise_map];exact this
 have R0:=R.keeps (h':=h₁) (tk:=tk) (d:=s.drawn) (g:=s.gens) x.toInCall.keep R.bare;obtain ⟨own1,R1,k1⟩:=R0.S13 (L:=s.heap.objs.size) (l:=l) (R.fresh (hfr _ (Nat.le_refl _))).2.1 (R.fresh (hfr _ (Nat.le_refl _))).2.2 ⟨_,x.toInCall.ns,fun y v hy=>hl y v hy⟩;obtain ⟨own2,R2,_⟩:=R1.cells (cv:=cv) (J1 (s.heap.objs.size+1) ks []) hnd fun p hp=>by
  have hn:=hfr p.2 (Nat.le_of_lt (hge p hp));exact ⟨(k1 _ (Nat.ne_of_gt (hge p hp))).trans (R.fresh hn).2.1,(R.fresh hn).2.2,_,x.cell _ _ (hlk p hp),hcv p.1⟩
 exact ⟨fun p hp=>(R.fresh (hfr p.2 (Nat.le_of_lt (hge p hp)))).1,hnd,fun y a e=>by rw [hcl,n13];exact e,own2,R2⟩
theorem j36 {X:Cx} {f n:Nat} {fd:FuncData} {ks:List (Nat×NameKind)} {G:List (Nat×AV)} {body:List Stmt} {code:List Tr} {as:List AV} {l:NS} {cv:Nat->Option AV} {Q:AV->Prop} (F:FnC X f fd ks body) (hG: ∀k v,G.lookup k=some v->Glo X k v)
  (hc:J5 ks G body=code) (hb:J8 X fd as [] l cv) (h: ∀(c':Cf) (m:Nat),c'.n=n->c'.hd=none->c'.ks=ks->c'.cs=J1 m ks []->((J1 m ks []).map (·.2)).Nodup->Go (run X c' (G13 (fun v _=>Q v) []) (P14 (fun v _=>Q v) (fun _ _=>False) []) code [] ⟨M5 cv (J1 m ks []) fun _=>none,l⟩))
  {A:Around} (a1:A.frames=some []) (a2:A.depth+20*(n+1)<=980) (a3:A.units+200*(n+1)<=9700) (a4:A.handled=none) {vs:List Value} (hvs:vs.map ab=as) {own:Nat->Option Nat} {s:Shared} (R:Z0 X own [] (fun _=>none) s):
  K1 X.Z X.M A (.call (.ref f) ⟨vs,[]⟩) (fun r s'=>match r with | .ok (.ret v)=>Q (ab v)/\ ∃own H,Z0 X own [] H s' | _=>False) s:=by
 subst hc;obtain ⟨binds,hbi,hkd,hl,hcv⟩:=hb vs [] s hvs rfl fun a o e=>R.base _ _ (X.inK a o e);obtain ⟨o,ho,hd⟩:=F.at_;refine l16 (by show A.depth<1000;(exact fk s!"hxaAl20aBn1n980oyAn1000" [] [_,_] rfl a2)) (R.base _ _ ho) hd (X.lim.keeps R.base) (F.code.keeps R.base) F.body hbi F.clo (fun x hx=>(hkd x hx).imp id fun q=>⟨q.1,q.2 _⟩) (fun s₁ x=>?_) F.co F.gen F.kind;obtain ⟨_,nd,lk,own',R'⟩:=R.callC F x hl hcv;have g':(⟨n,callEnvC fd s.heap.objs.size f,ks,J1 (s.heap.objs.size+1) ks [],[callEnvC fd s.heap.objs.size f],[],none⟩:Cf).Good (A.deeper (callEnvC fd s.heap.objs.size f)):={
  ok:=⟨F.kind,fun x k e=>by show fd.scope.names.lookup (N x)=_;rw [F.names,z13];exact e,lk,F.gl,F.bi,⟨_,[],rfl,rfl⟩,fun e he=>by
   obtain rfl:=List.mem_singleton.mp he;exact ⟨by show fd.scope.kind≠_;rw [F.kind];decide,_,rfl,.head _⟩⟩
  frames:=by show A.frames.map (_:: ·)=_;rw [a1];rfl
  depth:=by show A.depth+1+20*n<=980;(exact fk s!"hxaAl20aBn1n980oxaaAn1l20Bn980" [] [_,_] rfl a2)
  units:=by show A.units+3+200*n<=9700;(exact fk s!"hxaAl200aBn1n9700oxaaAn3l200Bn9700" [] [_,_] rfl a3)
  hd:=a4}
 have hx:=l14 (L14 hG 20 ⟨n,callEnvC fd s.heap.objs.size f,ks,J1 (s.heap.objs.size+1) ks [],[callEnvC fd s.heap.objs.size f],[],none⟩ rfl) _ _ _ _ _ (h _ (s.heap.objs.size+1) rfl rfl rfl rfl nd).out;refine c10 (hx _ _ g' ⟨own',R'⟩) (fun fl s' hp2=>U0 hp2 fun σ' hp3 q=>hp3.elim fun o2 R2=>?_) (fun V s' hp4=>H9 hp4 fun a σ' e hp5 R2 q=>Y9 hp5 fun C args fs hx=>?_)
 ·cases fl<;>(obtain ⟨_,_,q⟩:=q;exact ⟨q,o2,σ'.h,R2.leave⟩)
 ·obtain ⟨_,_,_,q⟩:=q;exact q.elim
section
variable {X:Cx} {c:Cf} {σ:St} {E:Nat->St->Prop}
theorem d46 {d:Nat} {es:NS} {Q:AV->St->Prop} (e:σ.h d=some (.dictS es)) (hm: ∃o,X.h₀.get? 1=some o) (h: ∀it ep,σ.h it=none->Q (.ref it) {σ with h:=upd (upd σ.h d (.dictK es ep)) it (.keyIter d 0 es.length ep)}):Z1 X c (.ref d) Q E σ:=fun V hV A s g R=>by
 refine of ?_;obtain rfl:=t10 hV;walk_at "o";obtain ⟨kvs,hd,hk⟩:=(R.objs _ _ e).2;obtain ⟨ep,ha⟩:=hd.dictAt;have hl:kvs.length=es.length:=by have:=congrArg List.length hk;simpa using this
 have ne:d≠1:=fun z=>by obtain ⟨o,ho⟩:=hm;rw [<-z,R.free e] at ho;cases ho
 have R1:Z0 X own _ (upd σ.h d (.dictK es ep)) s:=R.update (h':=s.heap) (tk:=s.toks) e (fun _ _ _ e=>e) (fun q hq=>(R.owned q d hq).1) ⟨kvs,ha,hk⟩;obtain ⟨h1,own',R'⟩:=R1.J4 (o:= .keyIter d 0 es.length ep) (tk:=s.toks) (ob:={cls:= .type "dict_keyiterator",data:= .fields #[.ref d,.int 0 0,.int kvs.length 0,.int ep 0]}) rfl fun own'=>⟨_,y3 _ rfl,rfl,by rw [hl];rfl⟩;exact wpAny_pyIter_dict (knd:=strKind X.prog X.w) (beq_eq_false_iff_ne.mpr ne) ha ⟨_,⟨own',R'⟩,h _ ep (y10 h1)⟩
theorem a51 {kvs:List (Str×Value)} {es:NS} (h:kvs.map (fun p=>(p.1,ab p.2))=es.map (fun p=>(N p.1,p.2))) (i:Nat):(kvs[i]?).map (fun p=>(p.1,ab p.2))=(es[i]?).map fun p=>(N p.1,p.2):=by
 have:=congrArg (fun l:List (Str×AV)=>l[i]?) h;simpa using this
theorem e46 {it d i ep:Nat} {es:NS} {Q:Option AV->St->Prop} (e:σ.h it=some (.keyIter d i es.length ep)) (ed:σ.h d=some (.dictK es ep)) (hd:c.hd=none) (h1: ∀k v,es[i]? =some (k,v)->Q (some (.str (N k))) {σ with h:=upd σ.h it (.keyIter d (i+1) es.length ep)})
  (h2:es[i]? =none->Q none {σ with h:=upd (del σ.h it) d (.dictS es)}):W5 X c (.ref it) Q E σ:=fun V hV A s g R=>by
 refine of ?_;obtain rfl:=t10 hV;walk_at "o";have ho:=(R.objs _ _ e).2;obtain ⟨kvs,ha,hk⟩:=(R.objs _ _ ed).2;have hl:kvs.length=es.length:=by have:=congrArg List.length hk;simpa using this
 have hat:=a51 hk i;have ho':s.heap.IsKeyIter it d i kvs.length ep:=by rw [hl];exact ho
 cases hi:es[i]? with
 | some p=>
  obtain ⟨k,v⟩:=p;rw [hi] at hat;obtain ⟨q,hq,eq⟩:=Option.map_eq_some_iff.mp hat;obtain ⟨k',v'⟩:=q;obtain rfl:k'=N k:=(Prod.mk.inj eq).1;refine wpAny_pyNext_dict_item ho' ha hq fun key h' hkey hi' hs=>⟨{σ with h:=upd σ.h it (.keyIter d (i+1) es.length ep)},⟨own,R.update (tk:=s.toks) (o:= .keyIter d (i+1) es.length ep) e (fun b y hb hy=>(hs.2 b fun q=>?_).trans hy) (fun q hq=>?_) (by rw [<-hl];exact hi')⟩,?_⟩
  ·subst q;exact hb (R.objs _ _ e).1
  ·by_cases z:q=it
   ·subst z;obtain ⟨o,ho,_⟩:=hi';exact ⟨o,ho⟩
   ·obtain ⟨y,hy⟩:=(R.owned q it hq).1;exact ⟨y,(hs.2 q z).trans hy⟩
  ·have:ab key= .str (N k):=by
    have hkey:Value.isStrOf (N k) key=true:=hkey;cases key with
    | str x t=>exact congrArg AV.str (by simpa [Value.isStrOf] using hkey)
    | _=>exact absurd hkey (by simp [Value.isStrOf])
   show Q (some (ab key)) _;rw [this];exact h1 _ _ hi
 | none=>
  rw [hi] at hat;have hq:kvs[i]? =none:=Option.map_eq_none_iff.mp hat;refine wpAny_pyNext_dict_end (g.hd.trans hd) ho' ha hq fun h' hx=>?_;obtain ⟨own',R'⟩:=R.drop (tk:=s.toks) e (h':=h') fun b y hb hy=>hx b y (fun q=>by subst q;exact hb (R.objs _ _ e).1) hy;have ne:d≠it:=fun z=>by subst z;rw [e] at ed;cases ed
  have ed':del σ.h it d=some (.dictK es ep):=(if_neg ne).trans ed;obtain ⟨kvs',ha',hk'⟩:=(R'.objs _ _ ed').2;exact ⟨{σ with h:=upd (del σ.h it) d (.dictS es)},⟨own',R'.update (h':=h') (tk:=s.toks) (o:= .dictS es) ed' (fun _ _ _ e=>e) (fun q hq=>(R'.owned q d hq).1) ⟨kvs',ha'.dictOf,hk'⟩⟩,h2 hi⟩
theorem m40 {d ep:Nat} {es:NS} (e:σ.h d=some (.dictK es ep)):O6 X c (.ref d) σ:=⟨"dict",_,b14,fun v s hv hp1=>hp1.elim fun own R=>by
 obtain rfl:=t10 hv;obtain ⟨kvs,hd,_⟩:=(R.objs _ _ e).2;exact hd.dictOf.typeIs⟩
theorem n40 {d k ep:Nat} {es:NS} {v:AV} {Q:AV->St->Prop} (e:σ.h d=some (.dictK es ep)) (hv:es.lookup k=some v) (h:Q v σ):WGI X c (.ref d) (.str (N k)) Q E σ:=fun V W hV hW A s g R=>by
 refine of ?_;obtain rfl:=t10 hV;obtain ⟨t,rfl⟩:=p11 hW;walk_at "o";obtain ⟨kvs,hd,hm⟩:=(R.objs _ _ e).2;have:=q17 (K:=Nat) kvs es hm k;rw [hv] at this;obtain ⟨y,hy,rfl⟩:=Option.map_eq_some_iff.mp this;exact wpAny_getItem_of (knd:=strKind X.prog X.w) (k:=N k) (by simp [PySem.strKind,Value.isStrOf]) hd.dictOf.mapOf hy ⟨σ,⟨own,R.toks _⟩,h⟩
end
section
variable {X:Cx} {c:Cf} {P:PT} {K:KT} {H:Nat->Option W0} {L:NS} {vs:List AV} {r:List Tr} {a:AV}
theorem i27 {p k ep:Nat} {fs:NS} (e:H p=some (.dictK fs ep)) (hx:fs.lookup k=some a) (h:Go (run X c K P r (a::vs) (⟨H,L⟩:St))):Go (run X c K P (I.sub::r) (.str (N k):: .ref p::vs) (⟨H,L⟩:St)):=⟨by have h:=h.out;exact ⟨m40 e,n40 e hx h⟩⟩
theorem e31 {x d:Nat} {es:NS} {b e:List Tr} (hq:H d=some (.dictS es)) (hm: ∃o,X.h₀.get? 1=some o) (hd:c.hd=none) (J:Nat->Nat->Nat->St->Prop) (h0: ∀it ep,H it=none->Up (J it ep 0) ⟨upd (upd H d (.dictK es ep)) it (.keyIter d 0 es.length ep),L⟩) (hit: ∀it ep i σ,J it ep i σ->σ.h it=some (.keyIter d i es.length ep)/\σ.h d=some (.dictK es ep)) (step: ∀it ep i k v H' L',H it=none->es[i]? =some (k,v)->J it ep i ⟨H',L'⟩->Go (run X c (fun _ σ3=> ∃m,m<es.length-i/\Up (LJ (J it ep) es.length m) σ3) (fun o σ3=>match o with | .cont=> ∃m,m<es.length-i/\Up (LJ (J it ep) es.length m) σ3 | .brk=>Up (run X c K P r vs) σ3 | o=>P o σ3) b [] ⟨upd H' it (.keyIter d (i+1) es.length ep),(x,.str (N k))::L'⟩)) (done: ∀it ep H' L',H it=none->J it ep es.length ⟨H',L'⟩->Go (run X c (run X c K P r) P e vs ⟨upd (del H' it) d (.dictS es),L'⟩)):Go (run X c K P (I.W4 [I.st x] b e::r) (.ref d::vs) ⟨H,L⟩):=by
 refine ⟨?_⟩;have step:=fun x0 x1 x2 x3 x4 x5 x6 x7 x8 x9=>(step x0 x1 x2 x3 x4 x5 x6 x7 x8 x9).out;have done:=fun x0 x1 x2 x3 x4 x5=>(done x0 x1 x2 x3 x4 x5).out;show Z1 X c (.ref d) _ (fx P) (⟨H,L⟩:St);refine d46 hq hm fun it ep hn=>⟨LJ (J it ep) es.length,es.length,Up.same (Up.mono (h0 it ep hn) fun σ hσ=>⟨0,Nat.zero_le _,rfl,hσ⟩),fun m σ0 hpz=>?_⟩;obtain ⟨σ,ge,i,hi,hm,hJ⟩:=hpz;obtain ⟨H',L'⟩:=σ;obtain ⟨g1,g2⟩:=hit it ep i _ hJ;refine fun y hy=>WT.down (e46 (c:=c) g1 g2 hd (fun k v hv=>?_) (fun hv=>?_) y hy) ge
 ·subst hm;exact step it ep i k v H' L' hn hv hJ
 ·have:i=es.length:=by have:=List.getElem?_eq_none_iff.mp hv;exact r0 hi this
  subst this;exact done it ep H' L' hn hJ
end
theorem o40 {es:NS} (hn:(es.map (·.1)).Nodup) {i k:Nat} {v:AV} (h:es[i]? =some (k,v)):put (es.take i) k v=es.take (i+1)/\es.lookup k=some v:=by
 induction es generalizing i with
 | nil=>cases h
 | cons p r ih=>
  obtain ⟨y,w⟩:=p;rw [v5,List.nodup_cons] at hn;cases i with
  | zero=>cases h;exact ⟨rfl,l11 _ _ _⟩
  | succ i=>
   have h':r[i]? =some (k,v):=h;obtain ⟨h1,h2⟩:=ih hn.2 h';have ne:k≠y:=fun z=>hn.1 (List.mem_map.mpr ⟨(k,v),List.mem_of_getElem? h',z⟩);refine ⟨?_,(x12 _ _ ne).trans h2⟩;show (if k=y then _ else (y,w)::put (r.take i) k v)=(y,w)::r.take (i+1);rw [if_neg ne,h1]
section
variable {X:Cx} {c:Cf} {σ:St} {E:Nat->St->Prop} {Q:AV->St->Prop} {H:Nat->Option W0} {L:NS}
theorem k21 {K:KT} {P:PT} {r t e:List Tr} {vs:List AV} {x:Bool} (J:List AV->St->Prop) (h1:(∀vs σ,J vs σ->run X c K P r vs σ)->x=true->Go (run X c (run X c K P r) P t vs σ)) (h2:(∀vs σ,J vs σ->run X c K P r vs σ)->x=false->Go (run X c (run X c K P r) P e vs σ))
  (h: ∀vs σ,J vs σ->Go (run X c K P r vs σ)):Go (run X c K P (I.br t e::r) (.bool x::vs) σ):=
 w38 (h1 fun vs σ hv=>(h vs σ hv).out) (h2 fun vs σ hv=>(h vs σ hv).out)
theorem k36 {K:KT} {P:PT} {r t e:List Tr} {vs:List AV} {x:Bool} (J:AV->Prop) (h1:(∀v,J v->run X c K P r (v::vs) σ)->x=true->Go (run X c (run X c K P r) P t vs σ)) (h2:(∀v,J v->run X c K P r (v::vs) σ)->x=false->Go (run X c (run X c K P r) P e vs σ))
  (h: ∀v,J v->Go (run X c K P r (v::vs) σ)):Go (run X c K P (I.br t e::r) (.bool x::vs) σ):=
 w38 (h1 fun v hv=>(h v hv).out) (h2 fun v hv=>(h v hv).out)
theorem k42 {h h':Nat->Option W0} {S:List Nat} (k:HGe [] h h'):HGe S h h':=fun x o _ e=>k x o List.not_mem_nil e
theorem l36 {H':Nat->Option W0} {a:Nat} (g:HGe [] H' H) (h:H' a=none):H a=none:=by
 cases e:H a with
 | none=>rfl
 | some o=>rw [g _ _ List.not_mem_nil e] at h;cases h
end
theorem fm {x k:Int} (h:0<k):0<=x.fmod k/\x.fmod k<k:=⟨Int.fmod_nonneg_of_pos x h,Int.fmod_lt_of_pos x h⟩
section
variable {X:Cx} {c:Cf} {P:PT} {K:KT} {H:Nat->Option W0} {L:NS} {vs:List AV} {r:List Tr}
theorem p40 {H H':Nat->Option W0} {a:Nat} {o:W0} (g:HGe [] H H'):HGe [] (upd H a o) (upd H' a o):=t34 (i10 _ _ _) (s34 (.head _) (k42 g))
def RJ (J:Nat->(Nat->Option W0)->NS->Prop) (N it i:Nat) (σ:St):Prop:= ∃H' L',J i H' L'/\σ=⟨upd H' it (.rangeIter (0+i) (N-i:Int) 1),L'⟩
def X11 (J:Nat->(Nat->Option W0)->NS->Prop) (N it i:Nat) (σ:St):Prop:= ∃m,m<N-i/\Up (LJ (RJ J N it) N m) σ
theorem d29 {J:Nat->(Nat->Option W0)->NS->Prop} {N it i:Nat} {σ:St} {H':Nat->Option W0} {L':NS} (j:J (i+1) H' L') (hi:i<N) (g:HGe [] σ.h (upd H' it (.rangeIter (0+((i+1:Nat):Int)) (N-((i+1:Nat):Int)) 1)):=by walk_at "gp0") (l:LGe σ.loc L':=by walk_at "lp0"):X11 J N it i σ:=l12 hi g l ⟨H',L',j,rfl⟩
set_option tactic.hygienic true in
theorem m24 {x q N:Nat} {hi:Int} {b e:List Tr} {H₀:Nat->Option W0} {L₀:NS} (J:Nat->(Nat->Option W0)->NS->Prop) (hq:H q=some (.range 0 hi 1)) (hN:hi=N) (hz:N<=1000000000) (hd:c.hd=none) (g0:HGe [] H H₀) (l0:LGe L L₀) (h0:J 0 H₀ L₀) (hD: ∀i H' L' a,J i H' L'->H a=none->H' a=none)
  (step: ∀it i H' L',H it=none->H' it=none->i<N->J i H' L'->Go (run X c (fun _ σ=>X11 J N it i σ) (fun o σ=>match o with | .cont=>X11 J N it i σ | .brk=>Up (run X c K P r vs) σ | o=>P o σ) b [] ⟨upd H' it (.rangeIter (0+((i+1:Nat):Int)) (N-((i+1:Nat):Int)) 1),(x,.int i)::L'⟩))
  (done: ∀H' L',J N H' L'->Go (run X c (run X c K P r) P e vs ⟨H',L'⟩)):Go (run X c K P (I.W4 [I.st x] b e::r) (.ref q::vs) ⟨H,L⟩):=by
 subst hN;refine r13 (N:=N) hq ?_ ?_ hd (RJ J N) (fun it hit=>?_) (fun it i σ hJ=>?_) (fun it i H' L' hit hlt hJ=>?_) fun it H' L' hit hJ=>?_
 ·exact small_one (by decide) (by decide) (by exact fk s!"oLgn2^62wA" [] [_] rfl) (by exact fk s!"hxAn1000000000oSwAn2^62" [] [_] rfl hz)
 ·rw [rangeSize_one];split<;>(first | (exact fe (.o 1 (.E (.m (.w (.v 0)) (.n 0)) (.w (.v 0)))) [] [_] rfl) | (rename_i hz0;exact t0 (Int.natCast_nonneg _) (Int.not_lt.mp hz0)))
 ·refine ⟨⟨upd H₀ it (.rangeIter 0 N 1),L₀⟩,⟨fun a o=>p40 g0 a o List.not_mem_nil,l0⟩,H₀,L₀,h0,?_⟩;have e2:(N:Int)-((0:Nat):Int)=N:=by (exact fe (.o 1 (.E (.m (.w (.v 0)) (.w (.n 0))) (.w (.v 0)))) [] [_] rfl)
  rw [e2];rfl
 ·obtain ⟨H',L',_,rfl⟩:=hJ;exact i10 _ _ _
 ·obtain ⟨H2,L2,j,e⟩:=hJ;walk_at "S";rw [y13];have s:=step it i _ _ hit (hD _ _ _ _ j hit) hlt j;rw [Int.zero_add (i:Int)];exact s
 ·obtain ⟨H2,L2,j,e⟩:=hJ;walk_at "S";rw [q11 (hD _ _ _ _ j hit)];exact done _ _ j
theorem e29 {cks:List (Nat×NameKind)} (hc:cks.all (fun p=>p.2 != .free||(c.cs.lookup p.1).isSome)=true) {σ:St} (h:Go (run X c K P r vs σ)):Go (run X c K P (I.cells cks::r) vs σ):=by
 refine ⟨⟨fun p hp hf=>?_,h.out⟩⟩;have:=List.all_eq_true.mp hc p hp;rw [hf] at this;exact Option.isSome_iff_exists.mp this
theorem n24 {p:Prop} [Decidable p] {x:Bool} {u v:Int} {σ:St} (hx:x=decide p) (h:Go (run X c K P r (.int (if p then u else v)::vs) σ)):Go (run X c K P (I.br [I.push (.int u)] [I.push (.int v)]::r) (.bool x::vs) σ):=by
 subst hx;by_cases q:p
 ·rw [if_pos q] at h;exact c30 (decide_eq_true q) (r23 (z10 h.out))
 ·rw [if_neg q] at h;exact d30 (decide_eq_false q) (r23 (z10 h.out))
theorem f29 {l:Nat} {xs:List AV} (e:See X ⟨H,L⟩ l (.list xs)) (hz:xs.length<=1099511627776) (h:Go (run X c K P r (.int xs.length::vs) (⟨H,L⟩:St))):Go (run X c K P (I.call 1 []::r) (.ref l:: .builtin "len"::vs) (⟨H,L⟩:St)):=by
 have h:=h.out;exact t11 rfl rfl g11 (j19 e hz h)
end
structure Fr5 (H:Nat->Option W0) (a b x y t:Nat):Prop where
 na:H a=none
 nb:H b=none
 nx:H x=none
 ny:H y=none
 nt:H t=none
 ab:Ap a b
 ax:Ap a x
 ay:Ap a y
 at_:Ap a t
 bx:Ap b x
 by_:Ap b y
 bt:Ap b t
 xy:Ap x y
 xt:Ap x t
 yt:Ap y t
theorem m36 {A:Around} {s:Shared} {kb:List (Str×Value)} {es:NS} (hlk: ∀k i,(k,AV.int i)∈es-> ∃t,valueAt kb (N k)=some (.int i t)): ∀(ka:List (Str×Value)) (es':NS),ka.map (fun p=>(p.1,ab p.2))=es'.map (fun p=>(N p.1,p.2))->(∀p∈es',p∈es/\ ∃i,p.2= .int i)->KeqHits A s kb ka true:=by
 intro ka
 induction ka with
 | nil=>exact fun _ _ _=> .nil
 | cons p r ih=>
  intro es' he hm;cases es' with
  | nil=>cases he
  | cons q es'=>
   obtain ⟨k,v⟩:=p;obtain ⟨x,w⟩:=q;rw [v5,v5,List.cons.injEq,Prod.mk.injEq] at he;obtain ⟨⟨e1,e2⟩,e3⟩:=he;obtain ⟨h1,i,h2⟩:=hm _ (.head _);dsimp only at e1 e2 h2;rw [h2] at h1 e2;obtain ⟨t,ht⟩:=hlk _ _ h1;obtain ⟨u,rfl⟩:=o10 e2;rw [e1];have e4:PyData.eqv (.int i) (.int i)=true:=by simp [PyData.eqv]
   exact KeqHits.hit (e:=true) (b:=true) ht (e4▸keq_flat (PyProof.V.Flat.int i u) (PyProof.V.Flat.int i t)) (ih es' e3 fun p hp=>hm p (.tail _ hp))
section
variable {X:Cx} {c:Cf} {σ:St} {E:Nat->St->Prop} {Q:AV->St->Prop}
theorem f31 {a b:Nat} {es:NS} (hm: ∃o,X.h₀.get? 1=some o) (e1:σ.h a=some (.dictS es)) (e2:σ.h b=some (.dictS es)) (hn:(es.map (·.1)).Nodup) (hi: ∀p∈es,∃i,p.2=AV.int i) (h:Q (.bool false) σ):U4 X c .NotEq (.ref a) (.ref b) Q E σ:=fun x y hx hy A s g R=>by
 refine of ?_;obtain rfl:=t10 hx;obtain rfl:=t10 hy;walk_at "o";obtain ⟨ka,da,ma⟩:=(R.objs _ _ e1).2;obtain ⟨kb,db,mb⟩:=(R.objs _ _ e2).2;obtain ⟨o,ho⟩:=hm;have n1:(a==sysModules)=false:=beq_eq_false_iff_ne.mpr fun z=>by have:=R.free e1;rw [z] at this;rw [show sysModules=1 from rfl,ho] at this;cases this
 have n2:(b==sysModules)=false:=beq_eq_false_iff_ne.mpr fun z=>by have:=R.free e2;rw [z] at this;rw [show sysModules=1 from rfl,ho] at this;cases this
 have hl:ka.length=kb.length:=by
  have q1:=congrArg List.length ma;have q2:=congrArg List.length mb;rw [a7,a7] at q1 q2;rw [q1,q2]
 refine keq_ne n1 n2 da db (by have:=g.units;show A.units<9900;(exact fk s!"hxaAl200Bn9700oyAn9900" [] [_,_] rfl this)) (fun _=>m36 (es:=es) (fun k i hk=>?_) ka es ma fun p hp=>⟨hp,hi p hp⟩) ?_
 ·have:=q17 (K:=Nat) kb es mb k;rw [t19 hn hk] at this;obtain ⟨v,hv,e⟩:=Option.map_eq_some_iff.mp this;obtain ⟨t,rfl⟩:=o10 e;exact ⟨t,hv⟩
 ·rw [hl];simp only [beq_self_eq_true,Bool.and_self,Bool.not_true];exact ⟨σ,⟨own,R⟩,h⟩
end
section
variable {X:Cx} {c:Cf} {P:PT} {K:KT} {H:Nat->Option W0} {L:NS} {vs:List AV} {r:List Tr}
theorem n36 {a b:Nat} {es:NS} (hm: ∃o,X.h₀.get? 1=some o) (e1:H a=some (.dictS es)) (e2:H b=some (.dictS es)) (hn:(es.map (·.1)).Nodup) (hi: ∀p∈es,∃i,p.2=AV.int i) (h:Go (run X c K P r (.bool false::vs) (⟨H,L⟩:St))):Go (run X c K P (I.cmp .NotEq::r) (.ref b:: .ref a::vs) (⟨H,L⟩:St)):=⟨f31 hm e1 e2 hn hi h.out⟩
end
noncomputable section
structure Row (X:Cx):Prop where
 k:X.K=KF X.w.params
 p:X.prog=pw
 l:X.live=true
theorem Row.off {X:Cx} (R:Row X):Row X.off:=⟨R.k,R.p,R.l⟩
end
noncomputable def gt:List (Nat×AV):=[(1716984,(.builtin "hex")),(1734516,(.type "int")),(1782510,(.builtin "len")),(1799406,(.builtin "min")),(1833316,(.builtin "ord")),(1899122,(.type "str")),(2012400,(.type "zip")),(`dict,(.type "dict")),(`PyFat,(.ref 936)),(`bytes,(.type "bytes")),(`errno,(.ref 100)),(`range,(.type "range")),(`Octets,(.ref 193)),(`decoded,(.ref 114)),(`encoded,(.ref 109)),(`KeyError,(.type "KeyError")),(`splitext,(.ref 126)),(`TypeError,(.type "TypeError")),(`_law_laid,(.ref 961)),(`_law_take,(.ref 954)),(`bytearray,(.type "bytearray")),(`enumerate,(.type "enumerate")),(`IndexError,(.type "IndexError")),(`ValueError,(.type "ValueError")),(`_law_clean,(.ref 947)),(`init_check,(.ref 133)),(`isinstance,(.builtin "isinstance")),(`_law_volume,(.ref 968)),(`EightDotThree,(.ref 316)),(`AssertionError,(.type "AssertionError")),(`PyFATException,(.ref 41)),(`_readonly_check,(.ref 692)),(`FATDirectoryEntry,(.ref 606)),(`FATLongDirectoryEntry,(.ref 681)),(`NotAFatEntryException,(.ref 87)),(`BrokenLFNEntryException,(.ref 66))]
theorem v15 {X:Cx} (H:Row X): ∀k v,gt.lookup k=some v->Glo X k v:=v41 H.l (by rw [H.k];kernel_rfl)
inductive Src | p (i:Nat) | k (i:Nat) | c (v:Value)
noncomputable def Src.val (w u:Nat->Value):Src->Value | .p i=>w i | .k i=>u i | .c v=>v
noncomputable def Src.av (as:List AV) (kw:List (Str×AV)):Src->AV | .p i=>as.getD i .none | .k i=>(kw.map (·.2)).getD i .none | .c v=>ab v
theorem f46 {α:Type} (l:List α) (d:α): ∀n,n=l.length->l=(List.range n).map fun i=>l.getD i d:=by
 rintro _ rfl
 refine List.ext_getElem (by simp) fun i h1 h2=>?_;simp [w0,h1]
theorem Q0 {X:Cx} {K:Frag} {f:Nat} {as:List AV} {kw:List (Str×AV)} {l:NS} (hX:X.K=K) (src:List (Nat×Src)) (h: ∀S (w u:Nat->Value),peek K S (bindArgs (fdK K f) ⟨(List.range as.length).map w,kw.zipIdx.map fun p=>(p.1.1,u p.2)⟩)=some (src.map fun p=>(N p.1,p.2.val w u)))
  (hn:(src.all fun p=>(fdK K f).scope.names.lookup (N p.1)==some .local)=true) (hl:l=src.reverse.map fun p=>(p.1,p.2.av as kw)):Binds X (fdK X.K f) as kw l:=fun vs ks s hv hk hK=>by
 subst hl hv hk;rw [hX] at hK⊢;have e1:=f46 vs .none (vs.map ab).length (a7 _);have e2:ks=(ks.map fun p=>(p.1,ab p.2)).zipIdx.map fun p=>(p.1.1,(ks.getD p.2 ("",.none)).2):=by
  refine List.ext_getElem (by simp) fun i h1 h2=>?_;simp [w0,h1]
 refine ⟨src.map fun p=>(N p.1,p.2.val (fun i=>vs.getD i .none) fun i=>(ks.getD i ("",.none)).2),kp_binds hK fun S=>?_,?_,fun x hx=>?_⟩
 ·have:=h S (fun i=>vs.getD i .none) fun i=>(ks.getD i ("",.none)).2
  rwa [<-e1,<-e2] at this
 ·rw [<-List.map_reverse,List.map_map,List.map_map];refine List.map_congr_left fun p _=>Prod.ext rfl ?_;obtain ⟨x,a⟩:=p;cases a with
  | p i=>simp [Src.val,Src.av,w0];cases vs[i]? <;>rfl
  | k i=>simp [Src.val,Src.av,w0];cases ks[i]? <;>rfl
  | c v=>rfl
 ·obtain ⟨p,hp,rfl⟩:=List.mem_map.mp hx;simpa using List.all_eq_true.mp hn p hp
variable {X:Cx} {c:Cf} {σ:St} {E:Nat->St->Prop} {Q:AV->St->Prop} {n:Nat}
structure Fc (X:Cx) (f:Nat) (ks:List (Nat×NameKind)) (cs:List (Nat×Nat)) (code:List Tr):Prop where
 fn:Fn X f (fdK X.K f) ks cs (Z2 X.K f)
 cd:J5 ks gt (Z2 X.K f)=code
theorem J3 (H:Row X) {f:Nat} {ks:List (Nat×NameKind)} {cs:List (Nat×Nat)} {code:List Tr} (h1:R11 (KF X.w.params) f ks cs=true) (h2:J5 ks gt (Z2 (KF X.w.params) f)=code):Fc X f ks cs code:=by
 rw [<-H.k] at h1 h2;exact ⟨Fn.of h1,h2⟩
theorem w10 (H:Row X) {f:Nat} {ks:List (Nat×NameKind)} {cs:List (Nat×Nat)} {code:List Tr} {as:List AV} {kw:List (Str×AV)} {l:NS} (F:Fc X f ks cs code) (hn:c.n=n+1) (hb:Binds X (fdK X.K f) as kw l)
  (h: ∀c',c'.n=n->c'.ks=ks->c'.cs=cs->c'.hd=c.hd->Go (run X c' (G13 Q σ.loc) (P14 Q E σ.loc) code [] {σ with loc:=l})):P0 X c (.ref f) as kw Q E σ:=i34 F.fn (v15 H) F.cd hn hb h
noncomputable def L16:List (Nat×Nat×AV):=[(193,`__init__,(.ref 148)),(193,`readable,(.ref 155)),(193,`seekable,(.ref 162)),(193,`writable,(.ref 169)),(193,`seek,(.ref 176)),(193,`read,(.ref 183)),(193,`write,(.ref 190)),(316,`__init__,(.ref 213)),(316,`_set_name,(.ref 251)),(316,`set_byte_name,(.ref 258)),(316,`set_str_name,(.ref 265)),(606,`__init__,(.ref 336)),(606,`set_size,(.ref 343)),(606,`set_lfn_entry,(.ref 399)),(606,`set_cluster,(.ref 420)),(681,`__init__,(.ref 625)),(936,`__init__,(.ref 711)),(936,`_set_fp,(.ref 718)),(936,`_seek,(.ref 725)),(936,`_get_clean_shutdown_bitmask,(.ref 739)),(936,`_is_dirty,(.ref 746)),(936,`_mark_dirty,(.ref 753)),(936,`set_fp,(.ref 767)),(936,`_get_total_sectors,(.ref 774)),(936,`_get_fat_size_count,(.ref 781)),(936,`_parse_fat,(.ref 788)),(936,`as_bytes,(.ref 795)),(936,`flush_fat,(.ref 824)),(936,`_fat12_parse_root_dir,(.ref 854)),(936,`_fat32_parse_root_dir,(.ref 861)),(936,`parse_root_dir,(.ref 868)),(936,`_parse_dir_entry,(.ref 883)),(936,`parse_dir_entries_in_address,(.ref 891)),(936,`parse_dir_entries_in_cluster_chain,(.ref 898)),(936,`get_data_cluster_address,(.ref 905)),(936,`get_cluster_chain,(.ref 912)),(936,`_determine_fat_type,(.ref 919)),(936,`parse_header,(.ref 926))]
theorem g46 (H:Row X):(L16.all fun t=>(U6 X.K t.1 t.2.1).map AV.ref==some t.2.2)=true:=by rw [H.k];kernel_rfl
theorem h46 (H:Row X) {C x f:Nat} (h:V5 L16 C x=some (.ref f)):U6 X.K C x=some f:=by
 have:=List.all_eq_true.mp (g46 H) _ (v12 h);simpa using this
noncomputable def P15:List (Nat×Nat×AV):=[(193,12532,.none),(193,`data,.none),(193,`write_allowed,.none),(316,`encoding,.none),(316,`initialized,.none),(316,`name,.none),(606,`_dirs,.none),(606,`_encoding,.none),(606,1569651,.none),(606,`_lazy_load,.none),(606,`_parent,.none),(606,`attr,.none),(606,`crtdate,.none),(606,`crttime,.none),(606,`crttimetenth,.none),(606,`filesize,.none),(606,`fstclushi,.none),(606,`fstcluslo,.none),(606,`lfn_entry,.none),(606,`lstaccessdate,.none),(606,`name,.none),(606,`ntres,.none),(606,`wrtdate,.none),(606,`wrttime,.none),(681,`lfn_entries,.none),(936,`_fat_size,.none),(936,1569648,.none),(936,`_fp_offset,.none),(936,`bpb_header,.none),(936,`bytes_per_cluster,.none),(936,`encoding,.none),(936,1683700,.none),(936,`fat_type,.none),(936,`first_data_sector,.none),(936,`first_free_cluster,.none),(936,`initialized,.none),(936,`is_read_only,.none),(936,`lazy_load,.none),(936,`root_dir,.none),(936,`root_dir_sector,.none),(936,`root_dir_sectors,.none)]
theorem o36 (H:Row X):(P15.all fun t=>I9 X.K t.1 t.2.1&&Y6 X.K t.1 t.2.1)=true:=by rw [H.k];kernel_rfl
theorem o24 (H:Row X) {C x:Nat} (h:V5 P15 C x=some .none):I9 X.K C x=true:=by
 have:=List.all_eq_true.mp (o36 H) _ (v12 h);simp only [z0] at this;exact this.1
theorem l42 (H:Row X) {C x:Nat} (h:V5 P15 C x=some .none):Y6 X.K C x=true:=by
 have:=List.all_eq_true.mp (o36 H) _ (v12 h);simp only [z0] at this;exact this.2
theorem f54 (H:Row X):S11 X.K 316 `_check_characters 279:=by rw [H.k];exact ⟨_,_,by kernel_rfl,by kernel_rfl,rfl,rfl⟩
theorem g54 (H:Row X):Z9 X.K 316 `is_8dot3_conform 290:=by rw [H.k];exact ⟨_,_,_,by kernel_rfl,by kernel_rfl,rfl,rfl,by kernel_rfl,by kernel_rfl,by kernel_rfl,by kernel_rfl,rfl⟩
theorem h54 (H:Row X):Z9 X.K 316 `_pad_8dot3_name 300:=by rw [H.k];exact ⟨_,_,_,by kernel_rfl,by kernel_rfl,rfl,rfl,by kernel_rfl,by kernel_rfl,by kernel_rfl,by kernel_rfl,rfl⟩
noncomputable def G16:List (Nat×Nat×AV):=[(606,`FREE_DIR_ENTRY_MARK,(.int 229)),(606,`LAST_DIR_ENTRY_MARK,(.int 0)),(606,`ATTR_READ_ONLY,(.int 1)),(606,`ATTR_VOLUME_ID,(.int 8)),(606,`ATTR_DIRECTORY,(.int 16)),(606,`ATTR_LONG_NAME,(.int 15)),(606,`ATTR_LONG_NAME_MASK,(.int 63)),(606,`FAT_DIRECTORY_HEADER_SIZE,(.int 32)),(606,`MAX_FILE_SIZE,(.int 4294967295)),(606,`FAT_DIRECTORY_VARS,(.ref 328)),(681,`LAST_LONG_ENTRY,(.int 64)),(936,`FAT_TYPE_UNKNOWN,(.int 0)),(936,`FAT_TYPE_FAT12,(.int 12)),(936,`FAT_TYPE_FAT16,(.int 16)),(936,`FAT_TYPE_FAT32,(.int 32)),(936,`FAT12_SPECIAL_EOC,(.int 4080)),(936,`FAT_CLUSTER_VALUES,(.ref 700)),(936,`FAT16_CLEAN_SHUTDOWN_BIT_MASK,(.int 32768)),(936,`FAT32_CLEAN_SHUTDOWN_BIT_MASK,(.int 134217728)),(936,`FAT_DIRTY_BIT_MASK,(.int 1))]
theorem i46 (H:Row X):(G16.all fun t=>M8 X.K t.1 t.2.1==some t.2.2)=true:=by rw [H.k];kernel_rfl
theorem j46 (H:Row X) {C x:Nat} {v:AV} (h:V5 G16 C x=some v):M8 X.K C x=some v:=by simpa using List.all_eq_true.mp (i46 H) _ (v12 h)
noncomputable def L12:List (Nat×Nat×AV):=[(100,`ENXIO,(.int 6)),(100,`E2BIG,(.int 7)),(100,`EFAULT,(.int 14)),(100,`ENOTDIR,(.int 20)),(100,`EINVAL,(.int 22)),(100,`EMFILE,(.int 24)),(100,`EACCES,(.int 13)),(100,`EROFS,(.int 30)),(100,`EBADE,(.int 52)),(100,`ETOOMANYREFS,(.int 109)),(606,`FREE_DIR_ENTRY_MARK,(.int 229)),(606,`LAST_DIR_ENTRY_MARK,(.int 0)),(606,`ATTR_READ_ONLY,(.int 1)),(606,`ATTR_VOLUME_ID,(.int 8)),(606,`ATTR_DIRECTORY,(.int 16)),(606,`ATTR_LONG_NAME,(.int 15)),(606,`ATTR_LONG_NAME_MASK,(.int 63)),(606,`FAT_DIRECTORY_HEADER_SIZE,(.int 32)),(606,`MAX_FILE_SIZE,(.int 4294967295)),(606,`FAT_DIRECTORY_VARS,(.ref 328)),(681,`LAST_LONG_ENTRY,(.int 64)),(936,`FAT_TYPE_UNKNOWN,(.int 0)),(936,`FAT_TYPE_FAT12,(.int 12)),(936,`FAT_TYPE_FAT16,(.int 16)),(936,`FAT_TYPE_FAT32,(.int 32)),(936,`FAT12_SPECIAL_EOC,(.int 4080)),(936,`FAT_CLUSTER_VALUES,(.ref 700)),(936,`FAT16_CLEAN_SHUTDOWN_BIT_MASK,(.int 32768)),(936,`FAT32_CLEAN_SHUTDOWN_BIT_MASK,(.int 134217728)),(936,`FAT_DIRTY_BIT_MASK,(.int 1))]
theorem q40 (H:Row X):(L12.all fun t=>Z6 X.K t.1 t.2.1==some t.2.2)=true:=by rw [H.k];kernel_rfl
theorem r40 (H:Row X) {C x:Nat} {v:AV} (h:V5 L12 C x=some v):Z6 X.K C x=some v:=by simpa using List.all_eq_true.mp (q40 H) _ (v12 h)
open I in
theorem l21 (H:Row X):Fc X 133 [(1832805,.local),(`PyFATException,.globalImplicit)] [] [ld 1832805,attr `initialized,tru,H7,br [push (.ref 41),push (.str (N 807990199156740049796693340959954675488428168827421937296495790462445375096196460400033571225984105010166653516263837561835096606467621190190)),call 1 [],I6] []]:=J3 H s!"." s!"."
theorem m21 (H:Row X) {a0:AV}:Binds X (fdK X.K 133) [a0] [] [(1832805,a0)]:=Q0 H.k [(1832805,.p 0)] (fun S w u=>by kernel_rfl) s!"." rfl
open I in
theorem j13 (H:Row X):Fc X 692 [(1832805,.local),(`PyFATException,.globalImplicit),(`errno,.globalImplicit)] [] [ld 1832805,attr `is_read_only,tru,br [push (.ref 41),push (.str (N 7779403207507618311180680161407089599970516068285896171377909311174860839167911564238200537809627617562819100636391650098456033876283946628832398600430272902945)),push (.ref 100),attr `EROFS,call 1 [`errno],I6] []]:=J3 H s!"." s!"."
theorem l13 (H:Row X) {a0:AV}:Binds X (fdK X.K 692) [a0] [] [(1832805,a0)]:=Q0 H.k [(1832805,.p 0)] (fun S w u=>by kernel_rfl) s!"." rfl
open I in
theorem g31 (H:Row X):Fc X 725 [(`self,.local),(`address,.local),(`PyFATException,.globalImplicit),(`errno,.globalImplicit)] [] [ld `self,attr 1569648,push .none,cmp .Is,tru,br [push (.ref 41),push (.str (N 233846968592502989205677740745220629762863080812901290941477300429599393)),push (.ref 100),attr `ENXIO,call 1 [`errno],I6] [],ld `self,attr 1569648,gm `seek,ld `address,ld `self,attr `_fp_offset,bin .Add,J0 1 [],drop]:=J3 H s!"." s!"."
theorem h31 (H:Row X) {a0 a1:AV}:Binds X (fdK X.K 725) [a0,a1] [] [(`address,a1),(`self,a0)]:=Q0 H.k [(`self,.p 0),(`address,.p 1)] (fun S w u=>by kernel_rfl) s!"." rfl
open I in
theorem n21 (H:Row X):Fc X 718 [(`self,.local),(13168,.local),(`PyFATException,.globalImplicit),(`errno,.globalImplicit)] [] [ld `self,attr 1569648,push .none,cmp .IsNot,tru,br [push (.ref 41),push (.str (N 454287231425942594452142260541538416111340947041827311193714269026906502031419532719934427046572959915511358138083581285377941168790437530397417875199519278)),push (.ref 100),attr `EMFILE,call 1 [`errno],I6] [],ld 13168,ld `self,Y0 1569648]:=J3 H s!"." s!"."
theorem o21 (H:Row X) {a0 a1:AV}:Binds X (fdK X.K 718) [a0,a1] [] [(13168,a1),(`self,a0)]:=Q0 H.k [(`self,.p 0),(13168,.p 1)] (fun S w u=>by kernel_rfl) s!"." rfl
open I in
theorem i31 (H:Row X):Fc X 739 [(`self,.local)] [] [ld `self,attr `fat_type,ld `self,attr `FAT_TYPE_FAT16,cmp .Eq,tru,br [ld `self,attr `FAT16_CLEAN_SHUTDOWN_BIT_MASK,I.ret] [],ld `self,attr `fat_type,ld `self,attr `FAT_TYPE_FAT32,cmp .Eq,tru,br [ld `self,attr `FAT32_CLEAN_SHUTDOWN_BIT_MASK,I.ret] [],push .none,I.ret]:=J3 H s!"." s!"."
theorem j31 (H:Row X) {a0:AV}:Binds X (fdK X.K 739) [a0] [] [(`self,a0)]:=Q0 H.k [(`self,.p 0)] (fun S w u=>by kernel_rfl) s!"." rfl
open I in
theorem j27 (H:Row X):Fc X 746 [(`self,.local),(`clean_shutdown_bitmask,.local),(`dos_dirty,.local),(`nt_dirty,.local)] [] [ld `self,gm `_get_clean_shutdown_bitmask,J0 0 [],st `clean_shutdown_bitmask,ld `clean_shutdown_bitmask,push .none,cmp .Is,tru,br [push (.bool false),st `dos_dirty] [ld `self,attr 1683700,push (.int 1),I.sub,ld `clean_shutdown_bitmask,bin .BitAnd,ld `clean_shutdown_bitmask,cmp .NotEq,st `dos_dirty],ld `self,attr `bpb_header,push (.str (N `BS_Reserved1)),I.sub,ld `self,attr `FAT_DIRTY_BIT_MASK,bin .BitAnd,ld `self,attr `FAT_DIRTY_BIT_MASK,cmp .Eq,st `nt_dirty,ld `dos_dirty,bop false [ld `nt_dirty],I.ret]:=J3 H s!"." s!"."
theorem k27 (H:Row X) {a0:AV}:Binds X (fdK X.K 746) [a0] [] [(`self,a0)]:=Q0 H.k [(`self,.p 0)] (fun S w u=>by kernel_rfl) s!"." rfl
open I in
theorem k31 (H:Row X):Fc X 753 [(`self,.local),(`clean_shutdown_bitmask,.local)] [] [ld `self,gm `_get_clean_shutdown_bitmask,J0 0 [],st `clean_shutdown_bitmask,ld `clean_shutdown_bitmask,push .none,cmp .IsNot,tru,br [ld `self,attr 1683700,push (.int 1),I.sub,ld `clean_shutdown_bitmask,un .Invert,bin .BitAnd,push (.int 0),ld `clean_shutdown_bitmask,bin .BitAnd,bin .BitOr,ld `self,attr 1683700,push (.int 1),I7,ld `self,gm `flush_fat,J0 0 [],drop] [],ld `self,attr `bpb_header,push (.str (N `BS_Reserved1)),dup2,I.sub,ld `self,attr `FAT_DIRTY_BIT_MASK,inp .BitOr,M7]:=J3 H s!"." s!"."
theorem l31 (H:Row X) {a0:AV}:Binds X (fdK X.K 753) [a0] [] [(`self,a0)]:=Q0 H.k [(`self,.p 0)] (fun S w u=>by kernel_rfl) s!"." rfl
open I in
theorem p24 (H:Row X):Fc X 767 [(`self,.local),(13168,.local),(`PyFATException,.globalImplicit),(`errno,.globalImplicit)] [] [ld 13168,gm `readable,J0 0 [],tru,H7,br [push (.ref 41),push (.str (N 29932411979840381833494852503200182815727495221516596067518659199587940654)),push (.ref 100),attr `EACCES,call 1 [`errno],I6] [],ld 13168,gm `seekable,J0 0 [],tru,H7,br [push (.ref 41),push (.str (N 198076087013391612456367275990795480093284193860142)),push (.ref 100),attr `EINVAL,call 1 [`errno],I6] [],ld 13168,gm `writable,J0 0 [],tru,H7,ld `self,Y0 `is_read_only,ld `self,gm `_set_fp,ld 13168,J0 1 [],drop,ld `self,gm `parse_header,J0 0 [],drop,ld `self,gm `_parse_fat,J0 0 [],drop,ld `self,gm `_is_dirty,J0 0 [],drop,ld `self,attr `is_read_only,tru,H7,br [ld `self,gm `_mark_dirty,J0 0 [],drop] [],ld `self,gm `parse_root_dir,J0 0 [],drop]:=J3 H s!"." s!"."
theorem r24 (H:Row X) {a0 a1:AV}:Binds X (fdK X.K 767) [a0,a1] [] [(13168,a1),(`self,a0)]:=Q0 H.k [(`self,.p 0),(13168,.p 1)] (fun S w u=>by kernel_rfl) s!"." rfl
open I in
theorem l27 (H:Row X):Fc X 774 [(`self,.local)] [] [ld `self,attr `bpb_header,push (.str (N `BPB_TotSec16)),I.sub,push (.int 0),cmp .NotEq,tru,br [ld `self,attr `bpb_header,push (.str (N `BPB_TotSec16)),I.sub,I.ret] [],ld `self,attr `bpb_header,push (.str (N `BPB_TotSec32)),I.sub,I.ret]:=J3 H s!"." s!"."
theorem m27 (H:Row X) {a0:AV}:Binds X (fdK X.K 774) [a0] [] [(`self,a0)]:=Q0 H.k [(`self,.p 0)] (fun S w u=>by kernel_rfl) s!"." rfl
open I in
theorem p21 (H:Row X):Fc X 781 [(`self,.local),(`KeyError,.globalImplicit),(`PyFATException,.globalImplicit)] [] [ld `self,attr `bpb_header,push (.str (N `BPB_FATSz16)),I.sub,push (.int 0),cmp .NotEq,tru,br [ld `self,attr `bpb_header,push (.str (N `BPB_FATSz16)),I.sub,I.ret] [],Q10 [ld `self,attr `bpb_header,push (.str (N `BPB_FATSz32)),I.sub,I.ret] [⟨(.type "KeyError"),none,[push (.ref 41),push (.str (N 745086251251762876324465616500940046538234965956047061677446128398166157688888154258364290924604106674067902920467921637)),call 1 [],I6]⟩] []]:=J3 H s!"." s!"."
theorem q21 (H:Row X) {a0:AV}:Binds X (fdK X.K 781) [a0] [] [(`self,a0)]:=Q0 H.k [(`self,.p 0)] (fun S w u=>by kernel_rfl) s!"." rfl
open I in
theorem f18 (H:Row X):Fc X 788 [(`self,.local),(`fat_size,.local),(`first_fat_bytes,.local),(`fats,.local),(105,.local),(`total_entries,.local),(`curr,.local),(`cluster,.local),(`incr,.local),(`offset,.local),(`fat_nibble,.local),(`init_check,.globalImplicit),(`range,.globalImplicit),(1782510,.globalImplicit),(`PyFATException,.globalImplicit),(1734516,.globalImplicit),(`IndexError,.globalImplicit),(`AssertionError,.globalImplicit)] [] [push (.ref 133),ld `self,call 1 [],drop,ld `self,attr `bpb_header,push (.str (N `BPB_BytsPerSec)),I.sub,st `fat_size,ld `fat_size,ld `self,attr `_fat_size,inp .Mult,st `fat_size,ld `self,attr `bpb_header,push (.str (N `BPB_RsvdSecCnt)),I.sub,st `first_fat_bytes,ld `first_fat_bytes,ld `self,attr `bpb_header,push (.str (N `BPB_BytsPerSec)),I.sub,inp .Mult,st `first_fat_bytes,lst 0,st `fats,push (.type "range"),ld `self,attr `bpb_header,push (.str (N `BPB_NumFATs)),I.sub,call 1 [],W4 [st 105] [ld `self,gm `_seek,ld `first_fat_bytes,ld 105,ld `fat_size,bin .Mult,bin .Add,J0 1 [],drop,ld `fats,ld `self,attr 1569648,gm `read,ld `fat_size,J0 1 [],lst 1,inp .Add,st `fats] [],push (.builtin "len"),ld `fats,call 1 [],push (.int 1),cmp .Lt,tru,br [push (.ref 41),push (.str (N 1323539058354162424501712514234928457313889039840087356022067695101687629840896899338259788354409658563301)),call 1 [],I6] [],ld `self,attr `bpb_header,push (.str (N `BPB_BytsPerSec)),I.sub,ld `self,attr `bpb_header,push (.str (N `BPB_SecPerClus)),I.sub,bin .Mult,ld `self,Y0 `bytes_per_cluster,push (.builtin "len"),ld `fats,push (.int 0),I.sub,call 1 [],ld `self,attr `bpb_header,push (.str (N `BPB_BytsPerSec)),I.sub,ld `self,attr `_fat_size,bin .Mult,cmp .NotEq,tru,br [push (.ref 41),push (.str (N 102955047262298774063853581562062072615903444)),call 1 [],I6] [],ld `fat_size,push (.int 8),bin .Mult,ld `self,attr `fat_type,bin .FloorDiv,st `total_entries,push .none,lst 1,ld `total_entries,bin .Mult,ld `self,Y0 1683700,push (.int 0),st `curr,push (.int 0),st `cluster,ld `self,attr `fat_type,st `incr,whl [ld `curr,ld `fat_size,push (.int 8),bin .Mult,cmp .Lt,tru] [ld `curr,ld `incr,bin .Add,st `offset,ld `self,attr `fat_type,ld `self,attr `FAT_TYPE_FAT12,cmp .Eq,tru,br [ld `fats,push (.int 0),I.sub,ld `curr,push (.int 8),bin .FloorDiv,ld `offset,un .USub,push (.int 8),bin .FloorDiv,un .USub,cut,st `fat_nibble,ld `fat_nibble,push (.bytes [0]),push (.int 2),push (.builtin "len"),ld `fat_nibble,call 1 [],bin .Sub,bin .Mult,bin .Add,st `fat_nibble,Q10 [push (.type "int"),gm `from_bytes,ld `fat_nibble,push (.str (N `little)),J0 2 [],ld `self,attr 1683700,ld `cluster,I7] [⟨(.type "IndexError"),none,[brk]⟩] [],ld `cluster,push (.int 2),bin .Mod,push (.int 0),cmp .Eq,tru,br [ld `self,attr 1683700,ld `cluster,dup2,I.sub,push (.int 4095),inp .BitAnd,M7] [ld `self,attr 1683700,ld `cluster,dup2,I.sub,push (.int 4),inp .RShift,M7],ld `offset,un .USub,push (.int 8),bin .FloorDiv,un .USub,ld `fat_size,push (.int 1),bin .Sub,cmp .Eq,tru,br [ld `self,attr 1683700,gm 1849328,J0 0 [],drop,brk] []] [ld `self,attr `fat_type,ld `self,attr `FAT_TYPE_FAT16,cmp .Eq,tru,br [push (.type "int"),gm `from_bytes,ld `fats,push (.int 0),I.sub,ld `curr,push (.int 8),bin .FloorDiv,ld `offset,push (.int 8),bin .FloorDiv,cut,push (.str (N `little)),J0 2 [],ld `self,attr 1683700,ld `cluster,I7] [ld `self,attr `fat_type,ld `self,attr `FAT_TYPE_FAT32,cmp .Eq,tru,br [push (.type "int"),gm `from_bytes,ld `fats,push (.int 0),I.sub,ld `curr,push (.int 8),bin .FloorDiv,ld `offset,push (.int 8),bin .FloorDiv,cut,push (.str (N `little)),J0 2 [],ld `self,attr 1683700,ld `cluster,I7,ld `self,attr 1683700,ld `cluster,dup2,I.sub,push (.int 268435455),inp .BitAnd,M7] [push (.ref 41),push (.str (N 2314941665210179707854363723757342997061835817729718058511018416126693)),call 1 [],I6]]],ld `curr,ld `incr,inp .Add,st `curr,ld `cluster,push (.int 1),inp .Add,st `cluster],push .none,ld `self,attr 1683700,cmp .In,tru,br [push (.type "AssertionError"),push (.str (N 14190551117197023114142037638022980010517077122694103523088138528634808742205219363078008308760447099354460873535102618695982)),call 1 [],I6] []]:=J3 H s!"." s!"."
theorem g18 (H:Row X) {a0:AV}:Binds X (fdK X.K 788) [a0] [] [(`self,a0)]:=Q0 H.k [(`self,.p 0)] (fun S w u=>by kernel_rfl) s!"." rfl
open I in
theorem z18 (H:Row X):Fc X 795 [(`self,.local),(98,.local),(105,.local),(101,.local),(`nibble,.local),(`size,.local),(`init_check,.globalImplicit),(`enumerate,.globalImplicit),(`bytes,.globalImplicit)] [] [push (.ref 133),ld `self,call 1 [],drop,push (.bytes []),st 98,ld `self,attr `fat_type,ld `self,attr `FAT_TYPE_FAT12,cmp .Eq,tru,br [push (.type "enumerate"),ld `self,attr 1683700,call 1 [],Q15 [unp 2,st 105,st 101] [ld 105,push (.int 2),bin .Mod,push (.int 0),cmp .Eq,tru,br [ld 98,ld 101,gm `to_bytes,push (.int 2),push (.str (N `little)),J0 2 [],inp .Add,st 98] [ld 98,push (.int 1),un .USub,I.sub,st `nibble,ld 98,push .none,push (.int 1),un .USub,cut,st 98,ld 98,push (.type "bytes"),ld 101,push (.int 15),bin .BitAnd,push (.int 4),bin .LShift,ld `nibble,bin .BitOr,ld 101,push (.int 4),bin .RShift,lst 2,call 1 [],inp .Add,st 98]] []] [ld `self,attr `fat_type,ld `self,attr `FAT_TYPE_FAT16,cmp .Eq,tru,br [push (.int 2),st `size] [push (.int 4),st `size],ld `self,attr 1683700,W4 [st 101] [ld 98,ld 101,gm `to_bytes,ld `size,push (.str (N `little)),J0 2 [],inp .Add,st 98] []],ld 98,I.ret]:=J3 H s!"." s!"."
theorem a19 (H:Row X) {a0:AV}:Binds X (fdK X.K 795) [a0] [] [(`self,a0)]:=Q0 H.k [(`self,.p 0)] (fun S w u=>by kernel_rfl) s!"." rfl
open I in
theorem h18 (H:Row X):Fc X 824 [(`self,.local),(`fat_size,.local),(`first_fat_bytes,.local),(`binary_fat,.local),(105,.local),(`init_check,.globalImplicit),(`_readonly_check,.globalImplicit),(`range,.globalImplicit)] [] [push (.ref 133),ld `self,call 1 [],drop,push (.ref 692),ld `self,call 1 [],drop,ld `self,attr `bpb_header,push (.str (N `BPB_BytsPerSec)),I.sub,st `fat_size,ld `fat_size,ld `self,attr `_fat_size,inp .Mult,st `fat_size,ld `self,attr `bpb_header,push (.str (N `BPB_RsvdSecCnt)),I.sub,st `first_fat_bytes,ld `first_fat_bytes,ld `self,attr `bpb_header,push (.str (N `BPB_BytsPerSec)),I.sub,inp .Mult,st `first_fat_bytes,ld `self,gm `as_bytes,J0 0 [],st `binary_fat,push (.type "range"),ld `self,attr `bpb_header,push (.str (N `BPB_NumFATs)),I.sub,call 1 [],W4 [st 105] [ld `self,gm `_seek,ld `first_fat_bytes,ld 105,ld `fat_size,bin .Mult,bin .Add,J0 1 [],drop,ld `self,attr 1569648,gm `write,ld `binary_fat,J0 1 [],drop] []]:=J3 H s!"." s!"."
theorem i18 (H:Row X) {a0:AV}:Binds X (fdK X.K 824) [a0] [] [(`self,a0)]:=Q0 H.k [(`self,.p 0)] (fun S w u=>by kernel_rfl) s!"." rfl
open I in
theorem m31 (H:Row X):Fc X 905 [(`self,.local),(`cluster,.local),(`sector,.local)] [] [ld `cluster,push (.int 2),bin .Sub,ld `self,attr `bpb_header,push (.str (N `BPB_SecPerClus)),I.sub,bin .Mult,ld `self,attr `first_data_sector,bin .Add,st `sector,ld `sector,ld `self,attr `bpb_header,push (.str (N `BPB_BytsPerSec)),I.sub,bin .Mult,I.ret]:=J3 H s!"." s!"."
theorem n31 (H:Row X) {a0 a1:AV}:Binds X (fdK X.K 905) [a0,a1] [] [(`cluster,a1),(`self,a0)]:=Q0 H.k [(`self,.p 0),(`cluster,.p 1)] (fun S w u=>by kernel_rfl) s!"." rfl
open I in
theorem o31 (H:Row X):Fc X 919 [(`self,.local),(`total_sectors,.local),(`rsvd_sectors,.local),(`fat_sz,.local),(`root_dir_sectors,.local),(`data_sec,.local),(`count_of_clusters,.local),(`msft_fat_type,.local),(`linux_fat_type,.local)] [] [ld `self,gm `_get_total_sectors,J0 0 [],st `total_sectors,ld `self,attr `bpb_header,push (.str (N `BPB_RsvdSecCnt)),I.sub,st `rsvd_sectors,ld `self,attr `bpb_header,push (.str (N `BPB_NumFATs)),I.sub,ld `self,attr `_fat_size,bin .Mult,st `fat_sz,ld `self,attr `root_dir_sectors,st `root_dir_sectors,ld `total_sectors,ld `rsvd_sectors,ld `fat_sz,bin .Add,ld `root_dir_sectors,bin .Add,bin .Sub,st `data_sec,ld `data_sec,ld `self,attr `bpb_header,push (.str (N `BPB_SecPerClus)),I.sub,bin .FloorDiv,st `count_of_clusters,ld `count_of_clusters,push (.int 4085),cmp .Lt,tru,br [ld `self,attr `FAT_TYPE_FAT12,st `msft_fat_type] [ld `count_of_clusters,push (.int 65525),cmp .Lt,tru,br [ld `self,attr `FAT_TYPE_FAT16,st `msft_fat_type] [ld `self,attr `FAT_TYPE_FAT32,st `msft_fat_type]],ld `self,attr `bpb_header,push (.str (N `BPB_FATSz16)),I.sub,push (.int 0),cmp .Eq,tru,br [ld `self,attr `bpb_header,push (.str (N `BPB_FATSz32)),I.sub,push (.int 0),cmp .NotEq,tru,br [ld `self,attr `FAT_TYPE_FAT32,st `linux_fat_type] [ld `msft_fat_type,st `linux_fat_type]] [ld `count_of_clusters,push (.int 4085),cmp .GtE,tru,br [ld `self,attr `FAT_TYPE_FAT16,st `linux_fat_type] [ld `self,attr `FAT_TYPE_FAT12,st `linux_fat_type]],ld `linux_fat_type,I.ret]:=J3 H s!"." s!"."
theorem p31 (H:Row X) {a0:AV}:Binds X (fdK X.K 919) [a0] [] [(`self,a0)]:=Q0 H.k [(`self,.p 0)] (fun S w u=>by kernel_rfl) s!"." rfl
open I in
theorem t24 (H:Row X):Fc X 926 [(`self,.local),(`root_entries,.local),(`hdr_size,.local),(`bytes_per_sec,.local),(`rsvd_secs,.local),(`num_fats,.local),(`FATDirectoryEntry,.globalImplicit)] [] [ld `self,gm `_get_fat_size_count,J0 0 [],ld `self,Y0 `_fat_size,ld `self,gm `_determine_fat_type,J0 0 [],ld `self,Y0 `fat_type,ld `self,attr `bpb_header,push (.str (N `BPB_RootEntCnt)),I.sub,st `root_entries,push (.ref 606),attr `FAT_DIRECTORY_HEADER_SIZE,st `hdr_size,ld `self,attr `bpb_header,push (.str (N `BPB_BytsPerSec)),I.sub,st `bytes_per_sec,ld `self,attr `bpb_header,push (.str (N `BPB_RsvdSecCnt)),I.sub,st `rsvd_secs,ld `self,attr `bpb_header,push (.str (N `BPB_NumFATs)),I.sub,st `num_fats,ld `root_entries,ld `hdr_size,bin .Mult,ld `bytes_per_sec,push (.int 1),bin .Sub,bin .Add,ld `bytes_per_sec,bin .FloorDiv,ld `self,Y0 `root_dir_sectors,ld `rsvd_secs,ld `self,attr `_fat_size,ld `num_fats,bin .Mult,bin .Add,ld `self,Y0 `root_dir_sector,ld `rsvd_secs,ld `num_fats,ld `self,attr `_fat_size,bin .Mult,bin .Add,ld `self,attr `root_dir_sectors,bin .Add,ld `self,Y0 `first_data_sector,push (.bool true),ld `self,Y0 `initialized]:=J3 H s!"." s!"."
theorem v24 (H:Row X) {a0:AV}:Binds X (fdK X.K 926) [a0] [] [(`self,a0)]:=Q0 H.k [(`self,.p 0)] (fun S w u=>by kernel_rfl) s!"." rfl
open I in
theorem q31 (H:Row X):Fc X 711 [(`self,.local),(`encoding,.local),(`offset,.local),(`lazy_load,.local)] [] [push .none,ld `self,Y0 1569648,ld `offset,ld `self,Y0 `_fp_offset,push (.int 0),ld `self,Y0 `_fat_size,push .none,ld `self,Y0 `bpb_header,push .none,ld `self,Y0 `root_dir,push (.int 0),ld `self,Y0 `root_dir_sector,push (.int 0),ld `self,Y0 `root_dir_sectors,push (.int 0),ld `self,Y0 `bytes_per_cluster,push (.int 0),ld `self,Y0 `first_data_sector,push (.int 0),ld `self,Y0 `first_free_cluster,ld `self,attr `FAT_TYPE_UNKNOWN,ld `self,Y0 `fat_type,Y11,ld `self,Y0 1683700,push (.bool false),ld `self,Y0 `initialized,ld `encoding,ld `self,Y0 `encoding,push (.bool true),ld `self,Y0 `is_read_only,ld `lazy_load,ld `self,Y0 `lazy_load]:=J3 H s!"." s!"."
theorem r31 (H:Row X) {a0 b0:AV}:Binds X (fdK X.K 711) [a0] [(N `offset,b0)] [(`lazy_load,(.bool true)),(`offset,b0),(`encoding,(.str (N `ibm437))),(`self,a0)]:=Q0 H.k [(`self,.p 0),(`encoding,.c (.str "ibm437" 1315)),(`offset,.k 0),(`lazy_load,.c (.bool true))] (fun S w u=>by kernel_rfl) s!"." rfl
open I in
theorem w24 (H:Row X):Fc X 854 [(`self,.local),(`root_dir_byte,.local),(`max_bytes,.local),(`subdirs,.local),(95,.local),(`dir_entry,.local),(`FATDirectoryEntry,.globalImplicit)] [] [ld `self,attr `root_dir_sector,ld `self,attr `bpb_header,push (.str (N `BPB_BytsPerSec)),I.sub,bin .Mult,st `root_dir_byte,ld `self,attr `root_dir,gm `set_cluster,ld `self,attr `root_dir_sector,ld `self,attr `bpb_header,push (.str (N `BPB_SecPerClus)),I.sub,bin .FloorDiv,J0 1 [],drop,ld `self,attr `bpb_header,push (.str (N `BPB_RootEntCnt)),I.sub,push (.ref 606),attr `FAT_DIRECTORY_HEADER_SIZE,bin .Mult,st `max_bytes,ld `self,gm `parse_dir_entries_in_address,ld `root_dir_byte,ld `root_dir_byte,ld `max_bytes,bin .Add,J0 2 [],unp 2,st `subdirs,st 95,ld `subdirs,W4 [st `dir_entry] [ld `self,attr `root_dir,gm `add_subdirectory,ld `dir_entry,J0 1 [],drop] []]:=J3 H s!"." s!"."
theorem x24 (H:Row X) {a0:AV}:Binds X (fdK X.K 854) [a0] [] [(`self,a0)]:=Q0 H.k [(`self,.p 0)] (fun S w u=>by kernel_rfl) s!"." rfl
open I in
theorem y24 (H:Row X):Fc X 861 [(`self,.local),(`root_cluster,.local),(`dir_entry,.local)] [] [ld `self,attr `bpb_header,push (.str (N `BPB_RootClus)),I.sub,st `root_cluster,ld `self,attr `root_dir,gm `set_cluster,ld `root_cluster,J0 1 [],drop,ld `self,gm `parse_dir_entries_in_cluster_chain,ld `root_cluster,J0 1 [],W4 [st `dir_entry] [ld `self,attr `root_dir,gm `add_subdirectory,ld `dir_entry,ld `self,attr `lazy_load,tru,H7,J0 1 [`recursive],drop] []]:=J3 H s!"." s!"."
theorem z24 (H:Row X) {a0:AV}:Binds X (fdK X.K 861) [a0] [] [(`self,a0)]:=Q0 H.k [(`self,.p 0)] (fun S w u=>by kernel_rfl) s!"." rfl
open I in
theorem t31 (H:Row X):Fc X 868 [(`self,.local),(`root_dir_sfn,.local),(`dir_attr,.local),(`EightDotThree,.globalImplicit),(`FATDirectoryEntry,.globalImplicit)] [] [push (.ref 316),call 0 [],st `root_dir_sfn,ld `root_dir_sfn,gm `set_str_name,push (.str (N 0)),J0 1 [],drop,push (.ref 606),attr `ATTR_DIRECTORY,st `dir_attr,push (.ref 606),ld `self,ld `root_dir_sfn,ld `dir_attr,push (.int 0),push (.int 0),push (.int 0),push (.int 0),push (.int 0),push (.int 0),push (.int 0),push (.int 0),push (.int 0),push (.int 0),ld `self,attr `encoding,call 0 [13171,`DIR_Name,`DIR_Attr,`DIR_NTRes,`DIR_CrtTimeTenth,`DIR_CrtTime,`DIR_CrtDate,`DIR_LstAccessDate,`DIR_FstClusHI,`DIR_WrtTime,`DIR_WrtDate,`DIR_FstClusLO,`DIR_FileSize,`encoding],ld `self,Y0 `root_dir,ld `self,attr `fat_type,ld `self,attr `FAT_TYPE_FAT12,ld `self,attr `FAT_TYPE_FAT16,lst 2,cmp .In,tru,br [ld `self,gm `_fat12_parse_root_dir,J0 0 [],drop] [ld `self,gm `_fat32_parse_root_dir,J0 0 [],drop]]:=J3 H s!"." s!"."
theorem v31 (H:Row X) {a0:AV}:Binds X (fdK X.K 868) [a0] [] [(`self,a0)]:=Q0 H.k [(`self,.p 0)] (fun S w u=>by kernel_rfl) s!"." rfl
open I in
theorem p36 (H:Row X):Fc X 183 [(`self,.local),(`size,.local),(`found,.local),(1782510,.globalImplicit)] [] [ld `self,attr `data,ld `self,attr 12532,ld `self,attr 12532,ld `size,bin .Add,cut,st `found,ld `self,dup,attr 12532,push (.builtin "len"),ld `found,call 1 [],inp .Add,G7 12532,ld `found,I.ret]:=J3 H s!"." s!"."
theorem q36 (H:Row X) {a0 a1:AV}:Binds X (fdK X.K 183) [a0,a1] [] [(`size,a1),(`self,a0)]:=Q0 H.k [(`self,.p 0),(`size,.p 1)] (fun S w u=>by kernel_rfl) s!"." rfl
open I in
theorem r36 (H:Row X):Fc X 176 [(`self,.local),(12532,.local)] [] [ld 12532,ld `self,Y0 12532]:=J3 H s!"." s!"."
theorem s36 (H:Row X) {a0 a1:AV}:Binds X (fdK X.K 176) [a0,a1] [] [(12532,a1),(`self,a0)]:=Q0 H.k [(`self,.p 0),(12532,.p 1)] (fun S w u=>by kernel_rfl) s!"." rfl
noncomputable def a25:List (Nat×NameKind):=[(`self,.local),(1800679,.local),(`errno,.local),(`__class__,.free),(`super,.globalImplicit)]
theorem t36 (H:Row X):Fn X 38 (fdK X.K 38) a25 [(`__class__,25)] (Z2 X.K 38):=Fn.of (by rw [H.k];kernel_rfl)
open I in
theorem v36 (H:Row X):J5 a25 gt (Z2 X.K 38).tail=[ld `errno,ld `self,Y0 `errno]:=by rw [H.k];kernel_rfl
theorem w36 (H:Row X) {a0 a1 b0:AV}:Binds X (fdK X.K 38) [a0,a1] [(N `errno,b0)] [(`errno,b0),(1800679,a1),(`self,a0)]:=Q0 H.k [(`self,.p 0),(1800679,.p 1),(`errno,.k 0)] (fun S w u=>by kernel_rfl) s!"." rfl
noncomputable def v19:List (Nat×NameKind):=[(`self,.local),(1800679,.local),(`free_type,.local),(`__class__,.free),(`super,.globalImplicit)]
theorem w31 (H:Row X):Fn X 84 (fdK X.K 84) v19 [(`__class__,72)] (Z2 X.K 84):=Fn.of (by rw [H.k];kernel_rfl)
open I in
theorem x31 (H:Row X):J5 v19 gt (Z2 X.K 84).tail=[ld `free_type,ld `self,Y0 `free_type]:=by rw [H.k];kernel_rfl
theorem y31 (H:Row X) {a0 a1 b0:AV}:Binds X (fdK X.K 84) [a0,a1] [(N `free_type,b0)] [(`free_type,b0),(1800679,a1),(`self,a0)]:=Q0 H.k [(`self,.p 0),(1800679,.p 1),(`free_type,.k 0)] (fun S w u=>by kernel_rfl) s!"." rfl
open I in
theorem x36 (H:Row X):Fc X 148 [(`self,.local),(`data,.local),(`write,.local)] [] [ld `data,ld `self,Y0 `data,ld `write,ld `self,Y0 `write_allowed,push (.int 0),ld `self,Y0 12532]:=J3 H s!"." s!"."
theorem y36 (H:Row X) {a0 a1 a2:AV}:Binds X (fdK X.K 148) [a0,a1,a2] [] [(`write,a2),(`data,a1),(`self,a0)]:=Q0 H.k [(`self,.p 0),(`data,.p 1),(`write,.p 2)] (fun S w u=>by kernel_rfl) s!"." rfl
open I in
theorem r21 (H:Row X):Fc X 155 [(`self,.local)] [] [push (.bool true),I.ret]:=J3 H s!"." s!"."
theorem t21 (H:Row X) {a0:AV}:Binds X (fdK X.K 155) [a0] [] [(`self,a0)]:=Q0 H.k [(`self,.p 0)] (fun S w u=>by kernel_rfl) s!"." rfl
open I in
theorem v21 (H:Row X):Fc X 162 [(`self,.local)] [] [push (.bool true),I.ret]:=J3 H s!"." s!"."
theorem w21 (H:Row X) {a0:AV}:Binds X (fdK X.K 162) [a0] [] [(`self,a0)]:=Q0 H.k [(`self,.p 0)] (fun S w u=>by kernel_rfl) s!"." rfl
open I in
theorem x21 (H:Row X):Fc X 169 [(`self,.local)] [] [ld `self,attr `write_allowed,I.ret]:=J3 H s!"." s!"."
theorem y21 (H:Row X) {a0:AV}:Binds X (fdK X.K 169) [a0] [] [(`self,a0)]:=Q0 H.k [(`self,.p 0)] (fun S w u=>by kernel_rfl) s!"." rfl
open I in
theorem z31 (H:Row X):Fc X 190 [(`self,.local),(`data,.local),(`ahead,.local),(1782510,.globalImplicit)] [] [ld `self,attr `data,push .none,ld `self,attr 12532,cut,push (.bytes [0]),ld `self,attr 12532,push (.builtin "len"),ld `self,attr `data,call 1 [],bin .Sub,bin .Mult,bin .Add,st `ahead,ld `ahead,ld `data,bin .Add,ld `self,attr `data,ld `self,attr 12532,push (.builtin "len"),ld `data,call 1 [],bin .Add,push .none,cut,bin .Add,ld `self,Y0 `data,ld `self,dup,attr 12532,push (.builtin "len"),ld `data,call 1 [],inp .Add,G7 12532]:=J3 H s!"." s!"."
theorem a32 (H:Row X) {a0 a1:AV}:Binds X (fdK X.K 190) [a0,a1] [] [(`data,a1),(`self,a0)]:=Q0 H.k [(`self,.p 0),(`data,.p 1)] (fun S w u=>by kernel_rfl) s!"." rfl
open I in
theorem b51 (H:Row X):Fc X 109 [(`text,.local),(`bytes,.globalImplicit)] [] [push (.type "bytes"),cells [(5936,.local),(99,.local),(1833316,.globalImplicit)],ld `text,Z7 [(5936,.local),(99,.local),(1833316,.globalImplicit)] [st 99] [push (.bool true)] [push (.builtin "ord"),ld 99,call 1 []],call 1 [],I.ret]:=J3 H s!"." s!"."
theorem c51 (H:Row X) {a0:AV}:Binds X (fdK X.K 109) [a0] [] [(`text,a0)]:=Q0 H.k [(`text,.p 0)] (fun S w u=>by kernel_rfl) s!"." rfl
open I in
theorem n27 (H:Row X):Fc X 126 [(`path,.local),(1652724,.local),(`start,.local),(107,.local),(`range,.globalImplicit)] [] [ld `path,gm `rfind,push (.str (N 46)),J0 1 [],st 1652724,ld `path,gm `rfind,push (.str (N 47)),J0 1 [],push (.int 1),bin .Add,st `start,push (.type "range"),ld `start,ld 1652724,call 2 [],W4 [st 107] [ld `path,ld 107,I.sub,push (.str (N 46)),cmp .NotEq,tru,br [ld `path,push .none,ld 1652724,cut,ld `path,ld 1652724,push .none,cut,tup 2,I.ret] []] [],ld `path,push (.str (N 0)),tup 2,I.ret]:=J3 H s!"." s!"."
theorem o27 (H:Row X) {a0:AV}:Binds X (fdK X.K 126) [a0] [] [(`path,a0)]:=Q0 H.k [(`path,.p 0)] (fun S w u=>by kernel_rfl) s!"." rfl
open I in
theorem w19 (H:Row X):Fc X 213 [(`self,.local),(`encoding,.local)] [] [push .none,ld `self,Y0 `name,ld `encoding,ld `self,Y0 `encoding,push (.bool false),ld `self,Y0 `initialized]:=J3 H s!"." s!"."
theorem b32 (H:Row X) {a0:AV}:Binds X (fdK X.K 213) [a0] [] [(`encoding,(.str (N 478353278342833))),(`self,a0)]:=Q0 H.k [(`self,.p 0),(`encoding,.c (.str "latin-1" 342))] (fun S w u=>by kernel_rfl) s!"." rfl
theorem p27 (H:Row X) {a0 b0:AV}:Binds X (fdK X.K 213) [a0] [(N `encoding,b0)] [(`encoding,b0),(`self,a0)]:=Q0 H.k [(`self,.p 0),(`encoding,.k 0)] (fun S w u=>by kernel_rfl) s!"." rfl
open I in
theorem z21 (H:Row X):Fc X 258 [(`self,.local),(`name,.local),(`isinstance,.globalImplicit),(`bytes,.globalImplicit),(`TypeError,.globalImplicit),(`bytearray,.globalImplicit),(1782510,.globalImplicit),(`ValueError,.globalImplicit),(`NotAFatEntryException,.globalImplicit)] [] [push (.builtin "isinstance"),ld `name,push (.type "bytes"),call 2 [],tru,H7,br [push (.type "TypeError"),push (.str (N 66536508880302993775949686823107592545825406078230469679902796148271411501824430)),call 1 [],I6] [],push (.type "bytearray"),ld `name,call 1 [],st `name,push (.builtin "len"),ld `name,call 1 [],push (.int 11),cmp .NotEq,tru,br [push (.type "ValueError"),push (.str (N 419446270437039883322531037451876977429894782210343413029167336662079669982932638247534277449410404596053484785345863330956438697465006)),call 1 [],I6] [],ld `name,push (.int 0),I.sub,push (.int 0),cmp .Eq,tru,jor [ld `name,push (.int 0),I.sub,push (.int 229),cmp .Eq,tru,jor [push (.bool false)]],br [push (.ref 87),push (.str (N 10054712941551663701519013304484858296286538941479042120857423762019440543876164809174791617292988543662)),ld `name,push (.int 0),I.sub,call 1 [`free_type],I6] [],ld `self,gm `_set_name,ld `name,J0 1 [],drop]:=J3 H s!"." s!"."
theorem a22 (H:Row X) {a0 a1:AV}:Binds X (fdK X.K 258) [a0,a1] [] [(`name,a1),(`self,a0)]:=Q0 H.k [(`self,.p 0),(`name,.p 1)] (fun S w u=>by kernel_rfl) s!"." rfl
open I in
theorem b25 (H:Row X):Fc X 265 [(`self,.local),(`name,.local),(`isinstance,.globalImplicit),(1899122,.globalImplicit),(`TypeError,.globalImplicit),(`bytearray,.globalImplicit),(`encoded,.globalImplicit)] [] [push (.builtin "isinstance"),ld `name,push (.type "str"),call 2 [],tru,H7,br [push (.type "TypeError"),push (.str (N 4061066215838805772457866627386938021595788945204496440423754647721679337774)),call 1 [],I6] [],ld `self,gm `is_8dot3_conform,ld `name,ld `self,attr `encoding,J0 2 [],tru,H7,br [ld `self,gm `_raise_8dot3_nonconformant,ld `name,J0 1 [],drop] [],push (.type "bytearray"),push (.ref 109),ld `self,gm `_pad_8dot3_name,ld `name,J0 1 [],call 1 [],call 1 [],st `name,ld `name,push (.int 0),I.sub,push (.int 229),cmp .Eq,tru,br [push (.int 5),ld `name,push (.int 0),I7] [],ld `name,ld `self,Y0 `name,push (.bool true),ld `self,Y0 `initialized]:=J3 H s!"." s!"."
theorem c25 (H:Row X) {a0 a1:AV}:Binds X (fdK X.K 265) [a0,a1] [] [(`name,a1),(`self,a0)]:=Q0 H.k [(`self,.p 0),(`name,.p 1)] (fun S w u=>by kernel_rfl) s!"." rfl
open I in
theorem q27 (H:Row X):Fc X 279 [(`name,.local),(`encoding,.local),(99,.local),(`encoded,.globalImplicit),(`EightDotThree,.globalImplicit),(`ValueError,.globalImplicit)] [] [push (.ref 109),ld `name,call 1 [],W4 [st 99] [ld 99,push (.ref 316),attr `INVALID_CHARACTERS,cmp .In,tru,br [push (.type "ValueError"),push (.str (N 278769862696242166715446570763958297063675770016139889497254929639117518830169661102728945462992217676944760505869626551293788914180707960150207274732199512343899188982446)),call 1 [],I6] []] []]:=J3 H s!"." s!"."
theorem r27 (H:Row X) {a0 b0:AV}:Binds X (fdK X.K 279) [a0] [(N `encoding,b0)] [(`encoding,b0),(`name,a0)]:=Q0 H.k [(`name,.p 0),(`encoding,.k 0)] (fun S w u=>by kernel_rfl) s!"." rfl
open I in
theorem b22 (H:Row X):Fc X 290 [(`entry_name,.local),(`encoding,.local),(`root,.local),(1670260,.local),(105,.local),(`splitext,.globalImplicit),(1782510,.globalImplicit),(`EightDotThree,.globalImplicit),(`ValueError,.globalImplicit)] [] [ld `entry_name,ld `entry_name,gm `upper,J0 0 [],cmp .NotEq,tru,br [push (.bool false),I.ret] [],push (.ref 126),ld `entry_name,call 1 [],unp 2,st `root,st 1670260,ld 1670260,push (.int 1),push .none,cut,st 1670260,push (.builtin "len"),ld `root,call 1 [],push (.builtin "len"),ld 1670260,call 1 [],bin .Add,push (.int 11),cmp .Gt,tru,br [push (.bool false),I.ret] [push (.builtin "len"),ld `root,call 1 [],push (.int 8),cmp .Gt,tru,jor [push (.builtin "len"),ld 1670260,call 1 [],push (.int 3),cmp .Gt,tru,jor [push (.bool false)]],br [push (.bool false),I.ret] []],ld `root,ld 1670260,lst 2,W4 [st 105] [Q10 [push (.ref 316),gm `_check_characters,ld 105,ld `encoding,J0 1 [`encoding],drop] [⟨(.type "ValueError"),none,[push (.bool false),I.ret]⟩] []] [],push (.bool true),I.ret]:=J3 H s!"." s!"."
theorem c22 (H:Row X) {a0 a1:AV}:Binds X (fdK X.K 290) [a0,a1] [] [(`encoding,a1),(`entry_name,a0)]:=Q0 H.k [(`entry_name,.p 0),(`encoding,.p 1)] (fun S w u=>by kernel_rfl) s!"." rfl
open I in
theorem z36 (H:Row X):Fc X 300 [(`name,.local),(`root,.local),(1670260,.local),(`splitext,.globalImplicit)] [] [push (.ref 126),ld `name,call 1 [],unp 2,st `root,st 1670260,ld 1670260,push (.int 1),push .none,cut,st 1670260,ld `root,gm `strip,J0 0 [],gm `ljust,push (.int 8),J0 1 [],ld 1670260,gm `strip,J0 0 [],gm `ljust,push (.int 3),J0 1 [],bin .Add,st `name,ld `name,I.ret]:=J3 H s!"." s!"."
theorem a37 (H:Row X) {a0:AV}:Binds X (fdK X.K 300) [a0] [] [(`name,a0)]:=Q0 H.k [(`name,.p 0)] (fun S w u=>by kernel_rfl) s!"." rfl
open I in
theorem c32 (H:Row X):Fc X 336 [(`self,.local),(`DIR_Name,.local),(`DIR_Attr,.local),(`DIR_NTRes,.local),(`DIR_CrtTimeTenth,.local),(`DIR_CrtTime,.local),(`DIR_CrtDate,.local),(`DIR_LstAccessDate,.local),(`DIR_FstClusHI,.local),(`DIR_WrtTime,.local),(`DIR_WrtDate,.local),(`DIR_FstClusLO,.local),(`DIR_FileSize,.local),(`encoding,.local),(13171,.local),(`lazy_load,.local),(`lfn_entry,.local),(1734516,.globalImplicit),(`BrokenLFNEntryException,.globalImplicit)] [] [ld `DIR_Name,ld `self,Y0 `name,push (.type "int"),ld `DIR_Attr,call 1 [],ld `self,Y0 `attr,push (.type "int"),ld `DIR_NTRes,call 1 [],ld `self,Y0 `ntres,push (.type "int"),ld `DIR_CrtTimeTenth,call 1 [],ld `self,Y0 `crttimetenth,push (.type "int"),ld `DIR_CrtTime,call 1 [],ld `self,Y0 `crttime,push (.type "int"),ld `DIR_CrtDate,call 1 [],ld `self,Y0 `crtdate,push (.type "int"),ld `DIR_LstAccessDate,call 1 [],ld `self,Y0 `lstaccessdate,push (.type "int"),ld `DIR_FstClusHI,call 1 [],ld `self,Y0 `fstclushi,push (.type "int"),ld `DIR_WrtTime,call 1 [],ld `self,Y0 `wrttime,push (.type "int"),ld `DIR_WrtDate,call 1 [],ld `self,Y0 `wrtdate,push (.type "int"),ld `DIR_FstClusLO,call 1 [],ld `self,Y0 `fstcluslo,ld `self,gm `set_size,push (.type "int"),ld `DIR_FileSize,call 1 [],J0 1 [],drop,ld `lazy_load,ld `self,Y0 `_lazy_load,ld 13171,ld `self,Y0 1569651,push .none,ld `self,Y0 `_parent,push .none,ld `self,Y0 `lfn_entry,Q10 [ld `self,gm `set_lfn_entry,ld `lfn_entry,J0 1 [],drop] [⟨(.ref 66),none,[push .none,ld `self,Y0 `lfn_entry]⟩] [],lst 0,ld `self,Y0 `_dirs,ld `encoding,ld `self,Y0 `_encoding]:=J3 H s!"." s!"."
theorem d32 (H:Row X) {a0 b0 b1 b2 b3 b4 b5 b6 b7 b8 b9 b10 b11 b12 b13:AV}:Binds X (fdK X.K 336) [a0] [(N 13171,b0),(N `DIR_Name,b1),(N `DIR_Attr,b2),(N `DIR_NTRes,b3),(N `DIR_CrtTimeTenth,b4),(N `DIR_CrtTime,b5),(N `DIR_CrtDate,b6),(N `DIR_LstAccessDate,b7),(N `DIR_FstClusHI,b8),(N `DIR_WrtTime,b9),(N `DIR_WrtDate,b10),(N `DIR_FstClusLO,b11),(N `DIR_FileSize,b12),(N `encoding,b13)] [(`lfn_entry,.none),(`lazy_load,(.bool false)),(13171,b0),(`encoding,b13),(`DIR_FileSize,b12),(`DIR_FstClusLO,b11),(`DIR_WrtDate,b10),(`DIR_WrtTime,b9),(`DIR_FstClusHI,b8),(`DIR_LstAccessDate,b7),(`DIR_CrtDate,b6),(`DIR_CrtTime,b5),(`DIR_CrtTimeTenth,b4),(`DIR_NTRes,b3),(`DIR_Attr,b2),(`DIR_Name,b1),(`self,a0)]:=Q0 H.k [(`self,.p 0),(`DIR_Name,.k 1),(`DIR_Attr,.k 2),(`DIR_NTRes,.k 3),(`DIR_CrtTimeTenth,.k 4),(`DIR_CrtTime,.k 5),(`DIR_CrtDate,.k 6),(`DIR_LstAccessDate,.k 7),(`DIR_FstClusHI,.k 8),(`DIR_WrtTime,.k 9),(`DIR_WrtDate,.k 10),(`DIR_FstClusLO,.k 11),(`DIR_FileSize,.k 12),(`encoding,.k 13),(13171,.k 0),(`lazy_load,.c (.bool false)),(`lfn_entry,.c .none)] (fun S w u=>by kernel_rfl) s!"." rfl
open I in
theorem d22 (H:Row X):Fc X 343 [(`self,.local),(`size,.local),(`PyFATException,.globalImplicit),(`errno,.globalImplicit)] [] [ld `size,ld `self,attr `MAX_FILE_SIZE,cmp .Gt,tru,br [push (.ref 41),Mine.fail,push (.ref 100),attr `E2BIG,call 1 [`errno],I6] [],ld `size,ld `self,Y0 `filesize]:=J3 H s!"." s!"."
theorem e22 (H:Row X) {a0 a1:AV}:Binds X (fdK X.K 343) [a0,a1] [] [(`size,a1),(`self,a0)]:=Q0 H.k [(`self,.p 0),(`size,.p 1)] (fun S w u=>by kernel_rfl) s!"." rfl
open I in
theorem d25 (H:Row X):Fc X 399 [(`self,.local),(`lfn_entry,.local),(`chksum,.local),(`entry,.local),(`entry_chksum,.local),(`isinstance,.globalImplicit),(`FATLongDirectoryEntry,.globalImplicit),(`BrokenLFNEntryException,.globalImplicit)] [] [push (.builtin "isinstance"),ld `lfn_entry,push (.ref 681),call 2 [],tru,H7,br [Z14] [],ld `self,gm `get_checksum,J0 0 [],st `chksum,ld `lfn_entry,attr `lfn_entries,W4 [st `entry] [ld `lfn_entry,attr `lfn_entries,ld `entry,I.sub,push (.str (N `LDIR_Chksum)),I.sub,st `entry_chksum,ld `entry_chksum,ld `chksum,cmp .NotEq,tru,br [push (.ref 66),Mine.fail,call 1 [],I6] []] [],ld `lfn_entry,ld `self,Y0 `lfn_entry]:=J3 H s!"." s!"."
theorem e25 (H:Row X) {a0 a1:AV}:Binds X (fdK X.K 399) [a0,a1] [] [(`lfn_entry,a1),(`self,a0)]:=Q0 H.k [(`self,.p 0),(`lfn_entry,.p 1)] (fun S w u=>by kernel_rfl) s!"." rfl
open I in
theorem f22 (H:Row X):Fc X 420 [(`self,.local),(`first_cluster,.local)] [] [ld `first_cluster,push (.int 16),push (.int 0),bin .Mult,bin .RShift,push (.int 65535),bin .BitAnd,ld `self,Y0 `fstcluslo,ld `first_cluster,push (.int 16),push (.int 1),bin .Mult,bin .RShift,push (.int 65535),bin .BitAnd,ld `self,Y0 `fstclushi]:=J3 H s!"." s!"."
theorem g22 (H:Row X) {a0 a1:AV}:Binds X (fdK X.K 420) [a0,a1] [] [(`first_cluster,a1),(`self,a0)]:=Q0 H.k [(`self,.p 0),(`first_cluster,.p 1)] (fun S w u=>by kernel_rfl) s!"." rfl
open I in
theorem i32 (H:Row X):Fc X 625 [(`self,.local)] [] [Y11,ld `self,Y0 `lfn_entries]:=J3 H s!"." s!"."
theorem j32 (H:Row X) {a0:AV}:Binds X (fdK X.K 625) [a0] [] [(`self,a0)]:=Q0 H.k [(`self,.p 0)] (fun S w u=>by kernel_rfl) s!"." rfl
open I in
theorem t27 (H:Row X):Fc X 883 [(`self,.local),(`address,.local),(`dir_hdr_size,.local),(`dir_data,.local),(`dir_hdr,.local),(12532,.local),(`FATDirectoryEntry,.globalImplicit),(`range,.globalImplicit),(1734516,.globalImplicit),(`dict,.globalImplicit),(2012400,.globalImplicit)] [] [ld `self,gm `_seek,ld `address,J0 1 [],drop,push (.ref 606),attr `FAT_DIRECTORY_HEADER_SIZE,st `dir_hdr_size,ld `self,attr 1569648,gm `read,ld `dir_hdr_size,J0 1 [],st `dir_data,ld `dir_data,push .none,push (.int 11),cut,ld `dir_data,push (.int 11),I.sub,ld `dir_data,push (.int 12),I.sub,ld `dir_data,push (.int 13),I.sub,lst 4,st `dir_hdr,push (.type "range"),push (.int 14),push (.int 28),push (.int 2),call 3 [],W4 [st 12532] [ld `dir_hdr,push (.type "int"),gm `from_bytes,ld `dir_data,ld 12532,ld 12532,push (.int 2),bin .Add,cut,push (.str (N `little)),J0 2 [],lst 1,inp .Add,st `dir_hdr] [],ld `dir_hdr,push (.type "int"),gm `from_bytes,ld `dir_data,push (.int 28),push (.int 32),cut,push (.str (N `little)),J0 2 [],lst 1,inp .Add,st `dir_hdr,push (.type "dict"),push (.type "zip"),push (.ref 606),attr `FAT_DIRECTORY_VARS,ld `dir_hdr,call 2 [],call 1 [],st `dir_hdr,ld `dir_hdr,I.ret]:=J3 H s!"." s!"."
theorem v27 (H:Row X) {a0 a1:AV}:Binds X (fdK X.K 883) [a0,a1] [] [(`address,a1),(`self,a0)]:=Q0 H.k [(`self,.p 0),(`address,.p 1)] (fun S w u=>by kernel_rfl) s!"." rfl
open I in
theorem y15 (H:Row X):Fc X 891 [(`self,.local),(`address,.local),(`max_address,.local),(`tmp_lfn_entry,.local),(`dir_hdr_size,.local),(`dir_entries,.local),(`hdr_addr,.local),(`dir_hdr,.local),(`dir_sn,.local),(`dir_first_byte,.local),(13048,.local),(`dir_entry,.local),(`cluster,.local),(`subdirs,.local),(100,.local),(`FATLongDirectoryEntry,.globalImplicit),(`FATDirectoryEntry,.globalImplicit),(`range,.globalImplicit),(`EightDotThree,.globalImplicit),(`NotAFatEntryException,.globalImplicit)] [] [ld `tmp_lfn_entry,push .none,cmp .Is,tru,br [push (.ref 681),call 0 [],st `tmp_lfn_entry] [],push (.ref 606),attr `FAT_DIRECTORY_HEADER_SIZE,st `dir_hdr_size,ld `max_address,push (.int 0),cmp .Eq,tru,br [push (.ref 606),attr `FAT_DIRECTORY_HEADER_SIZE,st `max_address] [],lst 0,st `dir_entries,push (.type "range"),ld `address,ld `max_address,ld `dir_hdr_size,call 3 [],W4 [st `hdr_addr] [ld `self,gm `_parse_dir_entry,ld `hdr_addr,J0 1 [],st `dir_hdr,push (.ref 316),ld `self,attr `encoding,call 0 [`encoding],st `dir_sn,ld `dir_hdr,push (.str (N `DIR_Name)),I.sub,push (.int 0),I.sub,st `dir_first_byte,Q10 [ld `dir_sn,gm `set_byte_name,ld `dir_hdr,push (.str (N `DIR_Name)),I.sub,J0 1 [],drop] [⟨(.ref 87),some 13048,[push (.ref 681),call 0 [],st `tmp_lfn_entry,ld 13048,attr `free_type,push (.ref 606),attr `FREE_DIR_ENTRY_MARK,cmp .Eq,tru,br [cont] [ld 13048,attr `free_type,push (.ref 606),attr `LAST_DIR_ENTRY_MARK,cmp .Eq,tru,br [brk] []]]⟩] [ld `dir_sn,ld `dir_hdr,push (.str (N `DIR_Name)),I7],push (.ref 681),gm `is_lfn_entry,ld `dir_first_byte,ld `dir_hdr,push (.str (N `DIR_Attr)),I.sub,J0 2 [],tru,br [ld `self,gm `parse_lfn_entry,ld `tmp_lfn_entry,ld `hdr_addr,J0 2 [],drop,cont] [],ld `tmp_lfn_entry,gm `is_lfn_entry_complete,J0 0 [],tru,H7,br [push .none,st `tmp_lfn_entry] [],push (.ref 606),ld `self,ld `self,attr `encoding,ld `tmp_lfn_entry,ld `self,attr `lazy_load,ld `dir_hdr,push (.str (N `DIR_Name)),I.sub,ld `dir_hdr,push (.str (N `DIR_Attr)),I.sub,ld `dir_hdr,push (.str (N `DIR_NTRes)),I.sub,ld `dir_hdr,push (.str (N `DIR_CrtTimeTenth)),I.sub,ld `dir_hdr,push (.str (N `DIR_CrtTime)),I.sub,ld `dir_hdr,push (.str (N `DIR_CrtDate)),I.sub,ld `dir_hdr,push (.str (N `DIR_LstAccessDate)),I.sub,ld `dir_hdr,push (.str (N `DIR_FstClusHI)),I.sub,ld `dir_hdr,push (.str (N `DIR_WrtTime)),I.sub,ld `dir_hdr,push (.str (N `DIR_WrtDate)),I.sub,ld `dir_hdr,push (.str (N `DIR_FstClusLO)),I.sub,ld `dir_hdr,push (.str (N `DIR_FileSize)),I.sub,call 0 [13171,`encoding,`lfn_entry,`lazy_load,`DIR_Name,`DIR_Attr,`DIR_NTRes,`DIR_CrtTimeTenth,`DIR_CrtTime,`DIR_CrtDate,`DIR_LstAccessDate,`DIR_FstClusHI,`DIR_WrtTime,`DIR_WrtDate,`DIR_FstClusLO,`DIR_FileSize],st `dir_entry,ld `dir_entries,ld `dir_entry,lst 1,inp .Add,st `dir_entries,ld `self,attr `lazy_load,tru,H7,br [ld `dir_entry,gm `is_directory,J0 0 [],tru,T9 [ld `dir_entry,gm `is_special,J0 0 [],tru,H7,T9 [push (.bool true)]],br [ld `dir_entry,gm `get_cluster,J0 0 [],st `cluster,ld `self,gm `parse_dir_entries_in_cluster_chain,ld `cluster,J0 1 [],st `subdirs,ld `subdirs,W4 [st 100] [ld `dir_entry,gm `add_subdirectory,ld 100,J0 1 [],drop] []] []] [],push (.ref 681),call 0 [],st `tmp_lfn_entry] [],ld `dir_entries,ld `tmp_lfn_entry,tup 2,I.ret]:=J3 H s!"." s!"."
theorem z15 (H:Row X) {a0 a1 a2:AV}:Binds X (fdK X.K 891) [a0,a1,a2] [] [(`tmp_lfn_entry,.none),(`max_address,a2),(`address,a1),(`self,a0)]:=Q0 H.k [(`self,.p 0),(`address,.p 1),(`max_address,.p 2),(`tmp_lfn_entry,.c .none)] (fun S w u=>by kernel_rfl) s!"." rfl
theorem h22 (H:Row X) {a0 a1 a2 a3:AV}:Binds X (fdK X.K 891) [a0,a1,a2,a3] [] [(`tmp_lfn_entry,a3),(`max_address,a2),(`address,a1),(`self,a0)]:=Q0 H.k [(`self,.p 0),(`address,.p 1),(`max_address,.p 2),(`tmp_lfn_entry,.p 3)] (fun S w u=>by kernel_rfl) s!"." rfl
open I in
theorem i22 (H:Row X):Fc X 898 [(`self,.local),(`cluster,.local),(`dir_entries,.local),(`tmp_lfn_entry,.local),(`max_bytes,.local),(99,.local),(98,.local),(1880820,.local),(`tmp_dir_entries,.local),(`FATLongDirectoryEntry,.globalImplicit)] [] [lst 0,st `dir_entries,push (.ref 681),call 0 [],st `tmp_lfn_entry,ld `self,attr `bpb_header,push (.str (N `BPB_SecPerClus)),I.sub,ld `self,attr `bpb_header,push (.str (N `BPB_BytsPerSec)),I.sub,bin .Mult,st `max_bytes,ld `self,gm `get_cluster_chain,ld `cluster,J0 1 [],W4 [st 99] [ld `self,gm `get_data_cluster_address,ld 99,J0 1 [],st 98,ld `self,gm `parse_dir_entries_in_address,ld 98,ld 98,ld `max_bytes,bin .Add,ld `tmp_lfn_entry,J0 3 [],st 1880820,ld 1880820,unp 2,st `tmp_dir_entries,st `tmp_lfn_entry,ld `dir_entries,ld `tmp_dir_entries,inp .Add,st `dir_entries] [],ld `dir_entries,I.ret]:=J3 H s!"." s!"."
theorem j22 (H:Row X) {a0 a1:AV}:Binds X (fdK X.K 898) [a0,a1] [] [(`cluster,a1),(`self,a0)]:=Q0 H.k [(`self,.p 0),(`cluster,.p 1)] (fun S w u=>by kernel_rfl) s!"." rfl
theorem w27 (H:Row X) {a0 a1:AV}:Binds X (fdK X.K 912) [a0,a1] [] [(`first_cluster,a1),(`self,a0)]:=Q0 H.k [(`self,.p 0),(`first_cluster,.p 1)] (fun S w u=>by kernel_rfl) s!"." rfl
open I in
theorem k32 (H:Row X):Fc X 947 [] [] [Y10,push (.int 0),push (.int 32768),push (.int 134217728),S8 [12,16,32],I.ret]:=J3 H s!"." s!"."
theorem m32 (H:Row X):Binds X (fdK X.K 947) [] [] []:=Q0 H.k [] (fun S w u=>by kernel_rfl) s!"." rfl
open I in
theorem b37 (H:Row X):Fc X 954 [(`script,.local),(107,.local),(`many,.local),(1782510,.globalImplicit)] [] [ld `script,tru,br [ld `script,ld 107,push (.builtin "len"),ld `script,call 1 [],bin .Mod,I.sub,push (.int 7),ld 107,bin .Mult,ld 107,push (.builtin "len"),ld `script,call 1 [],bin .FloorDiv,bin .Mult,bin .Add,ld `many,bin .Mod,I.ret] [],push (.int 13),ld 107,bin .Mult,push (.int 5),bin .Add,ld `many,bin .Mod,I.ret]:=J3 H s!"." s!"."
theorem c37 (H:Row X) {a0 a1 a2:AV}:Binds X (fdK X.K 954) [a0,a1,a2] [] [(`many,a2),(107,a1),(`script,a0)]:=Q0 H.k [(`script,.p 0),(107,.p 1),(`many,.p 2)] (fun S w u=>by kernel_rfl) s!"." rfl
open I in
theorem d37 (H:Row X):Fc X 961 [(`kind,.local),(`entries,.local),(`size,.local),(`whole,.local),(107,.local),(`range,.globalImplicit),(1782510,.globalImplicit)] [] [push (.int 0),st `whole,push (.type "range"),push (.builtin "len"),ld `entries,call 1 [],call 1 [],W4 [st 107] [ld `whole,ld `entries,ld 107,I.sub,ld `kind,ld 107,bin .Mult,bin .LShift,inp .Add,st `whole] [],ld `whole,gm `to_bytes,ld `size,push (.str (N `little)),J0 2 [],I.ret]:=J3 H s!"." s!"."
theorem e37 (H:Row X) {a0 a1 a2:AV}:Binds X (fdK X.K 961) [a0,a1,a2] [] [(`size,a2),(`entries,a1),(`kind,a0)]:=Q0 H.k [(`kind,.p 0),(`entries,.p 1),(`size,.p 2)] (fun S w u=>by kernel_rfl) s!"." rfl
open I in
theorem x27 (H:Row X):Fc X 968 [(`header,.local),(`image,.local),(`offset,.local),(`may_write,.local),(`volume,.local),(`name,.local),(`octets,.local),(`PyFat,.globalImplicit),(`Octets,.globalImplicit)] [] [push (.ref 936),ld `offset,call 0 [`offset],st `volume,Y11,ld `volume,Y0 `bpb_header,ld `header,W4 [st `name] [ld `header,ld `name,I.sub,ld `volume,attr `bpb_header,ld `name,I7] [],push (.ref 193),ld `image,ld `may_write,call 2 [],st `octets,ld `volume,gm `set_fp,ld `octets,J0 1 [],drop,ld `volume,ld `octets,tup 2,I.ret]:=J3 H s!"." s!"."
theorem y27 (H:Row X) {a0 a1 a2 a3:AV}:Binds X (fdK X.K 968) [a0,a1,a2,a3] [] [(`may_write,a3),(`offset,a2),(`image,a1),(`header,a0)]:=Q0 H.k [(`header,.p 0),(`image,.p 1),(`offset,.p 2),(`may_write,.p 3)] (fun S w u=>by kernel_rfl) s!"." rfl
noncomputable def k22:List (Nat×NameKind):=[(`script,.cell),(`kind,.local),(`sector,.local),(`size,.local),(`count,.local),(`copies,.local),(`offset,.local),(`reserved,.local),(`reach,.cell),(107,.local),(`entries,.local),(`header,.local),(`ahead,.local),(`behind,.local),(`image,.local),(`first,.local),(`octets,.local),(`refusal,.local),(`second,.local),(`place,.local),(`laid,.local),(`third,.local),(`_law_take,.globalImplicit),(1799406,.globalImplicit),(`range,.globalImplicit),(`_law_clean,.globalImplicit),(`bytes,.globalImplicit),(`_law_laid,.globalImplicit),(`_law_volume,.globalImplicit),(`PyFATException,.globalImplicit)]
theorem s40 (H:Row X):FnC X 973 (fdK X.K 973) k22 (Z2 X.K 973):=FnC.of (by rw [H.k];kernel_rfl)
open I in
theorem t40 (H:Row X):J5 k22 gt (Z2 X.K 973)=[push (.int 12),push (.int 16),push (.int 32),lst 3,push (.ref 954),ldc `script,push (.int 0),push (.int 3),call 3 [],I.sub,st `kind,ld `kind,push (.int 12),cmp .Eq,tru,br [push (.int 14),push (.int 3),push (.ref 954),ldc `script,push (.int 1),push (.int 9),call 3 [],bin .Mult,bin .Add,st `sector,ld `sector,st `size] [push (.int 12),push (.int 4),push (.ref 954),ldc `script,push (.int 1),push (.int 7),call 3 [],bin .Mult,bin .Add,st `sector,ld `sector,ld `kind,push (.int 32),cmp .Eq,tru,br [push (.int 2)] [push (.int 1),push (.ref 954),ldc `script,push (.int 2),push (.int 2),call 3 [],bin .Add],bin .Mult,st `size],ld `size,push (.int 8),bin .Mult,ld `kind,bin .FloorDiv,st `count,push (.int 1),push (.ref 954),ldc `script,push (.int 3),push (.int 3),call 3 [],bin .Add,st `copies,push (.ref 954),ldc `script,push (.int 4),push (.int 7),call 3 [],st `offset,push (.int 1),push (.ref 954),ldc `script,push (.int 6),push (.int 3),call 3 [],bin .Add,st `reserved,push (.builtin "min"),ld `kind,push (.int 28),call 2 [],stc `reach,cells [(5936,.local),(107,.local),(`_law_take,.globalImplicit),(`reach,.free),(`script,.free)],push (.type "range"),ld `count,call 1 [],Z7 [(5936,.local),(107,.local),(`_law_take,.globalImplicit),(`reach,.free),(`script,.free)] [st 107] [push (.bool true)] [push (.ref 954),ldc `script,push (.int 8),ld 107,bin .Add,push (.int 2),ldc `reach,bin .Pow,call 3 []],st `entries,ld `kind,push (.int 32),cmp .Eq,tru,br [push (.int 268435455),ld `entries,push (.int 2),I7] [],push (.ref 954),ldc `script,push (.int 7),push (.int 4),call 3 [],push (.int 0),cmp .NotEq,tru,br [ld `entries,push (.int 1),I.sub,push (.ref 947),call 0 [],ld `kind,I.sub,bin .BitOr,ld `entries,push (.int 1),I7] [],Y11,ld `sector,push (.int 1),ld `reserved,ld `copies,ld `kind,push (.int 32),cmp .Eq,tru,br [push (.int 0)] [push (.int 1)],ld `kind,push (.int 12),cmp .Eq,tru,br [push (.int 4000)] [push (.int 9000)],push (.int 0),ld `kind,push (.int 32),cmp .Eq,tru,br [push (.int 0)] [ld `size,ld `sector,bin .FloorDiv],ld `size,ld `sector,bin .FloorDiv,push (.int 2),push (.int 6),O12 [`BPB_BytsPerSec,`BPB_SecPerClus,`BPB_RsvdSecCnt,`BPB_NumFATs,`BPB_RootEntCnt,`BPB_TotSec16,`BPB_TotSec32,`BPB_FATSz16,`BPB_FATSz32,`BPB_RootClus,`BS_Reserved1],st `header,push (.type "bytes"),cells [(5936,.local),(107,.local),(`_law_take,.globalImplicit),(`script,.free)],push (.type "range"),ld `offset,call 1 [],Z7 [(5936,.local),(107,.local),(`_law_take,.globalImplicit),(`script,.free)] [st 107] [push (.bool true)] [push (.ref 954),ldc `script,push (.int 40),ld 107,bin .Add,push (.int 256),call 3 []],call 1 [],push (.bytes [7]),ld `sector,ld `reserved,bin .Mult,bin .Mult,bin .Add,st `ahead,push (.bytes [0]),push (.int 4),push (.int 39),bin .Mult,bin .Mult,st `behind,ld `ahead,push (.ref 961),ld `kind,ld `entries,ld `size,call 3 [],ld `copies,bin .Mult,bin .Add,ld `behind,bin .Add,st `image,push (.ref 968),ld `header,ld `image,ld `offset,push (.bool false),call 4 [],unp 2,st `first,st `octets,ld `first,attr `fat_type,ld `kind,cmp .NotEq,tru,jor [ld `first,attr 1683700,ld `entries,cmp .NotEq,tru,jor [ld `first,gm `as_bytes,J0 0 [],push (.ref 961),ld `kind,ld `entries,ld `size,call 3 [],cmp .NotEq,tru,jor [push (.bool false)]]],br [push (.bool false),I.ret] [],Q10 [ld `first,gm `flush_fat,J0 0 [],drop,push (.bool false),I.ret] [⟨(.ref 41),some `refusal,[ld `refusal,attr `errno,push (.int 30),cmp .NotEq,tru,jor [ld `octets,attr `data,ld `image,cmp .NotEq,tru,jor [ld `first,attr `bpb_header,ld `header,cmp .NotEq,tru,jor [push (.bool false)]]],br [push (.bool false),I.ret] []]⟩] [],push (.ref 968),ld `header,ld `image,ld `offset,push (.bool true),call 4 [],unp 2,st `second,st `octets,ld `entries,push (.int 1),I.sub,push (.int 2),ldc `reach,bin .Pow,push (.int 1),bin .Sub,push (.ref 947),call 0 [],ld `kind,I.sub,bin .Sub,bin .BitAnd,ld `entries,push (.int 1),I7,ld `second,attr 1683700,ld `entries,cmp .NotEq,tru,jor [ld `octets,attr `data,ld `ahead,push (.ref 961),ld `kind,ld `entries,ld `size,call 3 [],ld `copies,bin .Mult,bin .Add,ld `behind,bin .Add,cmp .NotEq,tru,jor [push (.bool false)]],br [push (.bool false),I.ret] [],ld `second,attr `bpb_header,push (.str (N `BS_Reserved1)),I.sub,push (.int 7),cmp .NotEq,tru,br [push (.bool false),I.ret] [],push (.type "range"),push (.int 1),push (.ref 954),ldc `script,push (.int 5),push (.int 4),call 3 [],bin .Add,call 1 [],W4 [st 107] [push (.int 3),push (.ref 954),ldc `script,push (.int 50),push (.int 2),ld 107,bin .Mult,bin .Add,ld `count,push (.int 3),bin .Sub,call 3 [],bin .Add,st `place,push (.ref 954),ldc `script,push (.int 51),push (.int 2),ld 107,bin .Mult,bin .Add,push (.int 2),ldc `reach,bin .Pow,call 3 [],ld `entries,ld `place,I7,ld `entries,ld `place,I.sub,ld `second,attr 1683700,ld `place,I7] [],ld `second,gm `flush_fat,J0 0 [],drop,ld `ahead,push (.ref 961),ld `kind,ld `entries,ld `size,call 3 [],ld `copies,bin .Mult,bin .Add,ld `behind,bin .Add,st `laid,ld `octets,attr `data,ld `laid,cmp .NotEq,tru,jor [ld `second,gm `as_bytes,J0 0 [],push (.ref 961),ld `kind,ld `entries,ld `size,call 3 [],cmp .NotEq,tru,jor [push (.bool false)]],br [push (.bool false),I.ret] [],push (.ref 968),ld `header,ld `laid,ld `offset,push (.bool false),call 4 [],unp 2,st `third,st `octets,ld `third,attr 1683700,ld `entries,cmp .Eq,bop true [ld `third,attr `fat_type,ld `kind,cmp .Eq],I.ret]:=by rw [H.k];kernel_rfl
theorem v40 (H:Row X) {a0:AV}:J8 X (fdK X.K 973) [a0] [] [] (fun y=>if y=`script then some a0 else none):=M11 H.k (fun S v=>by kernel_rfl) s!"."
end Mine
open Mine
namespace Mine
set_option genInjectivity false in
structure PF where
 fp:Nat
 off:Int
 fsz:Int
 hdr:Nat
 root:AV
 rds:Int
 rdss:Int
 bpc:Int
 fds:Int
 ffc:Int
 ty:Int
 fat:Nat
 init:Bool
 enc:AV
 ro:Bool
 lz:Bool
 deriving Inhabited
noncomputable abbrev PF.sbf (V:PF) (b:Int) (B:Nat):PF:={V with bpc:=b,fat:=B}
noncomputable abbrev PF.sro (V:PF) (w:Bool):PF:={V with ro:=w}
noncomputable abbrev PF.srt (V:PF) (r:AV):PF:={V with root:=r}
noncomputable abbrev PF.sfp (V:PF) (q:Nat):PF:={V with fp:=q}
noncomputable abbrev PF.mkV (V:PF) (q hdr B:Nat) (off fsz ty:Int) (w:Bool):PF:={V with fp:=q,off:=off,fsz:=fsz,hdr:=hdr,ty:=ty,fat:=B,init:=true,ro:=!w}
noncomputable def PF.ns (V:PF):NS:=[(1569648,.ref V.fp),(`_fp_offset,.int V.off),(`_fat_size,.int V.fsz),(`bpb_header,.ref V.hdr),(`root_dir,V.root),(`root_dir_sector,.int V.rds),(`root_dir_sectors,.int V.rdss),(`bytes_per_cluster,.int V.bpc),(`first_data_sector,.int V.fds),(`first_free_cluster,.int V.ffc),(`fat_type,.int V.ty),(1683700,.ref V.fat),(`initialized,.bool V.init),(`encoding,V.enc),(`is_read_only,.bool V.ro),(`lazy_load,.bool V.lz)]
variable {X:Cx} {c:Cf} {σ:St} {E:Nat->St->Prop} {Q:AV->St->Prop} {n:Nat} {H:Nat->Option W0} {L:NS} {V:PF} {p:Nat} {D:NS}
theorem k15 (R:Row X) (hn:c.n=n+1) (hp:H p=some (.inst 936 V.ns)) (hi:V.init=true) (h:Q .none ⟨H,L⟩):P0 X c (.ref 133) [.ref p] [] Q E ⟨H,L⟩:=by
 refine w10 R (l21 R) hn (m21 R) fun c' h1 h2 h3 h4=>?_;have hi':(!V.init)=false:=by rw [hi];rfl
 walk_at "R";exact z10 (upA h)
theorem n32 (R:Row X) (hn:c.n=n+1) (hp:H p=some (.inst 936 V.ns)) (hi:V.ro=false) (h:Q .none ⟨H,L⟩):P0 X c (.ref 692) [.ref p] [] Q E ⟨H,L⟩:=by
 refine w10 R (j13 R) hn (l13 R) fun c' h1 h2 h3 h4=>?_;walk_at "R";exact z10 (upA h)
theorem k46 (R:Row X) {a:AV} {fs:NS} (hn:c.n=n+1) (hp:H p=some (.inst 193 fs)) (hl:fs.length<=900) (h:Q .none ⟨upd H p (.inst 193 (put fs 12532 a)),L⟩):P0 X c (.ref 176) [.ref p,a] [] Q E ⟨H,L⟩:=by
 refine w10 R (r36 R) hn (s36 R) fun c' h1 h2 h3 h4=>?_;walk_at "R";exact z10 (upA h)
noncomputable def Oc (d:List UInt8) (w:Bool) (a:Int):W0:= .inst 193 [(`data,.bytes d),(`write_allowed,.bool w),(12532,.int a)]
theorem f37 (R:Row X) {d:List UInt8} {a m:Int} {w:Bool} (hn:c.n=n+1) (hp:H p=some (Oc d w a)) (hz:d.length<=16777216)
  (h:Q (.bytes (slc d (some a) (some (a+m)))) ⟨upd H p (Oc d w (a+(slc d (some a) (some (a+m))).length)),L⟩):P0 X c (.ref 183) [.ref p,.int m] [] Q E ⟨H,L⟩:=by
 unfold Oc at hp;refine w10 R (p36 R) hn (q36 R) fun c' h1 h2 h3 h4=>?_;walk_at "R";walk_at "R";refine t11 rfl rfl g11 (m14 ?_ ?_)
 ·have:=o33 d (some a) (some (a+m));(exact fk s!"hxAn16777216hxBAoxBn1099511627776" [] [_,_] rfl hz this)
 walk_at "R";refine c12 ?_;exact upA h
theorem g37 (R:Row X) {d:List UInt8} {a m:Int} {w:Bool} (hn:c.n=n+1+1) (hp:H p=some (.inst 936 V.ns)) (ho:H V.fp=some (Oc d w a)) (h:Q .none ⟨upd H V.fp (Oc d w (m+V.off)),L⟩):P0 X c (.ref 725) [.ref p,.int m] [] Q E ⟨H,L⟩:=by
 unfold Oc at ho;refine w10 R (g31 R) hn (h31 R) fun c' h1 h2 h3 h4=>?_;walk_at "R";refine k46 R h1 s!"-hp" s!"-sz" ?_;walk_at "R";exact z10 (upA h)
structure Hd5 (D:NS) (bps spc rsv nf re t16 t32 f16 f32 note:Int):Prop where
 bps:D.lookup `BPB_BytsPerSec=some (.int bps)
 spc:D.lookup `BPB_SecPerClus=some (.int spc)
 rsv:D.lookup `BPB_RsvdSecCnt=some (.int rsv)
 nf:D.lookup `BPB_NumFATs=some (.int nf)
 re:D.lookup `BPB_RootEntCnt=some (.int re)
 t16:D.lookup `BPB_TotSec16=some (.int t16)
 t32:D.lookup `BPB_TotSec32=some (.int t32)
 f16:D.lookup `BPB_FATSz16=some (.int f16)
 f32:D.lookup `BPB_FATSz32=some (.int f32)
 note:D.lookup `BS_Reserved1=some (.int note)
variable {bps spc rsv nf re t16 t32 f16 f32 note:Int}
noncomputable def maskOf (ty:Int):AV:=if ty=16 then .int 32768 else if ty=32 then .int 134217728 else .none
theorem m42 (R:Row X) {fs:NS} {ty:Int} (hn:c.n=n+1) (hp:H p=some (.inst 936 fs)) (hty:fs.lookup `fat_type=some (.int ty)) (hfs:fs.lookup `FAT_TYPE_FAT16=none/\fs.lookup `FAT_TYPE_FAT32=none/\fs.lookup `FAT16_CLEAN_SHUTDOWN_BIT_MASK=none/\fs.lookup `FAT32_CLEAN_SHUTDOWN_BIT_MASK=none) (h:Q (maskOf ty) ⟨H,L⟩):P0 X c (.ref 739) [.ref p] [] Q E ⟨H,L⟩:=by
 obtain ⟨f1,f2,f3,f4⟩:=hfs;refine w10 R (i31 R) hn (j31 R) fun c' h1 h2 h3 h4=>?_;walk_at "R";refine w38 (fun e=>?_) fun e=>?_
 ·walk_at "R";have e:ty=16:=by simpa using e
  rw [maskOf,if_pos e] at h;exact c12 (upA h)
 ·have e:ty≠16:=by simpa using e
  walk_at "R";refine w38 (fun e2=>?_) fun e2=>?_
  ·walk_at "R";have e2:ty=32:=by simpa using e2
   rw [maskOf,if_neg e,if_pos e2] at h;exact c12 (upA h)
  ·have e2:ty≠32:=by simpa using e2
   walk_at "R";rw [maskOf,if_neg e,if_neg e2] at h;exact c12 (upA h)
theorem l46 (R:Row X) {fs:NS} {q:Nat} (hd:Hd5 D bps spc rsv nf re t16 t32 f16 f32 note) (hn:c.n=n+1) (hp:H p=some (.inst 936 fs)) (hh:fs.lookup `bpb_header=some (.ref q)) (hq:H q=some (.dictS D)) (h:Q (.int (if t16=0 then t32 else t16)) ⟨H,L⟩):P0 X c (.ref 774) [.ref p] [] Q E ⟨H,L⟩:=by
 obtain ⟨d1,d2,d3,d4,d5,d6,d7,d8,d9,d10⟩:=hd;refine w10 R (l27 R) hn (m27 R) fun c' h1 h2 h3 h4=>?_;walk_at "R";refine w38 (fun e=>?_) fun e=>?_
 ·have e:t16≠0:=by simpa using e
  rw [if_neg e] at h;walk_at "R";exact c12 (upA h)
 ·have e:t16=0:=by simpa using e
  rw [if_pos e] at h;walk_at "R";exact c12 (upA h)
theorem h37 (R:Row X) {fs:NS} {q:Nat} (hd:Hd5 D bps spc rsv nf re t16 t32 f16 f32 note) (hn:c.n=n+1) (hp:H p=some (.inst 936 fs)) (hh:fs.lookup `bpb_header=some (.ref q)) (hq:H q=some (.dictS D)) (h:Q (.int (if f16=0 then f32 else f16)) ⟨H,L⟩):P0 X c (.ref 781) [.ref p] [] Q E ⟨H,L⟩:=by
 obtain ⟨d1,d2,d3,d4,d5,d6,d7,d8,d9,d10⟩:=hd;refine w10 R (p21 R) hn (q21 R) fun c' h1 h2 h3 h4=>?_;walk_at "R";refine w38 (fun e=>?_) fun e=>?_
 ·have e:f16≠0:=by simpa using e
  rw [if_neg e] at h;walk_at "R";exact c12 (upA h)
 ·have e:f16=0:=by simpa using e
  rw [if_pos e] at h;walk_at "R";exact c12 (upA h)
theorem d51 (R:Row X) {cl:Int} (hd:Hd5 D bps spc rsv nf re t16 t32 f16 f32 note) (hn:c.n=n+1) (hp:H p=some (.inst 936 V.ns)) (hq:H V.hdr=some (.dictS D)) (b1:0<=spc/\spc<=1000000) (b2:0<=bps/\bps<=1000000)
  (h:Q (.int (((cl-2)*spc+V.fds)*bps)) ⟨H,L⟩):P0 X c (.ref 905) [.ref p,.int cl] [] Q E ⟨H,L⟩:=by
 obtain ⟨d1,d2,d3,d4,d5,d6,d7,d8,d9,d10⟩:=hd;refine w10 R (m31 R) hn (n31 R) fun c' h1 h2 h3 h4=>?_;walk_at "R";exact c12 (upA h)
noncomputable def Z3 (tot rsv nf fsz rdss spc f16 f32:Int):Int:=if f16=0 then (if f32=0 then (if (tot-(rsv+nf*fsz+rdss)).fdiv spc<4085 then 12 else if (tot-(rsv+nf*fsz+rdss)).fdiv spc<65525 then 16 else 32) else 32) else if 4085<=(tot-(rsv+nf*fsz+rdss)).fdiv spc then 16 else 12
theorem e51 (R:Row X) {fs:NS} {q:Nat} {fsz rdss:Int} (hd:Hd5 D bps spc rsv nf re t16 t32 f16 f32 note) (hn:c.n=n+1+1) (hp:H p=some (.inst 936 fs)) (hh:fs.lookup `bpb_header=some (.ref q)) (hz:fs.lookup `_fat_size=some (.int fsz)) (hr:fs.lookup `root_dir_sectors=some (.int rdss)) (hfs:fs.lookup `FAT_TYPE_FAT12=none/\fs.lookup `FAT_TYPE_FAT16=none/\fs.lookup `FAT_TYPE_FAT32=none/\fs.lookup `_get_total_sectors=none) (hq:H q=some (.dictS D))
  (b1:0<=nf/\nf<=1000000) (b2:0<spc/\spc<=1000000) (hdv:Builtin.divisionGoesByPylong ((if t16=0 then t32 else t16)-(rsv+nf*fsz+rdss)) spc=false) (h:Q (.int (Z3 (if t16=0 then t32 else t16) rsv nf fsz rdss spc f16 f32)) ⟨H,L⟩):P0 X c (.ref 919) [.ref p] [] Q E ⟨H,L⟩:=by
 have hd':=hd;obtain ⟨d1,d2,d3,d4,d5,d6,d7,d8,d9,d10⟩:=hd;obtain ⟨f1,f2,f3,f4⟩:=hfs;unfold Z3 at h;generalize hcnt:((if t16=0 then t32 else t16)-(rsv+nf*fsz+rdss)).fdiv spc=cnt at h;refine w10 R (o31 R) hn (p31 R) fun c' h1 h2 h3 h4=>?_;walk_at "R";refine l46 R hd' h1 hp hh hq ?_;walk_at "R";rw [hcnt];by_cases c1:cnt<4085<;>by_cases c2:cnt<65525<;>by_cases e16:f16=0<;>by_cases e32:f32=0
 all_goals first | (exfalso;(exact fk s!"hSAn4085hKAn65525o0F" [_] [] rfl c1 c2)) | skip
 all_goals
  simp only [c1,c2,e16,e32,if_true,if_false,show (4085<=cnt)= ¬(cnt<4085) from by rw [Int.not_lt],not_true_eq_false,not_false_eq_true] at h;walk_at "R";exact c12 (upA h)
noncomputable def L17 (V:PF) (bps spc rsv nf re t16 t32 f16 f32:Int):PF:={V with fsz:=if f16=0 then f32 else f16,ty:=Z3 (if t16=0 then t32 else t16) rsv nf (if f16=0 then f32 else f16) V.rdss spc f16 f32,rdss:=(re*32+(bps-1)).fdiv bps,rds:=rsv+(if f16=0 then f32 else f16)*nf,fds:=rsv+nf*(if f16=0 then f32 else f16)+(re*32+(bps-1)).fdiv bps,init:=true}
theorem w40 (R:Row X) (hd:Hd5 D bps spc rsv nf re t16 t32 f16 f32 note) (hn:c.n=n+1+1+1) (hp:H p=some (.inst 936 V.ns)) (hq:H V.hdr=some (.dictS D))
  (b1:0<=nf/\nf<=1000000) (b2:0<spc/\spc<=1000000) (b3:0<bps/\bps<=1000000) (b4:0<=re/\re<=1000000) (hdv:Builtin.divisionGoesByPylong ((if t16=0 then t32 else t16)-(rsv+nf*(if f16=0 then f32 else f16)+V.rdss)) spc=false) (hdv2:Builtin.divisionGoesByPylong (re*32+(bps-1)) bps=false)
  (h:Q .none ⟨upd H p (.inst 936 (L17 V bps spc rsv nf re t16 t32 f16 f32).ns),L⟩):P0 X c (.ref 926) [.ref p] [] Q E ⟨H,L⟩:=by
 have hd':=hd;obtain ⟨d1,d2,d3,d4,d5,d6,d7,d8,d9,d10⟩:=hd;refine w10 R (t24 R) hn (v24 R) fun c' h1 h2 h3 h4=>?_;walk_at "R";refine h37 R hd' h1 hp rfl hq ?_;walk_at "R";refine e51 R hd' h1 s!"-hp" rfl rfl rfl ⟨rfl,rfl,rfl,rfl⟩ s!"-hp" b1 b2 hdv ?_;walk_at "R";exact z10 (upA h)
noncomputable def copies (d:List UInt8) (first sz:Int) (i:Nat):List AV:=(List.range i).map fun (k:Nat)=>AV.bytes (slc d (some (first+(k:Int)*sz)) (some (first+(k:Int)*sz+sz)))
theorem z27 (d:List UInt8) (first sz:Int) (i:Nat):copies d first sz (i+1)=copies d first sz i++[.bytes (slc d (some (first+(i:Int)*sz)) (some (first+(i:Int)*sz+sz)))]:=by
 unfold copies;rw [List.range_succ,List.map_append];rfl
theorem x19 (d:List UInt8) (first sz:Int) (i:Nat):(copies d first sz i).length=i:=by simp [copies]
theorem o32 (d:List UInt8) (first sz:Int) {N:Nat} (h:0<N):(copies d first sz N)[(0:Int).toNat]? =some (.bytes (slc d (some first) (some (first+sz)))):=by
 unfold copies;show ((List.range N).map _)[0]? =_;rw [List.getElem?_map,List.getElem?_range h];show some (AV.bytes (slc d (some (first+((0:Nat):Int)*sz)) (some (first+((0:Nat):Int)*sz+sz))))=_;have e:first+((0:Nat):Int)*sz=first:=by rw [Int.natCast_zero,Int.zero_mul,Int.add_zero]
 rw [e]
theorem f25 {K:KT} {P:PT} {r:List Tr} {vs:List AV} (h: ∀H1,H1=H->Go (run X c K P r vs ⟨H1,L⟩)):Go (run X c K P r vs ⟨H,L⟩):=h _ rfl
set_option tactic.hygienic true in
theorem m46 (R:Row X) {d t:List UInt8} {a:Int} {w:Bool} {N:Nat} (hd:Hd5 D bps spc rsv nf re t16 t32 f16 f32 note) (hn:c.n=n+1+1+1) (hh:c.hd=none) (hp:H p=some (.inst 936 V.ns)) (hi:V.init=true) (hq:H V.hdr=some (.dictS D)) (ho:H V.fp=some (Oc d w a))
  (b0:nf=N/\0<N/\N<=1000) (b2:0<spc/\spc<=1000000) (b3:0<bps/\bps<=1000000) (b4:0<=V.fsz/\V.fsz<=1000000) (b5:0<=rsv/\rsv<=1000000) (hz:d.length<=16777216)
  (ht:slc d (some (rsv*bps+V.off)) (some (rsv*bps+V.off+bps*V.fsz))=t) (htl:(t.length:Int)=bps*V.fsz)
  (hk:V.ty=12/\t.length % 3=2\/V.ty=16/\t.length % 2=0\/V.ty=32/\t.length % 4=0)
  (h: ∀B a',H B=none->Q .none ⟨upd (upd (upd H V.fp (Oc d w a')) p (.inst 936 (V.sbf (bps*spc) B).ns)) B (.list ((Q4 V.ty t).map .int)),L⟩):P0 X c (.ref 788) [.ref p] [] Q E ⟨H,L⟩:=by
 have hd':=hd;have hq':=hq;have ho':=ho;unfold Oc at ho';obtain ⟨d1,d2,d3,d4,d5,d6,d7,d8,d9,d10⟩:=hd;obtain ⟨rfl,hN0,hN⟩:=b0;refine w10 R (f18 R) hn (g18 R) fun c' h1 h2 h3 h4=>?_;have hh':c'.hd=none:=h4.trans hh;have nepf:Ap p V.fp:=⟨by walk_at "ne"⟩;walk_at "R";refine k15 R h1 hp hi ?_;walk_at "R";rename_i A hA q nq hq0;refine r13 (N:=N) (i10 _ _ _) ?_ ?_ hh' (fun it i σ=> ∃a',σ=⟨upd (upd (upd H A (.list (copies d (rsv*bps+V.off) (bps*V.fsz) i))) V.fp (Oc d w a')) it (.rangeIter (0+i) (N-i:Int) 1),[(`fats,.ref A),(`first_fat_bytes,.int (rsv*bps)),(`fat_size,.int (bps*V.fsz)),(`self,.ref p)]⟩) (fun it hit=>?_) (fun it i σ hJ=>?_) (fun it i H' L' hit hlt hJ=>?_) fun it H' L' hit hJ=>?_
 ·exact small_one (by decide) (by decide) (by exact fk s!"hyn0AoLgn2^62wA" [] [_] rfl hN0) (by exact fk s!"hxAn1000oSwAn2^62" [] [_] rfl hN)
 ·rw [rangeSize_one];split<;>(first | (exact fe (.o 1 (.E (.m (.w (.v 0)) (.n 0)) (.w (.v 0)))) [] [_] rfl) | (rename_i hz0;exact t0 (fk s!"hyn0AhKn0wAo0Ln0wA" [] [_] rfl hN0 hz0) (fk s!"hyn0AhKn0wAo0LwAn0" [] [_] rfl hN0 hz0)))
 ·obtain ⟨ni1,hit1⟩:=l10 hit;obtain ⟨ni2,hi0⟩:=l10 hit1;have e1:(0:Int)+((0:Nat):Int)=0:=by (exact fe (.o 1 (.E (.a (.n 0) (.w (.n 0))) (.n 0))) [] [] rfl)
  have e2:(N:Int)-((0:Nat):Int)=N:=by (exact fe (.o 1 (.E (.m (.w (.v 0)) (.w (.n 0))) (.w (.v 0)))) [] [_] rfl)
  refine r12 (σ':=⟨upd (upd (upd H A (.list (copies d (rsv*bps+V.off) (bps*V.fsz) 0))) V.fp (Oc d w a)) it (.rangeIter 0 N 1),[(`fats,.ref A),(`first_fat_bytes,.int (rsv*bps)),(`fat_size,.int (bps*V.fsz)),(`self,.ref p)]⟩) s!"-gp0" s!"-lp0" ⟨a,?_⟩;rw [e1,e2]
 ·obtain ⟨a',rfl⟩:=hJ;exact i10 _ _ _
 ·obtain ⟨a',e⟩:=hJ;walk_at "S";obtain ⟨ni1,hit1⟩:=l10 hit;obtain ⟨ni2,hi0⟩:=l10 hit1;walk_at "R";refine g37 R h1 s!"-hp" s!"-hp" ?_;walk_at "R";refine f37 R h1 s!"-hp" hz ?_;walk_at "R";refine x14 s!"-hp" s!"-hp" (by rw [x19];simp;(exact fk s!"hxAn1000hyBAoxBn16777215" [] [_,_] rfl hN hlt)) ?_;walk_at "R";have e5:rsv*bps+(0+(i:Int))*(bps*V.fsz)+V.off=rsv*bps+V.off+(i:Int)*(bps*V.fsz):=by rw [Int.zero_add];(exact t0 (fk κ6 [_,_,_] [] rfl) (fk κ6 [_,_,_] [] rfl))
  rw [e5,<-z27];refine z10 (l12 (σ':=⟨upd (upd (upd H A (.list (copies d (rsv*bps+V.off) (bps*V.fsz) (i+1)))) V.fp (Oc d w (rsv*bps+V.off+(i:Int)*(bps*V.fsz)+(slc d (some (rsv*bps+V.off+(i:Int)*(bps*V.fsz))) (some (rsv*bps+V.off+(i:Int)*(bps*V.fsz)+bps*V.fsz))).length))) it (.rangeIter (0+((i+1:Nat):Int)) (N-((i+1:Nat):Int)) 1),[(`fats,.ref A),(`first_fat_bytes,.int (rsv*bps)),(`fat_size,.int (bps*V.fsz)),(`self,.ref p)]⟩) hlt s!"-gp0" s!"-lp0" ⟨_,rfl⟩)
 ·obtain ⟨a',e⟩:=hJ;walk_at "S";obtain ⟨ni1,hit1⟩:=l10 hit;obtain ⟨ni2,hi0⟩:=l10 hit1;have cl:=x19 d (rsv*bps+V.off) (bps*V.fsz) N;have cg:=o32 d (rsv*bps+V.off) (bps*V.fsz) hN0;rw [ht] at cg;generalize copies d (rsv*bps+V.off) (bps*V.fsz) N=cs at cl cg⊢;rw [q11 s!"-hp"];walk_at "R";have hb:(t.length:Int)=bps*V.fsz:=htl;have hsz:t.length<=d.length:=by rw [<-ht];exact o33 _ _ _
  generalize hbf:bps*V.fsz=z at*;obtain ⟨T,hT,hTn,hTr⟩: ∃T:Nat,(z*8).fdiv V.ty=T/\T=t.length*8 / V.ty.toNat/\(V.ty=12/\8*t.length=12*T+4\/V.ty=16/\8*t.length=16*T\/V.ty=32/\8*t.length=32*T):=by
   refine ⟨t.length*8 / V.ty.toNat,?_,rfl,?_⟩
   ·rw [j7 _ (by (first | lia | omega))];rcases hk with ⟨e,_⟩ | ⟨e,_⟩ | ⟨e,_⟩<;>rw [e]<;>simp only [show Int.toNat 12=12 from rfl,show Int.toNat 16=16 from rfl,show Int.toNat 32=32 from rfl]<;>(first | (exact t0 (fk s!"h-8EwAAhLl12Br8Ahyr8Aal12Bn12o12LBwB" [_,_] [_,_] rfl htl (Qd1 _ 12 rfl) (qd2 _ 12 rfl)) (fk s!"h8EwAAhSr8Aal12Bn12hxl12Br8Ao12LwBB" [_,_] [_,_] rfl htl (Qd2 _ 12 rfl) (qd1 _ 12))) | (exact t0 (fk s!"h-8EwAAhLl16Br8Ahyr8Aal16Bn16o16LBwB" [_,_] [_,_] rfl htl (Qd1 _ 16 rfl) (qd2 _ 16 rfl)) (fk s!"h8EwAAhSr8Aal16Bn16hxl16Br8Ao16LwBB" [_,_] [_,_] rfl htl (Qd2 _ 16 rfl) (qd1 _ 16))) | (exact t0 (fk s!"h-8EwAAhLl32Br8Ahyr8Aal32Bn32o32LBwB" [_,_] [_,_] rfl htl (Qd1 _ 32 rfl) (qd2 _ 32 rfl)) (fk s!"h8EwAAhSr8Aal32Bn32hxl32Br8Ao32LwBB" [_,_] [_,_] rfl htl (Qd2 _ 32 rfl) (qd1 _ 32))))
   ·rcases hk with ⟨e,q⟩ | ⟨e,q⟩ | ⟨e,q⟩<;>rw [e]
    ·exact .inl ⟨rfl,by rw [show Int.toNat 12=12 from rfl];(exact r0 (Decidable.byContradiction fun q24=>fk s!"hLn0aagl2wAwBgn1hLn0al2wAgwBo0F" [] [_,_] rfl (fk s!"h-2zAn2h2zal3BAChLn0aagl2wCl3wDn2o3Ln0aagl2wBwDgn1" [] [_,_,_,_] rfl q (o0 _ 3) (fk s!"hyr8Aal12Bn12o4Ln0aagl2wAl3wBn2" [] [_,_] rfl (qd2 _ 12 rfl))) (fk s!"h2zAn2h-2zal3BAChLn0aal2wCgl3wDgn2o3Ln0al2wBgwD" [] [_,_,_,_] rfl q (o0 _ 3) (fk s!"hjl8Aal12Bn4o4Ln0aal2wAgl3wBgn2" [] [_,_] rfl q24))) (Decidable.byContradiction fun q24=>fk s!"hLn0aal2wAgwBn1hLn0aagl2wAwBgn2o0F" [] [_,_] rfl (fk s!"h8zAn2h-8zal3BAChxl12Dr8Co12Ln0aal2wBgwDn1" [] [_,_,_,_] rfl q (o0 _ 3) (qd1 _ 12)) (fk s!"h-2zAn2h2zal3BAChLn0agl2wCl3wDo3Ln0aagl2wBwDgn2" [] [_,_,_,_] rfl q (o0 _ 3) (fk s!"hjal12An4l8Bo4Ln0agl2wBl3wA" [] [_,_] rfl q24))))⟩
    ·exact .inr (.inl ⟨rfl,by rw [show Int.toNat 16=16 from rfl];(exact r0 (Decidable.byContradiction fun q24=>fk κ19 [] [_,_] rfl (fk s!"h-zAn0hzal2BAChLn0aagwCl2wDn1o2Ln0agwBwD" [] [_,_,_,_] rfl q (o0 _ 2) (fk s!"hyr8Aal16Bn16o8Ln0aagwAl2wBn1" [] [_,_] rfl (qd2 _ 16 rfl))) (fk s!"hzAn0h-zal2BAChLn0aawCgl2wDgn1o2Ln0aawBgwDgn1" [] [_,_,_,_] rfl q (o0 _ 2) (fk s!"hjl8Al16Bo8Ln0aawAgl2wBgn1" [] [_,_] rfl q24))) (fk s!"hxl16Ar8Boxl16Al8B" [] [_,_] rfl (qd1 _ 16)))⟩)
    ·exact .inr (.inr ⟨rfl,by rw [show Int.toNat 32=32 from rfl];(exact r0 (Decidable.byContradiction fun q24=>fk κ19 [] [_,_] rfl (fk s!"h-zAn0hzal4BAChLn0aagwCl4wDn3o4Ln0agwBwD" [] [_,_,_,_] rfl q (o0 _ 4) (fk s!"hyr8Aal32Bn32o8Ln0aagwAl4wBn3" [] [_,_] rfl (qd2 _ 32 rfl))) (fk s!"hzAn0h-zal4BAChLn0aawCgl4wDgn1o4Ln0aawBgwDgn1" [] [_,_,_,_] rfl q (o0 _ 4) (fk s!"hjl8Al32Bo8Ln0aawAgl4wBgn1" [] [_,_] rfl q24))) (fk s!"hxl32Ar8Boxl32Al8B" [] [_,_] rfl (qd1 _ 32)))⟩)
  refine e35 (by exact fk s!"hxAn16777216hxBAoxBn1099511627776" [] [_,_] rfl hz hsz) ?_;walk_at "R";rw [hT];walk_at "R";refine k30 s!"-hp" (by (first | lia | omega)) (by simp;(first | lia | omega)) ?_;intro B;(repeat ((with_reducible refine h13 ?_);intro _));intro hB;rw [Int.toNat_natCast,t45 (W2 V.ty t) T];walk_at "R";have hZ:H p=some (.inst 936 V.ns):=hp;have hent:Q4 V.ty t=(List.range T).map (W2 V.ty t):=by rw [Q4,hTn]
  rw [hent] at h;have fin: ∀l',G13 Q L [] ⟨upd (upd (upd (upd H A (.list cs)) V.fp (Oc d w a')) p (.inst 936 (V.sbf (bps*spc) B).ns)) B (.list (((List.range T).map (W2 V.ty t)).map .int)),l'⟩:=fun l'=>upA (h B a' hB);have gp:upd (upd (upd H A (.list cs)) V.fp (Oc d w a')) p (.inst 936 (V.sbf (bps*spc) B).ns) p=_:=i10 _ _ _;have ga:upd (upd (upd H A (.list cs)) V.fp (Oc d w a')) p (.inst 936 (V.sbf (bps*spc) B).ns) A=some (.list cs):=by walk_at "hp"
  refine f25 fun Hc eHc=>?_;have ge0:HGe [] Hc (upd (upd (upd (upd H A (.list cs)) V.fp (Oc d w a')) p (.inst 936 (V.sbf (bps*spc) B).ns)) B (.list (pl (W2 V.ty t) T 0))):=by rw [eHc];walk_at "gp0"
  clear eHc;generalize upd (upd (upd H A (.list cs)) V.fp (Oc d w a')) p _=G0 at fin gp ga ge0;obtain ⟨fs,gp,gty,gfat,g12,g16,g32⟩: ∃fs,G0 p=some (.inst 936 fs)/\fs.lookup `fat_type=some (.int V.ty)/\fs.lookup 1683700=some (.ref B)/\fs.lookup `FAT_TYPE_FAT12=none/\fs.lookup `FAT_TYPE_FAT16=none/\fs.lookup `FAT_TYPE_FAT32=none:=⟨_,gp,rfl,rfl,rfl,rfl,rfl⟩;clear h hd' hq' ho' hp hq hi hit1 hi0 ho hZ hA hq0 hent hTn;have htz:t.length<=16777216:=Nat.le_trans hsz hz;have hT3:T<=134217728:=by clear b2 b3 b4 b5 hN0 hN hT hz hsz htl hbf;rcases hTr with ⟨_,q⟩ | ⟨_,q⟩ | ⟨_,q⟩<;>(first | (exact fk s!"h8xAn16777216h-zl8Aal12Bn4o12xBn134217728" [] [_,_] rfl htz q) | (exact fk s!"h8xAn16777216h-zl8Al16Bo16xBn134217728" [] [_,_] rfl htz q) | (exact fk s!"h8xAn16777216h-zl8Al32Bo32xBn134217728" [] [_,_] rfl htz q))
  clear b2 b3 b4 b5 hN0 hN hT hz hsz htl hbf hk;rcases hTr with ⟨ety,hT2⟩ | ⟨ety,hT2⟩ | ⟨ety,hT2⟩
  ·refine g45 (fun m σ=> ∃(i:Nat) (cu ci:Int),i<=T/\m=T+1-i/\cu=12*i/\ci=i/\σ=⟨upd G0 B (.list (pl (W2 V.ty t) T i)),[(`cluster,.int ci),(`curr,.int cu),(`incr,.int V.ty),(`fats,.ref A),(`fat_size,.int z),(`self,.ref p)]⟩) (T+1) (r12 (σ':=⟨upd G0 B (.list (pl (W2 V.ty t) T 0)),[(`cluster,.int 0),(`curr,.int 0),(`incr,.int V.ty),(`fats,.ref A),(`fat_size,.int z),(`self,.ref p)]⟩) ge0 s!"-lp0" ⟨0,0,0,Nat.zero_le _,rfl,rfl,rfl,rfl⟩) (fun m σ hJ=>?_);obtain ⟨i,cu,ci,hiT,rfl,hcu,hci,rfl⟩:=hJ;walk_at "R";refine z10 (a27 (fun e=>?_) fun e=>?_)
   ·have hlt:cu<z*8:=of_decide_eq_true e;walk_at "R";rw [b18 (3*i / 2) 2 (by rw [j7 _ (by decide)];(exact t0 (fk s!"hEAl12wAhLl8BAh4yl3Aal2Bn2o8LBwB" [_,_] [_,_] rfl hcu (Qd1 _ 8 rfl) (qd2 _ 2 rfl)) (fk s!"h-EAl12wAhSAal8Bn8h4xl2Bl3Ao8LwBB" [_,_] [_,_] rfl hcu (Qd2 _ 8 rfl) (qd1 _ 2)))) (by rw [j7 _ (by decide)];(exact t0 (fk s!"hEAn12hEBl12wAhSgaBAal8Cn8h4yl3Aal2Bn2o8LgCwaBn2" [_,_,_] [_,_] rfl ety hcu (Qd2 _ 8 rfl) (qd2 _ 2 rfl)) (fk s!"h-EAn12h-EBl12wAhLl8CgaBAh4xl2Bl3Ao8LwaBn2gC" [_,_,_] [_,_] rfl ety hcu (Qd1 _ 8 rfl) (qd1 _ 2))))];have hul:((t.drop (3*i / 2)).take 2).length=if i<T then 2 else 1:=by
     rw [List.length_take,List.length_drop];split<;>(first | (rename_i hz11;exact r0 (Nat.le_of_eq (j6 (fk s!"h-zl8Aal12Bn4h12yCBh4xl2Dl3Ch-8zaGDAo8xn2G" [] [_,_,_,_,_] rfl hT2 hz11 (qd1 _ 2) (n0 (fk κ7 [] [_,_,_,_] rfl hT2 hiT (qd1 _ 2)))))) (fk s!"h-zAn2oxn2A" [] [_] rfl (j6 (fk s!"h-zl8Aal12Bn4h12yCBh4xl2Dl3Ch-8zaGDAo8xn2G" [] [_,_,_,_,_] rfl hT2 hz11 (qd1 _ 2) (n0 (fk κ7 [] [_,_,_,_] rfl hT2 hiT (qd1 _ 2))))))) | (rename_i hz11;exact r0 (fk s!"hzl8Aal12Bn4h12kCBh4yl3Cal2Dn2h8zaGDAh8zHGo8xHn1" [] [_,_,_,_,_,_] rfl hT2 hz11 (qd2 _ 2 rfl) (n0 (fk κ7 [] [_,_,_,_] rfl hT2 hiT (qd1 _ 2))) (Nat.min_eq_right (fk s!"hzl8Aal12Bn4h12kCBh4yl3Cal2Dn2h8zaGDAo8xGn2" [] [_,_,_,_,_] rfl hT2 hz11 (qd2 _ 2 rfl) (n0 (fk κ7 [] [_,_,_,_] rfl hT2 hiT (qd1 _ 2)))))) (fk s!"h-zl8Aal12Bn4h12xCBh4xl2Dl3Ch-8zaGDAh-8zHGo8xn1H" [] [_,_,_,_,_,_] rfl hT2 hiT (qd1 _ 2) (n0 (fk κ7 [] [_,_,_,_] rfl hT2 hiT (qd1 _ 2))) (Nat.min_eq_right (fk s!"hzl8Aal12Bn4h12kCBh4yl3Cal2Dn2h8zaGDAo8xGn2" [] [_,_,_,_,_] rfl hT2 hz11 (qd2 _ 2 rfl) (n0 (fk κ7 [] [_,_,_,_] rfl hT2 hiT (qd1 _ 2))))))))
    generalize hu:(t.drop (3*i / 2)).take 2=u at hul⊢;have hul2:u.length<=2:=by rw [hul];split<;>(first | (exact fk s!"oxn2n2" [] [] rfl) | (exact fk s!"oxn1n2" [] [] rfl))
    walk_at "R";rcases Nat.lt_or_ge i T with hi' | hi'
    ·rw [if_pos hi'] at hul;rw [show (2-(u.length:Int)).toNat=0 from by (exact fe (.h (-1) (.e (.v 0) (.n 2)) <| .h 1 (.E (.w (.v 1)) (.m (.n 2) (.w (.v 0)))) <| .o 1 (.e (.v 1) (.n 0))) [] [_,_] rfl hul (y5 (fk s!"hzAn2oLn0mn2wA" [] [_] rfl hul))),List.replicate_zero,List.flatten_nil,List.append_nil];walk_at "R";subst hci;refine m11 s!"-hp" (by exact ⟨fk κ1 [] [_] rfl,fk κ9 [] [_,_,_] rfl htz hT2 hiT⟩) (by rw [n14];(exact fk s!"hyABoSwAwB" [] [_,_] rfl hi')) ?_;walk_at "R";have hbr:((-((-(cu+V.ty)).fdiv 8))==z-1)=false:=by
      rw [j7 _ (by decide)];simp only [beq_eq_false_iff_ne,ne_eq];(exact fun q16=>fk s!"hLn0aawAgwBgn2hLn0aagwAwBn1o0F" [] [_,_] rfl (fk s!"h-8EwAAh-EBn12hzl8Aal12Bn4h-ECl12wChLl8DgaCBh8EgDmAn1o12Ln0aawBgwCgn2" [_,_,_,_] [_,_,_] rfl hb ety hT2 hcu (Qd1 _ 8 rfl) q16) (fk s!"h8EwAAh-zl8Aal12Bn4h-8EgBmAn1h4Ln0aal2Bl3wCn4o12Ln0aagwBwCn1" [_,_] [_,_,_] rfl hb hT2 q16 (fk s!"hEAn12hEBl12wAhSgaBAal8Cn8o4Ln0aal2Cl3wAn4" [_,_,_] [_] rfl ety hcu (Qd2 _ 8 rfl))))
     have hev:W2 V.ty t i=if i % 2=0 then Builtin.bitAnd (leV u) 4095 else (leV u).fdiv (2^(4:Int).toNat):=by
      rw [W2,if_pos ety,hu,H10,j7 _ (by decide)];rfl
     refine w38 (fun e3=>?_) fun e3=>?_
     ·have e3:i % 2=0:=by have:=beq_iff_eq.mp e3;rw [Int.fmod_eq_emod_of_nonneg _ (by decide)] at this;(exact fe (.h 1 (.E (.v 0) (.n 0)) <| .h 1 (.E (.w (.v 0)) (.v 0)) <| .o 1 (.e (.v 0) (.n 0))) [_] [_] rfl this (Qcm _ 2))
      rw [if_pos e3] at hev;walk_at "R";refine w11 s!"-hp" (by exact ⟨fk κ1 [] [_] rfl,fk κ9 [] [_,_,_] rfl htz hT2 hiT⟩) (List.getElem?_set_self (by rw [n14];exact hi')) ?_;walk_at "R";refine y12 s!"-hp" (by exact ⟨fk κ1 [] [_] rfl,fk κ9 [] [_,_,_] rfl htz hT2 hiT⟩) (by rw [List.length_set,n14];(exact fk s!"hyABoSwAwB" [] [_,_] rfl hi')) ?_;rw [List.set_set,<-hev,Int.toNat_natCast,a29 _ hi'];walk_at "R";exact z10 ⟨T+1-(i+1),by (exact fk κ13 [] [_,_,_,_] rfl (n0 (fk κ14 [] [_,_] rfl hiT)) (n0 (fk s!"hxABoxAaBn1" [] [_,_] rfl hiT))),r12 (σ':=⟨upd G0 B (.list (pl (W2 V.ty t) T (i+1))),[(`cluster,.int ((i:Int)+1)),(`curr,.int (cu+V.ty)),(`incr,.int V.ty),(`fats,.ref A),(`fat_size,.int z),(`self,.ref p)]⟩) s!"-gp0" s!"-lp0" ⟨i+1,_,_,hi',rfl,by (exact fe (.h 1 (.E (.v 0) (.n 12)) <| .h 1 (.E (.v 1) (.l 12 (.w (.v 0)))) <| .o 1 (.E (.a (.v 1) (.v 0)) (.l 12 (.w (.a (.v 0) (.n 1)))))) [_,_] [_] rfl ety hcu),rfl,rfl⟩⟩
     ·have e3:i % 2≠0:=by have:=beq_eq_false_iff_ne.mp e3;rw [Int.fmod_eq_emod_of_nonneg _ (by decide)] at this;(exact (Int.lt_or_gt_of_ne this).elim (fun qs18=>fun q19=>fk s!"hEwAAhSAn0h-zAn0o0F" [_] [_] rfl (Qcm _ 2) qs18 q19) fun qs18=>fun q19=>fk s!"h-EwAAhSn0AhzAn0o0F" [_] [_] rfl (Qcm _ 2) qs18 q19)
      rw [if_neg e3] at hev;walk_at "R";refine w11 s!"-hp" (by exact ⟨fk κ1 [] [_] rfl,fk κ9 [] [_,_,_] rfl htz hT2 hiT⟩) (List.getElem?_set_self (by rw [n14];exact hi')) ?_;walk_at "R";refine y12 s!"-hp" (by exact ⟨fk κ1 [] [_] rfl,fk κ9 [] [_,_,_] rfl htz hT2 hiT⟩) (by rw [List.length_set,n14];(exact fk s!"hyABoSwAwB" [] [_,_] rfl hi')) ?_;rw [List.set_set,<-hev,Int.toNat_natCast,a29 _ hi'];walk_at "R";exact z10 ⟨T+1-(i+1),by (exact fk κ13 [] [_,_,_,_] rfl (n0 (fk κ14 [] [_,_] rfl hiT)) (n0 (fk s!"hxABoxAaBn1" [] [_,_] rfl hiT))),r12 (σ':=⟨upd G0 B (.list (pl (W2 V.ty t) T (i+1))),[(`cluster,.int ((i:Int)+1)),(`curr,.int (cu+V.ty)),(`incr,.int V.ty),(`fats,.ref A),(`fat_size,.int z),(`self,.ref p)]⟩) s!"-gp0" s!"-lp0" ⟨i+1,_,_,hi',rfl,by (exact fe (.h 1 (.E (.v 0) (.n 12)) <| .h 1 (.E (.v 1) (.l 12 (.w (.v 0)))) <| .o 1 (.E (.a (.v 1) (.v 0)) (.l 12 (.w (.a (.v 0) (.n 1)))))) [_,_] [_] rfl ety hcu),rfl,rfl⟩⟩
    ·rw [if_neg (by exact fun q15=>fk s!"hxABhyBAo0F" [] [_,_] rfl hi' q15)] at hul;rw [show (2-(u.length:Int)).toNat=1 from by (exact fe (.h (-1) (.e (.v 0) (.n 1)) <| .h 1 (.E (.w (.v 1)) (.m (.n 2) (.w (.v 0)))) <| .o 1 (.e (.v 1) (.n 1))) [] [_,_] rfl hul (y5 (fk s!"hzAn1oLn0mn2wA" [] [_] rfl hul)))];walk_at "R";refine l30 hh' s!"-hp" (by exact ⟨fk s!"h-EAwAoLn0A" [_] [_] rfl hci,fk s!"h8xAn16777216h-zl8Aal12Bn4h12xCBh12EAwCo12SAn2^63" [_] [_,_,_] rfl htz hT2 hiT hci⟩) (by rw [n14];(exact fk s!"h-EAwAhxBAoLwBA" [_] [_,_] rfl hci hi')) ?_;intro q2;(repeat ((with_reducible refine h13 ?_);intro _));intro hq2;refine f50 s!"-hp" (by rw [R.k];kernel_rfl) ?_;refine t49 ?_;have hiT':i=T:=by (exact r0 (hiT) (hi'))
     subst hiT';refine r12 (σ':=⟨upd G0 B (.list (pl (W2 V.ty t) i i)),[(`self,.ref p)]⟩) s!"-gp0" s!"-lp0" ?_;rw [u35];walk_at "R";exact z10 (fin _)
   ·exfalso;have:=of_decide_eq_false e
    (exact fk s!"h8EwAAh-zl8Aal12Bn4h12xCBhEBl12wChKBr8Ao0F" [_,_] [_,_,_] rfl hb hT2 hiT hcu this)
  ·refine g45 (fun m σ=> ∃(i:Nat) (cu ci:Int),i<=T/\m=T+1-i/\cu=16*i/\ci=i/\σ=⟨upd G0 B (.list (pl (W2 V.ty t) T i)),[(`cluster,.int ci),(`curr,.int cu),(`incr,.int V.ty),(`fats,.ref A),(`fat_size,.int z),(`self,.ref p)]⟩) (T+1) (r12 (σ':=⟨upd G0 B (.list (pl (W2 V.ty t) T 0)),[(`cluster,.int 0),(`curr,.int 0),(`incr,.int V.ty),(`fats,.ref A),(`fat_size,.int z),(`self,.ref p)]⟩) ge0 s!"-lp0" ⟨0,0,0,Nat.zero_le _,rfl,rfl,rfl,rfl⟩) (fun m σ hJ=>?_);obtain ⟨i,cu,ci,hiT,rfl,hcu,hci,rfl⟩:=hJ;walk_at "R";refine z10 (a27 (fun e=>?_) fun e=>?_)
   ·have hlt:cu<z*8:=of_decide_eq_true e;walk_at "R";rw [b18 (2*i) 2 (by rw [j7 _ (by decide)];(exact t0 (fk s!"hEAl16wAhLl8BAo8LBwl2A" [_,_] [_] rfl hcu (Qd1 _ 8 rfl)) (fk s!"h-EAl16wAhSAal8Bn8o8Lwl2AB" [_,_] [_] rfl hcu (Qd2 _ 8 rfl)))) (by rw [j7 _ (by decide)];(exact t0 (fk s!"hEAn16hEBl16wAhLl8CaBAo8LCwal2An2" [_,_,_] [_] rfl ety hcu (Qd1 _ 8 rfl)) (fk s!"h-EAn16h-EBl16wAhSaBAal8Cn8o8Lwal2An2C" [_,_,_] [_] rfl ety hcu (Qd2 _ 8 rfl))))];have hul:((t.drop (2*i)).take 2).length=2:=by
     rw [List.length_take,List.length_drop];(exact r0 (Nat.le_of_eq (j6 (Decidable.byContradiction fun q13=>fk κ15 [] [_,_] rfl (fk κ22 [_,_] [_,_,_] rfl hb hT2 hcu hlt) (fk s!"h-zl8Al16Bh-8zaCl2DAh8jn2Co16Ln0agwBwD" [] [_,_,_,_] rfl hT2 (n0 (fk s!"h-zl8Al16Bh16xCBo8xl2CA" [] [_,_,_] rfl hT2 hiT)) q13)))) (fk s!"h-zAn2oxn2A" [] [_] rfl (j6 (Decidable.byContradiction fun q13=>fk κ15 [] [_,_] rfl (fk κ22 [_,_] [_,_,_] rfl hb hT2 hcu hlt) (fk s!"h-zl8Al16Bh-8zaCl2DAh8jn2Co16Ln0agwBwD" [] [_,_,_,_] rfl hT2 (n0 (fk s!"h-zl8Al16Bh16xCBo8xl2CA" [] [_,_,_] rfl hT2 hiT)) q13)))))
    generalize hu:(t.drop (2*i)).take 2=u at hul⊢;have hi':i<T:=by (exact fk s!"h-8EwAAhzl8Al16Bh-EBl16wChSBr8Ao16yCB" [_,_] [_,_,_] rfl hb hT2 hcu hlt)
    have hul2:u.length<=8:=by (exact fk s!"hzAn2oxAn8" [] [_] rfl hul)
    walk_at "R";subst hci;refine m11 s!"-hp" (by exact ⟨fk κ1 [] [_] rfl,fk s!"h8xAn16777216h-zl8Al16Bh16xCBo16SwCn2^63" [] [_,_,_] rfl htz hT2 hiT⟩) (by rw [n14];(exact fk s!"h-8EwAAhzl8Al16Bh-EBl16wChSBr8Ao16SwCwB" [_,_] [_,_,_] rfl hb hT2 hcu hlt)) ?_;walk_at "R";have hev:W2 V.ty t i=leV u:=by rw [W2,if_neg (by exact fun q14=>fk s!"h-EAn16hEAn12o0F" [_] [] rfl ety q14),if_pos ety,hu]
    rw [<-hev,Int.toNat_natCast,a29 _ hi'];walk_at "R";exact z10 ⟨T+1-(i+1),by (exact fk κ13 [] [_,_,_,_] rfl (n0 (fk κ14 [] [_,_] rfl hiT)) (n0 (fk s!"hxABoxAaBn1" [] [_,_] rfl hiT))),r12 (σ':=⟨upd G0 B (.list (pl (W2 V.ty t) T (i+1))),[(`cluster,.int ((i:Int)+1)),(`curr,.int (cu+V.ty)),(`incr,.int V.ty),(`fats,.ref A),(`fat_size,.int z),(`self,.ref p)]⟩) s!"-gp0" s!"-lp0" ⟨i+1,_,_,hi',rfl,by (exact fe (.h 1 (.E (.v 0) (.n 16)) <| .h 1 (.E (.v 1) (.l 16 (.w (.v 0)))) <| .o 1 (.E (.a (.v 1) (.v 0)) (.l 16 (.w (.a (.v 0) (.n 1)))))) [_,_] [_] rfl ety hcu),rfl,rfl⟩⟩
   ·have hge: ¬cu<z*8:=of_decide_eq_false e;have hiT':i=T:=by (exact r0 (hiT) (fk s!"h8EwAAh-zl8Al16BhEBl16wChKBr8Ao16xBC" [_,_] [_,_,_] rfl hb hT2 hcu hge))
    subst hiT';refine r12 (σ':=⟨upd G0 B (.list (pl (W2 V.ty t) i i)),[(`self,.ref p)]⟩) s!"-gp0" s!"-lp0" ?_;rw [u35];walk_at "R";exact z10 (fin _)
  ·refine g45 (fun m σ=> ∃(i:Nat) (cu ci:Int),i<=T/\m=T+1-i/\cu=32*i/\ci=i/\σ=⟨upd G0 B (.list (pl (W2 V.ty t) T i)),[(`cluster,.int ci),(`curr,.int cu),(`incr,.int V.ty),(`fats,.ref A),(`fat_size,.int z),(`self,.ref p)]⟩) (T+1) (r12 (σ':=⟨upd G0 B (.list (pl (W2 V.ty t) T 0)),[(`cluster,.int 0),(`curr,.int 0),(`incr,.int V.ty),(`fats,.ref A),(`fat_size,.int z),(`self,.ref p)]⟩) ge0 s!"-lp0" ⟨0,0,0,Nat.zero_le _,rfl,rfl,rfl,rfl⟩) (fun m σ hJ=>?_);obtain ⟨i,cu,ci,hiT,rfl,hcu,hci,rfl⟩:=hJ;walk_at "R";refine z10 (a27 (fun e=>?_) fun e=>?_)
   ·have hlt:cu<z*8:=of_decide_eq_true e;walk_at "R";rw [b18 (4*i) 4 (by rw [j7 _ (by decide)];(exact t0 (fk s!"hEAl32wAhLl8BAo8LBwl4A" [_,_] [_] rfl hcu (Qd1 _ 8 rfl)) (fk s!"h-EAl32wAhSAal8Bn8o8Lwl4AB" [_,_] [_] rfl hcu (Qd2 _ 8 rfl)))) (by rw [j7 _ (by decide)];(exact t0 (fk s!"hEAn32hEBl32wAhLl8CaBAo8LCwal4An4" [_,_,_] [_] rfl ety hcu (Qd1 _ 8 rfl)) (fk s!"h-EAn32h-EBl32wAhSaBAal8Cn8o8Lwal4An4C" [_,_,_] [_] rfl ety hcu (Qd2 _ 8 rfl))))];have hul:((t.drop (4*i)).take 4).length=4:=by
     rw [List.length_take,List.length_drop];(exact r0 (Nat.le_of_eq (j6 (Decidable.byContradiction fun q13=>fk κ15 [] [_,_] rfl (fk κ23 [_,_] [_,_,_] rfl hb hT2 hcu hlt) (fk s!"h-zl8Al32Bh-8zaCl4DAh8jn4Co32Ln0agwBwD" [] [_,_,_,_] rfl hT2 (n0 (fk s!"h-zl8Al32Bh32xCBo8xl4CA" [] [_,_,_] rfl hT2 hiT)) q13)))) (fk s!"h-zAn4oxn4A" [] [_] rfl (j6 (Decidable.byContradiction fun q13=>fk κ15 [] [_,_] rfl (fk κ23 [_,_] [_,_,_] rfl hb hT2 hcu hlt) (fk s!"h-zl8Al32Bh-8zaCl4DAh8jn4Co32Ln0agwBwD" [] [_,_,_,_] rfl hT2 (n0 (fk s!"h-zl8Al32Bh32xCBo8xl4CA" [] [_,_,_] rfl hT2 hiT)) q13)))))
    generalize hu:(t.drop (4*i)).take 4=u at hul⊢;have hi':i<T:=by (exact fk s!"h-8EwAAhzl8Al32Bh-EBl32wChSBr8Ao32yCB" [_,_] [_,_,_] rfl hb hT2 hcu hlt)
    have hul2:u.length<=8:=by (exact fk s!"hzAn4oxAn8" [] [_] rfl hul)
    walk_at "R";subst hci;refine m11 s!"-hp" (by exact ⟨fk κ1 [] [_] rfl,fk κ20 [] [_,_,_] rfl htz hT2 hiT⟩) (by rw [n14];(exact fk s!"h-8EwAAhzl8Al32Bh-EBl32wChSBr8Ao32SwCwB" [_,_] [_,_,_] rfl hb hT2 hcu hlt)) ?_;walk_at "R";have hev:W2 V.ty t i=Builtin.bitAnd (leV u) 268435455:=by rw [W2,if_neg (by exact fun q14=>fk s!"h-EAn32hEAn12o0F" [_] [] rfl ety q14),if_neg (by exact fun q14=>fk s!"h-EAn32hEAn16o0F" [_] [] rfl ety q14),hu,P13]
    refine w11 s!"-hp" (by exact ⟨fk κ1 [] [_] rfl,fk κ20 [] [_,_,_] rfl htz hT2 hiT⟩) (List.getElem?_set_self (by rw [n14];exact hi')) ?_;walk_at "R";refine y12 s!"-hp" (by exact ⟨fk κ1 [] [_] rfl,fk κ20 [] [_,_,_] rfl htz hT2 hiT⟩) (by rw [List.length_set,n14];(exact fk s!"h-8EwAAhzl8Al32Bh-EBl32wChSBr8Ao32SwCwB" [_,_] [_,_,_] rfl hb hT2 hcu hlt)) ?_;rw [List.set_set,<-hev,Int.toNat_natCast,a29 _ hi'];walk_at "R";exact z10 ⟨T+1-(i+1),by (exact fk κ13 [] [_,_,_,_] rfl (n0 (fk κ14 [] [_,_] rfl hiT)) (n0 (fk s!"hxABoxAaBn1" [] [_,_] rfl hiT))),r12 (σ':=⟨upd G0 B (.list (pl (W2 V.ty t) T (i+1))),[(`cluster,.int ((i:Int)+1)),(`curr,.int (cu+V.ty)),(`incr,.int V.ty),(`fats,.ref A),(`fat_size,.int z),(`self,.ref p)]⟩) s!"-gp0" s!"-lp0" ⟨i+1,_,_,hi',rfl,by (exact fe (.h 1 (.E (.v 0) (.n 32)) <| .h 1 (.E (.v 1) (.l 32 (.w (.v 0)))) <| .o 1 (.E (.a (.v 1) (.v 0)) (.l 32 (.w (.a (.v 0) (.n 1)))))) [_,_] [_] rfl ety hcu),rfl,rfl⟩⟩
   ·have hge: ¬cu<z*8:=of_decide_eq_false e;have hiT':i=T:=by (exact r0 (hiT) (fk s!"h8EwAAh-zl8Al32BhEBl32wChKBr8Ao32xBC" [_,_] [_,_,_] rfl hb hT2 hcu hge))
    subst hiT';refine r12 (σ':=⟨upd G0 B (.list (pl (W2 V.ty t) i i)),[(`self,.ref p)]⟩) s!"-gp0" s!"-lp0" ?_;rw [u35];walk_at "R";exact z10 (fin _)
theorem i54 (R:Row X):Q5 X.K 41 bmX:=by rw [R.k];exact ⟨_,_,_,_,_,_,_,_,_,_,_,_,_,_,_,rfl⟩
theorem j54 (R:Row X):Q5 X.K 87 bmX:=by rw [R.k];exact ⟨_,_,_,_,_,_,_,_,_,_,_,_,_,_,_,rfl⟩
theorem k54 (R:Row X):Q5 X.K 41 ((clsIn X.K 41).elim [] (·.mro)).tail:=by rw [R.k];exact ⟨_,_,_,_,_,_,_,_,_,_,_,_,_,_,_,rfl⟩
theorem l54 (R:Row X):Q5 X.K 87 ((clsIn X.K 87).elim [] (·.mro)).tail:=by rw [R.k];exact ⟨_,_,_,_,_,_,_,_,_,_,_,_,_,_,_,rfl⟩
theorem m54 (R:Row X):J11 1800679 (Z2 X.K 38):=by rw [R.k];exact ⟨_,_,_,_,_,_,_,rfl,rfl⟩
theorem n54 (R:Row X):J11 1800679 (Z2 X.K 84):=by rw [R.k];exact ⟨_,_,_,_,_,_,_,rfl,rfl⟩
theorem o54 (R:Row X):Q11 X.K X.prog 38 `self 25 41 41:=by rw [R.k,R.p];exact ⟨by kernel_rfl,⟨_,_,_,_,_,rfl,rfl,rfl,rfl,by kernel_rfl⟩,by kernel_rfl,⟨_,rfl,rfl⟩,⟨_,_,rfl,rfl⟩,by kernel_rfl,by kernel_rfl,⟨_,rfl,by kernel_rfl,by kernel_rfl⟩,by kernel_rfl⟩
theorem p54 (R:Row X):Q11 X.K X.prog 84 `self 72 87 87:=by rw [R.k,R.p];exact ⟨by kernel_rfl,⟨_,_,_,_,_,rfl,rfl,rfl,rfl,by kernel_rfl⟩,by kernel_rfl,⟨_,rfl,rfl⟩,⟨_,_,rfl,rfl⟩,by kernel_rfl,by kernel_rfl,⟨_,rfl,by kernel_rfl,by kernel_rfl⟩,by kernel_rfl⟩
theorem q54 (R:Row X) {m v:AV} (hn:c.n=n+1+1) (h: ∀x,H x=none->Q (.ref x) ⟨upd H x (.exc (.ref 41) true [(`errno,v)]),L⟩):P0 X c (.ref 41) [m] [(N `errno,v)] Q E ⟨H,L⟩:=by
 refine x41 (fI:=38) (i54 R) (by rw [R.k];kernel_rfl) hn (by simp) fun x hx=>?_;have R:=R.off;refine n28 (n:=n) (self:=`self) (cc:=25) (D:=41) (C:=41) (p:=x) rfl R.l (t36 R) (v15 R) (m54 R) (k54 R) (o54 R) (v36 R) rfl (w36 R) ⟨rfl,rfl,rfl,rfl,by kernel_rfl⟩ rfl rfl (i10 _ _ _) fun c' h1 h2 h3=>?_;walk_at "R";exact z10 (upA ⟨rfl,h x hx⟩)
theorem n46 (R:Row X) {m v:AV} (hn:c.n=n+1+1) (h: ∀x,H x=none->Q (.ref x) ⟨upd H x (.exc (.ref 87) true [(`free_type,v)]),L⟩):P0 X c (.ref 87) [m] [(N `free_type,v)] Q E ⟨H,L⟩:=by
 refine x41 (fI:=84) (j54 R) (by rw [R.k];kernel_rfl) hn (by simp) fun x hx=>?_;have R:=R.off;refine n28 (n:=n) (self:=`self) (cc:=72) (D:=87) (C:=87) (p:=x) rfl R.l (w31 R) (v15 R) (n54 R) (l54 R) (p54 R) (x31 R) rfl (y31 R) ⟨rfl,rfl,rfl,rfl,by kernel_rfl⟩ rfl rfl (i10 _ _ _) fun c' h1 h2 h3=>?_;walk_at "R";exact z10 (upA ⟨rfl,h x hx⟩)
theorem c_O (R:Row X) {d:List UInt8} {w:Bool} (hn:c.n=n+1+1) (h: ∀x,H x=none->Q (.ref x) ⟨upd H x (Oc d w 0),L⟩):P0 X c (.ref 193) [.bytes d,.bool w] [] Q E ⟨H,L⟩:=by
 refine n15 (fI:=148) (by rw [R.k];kernel_rfl) hn fun x hx=>?_;have R:=R.off;refine w10 (n:=n) R (x36 R) rfl (y36 R) fun c' h1 h2 h3 h4=>?_;walk_at "R";exact z10 (upA ⟨rfl,h x hx⟩)
theorem p32 (R:Row X) (hn:c.n=n+1) (h:Q (.bool true) ⟨H,L⟩):P0 X c (.ref 155) [.ref p] [] Q E ⟨H,L⟩:=by
 refine w10 R (r21 R) hn (t21 R) fun c' h1 h2 h3 h4=>?_;walk_at "R";k_call_by "end" h
theorem q32 (R:Row X) (hn:c.n=n+1) (h:Q (.bool true) ⟨H,L⟩):P0 X c (.ref 162) [.ref p] [] Q E ⟨H,L⟩:=by
 refine w10 R (v21 R) hn (w21 R) fun c' h1 h2 h3 h4=>?_;walk_at "R";k_call_by "end" h
theorem a28 (R:Row X) {d:List UInt8} {w:Bool} {a:Int} (hn:c.n=n+1) (ho:H p=some (Oc d w a)) (h:Q (.bool w) ⟨H,L⟩):P0 X c (.ref 169) [.ref p] [] Q E ⟨H,L⟩:=by
 unfold Oc at ho;refine w10 R (x21 R) hn (y21 R) fun c' h1 h2 h3 h4=>?_;walk_at "R";k_call_by "end" h
noncomputable def wrO (d:List UInt8) (a:Nat) (x:List UInt8):List UInt8:=(d.take a++(List.replicate ((a:Int)-d.length).toNat [(0:UInt8)]).flatten)++x++d.drop (a+x.length)
theorem l22 (n:Nat):(List.replicate n [(0:UInt8)]).flatten.length=n:=by
 induction n with
 | zero=>rfl
 | succ n ih=>rw [List.replicate_succ,List.flatten_cons,w6,ih,List.length_singleton];(exact fe (.o 1 (.e (.a (.n 1) (.v 0)) (.a (.v 0) (.n 1)))) [] [_] rfl)
theorem x40 (R:Row X) {d x:List UInt8} {w:Bool} {a:Nat} (hn:c.n=n+1) (ho:H p=some (Oc d w a)) (hz:d.length<=1000000/\a<=1000000/\x.length<=1000000) (h:Q .none ⟨upd H p (Oc (wrO d a x) w ((a:Int)+x.length)),L⟩):P0 X c (.ref 190) [.ref p,.bytes x] [] Q E ⟨H,L⟩:=by
 unfold Oc at ho h;obtain ⟨z1,z2,z3⟩:=hz;have hf:=l22 ((a:Int)-d.length).toNat;refine w10 R (z31 R) hn (a32 R) fun c' h1 h2 h3 h4=>?_;walk_at "R";rw [d42];refine t23 (by simp only [w6,l22,List.length_drop,List.length_take];exact Nat.le_trans (Nat.add_le_add (Nat.min_le_left a d.length) (Int.toNat_sub a d.length▸Nat.sub_le a d.length)) (fk s!"h2xAn1000000oxaAAn16777216" [] [_] rfl z2)) ?_;walk_at "R";have e1:((a:Int)+x.length)=((a+x.length:Nat):Int):=by (exact fe (.o 1 (.E (.a (.w (.v 0)) (.w (.v 1))) (.w (.a (.v 0) (.v 1))))) [] [_,_] rfl)
 rw [e1,q39];refine t23 (by simp only [w6,l22,List.length_drop,List.length_take];exact Nat.le_trans (Nat.add_le_add (Nat.add_le_add_right (Nat.add_le_add (Nat.min_le_left a d.length) (Int.toNat_sub a d.length▸Nat.sub_le a d.length)) _) (Nat.sub_le _ _)) (fk s!"h2xAn1000000hxBn1000000hxCn1000000oxaaaAABCn16777216" [] [_,_,_] rfl z2 z3 z1)) ?_;walk_at "R";exact z10 (upA h)
noncomputable def PF.ns0 (V:PF):NS:=[(1569648,.none),(`_fp_offset,.int V.off),(`_fat_size,.int V.fsz),(`bpb_header,.ref V.hdr),(`root_dir,V.root),(`root_dir_sector,.int V.rds),(`root_dir_sectors,.int V.rdss),(`bytes_per_cluster,.int V.bpc),(`first_data_sector,.int V.fds),(`first_free_cluster,.int V.ffc),(`fat_type,.int V.ty),(1683700,.ref V.fat),(`initialized,.bool V.init),(`encoding,V.enc),(`is_read_only,.bool V.ro),(`lazy_load,.bool V.lz)]
theorem y40 (R:Row X) {q:Nat} (hn:c.n=n+1) (hp:H p=some (.inst 936 V.ns0)) (h:Q .none ⟨upd H p (.inst 936 (V.sfp q).ns),L⟩):P0 X c (.ref 718) [.ref p,.ref q] [] Q E ⟨H,L⟩:=by
 refine w10 R (n21 R) hn (o21 R) fun c' h1 h2 h3 h4=>?_;walk_at "R";exact z10 (upA h)
theorem o46 (R:Row X) {es:List Int} (hd:Hd5 D bps spc rsv nf re t16 t32 f16 f32 note) (hn:c.n=n+1+1) (hp:H p=some (.inst 936 V.ns)) (hq:H V.hdr=some (.dictS D)) (hf:H V.fat=some (.list (es.map .int))) (hl:1<es.length) (h: ∀b,Q (.bool b) ⟨H,L⟩):P0 X c (.ref 746) [.ref p] [] Q E ⟨H,L⟩:=by
 obtain ⟨d1,d2,d3,d4,d5,d6,d7,d8,d9,d10⟩:=hd;have hg:(es.map AV.int)[(1:Int).toNat]? =some (.int (es.getD 1 0)):=by
  show (es.map AV.int)[1]? =_;rw [List.getElem?_map,o5 hl,w0,o5 hl];rfl
 refine w10 R (j27 R) hn (k27 R) fun c' h1 h2 h3 h4=>?_;walk_at "R";refine m42 R h1 hp rfl ⟨rfl,rfl,rfl,rfl⟩ ?_;have e:maskOf V.ty= .none\/ ∃k,maskOf V.ty= .int k:=by unfold maskOf;split;exact .inr ⟨_,rfl⟩;split;exact .inr ⟨_,rfl⟩;exact .inl rfl
 rcases e with e | ⟨k,e⟩<;>rw [e]
 ·walk_at "R";refine j35 (fun z=>?_) (fun z=>?_)
  ·walk_at "R";exact c12 (upA (h _))
  ·exact c12 (upA (h _))
 ·walk_at "R";refine j35 (fun z=>?_) (fun z=>?_)
  ·walk_at "R";exact c12 (upA (h _))
  ·exact c12 (upA (h _))
theorem b28 {es:List Int} {i:Nat} {v:AV} (h:(es.map AV.int)[i]? =some v):v= .int (es.getD i 0)/\i<es.length:=by
 rw [List.getElem?_map] at h;cases e:es[i]? with
 | none=>rw [e] at h;cases h
 | some x=>
  rw [e] at h;cases h;rw [w0,e];exact ⟨rfl,(List.getElem?_eq_some_iff.mp e).1⟩
theorem n12 {es:List Int} {i:Nat} (h:i<es.length):es.getD i 0∈es:=by
 rw [w0,o5 h];exact List.getElem_mem h
set_option tactic.hygienic true in
theorem j18 (R:Row X) {es:List Int} (hn:c.n=n+1+1) (hh:c.hd=none) (hp:H p=some (.inst 936 V.ns)) (hi:V.init=true) (hf:H V.fat=some (.list (es.map .int))) (hl:es.length<=100000)
  (hk:V.ty=12/\(∀e∈es,0<=e/\e<4096)\/V.ty=16/\(∀e∈es,0<=e/\e<65536)\/V.ty=32/\(∀e∈es,0<=e/\e<4294967296)) (h:Q (.bytes (Q3 V.ty es)) ⟨H,L⟩):P0 X c (.ref 795) [.ref p] [] Q E ⟨H,L⟩:=by
 refine w10 R (z18 R) hn (a19 R) fun c' h1 h2 h3 h4=>?_;have hh':c'.hd=none:=h4.trans hh;walk_at "R";refine k15 R h1 hp hi ?_;walk_at "R";rcases hk with ⟨ety,hb⟩ | hk
 ·refine c30 (by rw [ety];rfl) ?_;rw [Q3,if_pos ety] at h;walk_at "R";rename_i q hq;refine m30 (xs:=es.map .int) (i10 _ _ _) hh' (fun i σ=>i<=es.length/\σ=⟨upd H q (.enum V.fat i),[(98,.bytes (O4 es i)),(`self,.ref p)]⟩) (r12 (σ':=⟨upd H q (.enum V.fat 0),[(98,.bytes (O4 es 0)),(`self,.ref p)]⟩) s!"-gp0" s!"-lp0" ⟨Nat.zero_le _,rfl⟩) (fun i σ hJ=>?_) (fun i t v H' L' ht hv hJ=>?_) fun H' L' hJ=>?_
  ·obtain ⟨hi,rfl⟩:=hJ;exact ⟨i10 _ _ _,by walk_at "hp",by rw [a7];exact hi⟩
  ·obtain ⟨hi,e⟩:=hJ;walk_at "S";obtain ⟨nt1,ht0⟩:=l10 ht;obtain ⟨rfl,hil⟩:=b28 hv;have hx:=hb _ (n12 hil);have hlen:=t13 es i;have hlast:=fun h=>i24 es i h hb;have hstp:O4 es (i+1)=O7 i (O4 es i) (es.getD i 0):=rfl;generalize es.getD i 0=x at hx hstp⊢;generalize O4 es i=bb at hlen hlast hstp⊢;walk_at "R";refine w38 (fun e3=>?_) fun e3=>?_
   ·have e3:i % 2=0:=by have:=beq_iff_eq.mp e3;rw [Int.fmod_eq_emod_of_nonneg _ (by decide)] at this;(exact fe (.h 1 (.E (.v 0) (.n 0)) <| .h 1 (.E (.w (.v 0)) (.v 0)) <| .o 1 (.e (.v 0) (.n 0))) [_] [_] rfl this (Qcm _ 2))
    walk_at "R";refine c15 (k:=2) rfl (by decide) ⟨hx.1,by (exact fk s!"hSAn4096oSAn256^2" [_] [] rfl hx.2)⟩ ?_;refine w17 (by rw [v14];(exact fk s!"h3xAn100000h3xBAh2zCal3Dl2GhzGn0h3zal2DGBo2xaCn2n16777216" [] [_,_,_,_,_] rfl hl hi hlen e3 (o0 _ 2))) ?_;rw [show bb++leB 2 x=O4 es (i+1) from by rw [hstp,O7,if_pos e3]];walk_at "R";exact z10 (l12 (σ':=⟨upd H q (.enum V.fat (i+1)),[(98,.bytes (O4 es (i+1))),(`self,.ref p)]⟩) (by rw [a7];exact hil) s!"-gp0" s!"-lp0" ⟨hil,rfl⟩)
   ·have e3:i % 2=1:=by have:=beq_eq_false_iff_ne.mp e3;rw [Int.fmod_eq_emod_of_nonneg _ (by decide)] at this;(exact (Int.lt_or_gt_of_ne this).elim (fun qs16=>r0 (fk s!"hxl2ABh-zal2ACBhEwCAhSAn0o0xCn1" [_] [_,_,_] rfl (qd1 _ 2) (o0 _ 2) (Qcm _ 2) qs16) (fk s!"hxl2ABh-zal2ACBhEwCAhSAn0o0xn1C" [_] [_,_,_] rfl (qd1 _ 2) (o0 _ 2) (Qcm _ 2) qs16)) fun qs16=>r0 (fk s!"hyAal2Bn2hzal2BCAoxCn1" [] [_,_,_] rfl (qd2 _ 2 rfl) (o0 _ 2)) (fk s!"h-EwAAhSn0Aoxn1A" [_] [_] rfl (Qcm _ 2) qs16))
    have hb1:0<bb.length:=by (exact fk s!"h-2zAal3Bl2Ch-zCn1h-3zal2BCDo2yn0A" [] [_,_,_,_] rfl hlen e3 (o0 _ 2))
    have hnb:=hlast e3;walk_at "R";refine r17 ⟨by decide,by (exact fk s!"hyn0AoLgwAgn1" [] [_] rfl hb1)⟩ (by exact fk s!"h3xAn100000h3xBAh2zCal3Dl2GhzGn1h3zal2DGBo2xCn1099511627776" [] [_,_,_,_,_] rfl hl hi hlen e3 (o0 _ 2)) ?_;walk_at "R";rw [s39 hb1];refine d49 ⟨by decide,by decide,by rw [W8];exact u53 (Int.emod_nonneg _ (by decide)) (Int.emod_lt_of_pos _ (by decide)) rfl⟩ ?_;walk_at "R";refine t17 (ns:=[Builtin.bitOr (Builtin.bitAnd x 15*2^(4:Int).toNat) (bb.getD (-1+(bb.length:Int)).toNat 0).toNat,x.fdiv (2^(4:Int).toNat)]) hh' s!"-hp" ?_ (by simp) ?_
    ·intro n hn;have e16:(2:Int)^(4:Int).toNat=16:=by decide
     rw [e16,W8,Int.mul_comm,e42 _ _ (by exact Int.natCast_nonneg _) hnb,j7 _ (by decide)] at hn;rcases List.mem_cons.mp hn with rfl | hn
     ·omega
     ·obtain rfl:=List.mem_singleton.mp hn;omega
    refine w17 (by rw [List.length_dropLast];simp;(exact fk s!"h3xAn100000h3xBAh2zCal3Dl2GhzGn1h3zal2DGBo2xCn16777215" [] [_,_,_,_,_] rfl hl hi hlen e3 (o0 _ 2))) ?_;rw [show bb.dropLast++_=O4 es (i+1) from by rw [hstp,O7,if_neg (by exact fun q16=>fk s!"h-zAn1hzAn0o0F" [] [_] rfl e3 q16)];rfl];walk_at "R";exact z10 (l12 (σ':=⟨upd H q (.enum V.fat (i+1)),[(98,.bytes (O4 es (i+1))),(`self,.ref p)]⟩) (by rw [a7];exact hil) s!"-gp0" s!"-lp0" ⟨hil,rfl⟩)
  ·obtain ⟨hi,e⟩:=hJ;walk_at "S";rw [a7];walk_at "R";exact c12 (upA h)
 ·refine d30 (by rcases hk with ⟨e,_⟩ | ⟨e,_⟩<;>rw [e]<;>rfl) ?_;walk_at "R";rw [Q3,if_neg (by rcases hk with ⟨e,_⟩ | ⟨e,_⟩<;>rw [e]<;>decide)] at h;rcases hk with ⟨ety,hb⟩ | ⟨ety,hb⟩
  ·refine c30 (by rw [ety];rfl) ?_;rw [if_pos ety] at h;walk_at "R";refine j14 (xs:=es.map .int) s!"-hp" hh' (fun it i σ=>H it=none/\i<=es.length/\σ=⟨upd H it (.listIter V.fat i),[(`size,.int 2),(98,.bytes (tbW 2 es i)),(`self,.ref p)]⟩) (fun it hit=>r12 (σ':=⟨upd H it (.listIter V.fat 0),[(`size,.int 2),(98,.bytes (tbW 2 es 0)),(`self,.ref p)]⟩) s!"-gp0" s!"-lp0" ⟨hit,Nat.zero_le _,rfl⟩) (fun it i σ hJ=>?_) (fun it i v H' L' hit hv hJ=>?_) fun it H' L' hit hJ=>?_
   ·obtain ⟨hit,hi,rfl⟩:=hJ;exact ⟨i10 _ _ _,by walk_at "hp"⟩
   ·obtain ⟨hit',hi,e⟩:=hJ;walk_at "S";obtain ⟨rfl,hil⟩:=b28 hv;have hx:=hb _ (n12 hil);have hlen:=r15 2 es i;have hstp:tbW 2 es (i+1)=tbW 2 es i++leB 2 (es.getD i 0):=rfl;generalize es.getD i 0=x at hx hstp⊢;generalize tbW 2 es i=bb at hlen hstp⊢;walk_at "R";refine c15 (k:=2) rfl (by decide) ⟨hx.1,by (exact fk s!"hSAn65536oSAn256^2" [_] [] rfl hx.2)⟩ ?_;refine w17 (by rw [v14];(exact fk s!"h2xAn100000h2xBAhzCl2BoxaCn2n16777216" [] [_,_,_] rfl hl hi hlen)) ?_;rw [<-hstp];walk_at "R";exact z10 (l12 (σ':=⟨upd H it (.listIter V.fat (i+1)),[(`size,.int 2),(98,.bytes (tbW 2 es (i+1))),(`self,.ref p)]⟩) (by rw [a7];exact hil) s!"-gp0" s!"-lp0" ⟨hit',hil,rfl⟩)
   ·obtain ⟨hit',hi,e⟩:=hJ;walk_at "S";rw [a7];walk_at "R";exact c12 (upA h)
  ·refine d30 (by rw [ety];rfl) ?_;rw [if_neg (by rw [ety];decide)] at h;walk_at "R";refine j14 (xs:=es.map .int) s!"-hp" hh' (fun it i σ=>H it=none/\i<=es.length/\σ=⟨upd H it (.listIter V.fat i),[(`size,.int 4),(98,.bytes (tbW 4 es i)),(`self,.ref p)]⟩) (fun it hit=>r12 (σ':=⟨upd H it (.listIter V.fat 0),[(`size,.int 4),(98,.bytes (tbW 4 es 0)),(`self,.ref p)]⟩) s!"-gp0" s!"-lp0" ⟨hit,Nat.zero_le _,rfl⟩) (fun it i σ hJ=>?_) (fun it i v H' L' hit hv hJ=>?_) fun it H' L' hit hJ=>?_
   ·obtain ⟨hit,hi,rfl⟩:=hJ;exact ⟨i10 _ _ _,by walk_at "hp"⟩
   ·obtain ⟨hit',hi,e⟩:=hJ;walk_at "S";obtain ⟨rfl,hil⟩:=b28 hv;have hx:=hb _ (n12 hil);have hlen:=r15 4 es i;have hstp:tbW 4 es (i+1)=tbW 4 es i++leB 4 (es.getD i 0):=rfl;generalize es.getD i 0=x at hx hstp⊢;generalize tbW 4 es i=bb at hlen hstp⊢;walk_at "R";refine c15 (k:=4) rfl (by decide) ⟨hx.1,by (exact fk s!"hSAn4294967296oSAn256^4" [_] [] rfl hx.2)⟩ ?_;refine w17 (by rw [v14];(exact fk s!"h4xAn100000h4xBAhzCl4BoxaCn4n16777216" [] [_,_,_] rfl hl hi hlen)) ?_;rw [<-hstp];walk_at "R";exact z10 (l12 (σ':=⟨upd H it (.listIter V.fat (i+1)),[(`size,.int 4),(98,.bytes (tbW 4 es (i+1))),(`self,.ref p)]⟩) (by rw [a7];exact hil) s!"-gp0" s!"-lp0" ⟨hit',hil,rfl⟩)
   ·obtain ⟨hit',hi,e⟩:=hJ;walk_at "S";rw [a7];walk_at "R";exact c12 (upA h)
def KOk (ty:Int) (es:List Int):Prop:=ty=12/\(∀e∈es,0<=e/\e<4096)\/ty=16/\(∀e∈es,0<=e/\e<65536)\/ty=32/\(∀e∈es,0<=e/\e<4294967296)
noncomputable def fl (d:List UInt8) (F S:Nat) (b:List UInt8):Nat->List UInt8
 | 0=>d
 | i+1=>wrO (fl d F S b i) (F+i*S) b
theorem n42 {d x:List UInt8} {a:Nat} (h:a+x.length<=d.length):wrO d a x=d.take a++x++d.drop (a+x.length):=by
 unfold wrO;rw [show ((a:Int)-d.length).toNat=0 from by rw [Int.toNat_sub];exact Nat.sub_eq_zero_of_le (Nat.le_trans (Nat.le_add_right _ _) h)];simp
theorem p46 {d x:List UInt8} {a:Nat} (h:a+x.length<=d.length):(wrO d a x).length=d.length:=by
 rw [n42 h,w6,w6,List.length_take,List.length_drop];(exact fe (.h 1 (.e (.v 0) (.v 1)) <| .h 1 (.e (.a (.v 2) (.a (.v 1) (.v 3))) (.v 4)) <| .o 1 (.e (.a (.a (.v 0) (.v 3)) (.v 2)) (.v 4))) [] [_,_,_,_,_] rfl (j6 (fk κ10 [] [_,_,_] rfl h)) (n0 (h)))
theorem i37 {d:List UInt8} {F S:Nat} {b:List UInt8} (hb:b.length=S): ∀i,F+i*S<=d.length->(fl d F S b i).length=d.length
 | 0,_=>rfl
 | i+1,h=>by
  rw [Nat.succ_mul] at h;rw [fl,p46 (by rw [i37 hb i (by exact fk s!"hzABhxaCaDBGoxaCDG" [] [_,_,_,_,_] rfl hb h),hb];(exact fk s!"hxaAaBCDoxaaABCD" [] [_,_,_,_] rfl h)),i37 hb i (by exact fk s!"hzABhxaCaDBGoxaCDG" [] [_,_,_,_,_] rfl hb h)]
set_option tactic.hygienic true in
theorem j37 (R:Row X) {es:List Int} {d:List UInt8} {a:Int} {w:Bool} {N F S:Nat} (hd:Hd5 D bps spc rsv nf re t16 t32 f16 f32 note) (hn:c.n=n+1+1+1) (hh:c.hd=none) (hp:H p=some (.inst 936 V.ns)) (hi:V.init=true) (hw:V.ro=false) (hq:H V.hdr=some (.dictS D)) (ho:H V.fp=some (Oc d w a)) (hf:H V.fat=some (.list (es.map .int))) (hl:es.length<=100000) (hk:KOk V.ty es)
  (b0:nf=N/\N<=1000) (b3:0<bps/\bps<=1000000) (b4:0<=V.fsz/\V.fsz<=1000000) (b5:0<=rsv/\rsv<=1000000)
  (hF:rsv*bps+V.off=F) (hS:bps*V.fsz=S) (hb:(Q3 V.ty es).length=S) (hz:F+N*S<=d.length/\d.length<=1000000)
  (h: ∀a',Q .none ⟨upd H V.fp (Oc (fl d F S (Q3 V.ty es) N) w a'),L⟩):P0 X c (.ref 824) [.ref p] [] Q E ⟨H,L⟩:=by
 obtain ⟨d1,d2,d3,d4,d5,d6,d7,d8,d9,d10⟩:=hd;obtain ⟨rfl,hN⟩:=b0;have ho':=ho;unfold Oc at ho';refine w10 R (h18 R) hn (i18 R) fun c' h1 h2 h3 h4=>?_;have hh':c'.hd=none:=h4.trans hh;have nepf:Ap p V.fp:=⟨by walk_at "ne"⟩;walk_at "R";refine k15 R h1 hp hi ?_;walk_at "R";refine n32 R h1 hp hw ?_;walk_at "R";refine j18 R h1 hh' hp hi hf hl hk ?_;generalize Q3 V.ty es=bin at hb h⊢;walk_at "R";rename_i q hq0;refine r13 (N:=N) (i10 _ _ _) ?_ ?_ hh' (fun it i σ=>i<=N/\ ∃a',σ=⟨upd (upd H V.fp (Oc (fl d F S bin i) w a')) it (.rangeIter (0+i) (N-i:Int) 1),[(`binary_fat,.bytes bin),(`first_fat_bytes,.int (rsv*bps)),(`fat_size,.int (bps*V.fsz)),(`self,.ref p)]⟩) (fun it hit=>?_) (fun it i σ hJ=>?_) (fun it i H' L' hit hlt hJ=>?_) fun it H' L' hit hJ=>?_
 ·exact small_one (by decide) (by decide) (by exact fk s!"oLgn2^62wA" [] [_] rfl) (by exact fk s!"hxAn1000oSwAn2^62" [] [_] rfl hN)
 ·rw [rangeSize_one];split<;>(first | (exact fe (.o 1 (.E (.m (.w (.v 0)) (.n 0)) (.w (.v 0)))) [] [_] rfl) | (rename_i hz0;exact t0 (Int.natCast_nonneg _) (Int.not_lt.mp hz0)))
 ·obtain ⟨ni1,hi0⟩:=l10 hit;have e1:(0:Int)+((0:Nat):Int)=0:=by (exact fe (.o 1 (.E (.a (.n 0) (.w (.n 0))) (.n 0))) [] [] rfl)
  have e2:(N:Int)-((0:Nat):Int)=N:=by (exact fe (.o 1 (.E (.m (.w (.v 0)) (.w (.n 0))) (.w (.v 0)))) [] [_] rfl)
  refine r12 (σ':=⟨upd (upd H V.fp (Oc d w a)) it (.rangeIter 0 N 1),[(`binary_fat,.bytes bin),(`first_fat_bytes,.int (rsv*bps)),(`fat_size,.int (bps*V.fsz)),(`self,.ref p)]⟩) s!"-gp0" s!"-lp0" ⟨Nat.zero_le _,a,?_⟩;rw [e1,e2];rfl
 ·obtain ⟨_,a',rfl⟩:=hJ;exact i10 _ _ _
 ·obtain ⟨hiN,a',e⟩:=hJ;walk_at "S";obtain ⟨ni1,hi0⟩:=l10 hit;walk_at "R";refine g37 R h1 s!"-hp" s!"-hp" ?_;have hNS:(i+1)*S<=N*S:=Nat.mul_le_mul_right S hlt;rw [Nat.succ_mul] at hNS;have e5:rsv*bps+(0+(i:Int))*(bps*V.fsz)+V.off=((F+i*S:Nat):Int):=by rw [Int.zero_add,hS,Int.natCast_add,Int.natCast_mul,<-hF];(exact t0 (fk κ6 [_,_,_] [] rfl) (fk κ6 [_,_,_] [] rfl))
  rw [e5];have hfl:=i37 hb (d:=d) (F:=F) i (by exact fk s!"hxaABChxaDGBoxaADC" [] [_,_,_,_,_] rfl hz.1 hNS);walk_at "R";refine x40 R h1 s!"-hp" ⟨by (exact fk s!"hxAn1000000hzBAoxBn1000000" [] [_,_] rfl hz.2 hfl),by (exact fk s!"hxaABChxCn1000000hxaDGBoxaADn1000000" [] [_,_,_,_,_] rfl hz.1 hz.2 hNS),by (exact fk s!"hxaABChxCn1000000hzDGhxaHGBoxDn1000000" [] [_,_,_,_,_,_] rfl hz.1 hz.2 hb hNS)⟩ ?_;walk_at "R";refine z10 (l12 (σ':=⟨upd (upd H V.fp (Oc (fl d F S bin (i+1)) w (((F+i*S:Nat):Int)+bin.length))) it (.rangeIter (0+((i+1:Nat):Int)) (N-((i+1:Nat):Int)) 1),[(`binary_fat,.bytes bin),(`first_fat_bytes,.int (rsv*bps)),(`fat_size,.int (bps*V.fsz)),(`self,.ref p)]⟩) hlt s!"-gp0" s!"-lp0" ⟨hlt,_,rfl⟩)
 ·obtain ⟨_,a',e⟩:=hJ;walk_at "S";obtain ⟨ni1,hi0⟩:=l10 hit;rw [q11 s!"-hp"];walk_at "R";exact z10 (upA (h a'))
noncomputable def mkE (ty:Int) (es:List Int):List Int:=if ty=12 then es else es.set 1 (clr (if ty=16 then 32768 else 134217728) (es.getD 1 0))
theorem o42 {m e:Int} (hm:m=32768\/m=134217728) (h:0<=e):0<=clr m e/\clr m e<=e:=by
 have key: ∀k:Nat,0<=clr (2^k) e/\clr (2^k) e<=e:=fun k=>by
  rw [f42 h];have hp:(0:Int)<2^k:=Int.pow_pos (by decide);generalize (2:Int)^k=m at hp;have h1:0<=e / m:=Int.ediv_nonneg h (Int.le_of_lt hp);have h2:e / m % 2<=e / m:=by (exact Decidable.byContradiction fun q6=>fk s!"hLn0AhSBn2h-Eal2CBAh2Ln0agCgn1o0F" [_,_,_] [] rfl h1 (Qm2 _ 2 rfl) (Int.mul_ediv_add_emod _ 2) (fk s!"hEal2ABChJBCo2Ln0agAgn1" [_,_,_] [] rfl (Int.mul_ediv_add_emod _ 2) q6))
  have h0:0<=e / m % 2:=Int.emod_nonneg _ (by decide);have h3:e / m*m<=e:=Int.ediv_mul_le e (Int.ne_of_gt hp);have h4:e / m % 2*m<=e / m*m:=Int.mul_le_mul_of_nonneg_right h2 (Int.le_of_lt hp);have h5:0<=e / m % 2*m:=Int.mul_nonneg h0 (Int.le_of_lt hp)
  (exact ⟨fk s!"hLABhLCAoLn0mBC" [_,_,_] [] rfl h3 h4,fk s!"hLn0AoLmBAB" [_,_] [] rfl h5⟩)
 rcases hm with rfl | rfl
 ·exact key 15
 ·exact key 27
theorem f51 {ty:Int} {es:List Int} (hk:KOk ty es) (hl:1<es.length):KOk ty (mkE ty es):=by
 have hg:=n12 hl;have st: ∀B:Int,ty≠12->(∀e∈es,0<=e/\e<B)-> ∀e∈mkE ty es,0<=e/\e<B:=fun B h12 h e he=>by
  rw [mkE,if_neg h12] at he;rcases List.mem_or_eq_of_mem_set he with he | rfl
  ·exact h e he
  ·have b:=o42 (m:=if ty=16 then 32768 else 134217728) (e:=es.getD 1 0) (by split<;>simp) (h _ hg).1;exact ⟨b.1,Int.lt_of_le_of_lt b.2 (h _ hg).2⟩
 rcases hk with ⟨e,h⟩ | ⟨e,h⟩ | ⟨e,h⟩
 ·rw [mkE,if_pos e];exact .inl ⟨e,h⟩
 ·exact .inr (.inl ⟨e,st _ (by rw [e];decide) h⟩)
 ·exact .inr (.inr ⟨e,st _ (by rw [e];decide) h⟩)
theorem m22 (ty:Int) (es:List Int):(mkE ty es).length=es.length:=by unfold mkE;split;rfl;rw [List.length_set]
theorem g51 (R:Row X) {es:List Int} {d:List UInt8} {a:Int} {w:Bool} {N F S:Nat} (hd:Hd5 D bps spc rsv nf re t16 t32 f16 f32 note) (hdl:D.length<=900) (hn:c.n=n+1+1+1+1) (hh:c.hd=none) (hp:H p=some (.inst 936 V.ns)) (hi:V.init=true) (hw:V.ro=false) (hq:H V.hdr=some (.dictS D)) (ho:H V.fp=some (Oc d w a)) (hf:H V.fat=some (.list (es.map .int))) (hl:1<es.length/\es.length<=100000) (hk:KOk V.ty es)
  (b0:nf=N/\N<=1000) (b3:0<bps/\bps<=1000000) (b4:0<=V.fsz/\V.fsz<=1000000) (b5:0<=rsv/\rsv<=1000000)
  (hF:rsv*bps+V.off=F) (hS:bps*V.fsz=S) (hb:V.ty≠12->(Q3 V.ty (mkE V.ty es)).length=S) (hz:F+N*S<=d.length/\d.length<=1000000)
  (h: ∀a',Q .none ⟨upd (upd (upd H V.fat (.list ((mkE V.ty es).map .int))) V.fp (Oc (if V.ty=12 then d else fl d F S (Q3 V.ty (mkE V.ty es)) N) w a')) V.hdr (.dictS (put D `BS_Reserved1 (.int (Builtin.bitOr note 1)))),L⟩):P0 X c (.ref 753) [.ref p] [] Q E ⟨H,L⟩:=by
 have hd':=hd;obtain ⟨d1,d2,d3,d4,d5,d6,d7,d8,d9,d10⟩:=hd;have ho':=ho;unfold Oc at ho';have n1:Ap p V.fp:=⟨by walk_at "ne"⟩;have n2:Ap p V.fat:=⟨by walk_at "ne"⟩;have n3:Ap p V.hdr:=⟨by walk_at "ne"⟩;have n4:Ap V.fp V.fat:=⟨by walk_at "ne"⟩;have n5:Ap V.fp V.hdr:=⟨by walk_at "ne"⟩;have n6:Ap V.fat V.hdr:=⟨by walk_at "ne"⟩;refine w10 R (k31 R) hn (l31 R) fun c' h1 h2 h3 h4=>?_;have hh':c'.hd=none:=h4.trans hh;walk_at "R";refine m42 R h1 hp rfl ⟨rfl,rfl,rfl,rfl⟩ ?_;by_cases e12:V.ty=12
 ·rw [mkE,if_pos e12,if_pos e12] at h;rw [maskOf,if_neg (by exact fun q18=>fk s!"hEAn12h-EAn16o0F" [_] [] rfl e12 q18),if_neg (by exact fun q18=>fk s!"hEAn12h-EAn32o0F" [_] [] rfl e12 q18)];walk_at "R";exact z10 (upA (h a))
 ·have hE:mkE V.ty es=es.set 1 (clr (if V.ty=16 then 32768 else 134217728) (es.getD 1 0)):=by rw [mkE,if_neg e12]
  have hm:maskOf V.ty= .int (if V.ty=16 then 32768 else 134217728):=by
   unfold maskOf;rcases hk with ⟨e,_⟩ | ⟨e,_⟩ | ⟨e,_⟩
   ·exact absurd e e12
   ·rw [if_pos e,if_pos e]
   ·rw [if_neg (by exact fun q18=>fk s!"h-EAn32hEAn16o0F" [_] [] rfl e q18),if_pos e,if_neg (by exact fun q18=>fk s!"h-EAn32hEAn16o0F" [_] [] rfl e q18)]
  have hk':=f51 hk hl.1;have hl':=m22 V.ty es;have hb':=hb e12;rw [if_neg e12] at h;rw [hm];have hg:(es.map AV.int)[(1:Int).toNat]? =some (.int (es.getD 1 0)):=by
   show (es.map AV.int)[1]? =_;rw [List.getElem?_map,o5 hl.1,w0,o5 hl.1];rfl
  have hst:(es.map AV.int).set (1:Int).toNat (.int (clr (if V.ty=16 then 32768 else 134217728) (es.getD 1 0)))=(mkE V.ty es).map .int:=by
   rw [hE,List.map_set];rfl
  generalize mkE V.ty es=es' at hk' hl' hb' h hst;unfold clr at hst;generalize (if V.ty=16 then (32768:Int) else 134217728)=m at hst⊢;walk_at "R";rw [hst];refine j37 R hd' h1 hh' s!"-hp" hi hw s!"-hp" s!"-hp" s!"-hp" (by exact fk s!"hxAn100000hzBAoxBn100000" [] [_,_] rfl hl.2 hl') hk' b0 b3 b4 b5 hF hS hb' hz fun a'=>?_;walk_at "R";exact z10 (upA (h a'))
end Mine
namespace Mine
section
variable {X:Cx} {c:Cf} {H:Nat->Option W0} {L:NS} {K:KT} {P:PT} {vs:List AV} {r:List Tr} {σ:St}
theorem q46 {cks:List (Nat×NameKind)} (hc:cks.all (fun p=>p.2 != .free)=true) (h:Go (run X c K P r vs σ)):Go (run X c K P (I.cells cks::r) vs σ):=by
 refine ⟨⟨fun p hp hf=>?_,h.out⟩⟩;have:=List.all_eq_true.mp hc p hp;rw [hf] at this;cases this
theorem g25 {x q:Nat} {lo hi:Int} {b e:List Tr} (hq:H q=some (.range lo hi 1)) (hs:Builtin.Range.small lo hi 1=true) (hN:Builtin.Range.rangeSize lo hi 1=0) (hd:c.hd=none)
  (h:Go (run X c (run X c K P r) P e vs ⟨H,L⟩)):Go (run X c K P (I.W4 [I.st x] b e::r) (.ref q::vs) (⟨H,L⟩:St)):=by
 refine r13 (N:=0) hq hs hN hd (fun it i σ=>σ=⟨upd H it (.rangeIter (lo+(i:Nat)) ((0:Nat)-(i:Nat):Int) 1),L⟩) (fun it hit=>Up.same (by simp)) (fun it i σ hJ=>by subst hJ;exact i10 _ _ _) (fun it i H' L' hit hlt=>absurd hlt (Nat.not_lt_zero _)) fun it H' L' hit hJ=>?_;obtain ⟨rfl,rfl⟩:=St.mk.injEq .. ▸hJ;rw [b21 hit];exact h
end
variable {X:Cx} {c:Cf} {σ:St} {E:Nat->St->Prop} {Q:AV->St->Prop} {n:Nat} {H:Nat->Option W0} {L:NS} {V:PF} {p:Nat} {D:NS}
noncomputable def encOf (x:Str):List UInt8:=(x.cps.toList.map Int.ofNat).map fun n=>n.toNat.toUInt8
theorem h51 (R:Row X) {x:Str} (hx:x.cps.all (·<128)=true) (hz:x.cps.size<=1000) (hn:c.n=n+1) (hd:c.hd=none) (h:Q (.bytes (encOf x)) ⟨H,L⟩):P0 X c (.ref 109) [.str x] [] Q E ⟨H,L⟩:=by
 refine w10 R (b51 R) hn (c51 R) fun c' h1 h2 h3 h4=>?_;walk_at "R";refine q46 rfl ?_;walk_at "R";refine y26 (f:=fun n=> .int n) hx (by exact fk s!"hxAn1000oxAn100000" [] [_] rfl hz) (h4.trans hd) (fun c2 ch H' L' K' g1 g2 g3 g4 hK=>?_) fun D hD=>?_
 ·walk_at "R";refine z53 ?_;exact z10 hK
 ·refine t17 (ns:=x.cps.toList.map Int.ofNat) (h4.trans hd) ((i10 _ _ _).trans (by rw [List.map_map];rfl)) (fun n hn=>?_) (by simp;(exact fk s!"hxAn1000oxAn16777216" [] [_] rfl hz)) ?_
  ·obtain ⟨k,hk,rfl⟩:=List.mem_map.mp hn;have:=Array.all_eq_true'.mp hx k (Array.mem_toList_iff.mp hk);simp only [decide_eq_true_eq] at this;have e:Int.ofNat k=(k:Int):=rfl;rw [e]
   (exact ⟨fk κ1 [] [_] rfl,fk s!"hyAn128oSwAn256" [] [_] rfl this⟩)
  ·walk_at "R";k_call_by "end" h
theorem y19 (R:Row X) {x:Str} (e1:Txt.rfind x (N 46)= -1) (e2:Txt.rfind x (N 47)= -1) (hn:c.n=n+1) (hd:c.hd=none) (h: ∀t,H t=none->Q (.ref t) ⟨upd H t (.tuple [.str x,.str (N 0)]),L⟩):P0 X c (.ref 126) [.str x] [] Q E ⟨H,L⟩:=by
 refine w10 R (n27 R) hn (o27 R) fun c' h1 h2 h3 h4=>?_;walk_at "R";refine n19 ?_;walk_at "R";refine l35 e1 ?_;walk_at "R";refine n19 ?_;walk_at "R";refine l35 e2 ?_;walk_at "R";refine g25 (i10 _ _ _) (by decide) (by decide) (h4.trans hd) ?_;walk_at "R";k_call_by "end" (h _ (by with_reducible assumption))
theorem r46 (R:Row X) {a:AV} (hn:c.n=n+1+1) (hd:c.hd=none) (h:Q .none ⟨H,L⟩):P0 X c (.ref 279) [.str (N 0)] [(N `encoding,a)] Q E ⟨H,L⟩:=by
 refine w10 R (q27 R) hn (r27 R) fun c' h1 h2 h3 h4=>?_;walk_at "R";refine h51 R s!"." (by decide) h1 (h4.trans hd) ?_;walk_at "R";refine h24 (h4.trans hd) ?_;walk_at "R";k_call_by "end" h
end Mine
namespace Mine
section
variable {X:Cx} {c:Cf} {H:Nat->Option W0} {L:NS} {K:KT} {P:PT} {vs:List AV} {r:List Tr} {σ:St}
theorem p42 {x y:Str} {lo hi:AV} {lo' hi':Option Int} (h1:part lo=some lo') (h2:part hi=some hi') (hz:x.length<=16777216) (hy:Txt.slice x lo' hi'=y) (h:Go (run X c K P r (.str y::vs) σ)):Go (run X c K P (I.cut::r) (hi::lo:: .str x::vs) σ):=
 p49 i50 (r45 h1 h2 hz (hy▸h.out))
theorem r32 {x q:Nat} {xs:List AV} {b e:List Tr} (hq:H q=some (.list xs)) (hd:c.hd=none)
  (body: ∀it i v (K':KT) (P':PT),H it=none->xs[i]? =some v->(∀σ3:St,HGe [] σ3.h (upd H it (.listIter q (i+1)))->LGe σ3.loc L->K' [] σ3)->(∀a σ3,P' (.exc a) σ3=P (.exc a) σ3)->Go (run X c K' P' b [] ⟨upd H it (.listIter q (i+1)),(x,v)::L⟩))
  (done:Go (run X c (run X c K P r) P e vs ⟨H,L⟩)):Go (run X c K P (I.W4 [I.st x] b e::r) (.ref q::vs) (⟨H,L⟩:St)):=by
 refine j14 (xs:=xs) hq hd (fun it i σ=>i<=xs.length/\H it=none/\σ=⟨upd H it (.listIter q i),L⟩) (fun it hit=>Up.same ⟨Nat.zero_le _,hit,rfl⟩) (fun it i σ hJ=>?_) (fun it i v H' L' hit hv hJ=>?_) fun it H' L' hit hJ=>?_
 ·obtain ⟨_,hit,rfl⟩:=hJ;exact ⟨i10 _ _ _,b15 (fun z=>by rw [z,hit] at hq;cases hq) hq⟩
 ·obtain ⟨hi,hit',e⟩:=hJ;obtain ⟨e1,e3⟩:=St.mk.injEq .. ▸e;subst e1;rw [e3];have hlt:i<xs.length:=by
   by_cases z:i<xs.length
   ·exact z
   ·rw [List.getElem?_eq_none (by omega)] at hv;cases hv
  have e2:upd (upd H it (.listIter q i)) it (.listIter q (i+1))=upd H it (.listIter q (i+1)):=by
   funext k;unfold upd;by_cases z:k=it<;>simp [z]
  rw [e2];refine body it i v _ _ hit hv (fun σ3 g1 g2=>l12 (σ':=⟨upd H it (.listIter q (i+1)),L⟩) hlt g1 g2 ⟨hlt,hit,rfl⟩) fun a σ3=>rfl
 ·obtain ⟨_,_,e⟩:=hJ;obtain ⟨e1,e3⟩:=St.mk.injEq .. ▸e;subst e1;rw [e3,b21 hit];exact done
end
variable {X:Cx} {c:Cf} {σ:St} {E:Nat->St->Prop} {Q:AV->St->Prop} {n:Nat} {H:Nat->Option W0} {L:NS} {V:PF} {p:Nat} {D:NS}
theorem k37 (R:Row X) {a:AV} (hn:c.n=n+1+1+1) (hd:c.hd=none) (h:Q (.bool true) ⟨H,L⟩):P0 X c (.ref 290) [.str (N 0),a] [] Q E ⟨H,L⟩:=by
 refine w10 R (b22 R) hn (c22 R) fun c' h1 h2 h3 h4=>?_;have hh:=h4.trans hd;walk_at "R";refine o30 ?_;walk_at "R";refine m45 (y:=N 0) s!"." s!"." ?_;refine w53 ?_;walk_at "R";refine y19 R s!"." s!"." h1 hh fun t ht=>?_;walk_at "R";dsimp only at ht⊢;refine n11 (i10 _ _ _) hh rfl ?_;dsimp only [List.cons_append,List.nil_append];walk_at "R";refine p42 (y:=N 0) rfl rfl (by decide) s!"." ?_;walk_at "R";refine y20 (i:=0) (by decide) s!"." ?_;walk_at "R";refine y20 (i:=0) (by decide) s!"." ?_;walk_at "R";refine y20 (i:=0) (by decide) s!"." ?_;walk_at "R";refine y20 (i:=0) (by decide) s!"." ?_;walk_at "R";refine r32 (i10 _ _ _) hh (fun it i v K' P' hit hv hK hP=>?_) ?_
 ·have hv':v= .str (N 0):=by
   match i,hv with
   | 0,hv=>cases hv;rfl
   | 1,hv=>cases hv;rfl
   | i+2,hv=>cases hv
  subst hv';walk_at "R";refine r46 R h1 hh ?_;walk_at "R";exact z10 (hK _ s!"-gp0" s!"-lp0")
 ·walk_at "R";k_call_by "end" h
noncomputable def X15:Str:=⟨#[32,32,32,32,32,32,32,32,32,32,32]⟩
theorem r54 (R:Row X) (hn:c.n=n+1+1) (hd:c.hd=none) (h:Q (.str X15) ⟨H,L⟩):P0 X c (.ref 300) [.str (N 0)] [] Q E ⟨H,L⟩:=by
 refine w10 R (z36 R) hn (a37 R) fun c' h1 h2 h3 h4=>?_;have hh:=h4.trans hd;walk_at "R";refine y19 R s!"." s!"." h1 hh fun t ht=>?_;dsimp only at ht⊢;walk_at "R";refine n11 (i10 _ _ _) hh rfl ?_;dsimp only [List.cons_append,List.nil_append];walk_at "R";refine p42 (y:=N 0) rfl rfl (by decide) s!"." ?_;walk_at "R";refine o19 ?_;walk_at "R";refine m35 (y:=N 0) (by decide) s!"." ?_;walk_at "R";refine p19 ?_;walk_at "R";refine n35 (y:=⟨#[32,32,32,32,32,32,32,32]⟩) s!"." s!"." ?_;walk_at "R";refine o19 ?_;walk_at "R";refine m35 (y:=N 0) (by decide) s!"." ?_;walk_at "R";refine p19 ?_;walk_at "R";refine n35 (y:=⟨#[32,32,32]⟩) s!"." s!"." ?_;walk_at "R";refine j50 (z:=X15) (by decide) s!"." ?_;walk_at "R";k_call_by "end" h
noncomputable def edO (nm enc:AV) (b:Bool):W0:= .inst 316 [(`name,nm),(`encoding,enc),(`initialized,.bool b)]
theorem t55 (R:Row X) (hn:c.n=n+1+1) (h: ∀x,H x=none->Q (.ref x) ⟨upd H x (edO .none (.str (N 478353278342833)) false),L⟩):P0 X c (.ref 316) [] [] Q E ⟨H,L⟩:=by
 refine n15 (fI:=213) (by rw [R.k];kernel_rfl) hn fun x hx=>?_;have R:=R.off;refine w10 (n:=n) R (w19 R) rfl (b32 R) fun c' h1 h2 h3 h4=>?_;walk_at "R";exact z10 (upA ⟨rfl,h x hx⟩)
theorem s54 (R:Row X) {a:AV} (hn:c.n=n+1+1) (h: ∀x,H x=none->Q (.ref x) ⟨upd H x (edO .none a false),L⟩):P0 X c (.ref 316) [] [(N `encoding,a)] Q E ⟨H,L⟩:=by
 refine n15 (fI:=213) (by rw [R.k];kernel_rfl) hn fun x hx=>?_;have R:=R.off;refine w10 (n:=n) R (w19 R) rfl (p27 R) fun c' h1 h2 h3 h4=>?_;walk_at "R";exact z10 (upA ⟨rfl,h x hx⟩)
theorem z40 (R:Row X) (hZ:X.Z=true) {v:AV} {a:Str} {b:Bool} (hn:c.n=n+1+1+1+1) (hd:c.hd=none) (hp:H p=some (edO v (.str a) b)) (h: ∀q,H q=none->Q .none ⟨upd (upd H q (.bytearray (encOf X15))) p (edO (.ref q) (.str a) true),L⟩):P0 X c (.ref 265) [.ref p,.str (N 0)] [] Q E ⟨H,L⟩:=by
 unfold edO at hp h;refine w10 R (b25 R) hn (c25 R) fun c' h1 h2 h3 h4=>?_;have hh:=h4.trans hd;walk_at "R";refine p35 ?_;walk_at "R";refine k37 R h1 hh ?_;walk_at "R";refine r54 R h1 hh ?_;walk_at "R";refine h51 R s!"." (by decide) h1 hh ?_;walk_at "R";refine a18 hZ (by decide) fun q hq=>?_;walk_at "R";refine c21 (i10 _ _ _) (by decide) (by decide) ?_;walk_at "R";k_call_by "end" (h q hq)
theorem s32 (R:Row X) (hZ:X.Z=true) {l:List UInt8} {v:AV} {a:Str} {b:Bool} (hn:c.n=n+1+1+1) (hd:c.hd=none) (hl:l.length=11) (h0:l.getD 0 0=0) (h: ∀x,H x=none->E x ⟨upd H x (.exc (.ref 87) true [(`free_type,.int 0)]),L⟩):P0 X c (.ref 258) [.ref p,.bytes l] [] Q E ⟨H,L⟩:=by
 refine w10 R (z21 R) hn (a22 R) fun c' h1 h2 h3 h4=>?_;have hh:=h4.trans hd;have e0:((l.getD (0:Int).toNat 0).toNat:Int)=0:=by show ((l.getD 0 0).toNat:Int)=0;rw [h0];rfl
 walk_at "R";refine p26 ?_;walk_at "R";refine a18 hZ (by exact fk κ16 [] [_] rfl hl) fun q hq=>?_;walk_at "R";refine p39 (i10 _ _ _) (by exact fk κ16 [] [_] rfl hl) ?_;rw [hl];walk_at "R";refine c21 (i10 _ _ _) (by exact fk κ16 [] [_] rfl hl) (by exact ⟨fk s!"oLn0n0" [] [] rfl,fk s!"h-zAn11oSn0wA" [] [_] rfl hl⟩) ?_;rw [e0];walk_at "R";refine c21 (i10 _ _ _) (by exact fk κ16 [] [_] rfl hl) (by exact ⟨fk s!"oLn0n0" [] [] rfl,fk s!"h-zAn11oSn0wA" [] [_] rfl hl⟩) ?_;rw [e0];walk_at "R";refine n46 R h1 fun x hx=>?_;dsimp only at hx;obtain ⟨nx,hx0⟩:=l10 hx;walk_at "R";exact a42 hh s!"-hp" (by rw [R.k];kernel_rfl) (upB (i10 _ _ _) (h x hx0))
theorem t51 (R:Row X) (hn:c.n=n+1+1) (h: ∀x d,H x=none->Q (.ref x) ⟨upd H x (.inst 681 [(`lfn_entries,.ref d)]),L⟩):P0 X c (.ref 681) [] [] Q E ⟨H,L⟩:=by
 refine n15 (fI:=625) (by rw [R.k];kernel_rfl) hn fun x hx=>?_;have R:=R.off;refine w10 (n:=n) R (i32 R) rfl (j32 R) fun c' h1 h2 h3 h4=>?_;walk_at "R";exact z10 (upA ⟨rfl,h x _ hx⟩)
theorem l37 (R:Row X) {fs:NS} {k:Int} (hn:c.n=n+1) (hk:k<=4294967295) (hz:fs.length<=40) (hl:fs.lookup `MAX_FILE_SIZE=none) (hp:H p=some (.inst 606 fs)) (h:Q .none ⟨upd H p (.inst 606 (put fs `filesize (.int k))),L⟩):P0 X c (.ref 343) [.ref p,.int k] [] Q E ⟨H,L⟩:=by
 refine w10 R (d22 R) hn (e22 R) fun c' h1 h2 h3 h4=>?_;walk_at "R";k_call_by "end" h
theorem a41 (R:Row X) (hn:c.n=n+1) (h:Q .none ⟨H,L⟩):P0 X c (.ref 399) [.ref p,.none] [] Q E ⟨H,L⟩:=by
 refine w10 R (d25 R) hn (e25 R) fun c' h1 h2 h3 h4=>?_;walk_at "R";refine z30 (by rw [R.k];kernel_rfl) ?_;walk_at "R";k_call_by "end" h
noncomputable def W10 (nm fs enc d:AV) (lo hi:Int):NS:=[(`name,nm),(`attr,.int 16),(`ntres,.int 0),(`crttimetenth,.int 0),(`crttime,.int 0),(`crtdate,.int 0),(`lstaccessdate,.int 0),(`fstclushi,.int hi),(`wrttime,.int 0),(`wrtdate,.int 0),(`fstcluslo,.int lo),(`filesize,.int 0),(`_lazy_load,.bool false),(1569651,fs),(`_parent,.none),(`lfn_entry,.none),(`_dirs,d),(`_encoding,enc)]
theorem u55 (R:Row X) {a b e:AV} (hn:c.n=n+1+1+1) (h: ∀x d,H x=none->H d=none->Q (.ref x) ⟨upd (upd H d (.list [])) x (.inst 606 (W10 b a e (.ref d) 0 0)),L⟩):P0 X c (.ref 606) [] [(N 13171,a),(N `DIR_Name,b),(N `DIR_Attr,.int 16),(N `DIR_NTRes,.int 0),(N `DIR_CrtTimeTenth,.int 0),(N `DIR_CrtTime,.int 0),(N `DIR_CrtDate,.int 0),(N `DIR_LstAccessDate,.int 0),(N `DIR_FstClusHI,.int 0),(N `DIR_WrtTime,.int 0),(N `DIR_WrtDate,.int 0),(N `DIR_FstClusLO,.int 0),(N `DIR_FileSize,.int 0),(N `encoding,e)] Q E ⟨H,L⟩:=by
 refine n15 (fI:=336) (by rw [R.k];kernel_rfl) hn fun x hx=>?_;have R:=R.off;refine w10 (n:=n+1) R (c32 R) rfl (d32 R) fun c' h1 h2 h3 h4=>?_
 repeat (first | walk_at "go" | refine x53 ?_)
 refine l37 (fs:=[(`name,b),(`attr,.int 16),(`ntres,.int 0),(`crttimetenth,.int 0),(`crttime,.int 0),(`crtdate,.int 0),(`lstaccessdate,.int 0),(`fstclushi,.int 0),(`wrttime,.int 0),(`wrtdate,.int 0),(`fstcluslo,.int 0)]) R h1 (by decide) (Nat.le_of_ble_eq_true rfl) rfl (i10 _ _ _) ?_;walk_at "R";refine a41 R h1 ?_;walk_at "R";exact z10 (upA ⟨rfl,h x _ hx (by with_reducible assumption)⟩)
theorem h25 (R:Row X) {k lo hi:Int} {nm a e d:AV} (hn:c.n=n+1) (hk:0<=k/\k<65536) (hp:H p=some (.inst 606 (W10 nm a e d lo hi))) (h:Q .none ⟨upd H p (.inst 606 (W10 nm a e d k 0)),L⟩):P0 X c (.ref 420) [.ref p,.int k] [] Q E ⟨H,L⟩:=by
 refine w10 R (f22 R) hn (g22 R) fun c' h1 h2 h3 h4=>?_;unfold W10 at hp h;walk_at "R";have e1: ∀x:Int,Builtin.bitAnd x 65535=x % 65536:=fun x=>kbt_mask x 16;simp only [e1];have e2:k.fdiv (2^((16:Int)*0).toNat) % 65536=k:=by
  have:((2:Int)^((16:Int)*0).toNat)=1:=by decide
  rw [this,Int.fdiv_one];exact Int.emod_eq_of_lt hk.1 hk.2
 have e3:k.fdiv (2^((16:Int)*1).toNat) % 65536=0:=by
  have:((2:Int)^((16:Int)*1).toNat)=65536:=by decide
  rw [this,j7 _ (by decide)];rw [Int.ediv_eq_zero_of_lt hk.1 hk.2];rfl
 rw [e2,e3];k_call_by "end" h
end Mine
namespace Mine
section
variable {X:Cx} {a n:Nat}
theorem w15 {l:List (Nat×Tok×Value)} (e:X.K.lookup a=some {cls:= .type "dict",data:= .dict (l.map fun p=>en X.w.params (N p.1) p.2.1 p.2.2).toArray n}) (nd:X3 (l.map (·.1))=true):Base X a (.dictS (l.map fun p=>(p.1,ab p.2.2))):=fun own h k=>by
 have ha:=k _ _ (X.inK _ _ e);refine ⟨l.map fun p=>(N p.1,p.2.2),⟨_,_,_,ha,⟨rfl,rfl,rfl⟩,rfl,?_,?_,?_⟩,?_⟩
 ·intro x hx;have hx:=Array.mem_toList_iff.mpr hx;rw [List.toList_toArray] at hx;obtain ⟨p,_,rfl⟩:=List.mem_map.mp hx;exact ⟨N p.1,(show (N p.1==N p.1)=true from beq_self_eq_true _),rfl⟩
 ·rw [List.toList_toArray];clear e nd ha
  induction l with
  | nil=>exact .nil
  | cons p l ih=>exact .cons ((show (N p.1==N p.1)=true from beq_self_eq_true _)) rfl ih
 ·have:=r11 nd;rw [List.map_map];have e2:(l.map ((fun p:Str×Value=>p.1) ∘ fun p=>(N p.1,p.2.2)))=(l.map (·.1)).map N:=by rw [List.map_map];rfl
  rw [e2];exact List.Pairwise.map N (fun x y (h:x≠y) z=>h (o14 z)) this
 ·rw [List.map_map,List.map_map];rfl
theorem v32 {l:List (Int×Tok×Value)} (e:X.K.lookup a=some {cls:= .type "dict",data:= .dict (l.map fun p=>(⟨hashInt p.1,.int p.1 p.2.1,p.2.2⟩:DictEntry)).toArray n}) (nd:X3 (l.map (·.1))=true):Base X a (.dictI (l.map fun p=>(p.1,ab p.2.2))):=fun own h k=>by
 have ha:=k _ _ (X.inK _ _ e);refine ⟨l.map fun p=>(p.1,p.2.2),⟨_,_,_,ha,⟨rfl,rfl,rfl⟩,rfl,?_,?_,?_⟩,?_⟩
 ·intro x hx;have hx:=Array.mem_toList_iff.mpr hx;rw [List.toList_toArray] at hx;obtain ⟨p,_,rfl⟩:=List.mem_map.mp hx;exact ⟨p.1,(show (p.1==p.1)=true from beq_self_eq_true _),rfl⟩
 ·rw [List.toList_toArray];clear e nd ha
  induction l with
  | nil=>exact .nil
  | cons p l ih=>exact .cons ((show (p.1==p.1)=true from beq_self_eq_true _)) rfl ih
 ·have:=r11 nd;rw [List.map_map];exact this
 ·rw [List.map_map];rfl
end
noncomputable def M3 (ty:Int):Int:=if ty=12 then 4079 else if ty=16 then 65519 else 268435439
noncomputable def I10 (ty:Int):Nat:=if ty=12 then 701 else if ty=16 then 702 else 703
noncomputable def Q13 (m:Int):NS:=[(`FREE_CLUSTER,.int 0),(`MIN_DATA_CLUSTER,.int 2),(`MAX_DATA_CLUSTER,.int m),(`BAD_CLUSTER,.int (m+8)),(`END_OF_CLUSTER_MIN,.int (m+9)),(`END_OF_CLUSTER_MAX,.int (m+16))]
section
variable {X:Cx} {c:Cf} {P:PT} {K:KT} {σ:St} {vs:List AV} {r:List Tr} {a:AV}
theorem g29 (R:Row X):Base X 700 (.dictI [(12,.ref 701),(16,.ref 702),(32,.ref 703)]):=
 v32 (l:=[(12,1244,.ref 701),(16,1263,.ref 702),(32,1282,.ref 703)]) (n:=3) (by rw [R.k];kernel_rfl) rfl
theorem b41 (R:Row X):Base X 701 (.dictS (Q13 4079)):=
 w15 (l:=[(`FREE_CLUSTER,1245,.int 0 1246),(`MIN_DATA_CLUSTER,1247,.int 2 1248),(`MAX_DATA_CLUSTER,1249,.int 4079 1250),(`BAD_CLUSTER,1251,.int 4087 1252),(`END_OF_CLUSTER_MIN,1253,.int 4088 1254),(`END_OF_CLUSTER_MAX,1255,.int 4095 1256)]) (n:=6) (by rw [R.k];kernel_rfl) rfl
theorem c41 (R:Row X):Base X 702 (.dictS (Q13 65519)):=
 w15 (l:=[(`FREE_CLUSTER,1264,.int 0 1265),(`MIN_DATA_CLUSTER,1266,.int 2 1267),(`MAX_DATA_CLUSTER,1268,.int 65519 1269),(`BAD_CLUSTER,1270,.int 65527 1271),(`END_OF_CLUSTER_MIN,1272,.int 65528 1273),(`END_OF_CLUSTER_MAX,1274,.int 65535 1275)]) (n:=6) (by rw [R.k];kernel_rfl) rfl
theorem d41 (R:Row X):Base X 703 (.dictS (Q13 268435439)):=
 w15 (l:=[(`FREE_CLUSTER,1283,.int 0 1284),(`MIN_DATA_CLUSTER,1285,.int 2 1286),(`MAX_DATA_CLUSTER,1287,.int 268435439 1288),(`BAD_CLUSTER,1289,.int 268435447 1290),(`END_OF_CLUSTER_MIN,1291,.int 268435448 1292),(`END_OF_CLUSTER_MAX,1293,.int 268435455 1294)]) (n:=6) (by rw [R.k];kernel_rfl) rfl
def K3 (ty:Int):Prop:=ty=12\/ty=16\/ty=32
theorem s46 (R:Row X) {ty:Int} (h:K3 ty):Base X (I10 ty) (.dictS (Q13 (M3 ty))):=by
 rcases h with rfl | rfl | rfl
 ·exact b41 R
 ·exact c41 R
 ·exact d41 R
theorem m37 (R:Row X) {ty:Int} (h:K3 ty) (k:Go (run X c K P r (.ref (I10 ty)::vs) σ)):Go (run X c K P (I.sub::r) (.int ty:: .ref 700::vs) σ):=by
 refine ⟨?_⟩;have k:=k.out;refine ⟨q28 (.inr (g29 R)),t28 (.inr (g29 R)) ?_ k⟩;rcases h with rfl | rfl | rfl<;>rfl
theorem p16 (R:Row X) {ty:Int} {x:Nat} (h:K3 ty) (e:(Q13 (M3 ty)).lookup x=some a) (k:Go (run X c K P r (a::vs) σ)):Go (run X c K P (I.sub::r) (.str (N x):: .ref (I10 ty)::vs) σ):=by
 exact l26 (s46 R h) e k
end
theorem Row.wake {X:Cx} (R:Row X) (k:Nat):Row (X.wake k):=⟨R.k,R.p,R.l⟩
noncomputable def H6:List (Nat×NameKind):=[(`self,.local),(`first_cluster,.local),(`cluster_vals,.local),(`min_data_cluster,.local),(`max_data_cluster,.local),(`eoc_min,.local),(`eoc_max,.local),(105,.local),(`init_check,.globalImplicit),(1782510,.globalImplicit),(`PyFATException,.globalImplicit),(1716984,.globalImplicit)]
section
variable {X:Cx}
theorem r16 (R:Row X):FnG X 912 (fdK X.K 912) H6 [] (Z2 X.K 912):=Fn.of (by rw [R.k];kernel_rfl)
noncomputable def chW (K:Frag):Stmt:=sAt (Z2 K 912) 7
noncomputable def chB (K:Frag):List Stmt:=V15 (chW K)
noncomputable def M9 (K:Frag):Stmt:=sAt (chB K) 0
noncomputable def H12 (K:Frag):Stmt:=sAt (M10 (M9 K)) 0
noncomputable def X10 (K:Frag):Stmt:=sAt (M10 (H12 K)) 0
noncomputable def chk (K:Frag):Bool:=(Z2 K 912).length==8&&J15 (chW K)&&(chB K).length==2&&T14 (M9 K)&&(J10 (M9 K)).length==1&&O14 (sAt (J10 (M9 K)) 0)&&(M10 (M9 K)).length==1
 &&T14 (H12 K)&&(M10 (H12 K)).length==1
 &&T14 (X10 K)&&(J10 (X10 K)).length==2&&O14 (sAt (J10 (X10 K)) 0)&&L15 (sAt (J10 (X10 K)) 1)
theorem i51 (R:Row X):chk X.K=true:=by rw [R.k];kernel_rfl
open I in
theorem j51 (R:Row X):J5 H6 gt ((Z2 X.K 912).take 7)=[push (.ref 133),ld `self,call 1 [],drop,ld `self,attr `FAT_CLUSTER_VALUES,ld `self,attr `fat_type,I.sub,st `cluster_vals,ld `cluster_vals,push (.str (N `MIN_DATA_CLUSTER)),I.sub,st `min_data_cluster,ld `cluster_vals,push (.str (N `MAX_DATA_CLUSTER)),I.sub,st `max_data_cluster,ld `cluster_vals,push (.str (N `END_OF_CLUSTER_MIN)),I.sub,st `eoc_min,ld `cluster_vals,push (.str (N `END_OF_CLUSTER_MAX)),I.sub,st `eoc_max,ld `first_cluster,st 105]:=by rw [R.k];kernel_rfl
open I in
theorem v55 (R:Row X):cc H6 gt 30 true (P12 (chW X.K))=[ld 105,push (.builtin "len"),ld `self,attr 1683700,call 1 [],cmp .LtE,tru]:=by rw [R.k];kernel_rfl
open I in
theorem k51 (R:Row X):cc H6 gt 30 true (Y12 (M9 X.K))=[ld `min_data_cluster,ld `self,attr 1683700,ld 105,I.sub,N14 .LtE [ld `max_data_cluster,cmp .LtE,tru]]:=by rw [R.k];kernel_rfl
open I in
theorem t54 (R:Row X):cc H6 gt 30 true (Y12 (H12 X.K))=[ld `self,attr `fat_type,ld `self,attr `FAT_TYPE_FAT12,cmp .Eq,tru,T9 [ld `self,attr 1683700,ld 105,I.sub,ld `self,attr `FAT12_SPECIAL_EOC,cmp .Eq,tru,T9 [push (.bool true)]]]:=by rw [R.k];kernel_rfl
open I in
theorem u54 (R:Row X):cc H6 gt 30 true (Y12 (X10 X.K))=[ld `eoc_min,ld `self,attr 1683700,ld 105,I.sub,N14 .LtE [ld `eoc_max,cmp .LtE,tru]]:=by rw [R.k];kernel_rfl
open I in
theorem v54 (R:Row X):cc H6 gt 30 false (sYl (sAt (J10 (M9 X.K)) 0))=[ld 105]:=by rw [R.k];kernel_rfl
open I in
theorem w54 (R:Row X):cc H6 gt 30 false (sYl (sAt (J10 (X10 X.K)) 0))=[ld 105]:=by rw [R.k];kernel_rfl
open I in
theorem l51 (R:Row X):J5 H6 gt [sAt (chB X.K) 1]=[ld `self,attr 1683700,ld 105,I.sub,st 105]:=by rw [R.k];kernel_rfl
end
inductive Chn (m:Int) (es:List Int):Int->List Int->Prop
 | mid {i:Int} {ys:List Int}:0<=i->i<es.length->2<=es.getD i.toNat 0->es.getD i.toNat 0<=m->Chn m es (es.getD i.toNat 0) ys->Chn m es i (i::ys)
 | eoc {i:Int}:0<=i->i<es.length->m+9<=es.getD i.toNat 0->es.getD i.toNat 0<=m+16->Chn m es i [i]
def Z11 (p f:Nat) (ty:Int) (es:List Int) (H:Nat->Option W0):Prop:= ∃V:PF,H p=some (.inst 936 V.ns)/\V.init=true/\V.ty=ty/\V.fat=f/\H f=some (.list (es.map .int))
noncomputable def lCh (p:Nat) (ty i:Int):NS:=[(105,.int i),(`eoc_max,.int (M3 ty+16)),(`eoc_min,.int (M3 ty+9)),(`max_data_cluster,.int (M3 ty)),(`min_data_cluster,.int 2),(`cluster_vals,.ref (I10 ty)),(`self,.ref p)]
theorem e41 (ty:Int):4079<=M3 ty:=by unfold M3;split;(exact fk s!"oLn4079n4079" [] [] rfl);split<;>(first | (exact fk s!"oLn4079n65519" [] [] rfl) | (exact fk s!"oLn4079n268435439" [] [] rfl))
theorem n37 {es:List Int} {i:Int} (h0:0<=i) (h:i<es.length):(es.map AV.int)[i.toNat]? =some (.int (es.getD i.toNat 0)):=by
 have:i.toNat<es.length:=by (exact fk s!"hSAwAhEwBAoyBA" [_] [_,_] rfl h (y5 (h0)))
 rw [List.getElem?_map,o5 this,w0,o5 this];rfl
theorem c28 {M:Model} {A:Around} {Φ:End->Shared->Prop} {c:Code} {fs:List Frame} {s:Shared} {env:Env} {K:Flow->Sem Fin} {H:Value->Sem Fin} {gd:Bool->Bool} {lv:List Value->List Value} {l l':List Stmt} (e:l=l') (h:O2 M A Φ c ((execs l' env).wrap K H gd lv) fs s):O2 M A Φ c ((execs l env).wrap K H gd lv) fs s:=e▸h
section
variable {X:Cx} {n k L p f:Nat} {ty:Int} {es:List Int}
noncomputable def I3 (X:Cx) (L:Nat):Env:=callEnv (fdK X.K 912) L 912
noncomputable def G5 (X:Cx) (L:Nat):Code:= .whileLoop (P12 (chW X.K)) (chB X.K) [] (I3 X L)
noncomputable def P10 (X:Cx) (L:Nat):=S9 X (I3 X L) (Z2 X.K 912) (P12 (chW X.K)) (chB X.K)
theorem g14 (R:Row X) {c:Cf} {A:Around} {loc:NS} {pp:Pos} (hn:c.n=n+1) (g:c.Good A):(c.inn loc n H6 [] (I3 X L)).Good (A.in1.over (G5 X L) [frW (I3 X L) (Z2 X.K 912) pp]):=by
 have F:=r16 R;unfold frW G5;rw [b31];exact g.stretch hn F.kind F.names (fun x a e=>by cases e) F.gl F.bi rfl
theorem f41 (R:Row X) {c:Cf} {A:Around} {loc:NS} (hn:c.n=n+1) (g:c.Good A):(c.inn loc n H6 [] (I3 X L)).Good (A.in1.over (.func (Z2 X.K 912) (I3 X L)) []):=by
 have F:=r16 R;rw [y35];exact g.stretch hn F.kind F.names (fun x a e=>by cases e) F.gl F.bi rfl
theorem t46 (R:Row X) (hk:K3 ty) (hl:es.length<=100000) {i:Int} {ys:List Int} (h:Chn (M3 ty) es i ys):M4 X (n+1) (Z11 p f ty es) k L (P10 X L) (ys.map .int) (lCh p ty i):=by
 have ok:=i51 R;unfold chk at ok;simp only [z0,beq_iff_eq] at ok;obtain ⟨⟨⟨⟨⟨⟨⟨⟨⟨⟨⟨⟨k1,k2⟩,k3⟩,k4⟩,k5⟩,k6⟩,k7⟩,k8⟩,k9⟩,k10⟩,k11⟩,k12⟩,k13⟩:=ok;have F:=r16 R;have hint:interactive (I3 X L)=false:=d13 F.kind;obtain ⟨q0,e0⟩:=y45 k4;obtain ⟨q1,e1⟩:=y45 k8;obtain ⟨q2,e2⟩:=y45 k10;obtain ⟨q3,q3',e3⟩:=v50 k6;obtain ⟨q4,q4',e4⟩:=v50 k12;obtain ⟨q5,e5⟩:=c54 k13;have eB:chB X.K=[M9 X.K,sAt (chB X.K) 1]:=i42 k3;have eb0:=c36 k5;have ee0:=c36 k7;have ee1:=c36 k9;have eb2:=i42 k11;have hm:=e41 ty
 --the loop's test
 have hT: ∀{i:Int},0<=i->i<es.length-> ∀{c:Cf} {A:Around} {Φ:End->Shared->Prop} {s:Shared} {H:Nat->Option W0} {loc:NS},c.n=n+1+1->c.Good A->Rel (X.wake k) ((L,lCh p ty i)::(c.env.locals,loc)::c.nss) H s->Z11 p f ty es H->
   (∀pp s',Rel (X.wake k) ((L,lCh p ty i)::(c.env.locals,loc)::c.nss) H s'->O2 X.M A.in1 Φ (G5 X L) ((exec (M9 X.K) (I3 X L)).wrap (fun f=>match f with | .next=>(execs [sAt (chB X.K) 1] (I3 X L)).wrap (KB (G5 X L)) (HB (I3 X L)) id id | f=>KB (G5 X L) f) (HB (I3 X L)) id id) [frW (I3 X L) (Z2 X.K 912) pp] s')->P10 X L A.in1 Φ s:=by
  intro i i0 i1 c A Φ s H loc hn g Rl ⟨V,hp,hi,hty,hf,hes⟩ q;subst hf;subst hty;refine a46 fun pp=>?_;refine d18 (X:=X.wake k) (cg:=c.inn loc (n+1) H6 [] (I3 X L)) (σ:=⟨H,lCh p V.ty i⟩) (Q:=fun b σ'=>b=true/\σ'=⟨H,lCh p V.ty i⟩) rfl (g14 R hn g) Rl rfl (v15 (R.wake k)) (v55 R) ?_ fun b s' σ' R' hb=>⟨hb.1,?_⟩
  ·unfold lCh;have R:=R.wake k;walk_at "R";rw [a7];exact z10 (upA ⟨by simp;(exact Int.le_of_lt i1),rfl⟩)
  ·obtain ⟨_,rfl⟩:=hb;have:=q pp s' R';exact c28 eB (o11 this)
 induction h with
 | @mid i ys i0 i1 j0 j1 hc ih=>
  refine M4.yld (T':=fun A Φ s=> ∀pp,O2 X.M A Φ (G5 X L) ((execs [sAt (chB X.K) 1] (I3 X L)).wrap (KB (G5 X L)) (HB (I3 X L)) id id) [frW (I3 X L) (Z2 X.K 912) pp] s) (l':=lCh p ty i) (M4.step ih fun c A Φ s H loc hn hd g Rl hP q pp=>?_) fun c A Φ s H loc hn hd g Rl hP q=>?_
  ·obtain ⟨V,hp,hi,hty,hf,hes⟩:=hP;subst hf;subst hty;refine g42 (X:=X.wake k) (cg:=c.inn loc (n+1) H6 [] (I3 X L)) (σ:=⟨H,lCh p V.ty i⟩) (Q:=fun σ'=>σ'=⟨H,lCh p V.ty (es.getD i.toNat 0)⟩) rfl (g14 R hn g) Rl rfl (v15 (R.wake k)) (l51 R) ?_ fun s' σ' R' hσ=>?_
   ·unfold lCh;have R:=R.wake k;have:=n37 i0 i1;walk_at "R";exact z10 (upA rfl)
   ·subst hσ;exact b40 (q s' R')
  ·refine hT i0 i1 hn g Rl hP fun pp s' R'=>?_;obtain ⟨V,hp,hi,hty,hf,hes⟩:=hP;subst hf;subst hty;rewrite [e0];refine y39 (d18 (X:=X.wake k) (cg:=c.inn loc (n+1) H6 [] (I3 X L)) (σ:=⟨H,lCh p V.ty i⟩) (Q:=fun b σ'=>b=true/\σ'=⟨H,lCh p V.ty i⟩) rfl (g14 R hn g) R' rfl (v15 (R.wake k)) (k51 R) ?_ fun b s2 σ' R2 hb=>?_)
   ·unfold lCh;have R:=R.wake k;have:=n37 i0 i1;walk_at "R";refine b26 (q:=decide ((2:Int)<=es.getD i.toNat 0)) (fun _ _=>rfl) (fun e=>?_) (fun e=>?_)
    ·walk_at "R";exact z10 (upA ⟨by simpa using j1,rfl⟩)
    ·have:=of_decide_eq_false e;(exact False.elim (fk s!"hLn2AhJn2Ao0F" [_] [] rfl j0 this))
   ·obtain ⟨rfl,rfl⟩:=hb;rewrite [if_pos rfl,eb0,e3];refine o11 (h15 rfl rfl rfl (h42 (X:=X.wake k) (cg:=c.inn loc (n+1) H6 [] (I3 X L)) (σ:=⟨H,lCh p V.ty i⟩) (Q:=fun v σ'=>v= .int i/\σ'=⟨H,lCh p V.ty i⟩) rfl (g14 R hn g) R2 rfl (v15 (R.wake k)) (v54 R) ?_ fun v s3 σ' R3 hv ed d1 d2 d3=>?_) F.co hint)
    ·unfold lCh;have R:=R.wake k;walk_at "R";exact z10 (upA ⟨rfl,rfl⟩)
    ·obtain ⟨hv,rfl⟩:=hv;exact q s3 v ed R3 hv d1 d2 fun A' Φ' s'' x=>d3 A' Φ' s'' (x pp)
 | @eoc i i0 i1 j0 j1=>
  refine M4.yld (T':=fun A Φ s=>Φ (.ret (.ok (.ret .none))) s) (l':=lCh p ty i) (M4.fin fun c A Φ s H loc hn hd g Rl hP q=>q) fun c A Φ s H loc hn hd g Rl hP q=>?_;refine hT i0 i1 hn g Rl hP fun pp s' R'=>?_;obtain ⟨V,hp,hi,hty,hf,hes⟩:=hP;subst hf;subst hty;have hat:=n37 i0 i1;rewrite [e0];refine y39 (d18 (X:=X.wake k) (cg:=c.inn loc (n+1) H6 [] (I3 X L)) (σ:=⟨H,lCh p V.ty i⟩) (Q:=fun b σ'=>b=false/\σ'=⟨H,lCh p V.ty i⟩) rfl (g14 R hn g) R' rfl (v15 (R.wake k)) (k51 R) ?_ fun b s2 σ' R2 hb=>?_)
  ·unfold lCh;have R:=R.wake k;walk_at "R";refine b26 (q:=decide ((2:Int)<=es.getD i.toNat 0)) (fun _ _=>rfl) (fun e=>?_) (fun e=>?_)
   ·walk_at "R";exact z10 (upA ⟨decide_eq_false (by exact fun q13=>fk s!"hLaAn9BhLBAo0F" [_,_] [] rfl j0 q13),rfl⟩)
   ·have:=of_decide_eq_false e;(exact False.elim (fk s!"hLn4079AhLaAn9BhJn2Bo0F" [_,_] [] rfl hm j0 this))
  obtain ⟨rfl,rfl⟩:=hb;rewrite [if_neg (by decide),ee0];refine o11 ?_;rewrite [show sAt (M10 (M9 X.K)) 0=H12 X.K from rfl,e1];refine y39 (d18 (X:=X.wake k) (cg:=c.inn loc (n+1) H6 [] (I3 X L)) (σ:=⟨H,lCh p V.ty i⟩) (Q:=fun b σ'=>b=false/\σ'=⟨H,lCh p V.ty i⟩) rfl (g14 R hn g) R2 rfl (v15 (R.wake k)) (t54 R) ?_ fun b s3 σ' R3 hb=>?_)
  ·unfold lCh;have R:=R.wake k;walk_at "R";refine m49 (fun e=>?_) (fun e=>?_)
   ·have e12:V.ty=12:=by simpa using e
    have h12:M3 V.ty=4079:=by rw [e12];rfl
    walk_at "R";exact z10 (upA ⟨rfl,rfl⟩)
   ·exact z10 (upA ⟨rfl,rfl⟩)
  obtain ⟨rfl,rfl⟩:=hb;rewrite [if_neg (by decide),ee1];refine o11 ?_;rewrite [show sAt (M10 (H12 X.K)) 0=X10 X.K from rfl,e2];refine y39 (d18 (X:=X.wake k) (cg:=c.inn loc (n+1) H6 [] (I3 X L)) (σ:=⟨H,lCh p V.ty i⟩) (Q:=fun b σ'=>b=true/\σ'=⟨H,lCh p V.ty i⟩) rfl (g14 R hn g) R3 rfl (v15 (R.wake k)) (u54 R) ?_ fun b s4 σ' R4 hb=>?_)
  ·unfold lCh;have R:=R.wake k;walk_at "R";refine b26 (q:=decide (M3 V.ty+9<=es.getD i.toNat 0)) (fun _ _=>rfl) (fun e=>?_) (fun e=>?_)
   ·walk_at "R";exact z10 (upA ⟨by simpa using j1,rfl⟩)
   ·have:=of_decide_eq_false e;(exact False.elim (fk s!"hLaAn9BhJaAn9Bo0F" [_,_] [] rfl j0 this))
  obtain ⟨rfl,rfl⟩:=hb;rewrite [if_pos rfl,eb2,e4,e5];refine o11 (h15 rfl rfl rfl (h42 (X:=X.wake k) (cg:=c.inn loc (n+1) H6 [] (I3 X L)) (σ:=⟨H,lCh p V.ty i⟩) (Q:=fun v σ'=>v= .int i/\σ'=⟨H,lCh p V.ty i⟩) rfl (g14 R hn g) R4 rfl (v15 (R.wake k)) (w54 R) ?_ fun v s5 σ' R5 hv ed d1 d2 d3=>?_) F.co hint)
  ·unfold lCh;have R:=R.wake k;walk_at "R";exact z10 (upA ⟨rfl,rfl⟩)
  ·obtain ⟨hv,rfl⟩:=hv;refine q s5 v ed R5 hv d1 d2 fun A' Φ' s'' x=>d3 A' Φ' s'' ?_;exact o11 (w18 (w50 x))
end
section
variable {X:Cx} {c:Cf} {n p f:Nat} {ty:Int} {es:List Int} {H:Nat->Option W0} {L:NS} {Q:AV->St->Prop} {E:Nat->St->Prop}
theorem v46 (R:Row X) (hk:K3 ty) (hl:es.length<=100000) {i:Int} {ys:List Int} (hc:Chn (M3 ty) es i ys) (hn:c.n=n+1+1)
  (h: ∀q k F y l,H q=none->H8 X (n+1) (Z11 p f ty es) k F (ys.map .int) y l->Q (.ref q) ⟨upd H q (.genS k y F l),L⟩):P0 X c (.ref 912) [.ref p,.int i] [] Q E ⟨H,L⟩:=by
 have ok:=i51 R;unfold chk at ok;simp only [z0,beq_iff_eq] at ok;obtain ⟨⟨⟨⟨⟨⟨⟨⟨⟨⟨⟨⟨k1,k2⟩,k3⟩,k4⟩,k5⟩,k6⟩,k7⟩,k8⟩,k9⟩,k10⟩,k11⟩,k12⟩,k13⟩:=ok;clear k3 k4 k5 k6 k7 k8 k9 k10 k11 k12 k13;obtain ⟨q0,e0⟩:=b54 k2;refine z39 (r16 R) hn (w27 R) fun q k F hq=>h q k F _ _ hq (z35 (M4.step (t46 R hk hl hc) fun c A Φ s H loc hn hd g Rl hP qq=>?_));refine z45 (c28 (d54 k1) (j24 ?_));obtain ⟨V,hp,hi,hty,hf,hes⟩:=hP;subst hf;subst hty;refine g42 (X:=X.wake k) (cg:=c.inn loc (n+1) H6 [] (I3 X F)) (σ:=⟨H,[(`first_cluster,.int i),(`self,.ref p)]⟩) (Q:=fun σ'=>σ'=⟨H,lCh p V.ty i⟩) rfl (f41 R hn g) Rl rfl (v15 (R.wake k)) (j51 R) ?_ fun s' σ' R' hσ=>?_
 ·unfold lCh;have R:=R.wake k;walk_at "R";refine k15 R rfl hp hi ?_;walk_at "R";refine m37 R hk ?_;walk_at "R";refine p16 R hk rfl ?_;walk_at "R";refine p16 R hk rfl ?_;walk_at "R";refine p16 R hk rfl ?_;walk_at "R";refine p16 R hk rfl ?_;walk_at "R";exact z10 (upA rfl)
 ·subst hσ;exact c28 (congrArg (fun x=>[x]) e0) (a40 (qq s' R'))
end
variable {X:Cx} {c:Cf} {σ:St} {E:Nat->St->Prop} {Q:AV->St->Prop} {n:Nat} {H:Nat->Option W0} {L:NS} {V:PF} {p:Nat} {D:NS}
noncomputable def K9 (t:List UInt8) (i:Nat):List AV:=[.bytes (t.take 11),.int (t.getD 11 0).toNat,.int (t.getD 12 0).toNat,.int (t.getD 13 0).toNat]++(List.range i).map fun (j:Nat)=>AV.int (leV ((t.drop (14+2*j)).take 2))
theorem o37 (t:List UInt8) (i:Nat):K9 t (i+1)=K9 t i++[.int (leV ((t.drop (14+2*i)).take 2))]:=by
 unfold K9;rw [List.range_succ,List.map_append,List.append_assoc];rfl
theorem h29 (t:List UInt8) (i:Nat):(K9 t i).length=4+i:=by unfold K9;simp;(exact fe (.o 1 (.e (.a (.a (.a (.a (.v 0) (.n 1)) (.n 1)) (.n 1)) (.n 1)) (.a (.n 4) (.v 0)))) [] [_] rfl)
noncomputable def M16:List Nat:=[`DIR_Name,`DIR_Attr,`DIR_NTRes,`DIR_CrtTimeTenth,`DIR_CrtTime,`DIR_CrtDate,`DIR_LstAccessDate,`DIR_FstClusHI,`DIR_WrtTime,`DIR_WrtDate,`DIR_FstClusLO,`DIR_FileSize]
noncomputable def G14 (t:List UInt8):NS:=M16.zip (K9 t 7++[.int (leV ((t.drop 28).take 4))])
theorem p37 {a n:Nat} {l:List (Nat×Tok)} (e:X.K.lookup a=some {cls:= .type "list",data:= .seq (l.map fun p=>(.str (N p.1) p.2:Value)).toArray n}):Base X a (.list (l.map fun p=> .str (N p.1))):=fun own h k=>by
 refine ⟨_,⟨n,k _ _ (X.inK _ _ e)⟩,?_⟩;rw [List.toList_toArray,List.map_map];rfl
theorem i25 (R:Row X):Base X 328 (.list (M16.map fun n=> .str (N n))):=
 p37 (n:=0) (l:=[(`DIR_Name,710),(`DIR_Attr,711),(`DIR_NTRes,712),(`DIR_CrtTimeTenth,713),(`DIR_CrtTime,714),(`DIR_CrtDate,715),(`DIR_LstAccessDate,716),(`DIR_FstClusHI,717),(`DIR_WrtTime,718),(`DIR_WrtDate,719),(`DIR_FstClusLO,720),(`DIR_FileSize,721)]) (by rw [R.k];kernel_rfl)
set_option tactic.hygienic true in
theorem w46 (R:Row X) {d t:List UInt8} {a k:Int} {w:Bool} (hn:c.n=n+1+1+1) (hh:c.hd=none) (hp:H p=some (.inst 936 V.ns)) (ho:H V.fp=some (Oc d w a)) (hz:d.length<=16777216)
  (ht:slc d (some (k+V.off)) (some (k+V.off+32))=t) (hl:t.length=32) (h: ∀q a',H q=none->Q (.ref q) ⟨upd (upd H V.fp (Oc d w a')) q (.dictS (G14 t)),L⟩):P0 X c (.ref 883) [.ref p,.int k] [] Q E ⟨H,L⟩:=by
 have ho':=ho;unfold Oc at ho';refine w10 R (t27 R) hn (v27 R) fun c' h1 h2 h3 h4=>?_;have hh':c'.hd=none:=h4.trans hh;have nepf:Ap p V.fp:=⟨by walk_at "ne"⟩;walk_at "R";refine g37 R h1 s!"-hp" s!"-hp" ?_;walk_at "R";refine f37 R h1 s!"-hp" hz ?_;rw [ht];walk_at "R";refine v20 (by decide) (by decide) fun q hq=>?_;rename_i A nA nA1 hA;dsimp only at hA;obtain ⟨nq,hq0⟩:=l10 hq;have e11:slc t none (some 11)=t.take 11:=d42 t 11;rw [e11];refine c14 (N:=7) (i10 _ _ _) (by decide) (by decide) hh' (fun it i σ=>σ=⟨upd (upd (upd H V.fp (Oc d w (k+V.off+t.length))) A (.list (K9 t i))) it (.rangeIter (14+i*2) (7-i:Int) 2),[(`dir_hdr,.ref A),(`dir_data,.bytes t),(`self,.ref p)]⟩) (fun it hit=>?_) (fun it i σ hJ=>?_) (fun it i H' L' hit hlt hJ=>?_) fun it H' L' hit hJ=>?_
 ·obtain ⟨ni1,hit1⟩:=l10 hit;obtain ⟨ni2,hit2⟩:=l10 hit1;obtain ⟨ni3,hit3⟩:=l10 hit2;obtain ⟨ni4,hit4⟩:=l10 hit3;dsimp only at hit4;refine r12 (σ':=⟨upd (upd (upd H V.fp (Oc d w (k+V.off+t.length))) A (.list (K9 t 0))) it (.rangeIter 14 7 2),[(`dir_hdr,.ref A),(`dir_data,.bytes t),(`self,.ref p)]⟩) s!"-gp0" s!"-lp0" rfl
 ·subst hJ;exact i10 _ _ _
 ·obtain ⟨rfl,rfl⟩:=St.mk.injEq .. ▸hJ;obtain ⟨ni1,hit1⟩:=l10 hit;obtain ⟨ni2,hit2⟩:=l10 hit1;obtain ⟨ni3,hit3⟩:=l10 hit2;obtain ⟨ni4,hit4⟩:=l10 hit3;dsimp only at hit4;walk_at "R";rw [b18 (14+2*i) 2 (by (exact fe (.o 1 (.E (.a (.n 14) (.r (.w (.v 0)) 2)) (.w (.a (.n 14) (.l 2 (.v 0)))))) [] [_] rfl)) (by (exact fe (.o 1 (.E (.a (.a (.n 14) (.r (.w (.v 0)) 2)) (.n 2)) (.w (.a (.a (.n 14) (.l 2 (.v 0))) (.n 2))))) [] [_] rfl))];walk_at "R";refine x14 s!"-hp" s!"-hp" (by rw [h29];simp;(exact fk s!"hyAn7oxan4An16777215" [] [_] rfl hlt)) ?_;rw [<-o37];walk_at "R";refine z10 (l12 (σ':=⟨upd (upd (upd H V.fp (Oc d w (k+V.off+t.length))) A (.list (K9 t (i+1)))) it (.rangeIter (14+((i+1:Nat):Int)*2) (7-((i+1:Nat):Int)) 2),[(`dir_hdr,.ref A),(`dir_data,.bytes t),(`self,.ref p)]⟩) hlt s!"-gp0" s!"-lp0" rfl)
 ·obtain ⟨rfl,rfl⟩:=St.mk.injEq .. ▸hJ;obtain ⟨ni1,hit1⟩:=l10 hit;obtain ⟨ni2,hit2⟩:=l10 hit1;obtain ⟨ni3,hit3⟩:=l10 hit2;obtain ⟨ni4,hit4⟩:=l10 hit3;dsimp only at hit4;rw [q11 s!"-hp"];walk_at "R";rw [b18 28 4 (by exact fe (.o 1 (.E (.n 28) (.w (.n 28)))) [] [] rfl) (by exact fe (.o 1 (.E (.n 32) (.w (.a (.n 28) (.n 4))))) [] [] rfl)];walk_at "R";refine e54 (.inr (i25 R)) (.inl s!"-hp") fun z hz'=>?_;refine d31 (l:=328) (m:=A) (ys:=K9 t 7++[AV.int (leV (List.take 4 (List.drop 28 t)))]) hh' (i10 _ _ _) (.inr (i25 R)) (.inl ?_) rfl (by rewrite [w6,h29];rfl) (by decide) (by decide) fun q' hq'=>?_
  ·exact (c11 _ _ (Ne.symm (l10 hz').1.ne)).trans (i10 _ _ _)
  rw [q11 hz'];walk_at "R";have hz0:H z=none:=y10 (y10 (y10 (y10 (y10 hz'))));have hq1:H q'=none:=y10 (y10 (y10 (y10 (y10 (y10 hq')))));exact c12 (upA (h q' _ hq1))
set_option tactic.hygienic true in
theorem q37 (R:Row X) {k:Int} (hn:c.n=n+1+1+1) (hh:c.hd=none) (hk:0<k/\k<1000000000) (h: ∀t dl tm,H t=none->H dl=none->Ap t dl->Q (.ref t) ⟨upd (upd H dl (.list [])) t (.tuple [.ref dl,tm]),L⟩):P0 X c (.ref 891) [.ref p,.int k,.int k] [] Q E ⟨H,L⟩:=by
 refine w10 R (y15 R) hn (z15 R) fun c' h1 h2 h3 h4=>?_;have hh':c'.hd=none:=h4.trans hh;walk_at "R";refine t51 R h1 fun x fd hx=>?_;walk_at "R";refine v20 (by decide) (PyProof.noPylong_small (by decide)) fun q hq=>?_;rename_i dl ndl hdl;obtain ⟨nq,hq0⟩:=l10 hq;refine c14 (N:=0) (i10 _ _ _) ?_ ?_ hh' (fun it i σ=>i=0/\H it=none/\σ=⟨upd (upd (upd H x (.inst 681 [(`lfn_entries,.ref fd)])) dl (.list [])) it (.rangeIter (k+i*32) (0-i:Int) 32),[(`dir_entries,.ref dl),(`tmp_lfn_entry,.ref x)]⟩) (fun it hit=>?_) (fun it i σ hJ=>?_) (fun it i H' L' hit hlt hJ=>?_) fun it H' L' hit hJ=>?_
 ·exact b29 (by exact ⟨fk κ5 [_] [] rfl hk.1,fk κ21 [_] [] rfl hk.2⟩) (by exact ⟨fk κ5 [_] [] rfl hk.1,fk κ21 [_] [] rfl hk.2⟩)
 ·rw [d27,if_neg (by exact fun q4=>fk s!"hSAAo0F" [_] [] rfl q4)];rfl
 ·obtain ⟨ni1,hit1⟩:=l10 hit;obtain ⟨ni2,hit2⟩:=l10 hit1;obtain ⟨ni3,hit3⟩:=l10 hit2;refine r12 (σ':=⟨upd (upd (upd H x (.inst 681 [(`lfn_entries,.ref fd)])) dl (.list [])) it (.rangeIter k 0 32),[(`dir_entries,.ref dl),(`tmp_lfn_entry,.ref x)]⟩) s!"-gp0" s!"-lp0" ⟨rfl,hit3,?_⟩;simp
 ·obtain ⟨_,_,rfl⟩:=hJ;exact i10 _ _ _
 ·(exact False.elim (fk s!"hyAn0h-zAn0o0F" [] [_] rfl hlt hJ.1))
 ·obtain ⟨_,hit3,e⟩:=hJ;walk_at "S";obtain ⟨ni1,hit1⟩:=l10 hit;obtain ⟨ni2,hit2⟩:=l10 hit1;rw [q11 s!"-hp"];walk_at "R";rename_i t nt1 nt2 ht;exact c12 (upA (h t dl _ ht hdl nt1))
set_option tactic.hygienic true in
theorem V8 (R:Row X) (hZ:X.Z=true) {d t:List UInt8} {a k m:Int} {w:Bool} {tm:AV} {enc:Str} {as:List AV} (B:Binds X (fdK X.K 891) as [] [(`tmp_lfn_entry,tm),(`max_address,.int m),(`address,.int k),(`self,.ref p)]) (htm:tm= .none\/ ∃x,tm= .ref x) (hn:c.n=n+1+1+1+1) (hh:c.hd=none) (hp:H p=some (.inst 936 V.ns)) (ho:H V.fp=some (Oc d w a)) (hz:d.length<=16777216) (hV:V.enc= .str enc)
  (hk:0<=k/\k<m/\m<1000000000) (ht:slc d (some (k+V.off)) (some (k+V.off+32))=t) (hl:t.length=32) (h0:t.getD 0 0=0)
  (h: ∀r dl tm a',H r=none->H dl=none->Ap r dl->Q (.ref r) ⟨upd (upd (upd H V.fp (Oc d w a')) dl (.list [])) r (.tuple [.ref dl,tm]),L⟩):P0 X c (.ref 891) as [] Q E ⟨H,L⟩:=by
 refine w10 R (y15 R) hn B fun c' h1 h2 h3 h4=>?_;have hh':c'.hd=none:=h4.trans hh;have hm:m≠0:=by (exact fun q7=>fk s!"hLn0AhSABhEBn0o0F" [_,_] [] rfl hk.1 hk.2.1 q7)
 iterate 4 walk_at "go"
 refine k21 (fun vs σ'=>vs=[]/\ ∃x H' l0,σ'=⟨H',(`tmp_lfn_entry,.ref x)::l0⟩/\HGe [] H' H/\l0.lookup `max_address=some (.int m)/\l0.lookup `address=some (.int k)/\l0.lookup `self=some (.ref p)) (fun kont e=>?_) (fun kont e=>?_) fun vs σ' hJ=>?_
 ·walk_at "R";refine t51 R h1 fun x fd hx=>?_
  iterate 2 walk_at "go"
  refine z10 (kont _ _ ?_);exact ⟨rfl,x,_,_,rfl,r34 hx a15,rfl,rfl,rfl⟩
 ·obtain ⟨x,rfl⟩:=htm.resolve_left (of_decide_eq_false e);refine z10 (kont _ _ ?_);exact ⟨rfl,x,_,_,rfl,a15,rfl,rfl,rfl⟩
 obtain ⟨rfl,x,H0,l0,rfl,ge,hl1,hl2,hl3⟩:=hJ;have hp:=ge _ _ List.not_mem_nil hp;have ho:=ge _ _ List.not_mem_nil ho;walk_at "R";refine v20 (by decide) (PyProof.noPylong_small (by decide)) fun q hq=>?_;rename_i dl hdl;obtain ⟨nq,hq0⟩:=l10 hq;obtain ⟨M,hM⟩: ∃M:Nat,Builtin.Range.rangeSize k m 32=((M+1:Nat):Int):=by
  refine ⟨((m-k-1) / 32).toNat,?_⟩;rw [d27,if_pos (by exact hk.2.1)];have:=Int.ediv_nonneg (a:=m-k-1) (b:=32) (by exact fk s!"hSABoLn0mmBAn1" [_,_] [] rfl hk.2.1) (by decide);exact congrArg (·+1) (y5 this).symm
 refine c14 (N:=M+1) (i10 _ _ _) ?_ hM hh' (fun it i σ=>i=0/\H0 it=none/\σ=⟨upd (upd H0 dl (.list [])) it (.rangeIter (k+i*32) ((M+1:Nat)-i:Int) 32),[(`dir_entries,.ref dl),(`dir_hdr_size,.int 32),(`tmp_lfn_entry,.ref x),(`self,.ref p)]⟩) (fun it hit=>?_) (fun it i σ hJ=>?_) (fun it i H' L' hit hlt hJ=>?_) fun it H' L' hit hJ=>?_
 ·exact b29 (by exact ⟨fk s!"hLn0AoLn0A" [_] [] rfl hk.1,fk s!"hSABhSBn1000000000oSAn2^40" [_,_] [] rfl hk.2.1 hk.2.2⟩) (by exact ⟨fk s!"hLn0AhSABoLn0B" [_,_] [] rfl hk.1 hk.2.1,fk κ21 [_] [] rfl hk.2.2⟩)
 ·obtain ⟨ni1,hit1⟩:=l10 hit;obtain ⟨ni2,hit2⟩:=l10 hit1;refine r12 (σ':=⟨upd (upd H0 dl (.list [])) it (.rangeIter k ((M+1:Nat):Int) 32),[(`dir_entries,.ref dl),(`dir_hdr_size,.int 32),(`tmp_lfn_entry,.ref x),(`self,.ref p)]⟩) s!"-gp0" s!"-lp0" ⟨rfl,hit2,?_⟩;simp
 ·obtain ⟨_,_,rfl⟩:=hJ;exact i10 _ _ _
 ·obtain ⟨rfl,hit3,e⟩:=hJ;walk_at "S";obtain ⟨ni1,hit1⟩:=l10 hit;obtain ⟨ni2,hit2⟩:=l10 hit1;have ek:k+((0:Nat):Int)*32=k:=by (exact fe (.o 1 (.E (.a (.v 0) (.r (.w (.n 0)) 32)) (.v 0))) [_] [] rfl)
  rw [ek];have e11:(t.take 11).length=11:=by rw [List.length_take];(exact r0 (Nat.le_of_eq (j6 (fk s!"h-zAn32oxn11A" [] [_] rfl hl))) (fk s!"h-zAn11oxn11A" [] [_] rfl (j6 (fk s!"h-zAn32oxn11A" [] [_] rfl hl))))
  have e12:(t.take 11).getD 0 0=0:=by
   cases t with
   | nil=>simp at hl
   | cons b r=>exact h0
  walk_at "R";refine w46 R h1 hh' s!"-hp" s!"-hp" hz ht hl fun hd a' hhd=>?_;walk_at "R";refine t12 s!"-hp" rfl (o24 R rfl) (by rw [hV];rfl) ?_;walk_at "R";refine s54 R h1 fun e he=>?_;walk_at "R";have e13:(t.take 11).getD (Int.toNat 0) 0=0:=e12;refine s32 (p:=e) (v:= .none) (a:=enc) (b:=false) R hZ h1 hh' e11 e12 fun y hy=>?_;unfold fx;dsimp only
  with_reducible refine j42 (i10 _ _ _) ?_ ?_
  ·rw [R.k];kernel_rfl
  have h1':(I.hcf c' y).n=n+1+1+1:=h1;walk_at "go";walk_at "go";refine t51 R h1' fun z zd hz0=>?_;walk_at "go";walk_at "go"

  have hey:upd (upd (upd (upd (upd (upd (upd (upd H0 dl (.list [])) it (.rangeIter k (((M+1:Nat):Int)-((0:Nat):Int)) 32)) it (.rangeIter (k+((0+1:Nat):Int)*32) (((M+1:Nat):Int)-((0+1:Nat):Int)) 32)) V.fp (Oc d w a')) hd (.dictS (G14 t))) e (edO .none V.enc false)) y (.exc (.ref 87) true [(`free_type,.int 0)])) z (.inst 681 [(`lfn_entries,.ref zd)]) y=some (.exc (.ref 87) true [(`free_type,.int 0)]):=(c11 _ _ (Ne.symm (l10 hz0).1.ne)).trans (i10 _ _ _);walk_at "go"
  with_reducible refine o15 (a:= .int 0) hey ?_ ?_ ?_ ?_
  ·rfl
  ·rw [R.k];kernel_rfl
  ·rfl
  (iterate 6 walk_at "go")
  with_reducible refine o15 (a:= .int 0) hey ?_ ?_ ?_ ?_
  ·rfl
  ·rw [R.k];kernel_rfl
  ·rfl
  (iterate 5 walk_at "go")
  refine t49 ?_;have g1:H0 z=none:=by walk_at "nx"
  have g2:H0 y=none:=by walk_at "nx"
  have g3:H0 e=none:=by walk_at "nx"
  have g4:H0 hd=none:=by walk_at "nx"
  have g5:H0 it=none:=by walk_at "nx"
  have p1:Ap z dl:=by walk_at "na"
  have p2:Ap y dl:=by walk_at "na"
  have p3:Ap e dl:=by walk_at "na"
  have p4:Ap hd dl:=by walk_at "na"
  have p5:Ap it dl:=by walk_at "na"
  refine r12 (σ':=⟨upd (upd H0 V.fp (Oc d w a')) dl (.list []),[(`dir_entries,.ref dl),(`tmp_lfn_entry,.ref z)]⟩) s!"-gp0" s!"-lp0" (Go.out ?_);walk_at "R";rename_i r nr1 nr2 hr;exact c12 (upA (h r dl _ _ (l36 ge hr) (l36 ge hdl) nr1))
 ·obtain ⟨e,_⟩:=hJ;(exact False.elim (fk s!"hzaAn1n0o0F" [] [_] rfl e))
theorem r37 (R:Row X) (hZ:X.Z=true) {d t:List UInt8} {a k m:Int} {w:Bool} {x:Nat} {enc:Str} (hn:c.n=n+1+1+1+1) (hh:c.hd=none) (hp:H p=some (.inst 936 V.ns)) (ho:H V.fp=some (Oc d w a)) (hz:d.length<=16777216) (hV:V.enc= .str enc)
  (hk:0<=k/\k<m/\m<1000000000) (ht:slc d (some (k+V.off)) (some (k+V.off+32))=t) (hl:t.length=32) (h0:t.getD 0 0=0)
  (h: ∀r dl tm a',H r=none->H dl=none->Ap r dl->Q (.ref r) ⟨upd (upd (upd H V.fp (Oc d w a')) dl (.list [])) r (.tuple [.ref dl,tm]),L⟩):P0 X c (.ref 891) [.ref p,.int k,.int m,.ref x] [] Q E ⟨H,L⟩:=
 V8 R hZ (h22 R) (.inr ⟨x,rfl⟩) hn hh hp ho hz hV hk ht hl h0 h
theorem w32 (R:Row X) (hZ:X.Z=true) {d t:List UInt8} {a k m:Int} {w:Bool} {enc:Str} (hn:c.n=n+1+1+1+1) (hh:c.hd=none) (hp:H p=some (.inst 936 V.ns)) (ho:H V.fp=some (Oc d w a)) (hz:d.length<=16777216) (hV:V.enc= .str enc)
  (hk:0<=k/\k<m/\m<1000000000) (ht:slc d (some (k+V.off)) (some (k+V.off+32))=t) (hl:t.length=32) (h0:t.getD 0 0=0)
  (h: ∀r dl tm a',H r=none->H dl=none->Ap r dl->Q (.ref r) ⟨upd (upd (upd H V.fp (Oc d w a')) dl (.list [])) r (.tuple [.ref dl,tm]),L⟩):P0 X c (.ref 891) [.ref p,.int k,.int m] [] Q E ⟨H,L⟩:=
 V8 R hZ (z15 R) (.inl rfl) hn hh hp ho hz hV hk ht hl h0 h
end Mine
namespace Mine
variable {X:Cx} {c:Cf} {σ:St} {E:Nat->St->Prop} {Q:AV->St->Prop} {n:Nat} {H:Nat->Option W0} {L:NS} {V:PF} {p:Nat} {D:NS}
variable {bps spc rsv nf re t16 t32 f16 f32 note:Int}
set_option tactic.hygienic true in
theorem s37 (R:Row X) (hZ:X.Z=true) {es:List Int} {d t:List UInt8} {a k b:Int} {w:Bool} {enc:Str} (hd:Hd5 D bps spc rsv nf re t16 t32 f16 f32 note) (hn:c.n=n+1+1+1+1+1) (hh:c.hd=none) (hp:H p=some (.inst 936 V.ns)) (hi:V.init=true) (hq:H V.hdr=some (.dictS D)) (ho:H V.fp=some (Oc d w a)) (hf:H V.fat=some (.list (es.map .int))) (hl:es.length<=100000) (hz:d.length<=16777216) (hV:V.enc= .str enc)
  (h3:K3 V.ty) (hc:Chn (M3 V.ty) es k [k]) (b1:0<spc/\spc<=1000) (b2:0<bps/\bps<=10000) (b3:0<=V.fds/\V.fds<=100000) (b4:2<=k/\k<=1000)
  (hb:((k-2)*spc+V.fds)*bps=b) (hbz:0<=b/\b<=100000000) (ht:slc d (some (b+V.off)) (some (b+V.off+32))=t) (hl:t.length=32) (h0:t.getD 0 0=0)
  (h: ∀A a',H A=none->Q (.ref A) ⟨upd (upd H V.fp (Oc d w a')) A (.list []),L⟩):P0 X c (.ref 898) [.ref p,.int k] [] Q E ⟨H,L⟩:=by
 have hd':=hd;obtain ⟨d1,d2,d3,d4,d5,d6,d7,d8,d9,d10⟩:=hd;have ho':=ho;unfold Oc at ho';refine w10 R (i22 R) hn (j22 R) fun c' h1 h2 h3' h4=>?_;have hh':c'.hd=none:=h4.trans hh;walk_at "R";refine t51 R h1 fun x xd hx=>?_;walk_at "R";refine v46 (f:=V.fat) R h3 (by assumption) hc h1 fun q kk F y l hq' G=>?_;rename_i A hA;have gA:H A=none:=by walk_at "nx"
 have gx:H x=none:=by walk_at "nx"
 have gq:H q=none:=by walk_at "nx"
 have pxA:Ap x A:=by walk_at "na"
 have pqA:Ap q A:=by walk_at "na"
 have pqx:Ap q x:=by walk_at "na"
 clear hq' hx hA;refine (x35 (ys:=[.int k]) (y0:=y) (l0:=l) (n:=n+2+1) (i10 _ _ _) G h1 hh' (fun i y l σ=> ∃a' tm,(i=0->tm= .ref x)/\σ=⟨upd (upd (upd H V.fp (Oc d w a')) A (.list [])) q (.genS kk y F l),[(`max_bytes,.int (spc*bps)),(`tmp_lfn_entry,tm),(`dir_entries,.ref A),(`self,.ref p)]⟩) ?_ (fun i y l σ hJ=>?_) (fun i y l v y' l' H' L' hv hJ hG=>?_) fun y l H' L' hJ=>?_).out
 ·exact r12 (σ':=⟨upd (upd (upd H V.fp (Oc d w a)) A (.list [])) q (.genS kk y F l),[(`max_bytes,.int (spc*bps)),(`tmp_lfn_entry,.ref x),(`dir_entries,.ref A),(`self,.ref p)]⟩) s!"-gp0" s!"-lp0" ⟨a,_,fun _=>rfl,rfl⟩
 ·obtain ⟨a',tm,_,rfl⟩:=hJ;refine ⟨i10 _ _ _,?_⟩;dsimp only;rw [y13];exact ⟨V,by walk_at "hp",hi,rfl,rfl,by walk_at "hp"⟩
 ·obtain ⟨a',tm,htm,e⟩:=hJ;walk_at "S";have i0:i=0:=by
   rcases Nat.eq_zero_or_pos i with h | h
   ·exact h
   ·rw [List.getElem?_eq_none (by simp;(exact fk κ8 [] [_] rfl h))] at hv;cases hv
  subst i0;obtain rfl:=htm rfl;cases hv;rw [y13];walk_at "R";refine d51 R hd' h1 s!"-hp" s!"-hp" (by exact ⟨fk κ5 [_] [] rfl b1.1,fk s!"hLAn1000oLAn1000000" [_] [] rfl b1.2⟩) (by exact ⟨fk κ5 [_] [] rfl b2.1,fk κ17 [_] [] rfl b2.2⟩) ?_;rw [hb];have hpb:0<spc*bps/\spc*bps<=10000000:=⟨Int.mul_pos b1.1 b2.1,Int.le_trans (Int.mul_le_mul b1.2 b2.2 (by exact Int.le_of_lt b2.1) (by exact fk s!"oLn0n1000" [] [] rfl)) (by decide)⟩;walk_at "R";refine r37 R hZ h1 hh' s!"-hp" s!"-hp" hz hV (by exact ⟨fk s!"hLn0AoLn0A" [_] [] rfl hbz.1,⟨fk s!"hSn0AoSBaBA" [_,_] [] rfl hpb.1,fk s!"hLAn100000000hLBn10000000oSaABn1000000000" [_,_] [] rfl hbz.2 hpb.2⟩⟩) ht hl h0 fun r dl tm a2 hr hdl prl=>?_;walk_at "R";refine n11 (i10 _ _ _) hh' rfl ?_;dsimp only [List.cons_append,List.nil_append];have gr:H r=none:=by walk_at "nx"
  have gd:H dl=none:=by walk_at "nx"
  have e1:Ap r A:=by walk_at "na"
  have e2:Ap r q:=by walk_at "na"
  have e3:Ap dl A:=by walk_at "na"
  have e4:Ap dl q:=by walk_at "na"
  walk_at "R";refine z10 ⟨0,by simp,r12 (σ':=⟨upd (upd (upd H V.fp (Oc d w a2)) A (.list [])) q (.genS kk y' F l'),[(`max_bytes,.int (spc*bps)),(`tmp_lfn_entry,tm),(`dir_entries,.ref A),(`self,.ref p)]⟩) s!"-gp0" s!"-lp0" ⟨1,y',l',by simp,by simp,hG,a2,tm,(fun z=>absurd z (by decide)),rfl⟩⟩
 ·obtain ⟨a',tm,htm,e⟩:=hJ;walk_at "S";rw [q11 s!"-hp"];walk_at "R";exact c12 (upA (h A a' gA))
theorem g41 (R:Row X) (hZ:X.Z=true) {r:Nat} {nm a e dd:AV} {lo hi at0:Int} {d t:List UInt8} {w:Bool} {enc:Str} (hd:Hd5 D bps spc rsv nf re t16 t32 f16 f32 note) (hn:c.n=n+1+1+1+1+1) (hh:c.hd=none) (hp:H p=some (.inst 936 V.ns)) (hq:H V.hdr=some (.dictS D)) (hr:V.root= .ref r) (hR:H r=some (.inst 606 (W10 nm a e dd lo hi)))
  (ho:H V.fp=some (Oc d w at0)) (hz:d.length<=16777216) (hV:V.enc= .str enc)
  (b1:0<spc/\spc<=1000) (b2:0<V.rds*bps/\V.rds*bps<=100000000) (b3:V.rds.fdiv spc<65536/\0<=V.rds.fdiv spc) (b5:0<=V.rds/\V.rds<=100000) (b4:0<=re/\re<=1000)
  (hs:re≠0->slc d (some (V.rds*bps+V.off)) (some (V.rds*bps+V.off+32))=t/\t.length=32/\t.getD 0 0=0)
  (h: ∀a',Q .none ⟨upd (upd H r (.inst 606 (W10 nm a e dd (V.rds.fdiv spc) 0))) V.fp (Oc d w a'),L⟩):P0 X c (.ref 854) [.ref p] [] Q E ⟨H,L⟩:=by
 have hd':=hd;obtain ⟨d1,d2,d3,d4,d5,d6,d7,d8,d9,d10⟩:=hd;have ho':=ho;unfold Oc at ho';have n1:Ap p V.fp:=⟨by walk_at "ne"⟩;have n2:Ap r V.fp:=⟨by walk_at "ne"⟩;have n3:Ap r p:=⟨by walk_at "ne"⟩;refine w10 R (w24 R) hn (x24 R) fun c' h1 h2 h3' h4=>?_;have hh':c'.hd=none:=h4.trans hh;walk_at "R";refine t12 s!"-hp" rfl (o24 R rfl) (by rw [hr];rfl) ?_;rw [hr];walk_at "R";refine h25 R h1 ⟨b3.2,b3.1⟩ hR ?_;walk_at "R";by_cases hre:re=0
 ·subst hre;have e0:V.rds*bps+0*32=V.rds*bps:=by (exact fe (.o 1 (.E (.a (.v 0) (.l 0 (.n 32))) (.v 0))) [_] [] rfl)
  rw [e0];refine q37 R h1 hh' (by exact ⟨fk κ3 [_] [] rfl b2.1,fk s!"hLAn100000000oSAn1000000000" [_] [] rfl b2.2⟩) fun t dl tm ht hdl ptd=>?_;walk_at "R";refine n11 (i10 _ _ _) hh' rfl ?_;dsimp only [List.cons_append,List.nil_append];walk_at "R";refine e18 s!"-hp" hh' ?_;have gt:H t=none:=by walk_at "nx"
  have gd:H dl=none:=by walk_at "nx"
  walk_at "R";exact z10 (upA (h at0))
 ·obtain ⟨s1,s2,s3⟩:=hs hre;refine w32 (V:=V) (d:=d) (t:=t) (w:=w) (a:=at0) (enc:=enc) R hZ h1 hh' s!"-hp" s!"-hp" hz hV ⟨Int.le_of_lt b2.1,by (exact (Int.lt_or_gt_of_ne hre).elim (fun qs14=>fk s!"hLn0AhSAn0o0SBaBr32A" [_,_] [] rfl b4.1 qs14) fun qs14=>fk s!"h32Sn0AoSBaBr32A" [_,_] [] rfl qs14),by (exact fk s!"hLAn100000000h32LBn1000oSaAr32Bn1000000000" [_,_] [] rfl b2.2 b4.2)⟩ s1 s2 s3 fun t dl tm a' ht hdl ptd=>?_;walk_at "R";refine n11 (i10 _ _ _) hh' rfl ?_;dsimp only [List.cons_append,List.nil_append];walk_at "R";refine e18 s!"-hp" hh' ?_;have gt:H t=none:=by walk_at "nx"
  have gd:H dl=none:=by walk_at "nx"
  walk_at "R";exact z10 (upA (h a'))
theorem h41 (R:Row X) (hZ:X.Z=true) {r:Nat} {nm a e dd:AV} {lo hi at0 k b:Int} {es:List Int} {d t:List UInt8} {w:Bool} {enc:Str} (hd:Hd5 D bps spc rsv nf re t16 t32 f16 f32 note) (hn:c.n=n+1+1+1+1+1+1) (hh:c.hd=none) (hp:H p=some (.inst 936 V.ns)) (hini:V.init=true) (hq:H V.hdr=some (.dictS D)) (hrc:D.lookup `BPB_RootClus=some (.int k)) (hr:V.root= .ref r) (hR:H r=some (.inst 606 (W10 nm a e dd lo hi)))
  (ho:H V.fp=some (Oc d w at0)) (hf:H V.fat=some (.list (es.map .int))) (hl:es.length<=100000) (hz:d.length<=16777216) (hV:V.enc= .str enc)
  (h3:K3 V.ty) (hc:Chn (M3 V.ty) es k [k]) (b1:0<spc/\spc<=1000) (b2:0<bps/\bps<=10000) (b3:0<=V.fds/\V.fds<=100000) (b4:2<=k/\k<=1000)
  (hb:((k-2)*spc+V.fds)*bps=b) (hbz:0<=b/\b<=100000000) (ht:slc d (some (b+V.off)) (some (b+V.off+32))=t) (hl':t.length=32) (h0:t.getD 0 0=0)
  (h: ∀a',Q .none ⟨upd (upd H r (.inst 606 (W10 nm a e dd k 0))) V.fp (Oc d w a'),L⟩):P0 X c (.ref 861) [.ref p] [] Q E ⟨H,L⟩:=by
 have hd':=hd;obtain ⟨d1,d2,d3,d4,d5,d6,d7,d8,d9,d10⟩:=hd;have ho':=ho;unfold Oc at ho';have n1:Ap p V.fp:=⟨by walk_at "ne"⟩;have n2:Ap r V.fp:=⟨by walk_at "ne"⟩;have n3:Ap r p:=⟨by walk_at "ne"⟩;refine w10 R (y24 R) hn (z24 R) fun c' h1 h2 h3' h4=>?_;have hh':c'.hd=none:=h4.trans hh;walk_at "R";refine t12 s!"-hp" rfl (o24 R rfl) (by rw [hr];rfl) ?_;rw [hr];walk_at "R";refine h25 R h1 (by exact ⟨fk s!"hLn2AoLn0A" [_] [] rfl b4.1,fk s!"hLAn1000oSAn65536" [_] [] rfl b4.2⟩) hR ?_;walk_at "R";refine s37 R hZ hd' h1 hh' s!"-hp" hini s!"-hp" s!"-hp" s!"-hp" hl hz hV h3 hc b1 b2 b3 b4 hb hbz ht hl' h0 fun A a2 hA=>?_;walk_at "R";refine e18 (i10 _ _ _) hh' ?_;have gA:H A=none:=by walk_at "nx"
 walk_at "R";exact z10 (upA (h a2))
set_option tactic.hygienic true in
theorem q42 (R:Row X) (hZ:X.Z=true) {at0 k b:Int} {es:List Int} {d t:List UInt8} {w:Bool} {enc:Str} (hd:Hd5 D bps spc rsv nf re t16 t32 f16 f32 note) (hn:c.n=n+1+1+1+1+1+1+1) (hh:c.hd=none) (hp:H p=some (.inst 936 V.ns)) (hini:V.init=true) (hq:H V.hdr=some (.dictS D))
  (ho:H V.fp=some (Oc d w at0)) (hf:H V.fat=some (.list (es.map .int))) (hl:es.length<=100000) (hz:d.length<=16777216) (hV:V.enc= .str enc) (h3:K3 V.ty) (b1:0<spc/\spc<=1000) (b2:0<bps/\bps<=10000) (b4:0<=re/\re<=1000)
  (h12:V.ty≠32->(0<V.rds*bps/\V.rds*bps<=100000000)/\(V.rds.fdiv spc<65536/\0<=V.rds.fdiv spc)/\(0<=V.rds/\V.rds<=100000)/\(re≠0->slc d (some (V.rds*bps+V.off)) (some (V.rds*bps+V.off+32))=t/\t.length=32/\t.getD 0 0=0))
  (h32:V.ty=32->D.lookup `BPB_RootClus=some (.int k)/\Chn (M3 V.ty) es k [k]/\(0<=V.fds/\V.fds<=100000)/\(2<=k/\k<=1000)/\((k-2)*spc+V.fds)*bps=b/\(0<=b/\b<=100000000)/\slc d (some (b+V.off)) (some (b+V.off+32))=t/\t.length=32/\t.getD 0 0=0)
  (h: ∀r a',Q .none ⟨upd (upd H p (.inst 936 (V.srt (.ref r)).ns)) V.fp (Oc d w a'),L⟩):P0 X c (.ref 868) [.ref p] [] Q E ⟨H,L⟩:=by
 have ho':=ho;unfold Oc at ho';have n1:Ap p V.fp:=⟨by walk_at "ne"⟩;refine w10 R (t31 R) hn (v31 R) fun c' h1 h2 h3' h4=>?_;have hh':c'.hd=none:=h4.trans hh;walk_at "R";refine t55 R h1 fun x hx=>?_;walk_at "R";refine z40 R hZ h1 hh' s!"-hp" fun q hq'=>?_;walk_at "R";refine t12 s!"-hp" rfl (o24 R rfl) (by rw [hV];rfl) ?_;walk_at "R";refine u55 R h1 fun y dd hy hdd=>?_;have gx:H x=none:=by walk_at "nx"
 have gq:H q=none:=by walk_at "nx"
 have gy:H y=none:=by walk_at "nx"
 have gd:H dd=none:=by walk_at "nx"
 walk_at "R";rename_i m m1 m2 m3 m4 m5 m6 hm;dsimp only at hm;have e2:Ap y x:=by walk_at "na"
 have e3:Ap y q:=by walk_at "na"
 have e4:Ap dd x:=by walk_at "na"
 have e5:Ap dd q:=by walk_at "na"
 refine h35 (ys:=[12,16]) (i10 _ _ _) ?_;by_cases hty:V.ty=32
 ·obtain ⟨k1,k2,k3,k4,k5,k6,k7,k8,k9⟩:=h32 hty;rw [hty];walk_at "go";refine d30 rfl ?_;walk_at "R";refine h41 (V:=(V.srt (.ref y))) (r:=y) (nm:= .ref x) (a:= .ref p) (e:=V.enc) (dd:= .ref dd) (lo:=0) (hi:=0) (d:=d) (t:=t) (w:=w) (at0:=at0) (k:=k) (b:=b) (es:=es) (enc:=enc) R hZ hd h1 hh' ?_ hini ?_ k1 rfl ?_ ?_ ?_ hl hz hV h3 k2 b1 b2 k3 k4 k5 k6 k7 k8 k9 fun a2=>?_
  ·exact (c11 _ _ m1.ne.symm).trans (i10 _ _ _)
  ·walk_at "hp"
  ·walk_at "hp"
  ·walk_at "hp"
  ·walk_at "hp"
  ·walk_at "R";exact z10 (upA (h y a2))
 ·obtain ⟨k1,k2,k3,k4⟩:=h12 hty;have e16:([12,16]:List Int).any (·==V.ty)=true:=by
   rcases h3 with e | e | e
   ·rw [e];rfl
   ·rw [e];rfl
   ·exact absurd e hty
  rw [e16];walk_at "go";refine c30 rfl ?_;walk_at "R";refine g41 (V:=(V.srt (.ref y))) (r:=y) (nm:= .ref x) (a:= .ref p) (e:=V.enc) (dd:= .ref dd) (lo:=0) (hi:=0) (d:=d) (t:=t) (w:=w) (at0:=at0) (enc:=enc) R hZ hd h1 hh' ?_ ?_ rfl ?_ ?_ hz hV b1 k1 k2 k3 b4 k4 fun a2=>?_
  ·exact (c11 _ _ m1.ne.symm).trans (i10 _ _ _)
  ·walk_at "hp"
  ·walk_at "hp"
  ·walk_at "hp"
  ·walk_at "R";exact z10 (upA (h y a2))
noncomputable def ibm:Str:=N `ibm437
noncomputable def ini (off:Int) (hdr:AV) (dd:Nat):NS:=[(1569648,.none),(`_fp_offset,.int off),(`_fat_size,.int 0),(`bpb_header,hdr),(`root_dir,.none),(`root_dir_sector,.int 0),(`root_dir_sectors,.int 0),(`bytes_per_cluster,.int 0),(`first_data_sector,.int 0),(`first_free_cluster,.int 0),(`fat_type,.int 0),(1683700,.ref dd),(`initialized,.bool false),(`encoding,.str ibm),(`is_read_only,.bool true),(`lazy_load,.bool true)]
theorem w55 (R:Row X) {off:Int} (hn:c.n=n+1+1) (h: ∀x dd,H x=none->Q (.ref x) ⟨upd H x (.inst 936 (ini off .none dd)),L⟩):P0 X c (.ref 936) [] [(N `offset,.int off)] Q E ⟨H,L⟩:=by
 refine n15 (fI:=711) (by rw [R.k];kernel_rfl) hn fun x hx=>?_;have R:=R.off;refine w10 (n:=n) R (q31 R) rfl (r31 R) fun c' h1 h2 h3 h4=>?_;walk_at "R";exact z10 (upA ⟨rfl,h x _ hx⟩)
structure T15 (X:Cx) (H:Nat->Option W0) (V:PF) (p q:Nat) (D:NS) (bps spc rsv nf re t16 t32 f16 f32 note:Int) (d:List UInt8) (w:Bool) (a:Int) (k:Nat) (enc:Str) (fsz ty rs:Int):Prop where
 hd:Hd5 D bps spc rsv nf re t16 t32 f16 f32 note
 hp:H p=some (.inst 936 V.ns0)
 ho:H q=some (Oc d w a)
 hq:H V.hdr=some (.dictS D)
 he:V.enc= .str enc
 hr:V.rdss=0
 b1:nf=k/\k<=1000
 b2:0<spc/\spc<=1000
 b3:0<bps/\bps<=10000
 b4:0<=re/\re<=1000
 er:(re*32+(bps-1)).fdiv bps=rs
 ef:(if f16=0 then f32 else f16)=fsz
 et:Z3 (if t16=0 then t32 else t16) rsv nf fsz 0 spc f16 f32=ty
 b5:0<=fsz/\fsz<=100000
 b6:0<rsv/\rsv<=100000
 hz:d.length<=1000000
theorem t37 (R:Row X) {q:Nat} (hn:c.n=n+1) (hp:H p=some (.inst 936 V.ns0)) (h: ∀V':PF,V'.fp=q->V'.off=V.off->V'.hdr=V.hdr->V'.enc=V.enc->V'.ro=V.ro->V'.rdss=V.rdss->Q .none ⟨upd H p (.inst 936 V'.ns),L⟩):P0 X c (.ref 718) [.ref p,.ref q] [] Q E ⟨H,L⟩:=
 y40 R hn hp (h _ rfl rfl rfl rfl rfl rfl)
theorem u37 (R:Row X) {fsz ty rs:Int} (hd:Hd5 D bps spc rsv nf re t16 t32 f16 f32 note) (hn:c.n=n+1+1+1) (hp:H p=some (.inst 936 V.ns)) (hq:H V.hdr=some (.dictS D)) (hr:V.rdss=0)
  (b1:0<=nf/\nf<=1000000) (b2:0<spc/\spc<=1000) (b3:0<bps/\bps<=1000000) (b4:0<=re/\re<=1000) (er:(re*32+(bps-1)).fdiv bps=rs) (ef:(if f16=0 then f32 else f16)=fsz) (et:Z3 (if t16=0 then t32 else t16) rsv nf fsz 0 spc f16 f32=ty)
  (h: ∀V':PF,V'.fp=V.fp->V'.off=V.off->V'.hdr=V.hdr->V'.enc=V.enc->V'.ro=V.ro->V'.init=true->V'.fsz=fsz->V'.ty=ty->V'.rds=rsv+fsz*nf->V'.fds=rsv+nf*fsz+rs->Q .none ⟨upd H p (.inst 936 V'.ns),L⟩):P0 X c (.ref 926) [.ref p] [] Q E ⟨H,L⟩:=by
 refine w40 R hd hn hp hq b1 (by exact ⟨fk κ3 [_] [] rfl b2.1,fk s!"hLAn1000oLAn1000000" [_] [] rfl b2.2⟩) b3 ⟨b4.1,Int.le_trans b4.2 (by decide)⟩ (PyProof.noPylong_small (by (first | lia | omega))) (PyProof.noPylong_small (by (first | lia | omega))) (h _ rfl rfl rfl rfl rfl rfl ?_ ?_ ?_ ?_)
 ·exact ef
 ·show Z3 _ _ _ _ _ _ _ _=_;rw [hr,ef];exact et
 ·show rsv+_*nf=_;rw [ef]
 ·show rsv+nf*_+_=_;rw [ef,er]
structure J9 (V':PF) (q hdr B:Nat) (off fsz ty:Int) (w:Bool) (enc:Str):Prop where
 fp:V'.fp=q
 off:V'.off=off
 hdr:V'.hdr=hdr
 init:V'.init=true
 ro:V'.ro=!w
 ty:V'.ty=ty
 fat:V'.fat=B
 fsz:V'.fsz=fsz
noncomputable def L11 (w:Bool) (ty:Int) (es:List Int):List Int:=if w=true then mkE ty es else es
noncomputable def dOf (w:Bool) (ty:Int) (es:List Int) (d:List UInt8) (F S k:Nat):List UInt8:=if w=true then (if ty=12 then d else fl d F S (Q3 ty (mkE ty es)) k) else d
noncomputable def K11 (w:Bool) (D:NS) (note:Int):NS:=if w=true then put D `BS_Reserved1 (.int (Builtin.bitOr note 1)) else D
theorem i41 (R:Row X) {d t:List UInt8} {a:Int} {w:Bool} {k:Nat} {es:List Int} (hd:Hd5 D bps spc rsv nf re t16 t32 f16 f32 note) (hn:c.n=n+1+1+1) (hh:c.hd=none) (hp:H p=some (.inst 936 V.ns)) (hi:V.init=true) (hq:H V.hdr=some (.dictS D)) (ho:H V.fp=some (Oc d w a))
  (b0:nf=k/\0<k/\k<=1000) (b2:0<spc/\spc<=1000000) (b3:0<bps/\bps<=1000000) (b4:0<=V.fsz/\V.fsz<=1000000) (b5:0<=rsv/\rsv<=1000000) (hz:d.length<=1000000)
  (ht:slc d (some (rsv*bps+V.off)) (some (rsv*bps+V.off+bps*V.fsz))=t) (htl:(t.length:Int)=bps*V.fsz)
  (hk:V.ty=12/\t.length % 3=2\/V.ty=16/\t.length % 2=0\/V.ty=32/\t.length % 4=0) (hes:Q4 V.ty t=es)
  (h: ∀B (V':PF) a',H B=none->V'.fp=V.fp->V'.off=V.off->V'.hdr=V.hdr->V'.enc=V.enc->V'.ro=V.ro->V'.init=V.init->V'.fsz=V.fsz->V'.ty=V.ty->V'.rds=V.rds->V'.fds=V.fds->V'.fat=B->Q .none ⟨upd (upd (upd H V.fp (Oc d w a')) p (.inst 936 V'.ns)) B (.list (es.map .int)),L⟩):P0 X c (.ref 788) [.ref p] [] Q E ⟨H,L⟩:=by
 refine m46 R hd hn hh hp hi hq ho b0 b2 b3 b4 b5 (by exact fk s!"hxAn1000000oxAn16777216" [] [_] rfl hz) ht htl hk fun B a' hB=>?_;rw [hes];exact h B _ a' hB rfl rfl rfl rfl rfl rfl rfl rfl rfl rfl rfl
theorem x46 (R:Row X) (hZ:X.Z=true) {q k F T:Nat} {d t st:List UInt8} {w:Bool} {a fsz ty rs cl b:Int} {enc:Str} {es:List Int} (S:T15 X H V p q D bps spc rsv nf re t16 t32 f16 f32 note d w a k enc fsz ty rs) (hdl:D.length<=900) (hn:c.n=n+1+1+1+1+1+1+1+1) (hh:c.hd=none) (hk0:0<k)
  (ht:slc d (some (rsv*bps+V.off)) (some (rsv*bps+V.off+bps*fsz))=t) (htl:(t.length:Int)=bps*fsz) (hk:ty=12/\t.length % 3=2\/ty=16/\t.length % 2=0\/ty=32/\t.length % 4=0)
  (hes:Q4 ty t=es) (hel:1<es.length/\es.length<=100000) (hKO:KOk ty es) (hF:rsv*bps+V.off=F) (hS:bps*fsz=T) (hb:ty≠12->(Q3 ty (mkE ty es)).length=T) (hFd:F+k*T<=d.length)
  (h12:ty≠32->0<(rsv+fsz*nf)*bps/\(rsv+fsz*nf)*bps<=100000000/\(rsv+fsz*nf).fdiv spc<65536/\0<=(rsv+fsz*nf).fdiv spc/\0<=rsv+fsz*nf/\rsv+fsz*nf<=100000/\(re≠0->slc (dOf w ty es d F T k) (some ((rsv+fsz*nf)*bps+V.off)) (some ((rsv+fsz*nf)*bps+V.off+32))=st/\st.length=32/\st.getD 0 0=0))
  (h32:ty=32->(K11 w D note).lookup `BPB_RootClus=some (.int cl)/\Chn (M3 ty) (L11 w ty es) cl [cl]/\(0<=rsv+nf*fsz+rs/\rsv+nf*fsz+rs<=100000)/\(2<=cl/\cl<=1000)/\((cl-2)*spc+(rsv+nf*fsz+rs))*bps=b/\(0<=b/\b<=100000000)/\slc (dOf w ty es d F T k) (some (b+V.off)) (some (b+V.off+32))=st/\st.length=32/\st.getD 0 0=0)
  (hhd:Hd5 (K11 w D note) bps spc rsv nf re t16 t32 f16 f32 (if w=true then Builtin.bitOr note 1 else note)) (hdz:(dOf w ty es d F T k).length<=16777216)
  (h: ∀B V' a',H B=none->J9 V' q V.hdr B V.off fsz ty w enc->Q .none ⟨upd (upd (upd (upd H V.hdr (.dictS (K11 w D note))) q (Oc (dOf w ty es d F T k) w a')) p (.inst 936 (PF.ns V'))) B (.list ((L11 w ty es).map .int)),L⟩):P0 X c (.ref 767) [.ref p,.ref q] [] Q E ⟨H,L⟩:=by
 obtain ⟨hd,hp,ho,hq,he,hr,b1,b2,b3,b4,er,ef,et,b5,b6,hz⟩:=S;have ho':=ho;unfold Oc at ho';refine w10 R (p24 R) hn (r24 R) fun c' h1 h2 h3 h4=>?_;have hh':c'.hd=none:=h4.trans hh;have n1:Ap p q:=⟨by walk_at "ne"⟩;walk_at "R";refine p32 R h1 ?_;walk_at "R";refine q32 R h1 ?_;walk_at "R";refine a28 R h1 ho ?_;walk_at "R";refine t37 (V:=(V.sro (!w))) R h1 (i10 _ _ _) fun V1 f1 f2 f3 f4 f5 f6=>?_;rw [y13];dsimp only at f2 f3 f4 f5 f6;have n2:Ap V.hdr p:=⟨by walk_at "ne"⟩;have n3:Ap V.hdr q:=⟨by walk_at "ne"⟩;walk_at "R";refine u37 R hd h1 (i10 _ _ _) (by rw [f3];walk_at "hp") (f6.trans hr) (by exact ⟨fk s!"hyn0Ah-EAwAoLn0A" [_] [_] rfl hk0 b1.1,fk s!"hEAwAhxAn1000oLAn1000000" [_] [_] rfl b1.1 b1.2⟩) b2 (by exact ⟨fk κ3 [_] [] rfl b3.1,fk κ17 [_] [] rfl b3.2⟩) b4 er ef et fun V2 g1 g2 g3 g4 g5 g6 g7 g8 g9 g10=>?_;rw [y13];walk_at "R";refine i41 (V:=V2) (t:=t) (es:=es) R hd h1 hh' (i10 _ _ _) g6 (by rw [g3,f3];walk_at "hp") (by rw [g1,f1];walk_at "hp") ⟨b1.1,hk0,b1.2⟩ (by exact ⟨fk κ3 [_] [] rfl b2.1,fk s!"hLAn1000oLAn1000000" [_] [] rfl b2.2⟩) (by exact ⟨fk κ3 [_] [] rfl b3.1,fk κ17 [_] [] rfl b3.2⟩) (by exact ⟨fk s!"hLn0Ah-EBAoLn0B" [_,_] [] rfl b5.1 g7,fk s!"hLAn100000hEBAoLBn1000000" [_,_] [] rfl b5.2 g7⟩) (by exact ⟨fk κ5 [_] [] rfl b6.1,fk s!"hLAn100000oLAn1000000" [_] [] rfl b6.2⟩) hz (by rw [g2,f2,g7];exact ht) (by rw [g7];exact htl) (by rw [g8];exact hk) (by rw [g8];exact hes) fun B V3 a2 hB k1 k2 k3 k4 k5 k6 k7 k8 k9 k10 k11=>?_;have gB:H B=none:=by walk_at "nx"
 have pB:Ap B p:=by walk_at "na"
 subst k11;rw [g1,f1] at k1⊢;have e3:V3.hdr=V.hdr:=by rw [k3,g3,f3]
 have e5:V3.ro=!w:=by rw [k5,g5,f5]
 have e8:V3.ty=ty:=by rw [k8,g8]
 have e7:V3.fsz=fsz:=by rw [k7,g7]
 have e2:V3.off=V.off:=by rw [k2,g2,f2]
 have e4:V3.enc= .str enc:=by rw [k4,g4,f4,he]
 have e9:V3.rds=rsv+fsz*nf:=by rw [k9,g9]
 have e10:V3.fds=rsv+nf*fsz+rs:=by rw [k10,g10]
 have e6:V3.init=true:=by rw [k6,g6]
 clear k2 k3 k4 k5 k6 k7 k8 k9 k10 g1 g2 g3 g4 g5 g6 g7 g8 g9 g10 f2 f3 f4 f5 f6 hB;walk_at "R";refine o46 (V:=V3) (es:=es) R hd h1 s!"-hp" (by rw [e3];walk_at "hp") s!"-hp" hel.1 fun bb=>?_;walk_at "R";have h3':K3 V3.ty:=by rw [e8];exact hk.imp (fun x=>x.1) (fun x=>x.imp (fun x=>x.1) fun x=>x.1)
 cases w with
 | true=>
  refine c30 (by rw [e5];rfl) ?_;walk_at "R";refine g51 (V:=V3) (es:=es) (d:=d) (N:=k) (F:=F) (S:=T) R hd hdl h1 hh' s!"-hp" e6 (by rw [e5];rfl) (by rw [e3];walk_at "hp") (by rw [k1];walk_at "hp") s!"-hp" hel (by rw [e8];exact hKO) b1 (by exact ⟨fk κ3 [_] [] rfl b3.1,fk κ17 [_] [] rfl b3.2⟩) (by exact ⟨fk s!"hLn0Ah-EBAoLn0B" [_,_] [] rfl b5.1 e7,fk s!"hLAn100000hEBAoLBn1000000" [_,_] [] rfl b5.2 e7⟩) (by exact ⟨fk κ5 [_] [] rfl b6.1,fk s!"hLAn100000oLAn1000000" [_] [] rfl b6.2⟩) (by rw [e2];exact hF) (by rw [e7];exact hS) (by rw [e8];exact hb) ⟨hFd,hz⟩ fun a3=>?_;rw [k1,e3,e8];walk_at "R";have hhd:Hd5 (put D `BS_Reserved1 (.int (Builtin.bitOr note 1))) bps spc rsv nf re t16 t32 f16 f32 (Builtin.bitOr note 1):=hhd;have ed:dOf true ty es d F T k=if ty=12 then d else fl d F T (Q3 ty (mkE ty es)) k:=rfl
  rw [<-ed];generalize dOf true ty es d F T k=d2 at*;have h32:ty=32->(put D `BS_Reserved1 (.int (Builtin.bitOr note 1))).lookup `BPB_RootClus=some (.int cl)/\Chn (M3 ty) (mkE ty es) cl [cl]/\(0<=rsv+nf*fsz+rs/\rsv+nf*fsz+rs<=100000)/\(2<=cl/\cl<=1000)/\((cl-2)*spc+(rsv+nf*fsz+rs))*bps=b/\(0<=b/\b<=100000000)/\slc d2 (some (b+V.off)) (some (b+V.off+32))=st/\st.length=32/\st.getD 0 0=0:=h32;refine q42 (V:=V3) (es:=mkE ty es) (d:=d2) (t:=st) (k:=cl) (b:=b) (at0:=a3) (w:=true) R hZ hhd h1 hh' s!"-hp" e6 (by rw [e3];exact i10 _ _ _) (by rw [k1];walk_at "hp") s!"-hp" (by rw [m22];exact hel.2) hdz e4 h3' b2 b3 b4 (fun z=>?_) (fun z=>?_) fun r a4=>?_
  ·rw [e8] at z;rw [e9,e2];obtain ⟨z1,z2,z3,z4,z5,z6,z7⟩:=h12 z;exact ⟨⟨z1,z2⟩,⟨z3,z4⟩,⟨z5,z6⟩,z7⟩
  ·rw [e8] at z⊢;rw [e10,e2];exact h32 z
  ·subst k1;walk_at "R";exact z10 (upA (h V3.fat {V3 with root:= .ref r} a4 gB ⟨rfl,e2,e3,e6,e5,e8,rfl,e7⟩))
 | false=>
  refine d30 (by rw [e5];rfl) ?_;walk_at "R";have hhd:Hd5 D bps spc rsv nf re t16 t32 f16 f32 note:=hhd;have hdz:d.length<=16777216:=hdz;have h32:ty=32->D.lookup `BPB_RootClus=some (.int cl)/\Chn (M3 ty) es cl [cl]/\(0<=rsv+nf*fsz+rs/\rsv+nf*fsz+rs<=100000)/\(2<=cl/\cl<=1000)/\((cl-2)*spc+(rsv+nf*fsz+rs))*bps=b/\(0<=b/\b<=100000000)/\slc d (some (b+V.off)) (some (b+V.off+32))=st/\st.length=32/\st.getD 0 0=0:=h32;have h: ∀B (V':PF) a',H B=none->J9 V' q V.hdr B V.off fsz ty false enc->Q .none ⟨upd (upd (upd (upd H V.hdr (.dictS D)) q (Oc d false a')) p (.inst 936 (PF.ns V'))) B (.list (es.map .int)),L⟩:=h;refine q42 (V:=V3) (at0:=a2) (w:=false) (es:=es) (d:=d) (t:=st) (k:=cl) (b:=b) R hZ hhd h1 hh' s!"-hp" e6 (by rw [e3];walk_at "hp") (by rw [k1];walk_at "hp") s!"-hp" hel.2 hdz e4 h3' b2 b3 b4 (fun z=>?_) (fun z=>?_) fun r a4=>?_
  ·rw [e8] at z;rw [e9,e2];obtain ⟨z1,z2,z3,z4,z5,z6,z7⟩:=h12 z;exact ⟨⟨z1,z2⟩,⟨z3,z4⟩,⟨z5,z6⟩,z7⟩
  ·rw [e8] at z⊢;rw [e10,e2];exact h32 z
  ·subst k1;walk_at "R";exact z10 (upA (h V3.fat {V3 with root:= .ref r} a4 gB ⟨rfl,e2,e3,e6,e5,e8,rfl,e7⟩))
end Mine
namespace Mine
variable {ki:Int}
noncomputable def pk (b:Int):List Int->Int
 | []=>0
 | e::r=>e+b*pk b r
noncomputable def wd (ki:Int):Int:=if 28<ki then 28 else ki
noncomputable def eB (ki:Int):Int:=2^(wd ki).toNat
theorem m51 (hk:K3 ki):0<eB ki/\eB ki<=268435456/\0<=wd ki/\(Builtin.Int.intBits 2:Int)*wd ki<=2^27:=by
 rcases hk with rfl | rfl | rfl<;>decide
structure H13 (ki:Int) (es fs:List Int):Prop where
 len:fs.length=es.length
 bd: ∀e∈fs,0<=e/\e<eB ki
 fst:fs.take 3=es.take 3
theorem H13.set {es fs:List Int} (h:H13 ki es fs) {k:Nat} {v:Int} (hk:3<=k) (hv:0<=v/\v<eB ki):H13 ki es (fs.set k v) where
 len:=by rw [List.length_set];exact h.len
 bd e he:=by
  rcases List.mem_or_eq_of_mem_set he with he | rfl
  ·exact h.bd e he
  ·exact hv
 fst:=by rw [List.take_set_of_le hk];exact h.fst
end Mine
namespace Mine
theorem i29 (b:Int): ∀(l:List Int) (e:Int),pk b (l++[e])=pk b l+b^l.length*e
 | [],e=>by show e+b*0=0+b^0*e;rw [Int.mul_zero,Int.pow_zero,Int.one_mul];(exact fe (.o 1 (.E (.a (.v 0) (.n 0)) (.a (.n 0) (.v 0)))) [_] [] rfl)
 | x::l,e=>by
  show x+b*pk b (l++[e])=x+b*pk b l+b^(l.length+1)*e;rw [i29 b l e,Int.mul_add,Int.pow_succ,Int.mul_comm (b^l.length) b,Int.mul_assoc];(exact fe (.o 1 (.E (.a (.v 0) (.a (.v 1) (.v 2))) (.a (.a (.v 0) (.v 1)) (.v 2)))) [_,_,_] [] rfl)
theorem d28 {es:List Int} {i:Nat} (h:i<es.length):es.take (i+1)=es.take i++[es.getD i 0]:=by
 rw [List.take_succ_eq_append_getElem h,w0,o5 h,Option.getD_some]
theorem e28 {es:List Int} {b:Int} (hb: ∀e∈es,0<=e/\e<b) (h0:0<b) (i:Nat):0<=es.getD i 0/\es.getD i 0<b:=by
 by_cases h:i<es.length
 ·rw [w0,o5 h];exact hb _ (List.getElem_mem h)
 ·rw [w0,List.getElem?_eq_none (by exact Nat.le_of_not_lt h)];exact ⟨Int.le_refl _,h0⟩
theorem f28 (k:Nat) {es:List Int} (hb: ∀e∈es,0<=e/\e<256^k): ∀i,i<=es.length->leV (tbW k es i)=pk (256^k) (es.take i)
 | 0,_=>by rw [List.take_zero];rfl
 | i+1,h=>by
  have hx:=e28 hb (Int.pow_pos (by decide)) i;rw [tbW,d12,f28 k hb i (by exact fk s!"hxaAn1BoxAB" [] [_,_] rfl h),d28 (by exact h),i29,r15,z26 _ _ hx.1 hx.2,List.length_take,j6 (by exact fk s!"hxaAn1BoxAB" [] [_,_] rfl h),Int.pow_mul]
theorem or1 {p q r a b c:Prop} (h:p/\a\/q/\b\/r/\c) (hq: ¬q) (hr: ¬r):a:=h.elim (·.2) fun h=>h.elim (fun h=>absurd h.1 hq) fun h=>absurd h.1 hr
theorem or2 {p q r a b c:Prop} (h:p/\a\/q/\b\/r/\c) (hp: ¬p) (hr: ¬r):b:=h.elim (fun h=>absurd h.1 hp) fun h=>h.elim (·.2) fun h=>absurd h.1 hr
theorem or3 {p q r a b c:Prop} (h:p/\a\/q/\b\/r/\c) (hp: ¬p) (hq: ¬q):c:=h.elim (fun h=>absurd h.1 hp) fun h=>h.elim (fun h=>absurd h.1 hq) (·.2)
theorem y46 {l:List UInt8} (h:0<l.length):l=l.dropLast++[l.getD (-1+(l.length:Int)).toNat 0]:=by
 have hne:l≠[]:=fun e=>by rw [e] at h;cases h
 have e1:=(List.dropLast_concat_getLast hne).symm;have e2:l.getD (-1+(l.length:Int)).toNat 0=l.getLast hne:=by
  rw [show (-1+(l.length:Int)).toNat=l.length-1 from by rw [Int.add_comm];exact Int.toNat_sub _ 1,w0,o5 (by (first | lia | omega)),Option.getD_some,List.getLast_eq_getElem]
 rw [e2];exact e1
theorem K10 (m:Nat):(4096:Int)^(2*m)=256^(3*m):=by rw [Int.pow_mul,Int.pow_mul];rfl
theorem j29 {es:List Int} (hb: ∀e∈es,0<=e/\e<4096): ∀i,i<=es.length->leV (O4 es i)=pk 4096 (es.take i)
 | 0,_=>by rw [List.take_zero];rfl
 | i+1,h=>by
  have hx:=e28 hb (by decide) i;have ih:=j29 hb i (by exact fk s!"hxaAn1BoxAB" [] [_,_] rfl h);have hl:=t13 es i;rw [d28 (by exact h),i29,<-ih,List.length_take,j6 (by exact fk s!"hxaAn1BoxAB" [] [_,_] rfl h),O4,O7];by_cases hm:i % 2=0
  ·rw [if_pos hm,d12,z26 2 _ hx.1 (by exact fk s!"hSAn4096oSAn256^2" [_] [] rfl hx.2),hl];obtain ⟨m,rfl⟩: ∃m,i=2*m:=⟨i / 2,by (exact fe (.h 1 (.e (.v 0) (.n 0)) <| .h (-1) (.e (.a (.l 2 (.v 1)) (.v 0)) (.v 2)) <| .o 1 (.e (.v 2) (.l 2 (.v 1)))) [] [_,_,_] rfl hm (o0 _ 2))⟩;rw [show 3*(2*m / 2)+2*(2*m % 2)=3*m from by (exact fe (.h 1 (.e (.v 0) (.n 0)) <| .h 3 (.e (.a (.l 2 (.v 1)) (.v 0)) (.l 2 (.v 2))) <| .o 2 (.e (.a (.l 3 (.v 1)) (.l 2 (.v 0))) (.l 3 (.v 2)))) [] [_,_,_] rfl hm (o0 _ 2)),K10]
  ·have hla:=i24 es i (by exact (Nat.lt_or_gt_of_ne hm).elim (fun qs9=>r0 (fk s!"hxl2ABh-zal2ACBhyCn0o0xCn1" [] [_,_,_] rfl (qd1 _ 2) (o0 _ 2) qs9) (fk s!"hxl2ABh-zal2ACBhyCn0o0xn1C" [] [_,_,_] rfl (qd1 _ 2) (o0 _ 2) qs9)) fun qs9=>r0 (fk s!"hyAal2Bn2hzal2BCAoxCn1" [] [_,_,_] rfl (qd2 _ 2 rfl) (o0 _ 2)) (fk κ8 [] [_] rfl qs9)) hb;rw [if_neg hm];have e1:=y46 (l:=O4 es i) (by exact (Nat.lt_or_gt_of_ne hm).elim (fun qs10=>fk s!"hxl2ABh-zal2ACBhyCn0o0yn0D" [] [_,_,_,_] rfl (qd1 _ 2) (o0 _ 2) qs10) fun qs10=>fk s!"h-2zAal3Bl2Ch-3zal2BCDhyn0Co2yn0A" [] [_,_,_,_] rfl hl (o0 _ 2) qs10);have hdl:(O4 es i).dropLast.length=3*(i / 2)+1:=by rw [List.length_dropLast];(exact (Nat.le_total _ _).elim (fun qs12=>(Nat.lt_or_gt_of_ne hm).elim (fun qs33=>r0 (fk s!"hzAn0oxAal3Bn1" [] [_,_] rfl (Nat.sub_eq_zero_of_le (qs12))) (fk s!"hxl2ABh-zal2ACBhyCn0o0xal3An1D" [] [_,_,_,_] rfl (qd1 _ 2) (o0 _ 2) qs33)) fun qs33=>r0 (fk s!"hzAn0oxAal3Bn1" [] [_,_] rfl (Nat.sub_eq_zero_of_le (qs12))) (fk s!"h-zAal3Bl2ChxAaDn1h2yn0Coxal3Bn1D" [] [_,_,_,_] rfl hl (Nat.sub_le_iff_le_add.mp (Nat.le_refl _)) qs33)) fun qs12=>(Nat.lt_or_gt_of_ne hm).elim (fun qs33=>r0 (fk s!"hxl2ABh-zal2ACBhyCn0o0xDal3An1" [] [_,_,_,_] rfl (qd1 _ 2) (o0 _ 2) qs33) (fk s!"hxl2ABh-zal2ACBhyCn0o0xal3An1D" [] [_,_,_,_] rfl (qd1 _ 2) (o0 _ 2) qs33)) fun qs33=>r0 (fk s!"hzAal3Bl2Ch2yDal2Bn2h2zal2BCDhzaGn1AoxGal3Bn1" [] [_,_,_,_,_] rfl hl (qd2 _ 2 rfl) (o0 _ 2) (n0 (qs12))) (fk s!"h-zAal3Bl2Ch-zaDn1Ah2yn0Coxal3Bn1D" [] [_,_,_,_] rfl hl (n0 (qs12)) qs33))
   generalize es.getD i 0=x at*;generalize (O4 es i).getD (-1+((O4 es i).length:Int)).toNat 0=la at*;generalize (O4 es i).dropLast=dl at*;rw [e1,d12,d12,hdl,W8,show (2:Int)^(4:Int).toNat=16 from by decide,Int.mul_comm (x % 16) 16,e42 _ _ (by exact Int.natCast_nonneg _) hla,j7 _ (by decide)];have e2:leV [(16*(x % 16)+(la.toNat:Int)).toNat.toUInt8,(x / 16).toNat.toUInt8]=la.toNat+16*x:=by
    show (((16*(x % 16)+(la.toNat:Int)).toNat.toUInt8.toNat:Nat):Int)+256*(((x / 16).toNat.toUInt8.toNat:Nat)+256*0)=_;rw [r20 _ (by exact fk s!"h16Ln0AoLn0al16AwA" [_] [_] rfl (Qm1 _ 16 rfl)) (by exact fk s!"hSwAn16h16SAn16oSal16AwAn256" [_] [_] rfl hla (Qm2 _ 16 rfl)),r20 _ (by exact fk s!"hLn0AhSAal16Bn16o16Ln0B" [_,_] [] rfl hx.1 (Qd2 _ 16 rfl)) (by exact fk s!"hSAn4096hLl16BAo16SBn256" [_,_] [] rfl hx.2 (Qd1 _ 16 rfl))]
    (exact fe (.h 16 (.E (.a (.l 16 (.v 0)) (.v 1)) (.v 2)) <| .o 1 (.E (.a (.a (.l 16 (.v 1)) (.w (.v 0))) (.l 256 (.a (.v 0) (.l 256 (.n 0))))) (.a (.w (.v 0)) (.l 16 (.v 2))))) [_,_,_] [_] rfl (Int.mul_ediv_add_emod _ 16))
   have e3:leV [la]=la.toNat:=by show (la.toNat:Int)+256*0=_;(exact fe (.o 1 (.E (.a (.w (.v 0)) (.l 256 (.n 0))) (.w (.v 0)))) [] [_] rfl)
   rw [e2,e3];obtain ⟨m,rfl⟩: ∃m,i=2*m+1:=⟨i / 2,by (exact (Nat.lt_or_gt_of_ne hm).elim (fun qs13=>r0 (fk s!"hxl2ABh-zal2ACBhyCn0o0xBal2An1" [] [_,_,_] rfl (qd1 _ 2) (o0 _ 2) qs13) (fk s!"hxl2ABh-zal2ACBhyCn0o0xal2An1B" [] [_,_,_] rfl (qd1 _ 2) (o0 _ 2) qs13)) fun qs13=>r0 (fk s!"hyAal2Bn2oxAal2Bn1" [] [_,_] rfl (qd2 _ 2 rfl)) (fk s!"hzal2ABChyn0Boxal2An1C" [] [_,_,_] rfl (o0 _ 2) qs13))⟩;rw [show 3*((2*m+1) / 2)+1=3*m+1 from congrArg (3* ·+1) ((Nat.mul_add_div (by decide) m 1).trans (Nat.add_zero m)),Int.pow_succ 4096,K10,Int.pow_succ 256];generalize (256:Int)^(3*m)=w;rw [Int.mul_add,Int.mul_assoc,Int.mul_assoc];rw [show w*(256*(16*x))=w*(4096*x) from by congr 1;(exact fe (.o 1 (.E (.l 256 (.l 16 (.v 0))) (.l 4096 (.v 0)))) [_] [] rfl),Int.mul_assoc w 4096 x]
   (exact fe (.o 1 (.E (.a (.v 0) (.a (.v 1) (.v 2))) (.a (.a (.v 0) (.v 1)) (.v 2)))) [_,_,_] [] rfl)
theorem n51 {ki:Int} {T:Nat} {es:List Int} (hk:KOk ki es) (hl:es.length=8*T / ki.toNat) (hm:ki=12/\T % 3=2\/ki=16/\T % 2=0\/ki=32/\T % 4=0):leV (Q3 ki es)=pk (2^ki.toNat) es/\(Q3 ki es).length=T:=by
 rcases hk with ⟨rfl,hb⟩ | ⟨rfl,hb⟩ | ⟨rfl,hb⟩
 ·have h1:T % 3=2:=or1 hm (by decide) (by decide);rw [Q3,if_pos rfl,j29 hb _ (Nat.le_refl _),List.take_length,t13];refine ⟨rfl,?_⟩;rw [show (12:Int).toNat=12 from rfl] at hl
  (exact r0 (fk s!"h12zABhxl12Bl8Ch4yAal2Dn2h16zal2DGAo8xal3Dl2GC" [] [_,_,_,_,_] rfl hl (qd1 _ 12) (qd2 _ 2 rfl) (o0 _ 2)) (Decidable.byContradiction fun q10=>fk s!"h-3zABh2zCn2h-2zal3DCGhxl2HAh-4zal2HIAh2jGal3Hl2Ih3Ln0aawBgl2wDgn1o0F" [] [_,_,_,_,_,_,_] rfl hl h1 (o0 _ 3) (qd1 _ 2) (o0 _ 2) q10 (fk s!"h-2zAn2h2zal3BAChLn0aal3wDgl2wCn2o3Ln0aawDgl2wBgn1" [] [_,_,_,_] rfl h1 (o0 _ 3) (fk s!"hyl8Aal12Bn12o4Ln0aal3wBgl2wAn2" [] [_,_] rfl (qd2 _ 12 rfl)))))
 ·have h1:T % 2=0:=or2 hm (by decide) (by decide);rw [Q3,if_neg (by decide),if_pos rfl,f28 2 hb _ (Nat.le_refl _),List.take_length,r15];refine ⟨rfl,?_⟩;rw [show (16:Int).toNat=16 from rfl] at hl
  (exact r0 (fk s!"h16zABhxl16Bl8Co8xl2AC" [] [_,_,_] rfl hl (qd1 _ 16)) (Decidable.byContradiction fun q6=>fk s!"hLn0awAgwBhLn0aagwAwBgn1o0F" [] [_,_] rfl (fk s!"h-zAn0hzal2BAChLn0aal2wDgwCn1o2Ln0awDgwB" [] [_,_,_,_] rfl h1 (o0 _ 2) (fk s!"hyl8Aal16Bn16o8Ln0aal2wBgwAn1" [] [_,_] rfl (qd2 _ 16 rfl))) (fk s!"h-2zABhzCn0h-zal2DCGhjGl2Ao2Ln0aagwBwDgn1" [] [_,_,_,_,_] rfl hl h1 (o0 _ 2) q6)))
 ·have h1:T % 4=0:=or3 hm (by decide) (by decide);rw [Q3,if_neg (by decide),if_neg (by decide),f28 4 hb _ (Nat.le_refl _),List.take_length,r15];refine ⟨rfl,?_⟩;rw [show (32:Int).toNat=32 from rfl] at hl
  (exact r0 (fk s!"h32zABhxl32Bl8Co8xl4AC" [] [_,_,_] rfl hl (qd1 _ 32)) (Decidable.byContradiction fun q6=>fk s!"hLn0awAgwBhLn0aagwAwBgn1o0F" [] [_,_] rfl (fk s!"h-zAn0hzal4BAChLn0aal4wDgwCn3o4Ln0awDgwB" [] [_,_,_,_] rfl h1 (o0 _ 4) (fk s!"hyl8Aal32Bn32o8Ln0aal4wBgwAn3" [] [_,_] rfl (qd2 _ 32 rfl))) (fk s!"h-4zABhzCn0h-zal4DCGhjGl4Ao4Ln0aagwBwDgn1" [] [_,_,_,_,_] rfl hl h1 (o0 _ 4) q6)))
theorem n22 {t:List UInt8} {a b:Nat} (h:a+b<=t.length):leV ((t.drop a).take b)=leV t / 256^a % 256^b:=by
 have e1:leV t=leV (t.take a)+256^a*leV (t.drop a):=by
  have:=d12 (t.take a) (t.drop a)
  rwa [List.take_append_drop,List.length_take,j6 (by exact fk κ10 [] [_,_,_] rfl h)] at this
 have e2:leV (t.drop a)=leV ((t.drop a).take b)+256^b*leV ((t.drop a).drop b):=by
  have:=d12 ((t.drop a).take b) ((t.drop a).drop b)
  rwa [List.take_append_drop,List.length_take,List.length_drop,j6 (by exact fk s!"hxaABCh-zaDACoxBD" [] [_,_,_,_] rfl h (n0 (fk κ10 [] [_,_,_] rfl h)))] at this
 have l1:=k14 (t.take a);have l2:=z28 (t.take a);rw [List.length_take,j6 (by exact fk κ10 [] [_,_,_] rfl h)] at l2;have m1:=k14 ((t.drop a).take b);have m2:=z28 ((t.drop a).take b);rw [List.length_take,List.length_drop,j6 (by exact fk s!"hxaABCh-zaDACoxBD" [] [_,_,_,_] rfl h (n0 (fk κ10 [] [_,_,_] rfl h)))] at m2;rw [e1,Int.add_mul_ediv_left _ _ (by have:(0:Int)<256^a:=Int.pow_pos (by decide);(exact fun q8=>fk s!"hSn0AhEAn0o0F" [_] [] rfl this q8)),Int.ediv_eq_zero_of_lt l1 l2,Int.zero_add,e2,Int.add_mul_emod_self_left,Int.emod_eq_of_lt m1 m2]
theorem v16 {b:Int} (h0:0<b): ∀{es:List Int},(∀e∈es,0<=e/\e<b)-> ∀k,pk b es / b^k % b=es.getD k 0
 | [],_,k=>by show (0:Int) / b^k % b=0;rw [Int.zero_ediv,Int.zero_emod]
 | e::r,h,0=>by
  have h1:=h e (.head _);rw [Int.pow_zero,Int.ediv_one];show (e+b*pk b r) % b=e;rw [Int.add_mul_emod_self_left,Int.emod_eq_of_lt h1.1 h1.2]
 | e::r,h,k+1=>by
  have h1:=h e (.head _);show (e+b*pk b r) / b^(k+1) % b=r.getD k 0;rw [show b^(k+1)=b*b^k from by rw [Int.pow_succ,Int.mul_comm],<-Int.ediv_ediv_of_nonneg (Int.le_of_lt h0),Int.add_mul_ediv_left _ _ (Int.ne_of_gt h0),Int.ediv_eq_zero_of_lt h1.1 h1.2,Int.zero_add];exact v16 h0 (fun x hx=>h x (.tail _ hx)) k
set_option tactic.hygienic true in
theorem z46 {ki:Int} {T:Nat} {es:List Int} (hk:K3 ki) (hb: ∀e∈es,0<=e/\e<eB ki) (hl:es.length=8*T / ki.toNat) (hm:ki=12/\T % 3=2\/ki=16/\T % 2=0\/ki=32/\T % 4=0) {t:List UInt8} (ht:t.length=T) (hv:leV t=pk (2^ki.toNat) es):Q4 ki t=es:=by
 have key: ∀k,k<es.length->W2 ki t k=es.getD k 0:=by
  intro k hkl;rcases hk with rfl | rfl | rfl
  ·have h1:T % 3=2:=or1 hm (by decide) (by decide);rw [show (12:Int).toNat=12 from rfl] at hl hv;have hb: ∀e∈es,0<=e/\e<4096:=hb;have dg:=v16 (by decide) hb;rw [show (2:Int)^12=4096 from by decide] at hv;rw [W2,if_pos rfl]
   split
   ·rename_i z;obtain ⟨m,rfl⟩: ∃m,k=2*m:=⟨k / 2,by (exact fe (.h 1 (.e (.v 0) (.n 0)) <| .h (-1) (.e (.a (.l 2 (.v 1)) (.v 0)) (.v 2)) <| .o 1 (.e (.v 2) (.l 2 (.v 1)))) [] [_,_,_] rfl z (o0 _ 2))⟩;rw [show 3*(2*m) / 2=3*m from by (exact r0 (fk s!"hxl2Al3l2Bo2xAl3B" [] [_,_] rfl (qd1 _ 2)) (fk s!"hyl3l2Aal2Bn2o2xl3AB" [] [_,_] rfl (qd2 _ 2 rfl))),n22 (by exact fk s!"h-8zABh12zCDh12yl2GChxl12Dl8Bo8xal3Gn2A" [] [_,_,_,_,_] rfl ht hl hkl (qd1 _ 12)),hv,<-K10,<-dg (2*m)];generalize pk 4096 es / 4096^(2*m)=y;rw [show (256:Int)^2=65536 from by decide];(first | lia | omega)
   ·rename_i z;obtain ⟨m,rfl⟩: ∃m,k=2*m+1:=⟨k / 2,by (exact (Nat.lt_or_gt_of_ne z).elim (fun qs13=>r0 (fk s!"h-zal2ABChxl2AChyBn0o0xCal2An1" [] [_,_,_] rfl (o0 _ 2) (qd1 _ 2) qs13) (fk s!"h-zal2ABChxl2AChyBn0o0xal2An1C" [] [_,_,_] rfl (o0 _ 2) (qd1 _ 2) qs13)) fun qs13=>r0 (fk s!"hyAn2h-zal2BACoxCal2Bn1" [] [_,_,_] rfl (qm1 _ 2 rfl) (o0 _ 2)) (fk s!"hzal2ABChyn0Boxal2An1C" [] [_,_,_] rfl (o0 _ 2) qs13))⟩;have d1:=dg (2*m+1);rw [Int.pow_succ,<-Int.ediv_ediv_of_nonneg (Int.le_of_lt (Int.pow_pos (by decide)))] at d1;rw [show 3*(2*m+1) / 2=3*m+1 from by (exact r0 (fk s!"hxl2Al3al2Bn1o2xAal3Bn1" [] [_,_] rfl (qd1 _ 2)) (fk s!"hyl3al2An1al2Bn2o2xal3An1B" [] [_,_] rfl (qd2 _ 2 rfl))),n22 (by exact fk s!"h-8zABh12zCDh12yal2Gn1Chxl12Dl8Bo8xaal3Gn1n2A" [] [_,_,_,_,_] rfl ht hl hkl (qd1 _ 12)),hv,Int.pow_succ 256,<-K10,<-Int.ediv_ediv_of_nonneg (Int.le_of_lt (Int.pow_pos (by decide))),<-d1];generalize pk 4096 es / 4096^(2*m)=y;rw [show (256:Int)^2=65536 from by decide];(first | lia | omega)
  ·have h1:T % 2=0:=or2 hm (by decide) (by decide);rw [show (16:Int).toNat=16 from rfl] at hl hv;have hb: ∀e∈es,0<=e/\e<65536:=hb;rw [show (2:Int)^16=256^2 from by decide] at hv;rw [W2,if_neg (by decide),if_pos rfl,n22 (by exact fk s!"h-8zABh16yCDh16zDGhxl16Gl8Bo8xal2Cn2A" [] [_,_,_,_,_] rfl ht hkl hl (qd1 _ 16)),hv,Int.pow_mul];exact v16 (by decide) hb k
  ·have h1:T % 4=0:=or3 hm (by decide) (by decide);rw [show (32:Int).toNat=32 from rfl] at hl hv;have hb: ∀e∈es,0<=e/\e<268435456:=hb;rw [show (2:Int)^32=256^4 from by decide] at hv;rw [W2,if_neg (by decide),if_neg (by decide),n22 (by exact fk s!"h-8zABh32yCDh32zDGhxl32Gl8Bo8xal4Cn4A" [] [_,_,_,_,_] rfl ht hkl hl (qd1 _ 32)),hv,Int.pow_mul,v16 (by decide) (fun e he=>⟨(hb e he).1,Int.lt_trans (hb e he).2 (by decide)⟩) k];have:=e28 hb (by decide) k;exact Int.emod_eq_of_lt this.1 this.2
 unfold Q4;have hn:t.length*8 / ki.toNat=es.length:=by rw [ht,hl,Nat.mul_comm]
 rw [hn];refine List.ext_getElem (by simp) fun i h1 h2=>?_;rw [List.getElem_map,List.getElem_range,key i h2,w0,o5 h2,Option.getD_some]
theorem j41 (k:Nat) (b:List UInt8):(List.replicate (k+1) b).flatten=(List.replicate k b).flatten++b:=by
 rw [List.replicate_succ',List.flatten_append];simp
theorem k18 (k:Nat) (b:List UInt8):(List.replicate k b).flatten.length=k*b.length:=by
 rw [List.length_flatten,List.map_replicate,List.sum_replicate_nat]
theorem o51 {pre m z b:List UInt8} {F T:Nat} (hF:pre.length=F) (hb:b.length=T): ∀k,k*T<=m.length->fl (pre++m++z) F T b k=pre++(List.replicate k b).flatten++(m.drop (k*T)++z)
 | 0,_=>by simp [fl]
 | k+1,h=>by
  rw [Nat.succ_mul] at h;have hA:(pre++(List.replicate k b).flatten).length=F+k*T:=by rw [w6,k18,hF,hb]
  rw [fl,o51 hF hb k (by exact fk s!"hzABhxaCBDoxCD" [] [_,_,_,_] rfl hb h),n42 (by rw [w6,hA,w6,List.length_drop,hb];(exact fk s!"hxaABCh-zaDACoxaaGABaaGAaDH" [] [_,_,_,_,_,_] rfl h (n0 (fk s!"hzABhxaCBDoxCD" [] [_,_,_,_] rfl hb h)))),hb];rw [List.take_append_of_le_length (by exact fk s!"h-zAaBCoxaBCA" [] [_,_,_] rfl hA),List.take_of_length_le (by exact Nat.le_of_eq hA),show F+k*T+T=(pre++(List.replicate k b).flatten).length+T from by (exact fe (.h (-1) (.e (.v 0) (.a (.v 1) (.v 2))) <| .o 1 (.e (.a (.a (.v 1) (.v 2)) (.v 3)) (.a (.v 0) (.v 3)))) [] [_,_,_,_] rfl hA),List.drop_length_add_append,j41];rw [List.drop_append_of_le_length (by rw [List.length_drop];(exact fk s!"hxaABCh-zaDACoxBD" [] [_,_,_,_] rfl h (n0 (fk s!"hzABhxaCBDoxCD" [] [_,_,_,_] rfl hb h)))),List.drop_drop,Nat.succ_mul];simp only [List.append_assoc]
structure Sh (d pre m z:List UInt8) (F T k:Nat):Prop where
 eq:d=pre++m++z
 pl:pre.length=F
 ml:m.length=k*T
theorem Sh.fl {d pre m z b:List UInt8} {F T k:Nat} (s:Sh d pre m z F T k) (hb:b.length=T):fl d F T b k=pre++(List.replicate k b).flatten++z:=by
 rw [s.eq,o51 s.pl hb k (by rw [s.ml];exact Nat.le_refl _),List.drop_of_length_le (by rw [s.ml];exact Nat.le_refl _),List.nil_append]
theorem Sh.rep {d pre m z b:List UInt8} {F T k:Nat} (s:Sh d pre m z F T k) (hb:b.length=T):Sh (pre++(List.replicate k b).flatten++z) pre (List.replicate k b).flatten z F T k:=⟨rfl,s.pl,by rw [k18,hb]⟩
theorem Sh.tab {d pre m z:List UInt8} {F T k:Nat} (s:Sh d pre m z F T k) (hk:0<k):(d.drop F).take T=m.take T:=by
 rw [s.eq,List.append_assoc,show F=pre.length+0 from s.pl.symm,List.drop_length_add_append,List.drop_zero,List.take_append_of_le_length];rw [s.ml];exact Nat.le_mul_of_pos_left _ hk
theorem Sh.slot {d pre m z:List UInt8} {F T k n:Nat} (s:Sh d pre m z F T k):(d.drop (F+k*T)).take n=z.take n:=by
 rw [s.eq,show F+k*T=(pre++m).length+0 from by rw [w6,s.pl,s.ml];rfl,List.drop_length_add_append];rfl
theorem Sh.len {d pre m z:List UInt8} {F T k:Nat} (s:Sh d pre m z F T k):d.length=F+k*T+z.length:=by
 rw [s.eq,w6,w6,s.pl,s.ml]
theorem k29 {k:Nat} {b:List UInt8} (hk:0<k):(List.replicate k b).flatten.take b.length=b:=by
 obtain ⟨j,rfl⟩: ∃j,k=j+1:=⟨k-1,by (exact r0 (fk s!"h-zaAn1BoxBaAn1" [] [_,_] rfl (n0 (fk κ8 [] [_] rfl hk))) (Nat.le_of_eq (n0 (fk κ8 [] [_] rfl hk))))⟩;rw [List.replicate_succ,List.flatten_cons,List.take_append_of_le_length (Nat.le_refl _),List.take_length]
section
variable {ki tb ah of se sz no:Int} {T F k:Nat} {es:List Int}
theorem KOk.ofE (hk:K3 ki) (hb: ∀e∈es,0<=e/\e<eB ki):KOk ki es:=by
 rcases hk with rfl | rfl | rfl
 ·exact .inl ⟨rfl,hb⟩
 ·exact .inr (.inl ⟨rfl,hb⟩)
 ·exact .inr (.inr ⟨rfl,fun e he=>⟨(hb e he).1,Int.lt_trans (hb e he).2 (by decide)⟩⟩)
structure Tab (ki:Int) (T:Nat) (es:List Int):Prop where
 k3:K3 ki
 len:es.length=8*T / ki.toNat
 bd: ∀e∈es,0<=e/\e<eB ki
 root:ki=32->es.getD 2 0=268435455
 md:ki=12/\T % 3=2/\5<=T\/ki=16/\T % 2=0\/ki=32/\T % 4=0/\12<=T
 T0:4<=T/\T<=100
theorem Tab.ko (h:Tab ki T es):KOk ki es:=KOk.ofE h.k3 h.bd
theorem Tab.md' (h:Tab ki T es):ki=12/\T % 3=2\/ki=16/\T % 2=0\/ki=32/\T % 4=0:=h.md.imp (fun x=>⟨x.1,x.2.1⟩) fun x=>x.imp id fun x=>⟨x.1,x.2.1⟩
theorem Tab.two (h:Tab ki T es):1<es.length/\es.length<=256:=by
 have h1:=h.len;have h2:=h.T0;rcases h.md with ⟨e,a,b⟩ | ⟨e,a⟩ | ⟨e,a,b⟩<;>rw [e] at h1
 ·rw [show (12:Int).toNat=12 from rfl] at h1;(exact ⟨fk s!"h-12zABh8xn4Chyl8Cal12Bn12o12yn1A" [] [_,_,_] rfl h1 h2.1 (qd2 _ 12 rfl),fk s!"h12zABh8xCn100hxl12Bl8Co12xAn256" [] [_,_,_] rfl h1 h2.2 (qd1 _ 12)⟩)
 ·rw [show (16:Int).toNat=16 from rfl] at h1;(exact ⟨fk s!"h-16zABh8xn4Chyl8Cal16Bn16o16yn1A" [] [_,_,_] rfl h1 h2.1 (qd2 _ 16 rfl),fk s!"h16zABh8xCn100hxl16Bl8Co16xAn256" [] [_,_,_] rfl h1 h2.2 (qd1 _ 16)⟩)
 ·rw [show (32:Int).toNat=32 from rfl] at h1;(exact ⟨fk s!"h-32zABh8xn12Chyl8Cal32Bn32o32yn1A" [] [_,_,_] rfl h1 b (qd2 _ 32 rfl),fk s!"h32zABh8xCn100hxl32Bl8Co32xAn256" [] [_,_,_] rfl h1 h2.2 (qd1 _ 32)⟩)
theorem Tab.tbl (h:Tab ki T es):leV (Q3 ki es)=pk (2^ki.toNat) es/\(Q3 ki es).length=T:=n51 h.ko h.len h.md'
theorem Tab.le (h:Tab ki T es):leB T (pk (2^ki.toNat) es)=Q3 ki es:=by
 rw [<-h.tbl.1];have:=t35 (Q3 ki es)
 rwa [h.tbl.2] at this
theorem Tab.num (h:Tab ki T es):0<=pk (2^ki.toNat) es/\pk (2^ki.toNat) es<256^T:=by
 rw [<-h.tbl.1];have:=z28 (Q3 ki es);rw [h.tbl.2] at this;exact ⟨k14 _,this⟩
theorem Tab.ents (h:Tab ki T es):Q4 ki (Q3 ki es)=es:=z46 h.k3 h.bd h.len h.md' h.tbl.2 h.tbl.1
theorem Tab.mark (h:Tab ki T es):Tab ki T (mkE ki es) where
 k3:=h.k3
 len:=by rw [m22];exact h.len
 bd e he:=by
  unfold mkE at he
  split at he
  ·exact h.bd e he
  ·rcases List.mem_or_eq_of_mem_set he with he | rfl
   ·exact h.bd e he
   ·have b:=o42 (m:=if ki=16 then 32768 else 134217728) (e:=es.getD 1 0) (by split<;>simp) (h.bd _ (n12 h.two.1)).1;exact ⟨b.1,Int.lt_of_le_of_lt b.2 (h.bd _ (n12 h.two.1)).2⟩
 root e:=by
  unfold mkE;rw [if_neg (by rw [e];decide),w0,List.getElem?_set_ne (by decide),<-w0];exact h.root e
 md:=h.md
 T0:=h.T0
theorem Tab.chn (h:Tab ki T es) (e:ki=32):Chn (M3 ki) es 2 [2]:=by
 have h1:=h.len;have hT:12<=T:=by
  rcases h.md with ⟨z,_⟩ | ⟨z,_⟩ | ⟨_,_,z⟩
  ·rw [e] at z;cases z
  ·rw [e] at z;cases z
  ·exact z
 rw [e,show (32:Int).toNat=32 from rfl] at h1;have h2:=h.root e;refine .eoc (by decide) (by exact fk s!"h-32zABh8xn12Chyl8Cal32Bn32o32Sn2wA" [] [_,_,_] rfl h1 hT (qd2 _ 32 rfl)) ?_ ?_
 ·show M3 ki+9<=es.getD 2 0;rw [h2,e];decide
 ·show es.getD 2 0<=M3 ki+16;rw [h2,e];decide
theorem Tab.K17 (h:Tab ki T es) {fs:List Int} (s:H13 ki es fs):Tab ki T fs where
 k3:=h.k3
 len:=by rw [s.len];exact h.len
 bd:=s.bd
 root e:=by
  rw [<-h.root e];have:=congrArg (fun l:List Int=>l.getD 2 0) s.fst;simp only [w0,List.getElem?_take] at this⊢;exact this
 md:=h.md
 T0:=h.T0
end
variable {X:Cx} {c:Cf} {σ:St} {E:Nat->St->Prop} {Q:AV->St->Prop} {n:Nat} {H:Nat->Option W0} {L:NS} {p:Nat}
noncomputable def N16:List (Int×AV):=[(12,.int 0),(16,.int 32768),(32,.int 134217728)]
theorem v37 (R:Row X) (hn:c.n=n+1) (h: ∀q,H q=none->Q (.ref q) ⟨upd H q (.dictI N16),L⟩):P0 X c (.ref 947) [] [] Q E ⟨H,L⟩:=by
 refine w10 R (k32 R) hn (m32 R) fun c' h1 h2 h3 h4=>?_;walk_at "R";exact c12 (upA (h _ (by assumption)))
theorem m13 (R:Row X) {m:Nat} {ns:List Int} {k M:Int} (hm:Base X m (.list (ns.map .int))) (hz:ns.length<=64) (hn:c.n=n+1) (hk:0<=k/\k<=1000) (hM:0<M/\M<=4294967296) (h: ∀v,0<=v/\v<M->Q (.int v) ⟨H,L⟩):P0 X c (.ref 954) [.ref m,.int k,.int M] [] Q E ⟨H,L⟩:=by
 refine w10 R (b37 R) hn (c37 R) fun c' h1 h2 h3 h4=>?_;have hml:(ns.map AV.int).length=ns.length:=a7 _;walk_at "R";refine e27 (.inr hm) (by exact fk s!"hxAn64hzBAoxBn16777216" [] [_,_] rfl hz hml) ?_;rw [hml];refine w38 (fun e=>?_) (fun e=>?_)
 ·have z:0<ns.length:=Nat.pos_of_ne_zero (by simpa using e);have f:=fm (x:=k) (k:=(ns.length:Int)) (by exact fk s!"hyn0AoSn0wA" [] [_] rfl z);walk_at "R";refine f29 (.inr hm) (by exact fk s!"hxAn64hzBAoxBn1099511627776" [] [_,_] rfl hz hml) ?_;rw [hml];walk_at "R";refine f27 (a:= .int (ns.getD (k.fmod ns.length).toNat 0)) (.inr hm) ⟨f.1,by omega⟩ (by rw [List.getElem?_map,w0,o5 (by omega)];rfl) ?_;walk_at "R";refine f29 (.inr hm) (by exact fk s!"hxAn64hzBAoxBn1099511627776" [] [_,_] rfl hz hml) ?_;rw [hml];walk_at "R";exact c12 (upA (h _ (fm hM.1)))
 ·walk_at "R";exact c12 (upA (h _ (fm hM.1)))
theorem pow_mul {ki:Int} (hk:K3 ki) (i:Nat):(2:Int)^(ki*(i:Int)).toNat=(2^ki.toNat)^i/\0<=ki*(i:Int)/\ki*(i:Int)<=32*i:=by
 rcases hk with rfl | rfl | rfl
 ·rw [show (12*(i:Int)).toNat=12*i from by (exact fe (.h 1 (.E (.w (.v 0)) (.l 12 (.w (.v 1)))) <| .o 1 (.e (.v 0) (.l 12 (.v 1)))) [] [_,_] rfl (y5 (fk s!"oLn0l12wA" [] [_] rfl))),Int.pow_mul];exact ⟨rfl,by (exact fk s!"oLn0l12wA" [] [_] rfl),by (exact fk s!"oLl12wAl32wA" [] [_] rfl)⟩
 ·rw [show (16*(i:Int)).toNat=16*i from by (exact fe (.h 1 (.E (.w (.v 0)) (.l 16 (.w (.v 1)))) <| .o 1 (.e (.v 0) (.l 16 (.v 1)))) [] [_,_] rfl (y5 (fk s!"oLn0l16wA" [] [_] rfl))),Int.pow_mul];exact ⟨rfl,by (exact fk s!"oLn0l16wA" [] [_] rfl),by (exact fk s!"oLl16wAl32wA" [] [_] rfl)⟩
 ·rw [show (32*(i:Int)).toNat=32*i from by (exact fe (.h 1 (.E (.w (.v 0)) (.l 32 (.w (.v 1)))) <| .o 1 (.e (.v 0) (.l 32 (.v 1)))) [] [_,_] rfl (y5 (fk s!"oLn0l32wA" [] [_] rfl))),Int.pow_mul];exact ⟨rfl,by (exact fk s!"oLn0l32wA" [] [_] rfl),by (exact fk s!"oLl32wAl32wA" [] [_] rfl)⟩
set_option tactic.hygienic true in
theorem j25 (R:Row X) {l T:Nat} {ki:Int} {es:List Int} (tab:Tab ki T es) (hn:c.n=n+1) (hh:c.hd=none) (hl:H l=some (.list (es.map .int))) (h:Q (.bytes (Q3 ki es)) ⟨H,L⟩):P0 X c (.ref 961) [.int ki,.ref l,.int T] [] Q E ⟨H,L⟩:=by
 refine w10 R (d37 R) hn (e37 R) fun c' h1 h2 h3 h4=>?_;have hh':c'.hd=none:=h4.trans hh;have two:=tab.two;walk_at "R";rw [a7];walk_at "R";rename_i q hq;refine m24 (N:=es.length) (fun i H' L'=>H'=H/\L'=[(`whole,.int (pk (2^ki.toNat) (es.take i))),(`size,.int T),(`entries,.ref l),(`kind,.int ki)]) (i10 _ _ _) rfl (by exact fk s!"hxAn256oxAn1000000000" [] [_] rfl two.2) hh' s!"-gp" s!"-lp" ⟨rfl,rfl⟩ (fun i H' L' a j ha=>?_) (fun it i H' L' hit hit' hlt j=>?_) fun H' L' j=>?_
 ·obtain ⟨rfl,_⟩:=j;exact (l10 ha).2
 ·obtain ⟨rfl,rfl⟩:=j;obtain ⟨p1,p2,p3⟩:=pow_mul tab.k3 i;have hb:=tab.bd _ (n12 hlt);have hB:=(m51 tab.k3).2.1;walk_at "R";refine w11 (a:= .int (es.getD i 0)) s!"-hp" (by omega) (by rw [List.getElem?_map,Int.toNat_natCast,o5 hlt,w0,o5 hlt];rfl) ?_;walk_at "R";rw [show pk (2^ki.toNat) (es.take i)+es.getD i 0*2^(ki*(i:Int)).toNat=pk (2^ki.toNat) (es.take (i+1)) from by rw [p1,d28 hlt,i29,List.length_take,j6 (Nat.le_of_lt hlt),Int.mul_comm]];exact z10 (d29 ⟨rfl,rfl⟩ hlt)
 ·obtain ⟨rfl,rfl⟩:=j;rw [List.take_length];walk_at "R";refine c15 rfl (by have:=tab.T0;(exact fk s!"hxAn100oxAn16777216" [] [_] rfl this.2)) tab.num ?_;rw [tab.le];walk_at "R";exact c12 (upA h)
end Mine
namespace Mine
variable {X:Cx} {c:Cf} {σ:St} {E:Nat->St->Prop} {Q:AV->St->Prop} {n:Nat} {H:Nat->Option W0} {L:NS} {p:Nat}
variable {ki tb ah of se sz no:Int}
structure POk (ki tb ah of se sz:Int):Prop where
 k3:K3 ki
 se:12<=se/\se<=38
 sz:1<=sz/\sz<=2
 tb:1<=tb/\tb<=3
 ah:1<=ah/\ah<=3
 of:0<=of/\of<=6
noncomputable def Q6 (ki tb ah se sz no:Int):NS:=[(`BPB_BytsPerSec,.int se),(`BPB_SecPerClus,.int 1),(`BPB_RsvdSecCnt,.int ah),(`BPB_NumFATs,.int tb),(`BPB_RootEntCnt,.int (if ki=32 then 0 else 1)),(`BPB_TotSec16,.int (if ki=12 then 4000 else 9000)),(`BPB_TotSec32,.int 0),(`BPB_FATSz16,.int (if ki=32 then 0 else sz)),(`BPB_FATSz32,.int sz),(`BPB_RootClus,.int 2),(`BS_Reserved1,.int no)]
theorem I16 {t:Int}:Hd5 (Q6 ki t ah se sz no) se 1 ah t (if ki=32 then 0 else 1) (if ki=12 then 4000 else 9000) 0 (if ki=32 then 0 else sz) sz no:=⟨rfl,rfl,rfl,rfl,rfl,rfl,rfl,rfl,rfl,rfl⟩
theorem H14 {t x:Int}:Hd5 (put (Q6 ki t ah se sz no) `BS_Reserved1 (.int x)) se 1 ah t (if ki=32 then 0 else 1) (if ki=12 then 4000 else 9000) 0 (if ki=32 then 0 else sz) sz x:=⟨rfl,rfl,rfl,rfl,rfl,rfl,rfl,rfl,rfl,rfl⟩
theorem x55 (h:POk ki tb ah of se sz):(if (if ki=32 then (0:Int) else sz)=0 then sz else (if ki=32 then 0 else sz))=sz:=by
 by_cases k:ki=32
 ·rw [if_pos k,if_pos rfl]
 ·rw [if_neg k];split<;>rfl
theorem y55 (h:POk ki tb ah of se sz):Z3 (if (if ki=12 then (4000:Int) else 9000)=0 then 0 else (if ki=12 then 4000 else 9000)) ah tb sz 0 1 (if ki=32 then 0 else sz) sz=ki:=by
 obtain ⟨b1,b2⟩:=h.sz;have b3:=h.ah;have b4:0<=tb*sz/\tb*sz<=3*2:=⟨Int.mul_nonneg (by have:=h.tb;(exact fk κ0 [_] [] rfl this.1)) (by exact fk κ0 [_] [] rfl b1),Int.mul_le_mul h.tb.2 b2 (by exact fk κ0 [_] [] rfl b1) (by exact fk s!"oLn0n3" [] [] rfl)⟩;unfold Z3;rw [Int.fdiv_one];rcases h.k3 with rfl | rfl | rfl
 ·show (if sz=0 then _ else if 4085<=(4000-(ah+tb*sz+0):Int) then (16:Int) else 12)=12;rw [if_neg (by exact fun q6=>fk s!"hLn1AhEAn0o0F" [_] [] rfl b1 q6),if_neg (by exact fun q6=>fk s!"hLn1AhLn0BhLn4085mn4000aaABn0o0F" [_,_] [] rfl b3.1 b4.1 q6)]
 ·show (if sz=0 then _ else if 4085<=(9000-(ah+tb*sz+0):Int) then (16:Int) else 12)=16;rw [if_neg (by exact fun q6=>fk s!"hLn1AhEAn0o0F" [_] [] rfl b1 q6),if_pos (by exact fk s!"hLAn3hLBl3n2oLn4085mn9000aaABn0" [_,_] [] rfl b3.2 b4.2)]
 ·show (if sz=0 then _ else (32:Int))=32;rw [if_neg (by exact fun q6=>fk s!"hLn1AhEAn0o0F" [_] [] rfl b1 q6)]
structure VOk (ki tb ah of se sz:Int) (d t:List UInt8) (es:List Int) (w:Bool) (F T k:Nat):Prop where
 po:POk ki tb ah of se sz
 hk:tb=k
 ht:slc d (some (ah*se+of)) (some (ah*se+of+se*sz))=t
 tl:t.length=T
 hes:Q4 ki t=es
 hel:1<es.length/\es.length<=100000
 hko:KOk ki es
 hF:ah*se+of=F
 hS:se*sz=T
 hb:ki≠12->(Q3 ki (mkE ki es)).length=T
 hm:ki=12/\T % 3=2\/ki=16/\T % 2=0\/ki=32/\T % 4=0
 hFd:F+k*T<=d.length
 hz:d.length<=1000000
 h32:ki=32->Chn (M3 ki) (L11 w ki es) 2 [2]
 hs:slc (dOf w ki es d F T k) (some (((F+k*T:Nat):Int))) (some (((F+k*T:Nat):Int)+32))=List.replicate 32 0
 hdz:(dOf w ki es d F T k).length<=16777216
theorem w37 (R:Row X): ∃o,X.h₀.get? 1=some o:=⟨boot_o_1 X.w.params,X.inK _ _ (by rw [R.k];kernel_rfl)⟩
theorem k41 {H:Nat->Option W0} {a:Nat} {o:W0} (h:H a=some o):upd H a o=H:=by
 funext b;by_cases e:b=a
 ·rw [e,i10,h]
 ·exact c11 _ _ e
set_option tactic.hygienic true in
theorem x37 (R:Row X) (hZ:X.Z=true) {d t:List UInt8} {es:List Int} {w:Bool} {F T k:Nat} (hn:c.n=n+1+1+1+1+1+1+1+1+1) (hh:c.hd=none) (hp:H p=some (.dictS (Q6 ki tb ah se sz no))) (S:VOk ki tb ah of se sz d t es w F T k)
  (h: ∀q x y B tt a' V',Fr5 H q x y B tt->J9 V' y q B of sz ki w ibm->Q (.ref tt) ⟨upd (upd (upd (upd (upd H q (.dictS (K11 w (Q6 ki tb ah se sz no) no))) y (Oc (dOf w ki es d F T k) w a')) x (.inst 936 (PF.ns V'))) B (.list ((L11 w ki es).map .int))) tt (.tuple [.ref x,.ref y]),L⟩):P0 X c (.ref 968) [.ref p,.bytes d,.int of,.bool w] [] Q E ⟨H,L⟩:=by
 refine w10 R (x27 R) hn (y27 R) fun c' h1 h2 h3 h4=>?_;have hh':c'.hd=none:=h4.trans hh;walk_at "R";refine w55 R h1 fun x dd hx=>?_;walk_at "R";rename_i q nq hq;have pxp:Ap x p:=⟨(i11 hx hp).symm⟩;have pqp:Ap q p:=⟨(i11 hq hp).symm⟩;generalize hD:Q6 ki tb ah se sz no=D at hp h;have nd:(D.map (·.1)).Nodup:=by rw [<-hD];exact r11 s!"."
 have dl:D.length<=900:=by rw [<-hD];exact Nat.le_of_ble_eq_true rfl
 refine e31 (es:=D) s!"-hp" (w37 R) hh' (fun it ep i σ=>H it=none/\Ap it x/\Ap it q/\Ap it p/\σ=⟨upd (upd (upd (upd H x (.inst 936 (ini of (.ref q) dd))) p (.dictK D ep)) q (.dictS (D.take i))) it (.keyIter p i D.length ep),[(`volume,.ref x),(`may_write,.bool w),(`image,.bytes d),(`header,.ref p)]⟩) (fun it ep hit=>?_) (fun it ep i σ hJ=>?_) (fun it ep i k v H' L' hit hkv hJ=>?_) fun it ep H' L' hit hJ=>?_
 ·have g1:H it=none:=by walk_at "nx"
  have g2:Ap it x:=by walk_at "na"
  have g3:Ap it q:=⟨(l10 (l10 hit).2).1.ne⟩;have g4:Ap it p:=⟨(i11 g1 hp).symm⟩;exact r12 (σ':=⟨upd (upd (upd (upd H x (.inst 936 (ini of (.ref q) dd))) p (.dictK D ep)) q (.dictS (D.take 0))) it (.keyIter p 0 D.length ep),[(`volume,.ref x),(`may_write,.bool w),(`image,.bytes d),(`header,.ref p)]⟩) s!"-gp0" s!"-lp0" ⟨g1,g2,g3,g4,rfl⟩
 ·obtain ⟨g1,g2,g3,g4,rfl⟩:=hJ;exact ⟨i10 _ _ _,by walk_at "hp"⟩
 ·obtain ⟨g1,g2,g3,g4,e⟩:=hJ;walk_at "S";obtain ⟨e1,e2⟩:=o40 nd hkv;have dl2:(D.take i).length<=900:=Nat.le_trans (List.length_take_le' ..) dl;have hi:i<D.length:=(List.getElem?_eq_some_iff.mp hkv).1;walk_at "R";refine i27 s!"-hp" e2 ?_;walk_at "R";rw [e1];exact z10 (l12 (σ':=⟨upd (upd (upd (upd H x (.inst 936 (ini of (.ref q) dd))) p (.dictK D ep)) q (.dictS (D.take (i+1)))) it (.keyIter p (i+1) D.length ep),[(`volume,.ref x),(`may_write,.bool w),(`image,.bytes d),(`header,.ref p)]⟩) hi s!"-gp0" s!"-lp0" ⟨g1,g2,g3,g4,rfl⟩)
 ·obtain ⟨g1,g2,g3,g4,e⟩:=hJ;walk_at "S";rw [q11 s!"-hp",List.take_length];clear hit g1 g2 g3 g4 e nd dl;walk_at "R";refine c_O R h1 fun y hy=>?_;walk_at "R";subst hD;obtain ⟨po,hk,ht,tl,hes,hel,hko,hF,hS,hb,hm,hFd,hz,h32,hs,hdz⟩:=S;obtain ⟨p1,p2⟩:=po.se;obtain ⟨p3,p4⟩:=po.sz;have pa:=po.ah;have pt:=po.tb;have gx:H x=none:=hx;have gq:H q=none:=hq;have gy:H y=none:=by walk_at "nx"
  have pyx:Ap y x:=by walk_at "na"
  have pyq:Ap y q:=⟨(l10 (l10 hy).2).1.ne⟩;have pyp:Ap y p:=⟨(l10 hy).1.ne⟩;have m1:0<=sz*tb/\sz*tb<=2*3:=⟨Int.mul_nonneg (by exact fk κ0 [_] [] rfl p3) (by exact fk κ0 [_] [] rfl pt.1),Int.mul_le_mul p4 pt.2 (by exact fk κ0 [_] [] rfl pt.1) (by exact fk s!"oLn0n2" [] [] rfl)⟩;have m2:tb*sz=sz*tb:=Int.mul_comm _ _;have m3:0<(ah+sz*tb)*se:=Int.mul_pos (by exact fk s!"hLn1AhLn0BoSn0aAB" [_,_] [] rfl pa.1 m1.1) (by exact fk s!"hLn12AoSn0A" [_] [] rfl p1);have m4:(ah+sz*tb)*se<=9*38:=Int.mul_le_mul (by exact fk s!"hLAn3hLBl2n3oLaABn9" [_,_] [] rfl pa.2 m1.2) p2 (by exact fk s!"hLn12AoLn0A" [_] [] rfl p1) (by decide);have eA:(ah+sz*tb)*se+of=((F+k*T:Nat):Int):=by
   have:sz*tb*se=(k:Int)*T:=by rw [<-hS,<-hk,Int.mul_comm sz tb,Int.mul_assoc,Int.mul_comm sz se]
   rw [Int.add_mul,this,Int.natCast_add,Int.natCast_mul,<-hF];(exact t0 (fk κ6 [_,_,_] [] rfl) (fk κ6 [_,_,_] [] rfl))
  refine x46 (a:=0) (V:=⟨0,of,0,q,.none,0,0,0,0,0,0,dd,false,.str ibm,true,true⟩) (D:=Q6 ki tb ah se sz no) (t:=t) (st:=List.replicate 32 0) (es:=es) (F:=F) (T:=T) (k:=k) (cl:=2) (rs:=((if ki=32 then 0 else 1)*32+(se-1)).fdiv se) (b:=(ah+sz*tb)*se) (enc:=ibm) R hZ ⟨I16,?_,?_,?_,rfl,rfl,⟨hk,by (exact fk s!"h-EAwAhLAn3oxAn1000" [_] [_] rfl hk pt.2)⟩,by decide,by (exact ⟨fk s!"hLn12AoSn0A" [_] [] rfl p1,fk s!"hLAn38oLAn10000" [_] [] rfl p2⟩),?_,rfl,x55 po,y55 po,by (exact ⟨fk κ0 [_] [] rfl p3,fk s!"hLAn2oLAn100000" [_] [] rfl p4⟩),by (exact ⟨fk s!"hLn1AoSn0A" [_] [] rfl pa.1,fk s!"hLAn3oLAn100000" [_] [] rfl pa.2⟩),hz⟩ ?_ h1 hh' (by exact fk s!"hEAwAhLn1Aoyn0A" [_] [_] rfl hk pt.1) ht (by rw [tl,hS]) (by rw [tl];exact hm) hes hel hko hF hS hb hFd (fun z=>?_) (fun z=>?_) ?_ hdz fun B V' a' hB hV=>?_
  ·walk_at "hp"
  ·exact i10 _ _ _
  ·walk_at "hp"
  ·split<;>decide
  ·exact Nat.le_of_ble_eq_true rfl
  ·rw [Int.fdiv_one];refine ⟨m3,by (exact fk s!"hLAl9n38oLAn100000000" [_] [] rfl m4),by (exact fk s!"hLAn3hLBl2n3oSaABn65536" [_,_] [] rfl pa.2 m1.2),by (exact fk s!"hLn1AhLn0BoLn0aAB" [_,_] [] rfl pa.1 m1.1),by (exact fk s!"hLn1AhLn0BoLn0aAB" [_,_] [] rfl pa.1 m1.1),by (exact fk s!"hLAn3hLBl2n3oLaABn100000" [_,_] [] rfl pa.2 m1.2),fun _=>?_⟩;dsimp only;rw [eA];exact ⟨hs,rfl,rfl⟩
  ·have e0:((if ki=32 then (0:Int) else 1)*32+(se-1)).fdiv se=0:=by
    rw [if_pos z,j7 _ (by exact fk s!"hLn12AoLn0A" [_] [] rfl p1),Int.zero_mul,Int.zero_add];exact Int.ediv_eq_zero_of_lt (by exact fk s!"hLn12AoLn0mAn1" [_] [] rfl p1) (by exact fk s!"oSmAn1A" [_] [] rfl)
   rw [e0,m2];refine ⟨by cases w<;>rfl,h32 z,by (exact ⟨fk s!"hLn1AhLn0BoLn0aaABn0" [_,_] [] rfl pa.1 m1.1,fk s!"hLAn3hLBl2n3oLaaABn0n100000" [_,_] [] rfl pa.2 m1.2⟩),by decide,by congr 1;(exact fe (.o 1 (.E (.a (.r (.m (.n 2) (.n 2)) 1) (.a (.a (.v 0) (.v 1)) (.n 0))) (.a (.v 0) (.v 1)))) [_,_] [] rfl),by (exact ⟨fk κ5 [_] [] rfl m3,fk s!"hLAl9n38oLAn100000000" [_] [] rfl m4⟩),?_,rfl,rfl⟩;dsimp only;rw [eA];exact hs
  ·cases w
   ·exact I16
   ·exact H14
  ·have gB:H B=none:=by walk_at "nx"
   have e1:Ap B x:=by walk_at "na"
   have e2:Ap B q:=by walk_at "na"
   have e3:Ap B y:=by walk_at "na"
   have e4:Ap B p:=⟨(i11 gB hp).symm⟩;walk_at "R";rename_i tt t1 t2 t3 t4 t5 t6 t7 t8 t9 htt;dsimp only at htt t4⊢;have h:=h q x y B tt a' V' ⟨gq,gx,gy,gB,htt,nq,⟨pyq.ne.symm⟩,⟨e2.ne.symm⟩,⟨t4.ne.symm⟩,⟨pyx.ne.symm⟩,⟨e1.ne.symm⟩,⟨t2.ne.symm⟩,⟨e3.ne.symm⟩,⟨t3.ne.symm⟩,⟨t1.ne.symm⟩⟩ hV;rw [<-k41 hp] at h;exact c12 (upA h)
end Mine
namespace Mine
variable {ki:Int} {T:Nat} {es:List Int}
noncomputable def clI (ki:Int):Int:=if ki=12 then 0 else if ki=16 then 32768 else 134217728
theorem r42 (hk:K3 ki):N16.lookup ki=some (.int (clI ki)):=by rcases hk with rfl | rfl | rfl<;>rfl
theorem s42 {e:Int} (k:Nat) (h:0<=e/\e<2^(k+1)):0<=Builtin.bitOr e (2^k)/\Builtin.bitOr e (2^k)<2^(k+1):=by
 have hp:(0:Int)<2^k:=Int.pow_pos (by decide);rw [bitOr_and,kbt_bit];rw [Int.pow_succ] at h⊢;generalize (2:Int)^k=b at hp h⊢;have h1:e / b<2:=Int.ediv_lt_of_lt_mul hp (by exact fk s!"hSAr2BoSAl2B" [_,_] [] rfl h.2);have h2:0<=e / b:=Int.ediv_nonneg h.1 (Int.le_of_lt hp);have h3:=Int.mul_ediv_add_emod e b;have h4:=Int.emod_nonneg e (Int.ne_of_gt hp);have h5:=Int.emod_lt_of_pos e hp;obtain z | z:e / b=0\/e / b=1:=by omega
 ·rw [z] at h3⊢;rw [show (0:Int) % 2*b=0 from by simp];(exact ⟨fk s!"hSn0AhLn0BoLn0maBAn0" [_,_] [] rfl hp h.1,fk s!"h-Ear0ABChSBAoSmaCAn0r2A" [_,_,_] [] rfl h3 h5⟩)
 ·rw [z] at h3⊢;rw [show (1:Int) % 2*b=b from by simp];(exact ⟨fk s!"hLn0AoLn0maABB" [_,_] [] rfl h.1,fk s!"hSAr2BoSmaABBr2B" [_,_] [] rfl h.2⟩)
theorem x54 {e:Int} (hk:K3 ki) (h:0<=e/\e<eB ki):0<=Builtin.bitOr e (clI ki)/\Builtin.bitOr e (clI ki)<eB ki:=by
 rcases hk with rfl | rfl | rfl
 ·rw [show clI 12=0 from rfl,bitOr_and,g15];(exact ⟨fk s!"hLn0AoLn0maAn0n0" [_] [] rfl h.1,fk s!"hSABoSmaAn0n0B" [_,_] [] rfl h.2⟩)
 ·exact s42 15 h
 ·exact s42 27 h
theorem y37 {e:Int} (k:Nat) (h:0<=e/\e<2^(k+1)):Builtin.bitAnd e (2^k-1)=clr (2^k) e:=by
 have hp:(0:Int)<2^k:=Int.pow_pos (by decide);rw [kbt_mask,f42 h.1];rw [Int.pow_succ] at h;generalize (2:Int)^k=b at hp h⊢;have h1:e / b<2:=Int.ediv_lt_of_lt_mul hp (by exact fk s!"hSAr2BoSAl2B" [_,_] [] rfl h.2);have h2:0<=e / b:=Int.ediv_nonneg h.1 (Int.le_of_lt hp);have h3:=Int.mul_ediv_add_emod e b;obtain z | z:e / b=0\/e / b=1:=by omega
 ·rw [z] at h3⊢;rw [show (0:Int) % 2*b=0 from by simp];(exact fe (.h 1 (.E (.a (.r (.v 0) 0) (.v 1)) (.v 2)) <| .o 1 (.E (.v 1) (.m (.v 2) (.n 0)))) [_,_,_] [] rfl h3)
 ·rw [z] at h3⊢;rw [show (1:Int) % 2*b=b from by simp];(exact fe (.h 1 (.E (.a (.r (.v 0) 1) (.v 1)) (.v 2)) <| .o 1 (.E (.v 1) (.m (.v 2) (.v 0)))) [_,_,_] [] rfl h3)
theorem y54 (tab:Tab ki T es):es.set 1 (Builtin.bitAnd (es.getD 1 0) (eB ki-1-clI ki))=mkE ki es:=by
 have hb:=tab.bd _ (n12 tab.two.1);unfold mkE;rcases tab.k3 with rfl | rfl | rfl
 ·rw [if_pos rfl,show eB 12-1-clI 12=2^12-1 from rfl,kbt_mask,Int.emod_eq_of_lt hb.1 hb.2];refine List.ext_getElem? fun i=>?_;by_cases z:i=1
  ·subst z;rw [List.getElem?_set_self tab.two.1,w0,o5 tab.two.1];rfl
  ·rw [List.getElem?_set_ne (Ne.symm z)]
 ·rw [if_neg (by decide),if_pos rfl];exact congrArg _ (y37 15 hb)
 ·rw [if_neg (by decide),if_neg (by decide)];exact congrArg _ (y37 27 hb)
theorem Tab.set (h:Tab ki T es) {i:Nat} {v:Int} (hi:i≠2) (hv:0<=v/\v<eB ki):Tab ki T (es.set i v) where
 k3:=h.k3
 len:=by rw [List.length_set];exact h.len
 bd e he:=by
  rcases List.mem_or_eq_of_mem_set he with he | rfl
  ·exact h.bd e he
  ·exact hv
 root e:=by
  rw [w0,List.getElem?_set_ne hi,<-w0];exact h.root e
 md:=h.md
 T0:=h.T0
theorem z55 (hk:K3 ki):12<=ki/\ki<=32:=by rcases hk with rfl | rfl | rfl<;>decide
theorem p51 {T:Nat} (hk:K3 ki):((T:Int)*8).fdiv ki=((8*T / ki.toNat:Nat):Int):=by
 rcases hk with rfl | rfl | rfl
 ·rw [j7 _ (by decide),show (12:Int).toNat=12 from rfl];(exact t0 (fk s!"hLl12Ar8wAhyl8Aal12Bn12o12LAwB" [_] [_,_] rfl (Qd1 _ 12 rfl) (qd2 _ 12 rfl)) (fk s!"hSr8wAal12An12hxl12Bl8Ao12LwBA" [_] [_,_] rfl (Qd2 _ 12 rfl) (qd1 _ 12)))
 ·rw [j7 _ (by decide),show (16:Int).toNat=16 from rfl];(exact t0 (fk s!"hLl16Ar8wAhyl8Aal16Bn16o16LAwB" [_] [_,_] rfl (Qd1 _ 16 rfl) (qd2 _ 16 rfl)) (fk s!"hSr8wAal16An16hxl16Bl8Ao16LwBA" [_] [_,_] rfl (Qd2 _ 16 rfl) (qd1 _ 16)))
 ·rw [j7 _ (by decide),show (32:Int).toNat=32 from rfl];(exact t0 (fk s!"hLl32Ar8wAhyl8Aal32Bn32o32LAwB" [_] [_,_] rfl (Qd1 _ 32 rfl) (qd2 _ 32 rfl)) (fk s!"hSr8wAal32An32hxl32Bl8Ao32LwBA" [_] [_,_] rfl (Qd2 _ 32 rfl) (qd1 _ 32)))
structure M13 (ki:Int) (T:Nat):Prop where
 md:ki=12/\T % 3=2/\5<=T\/ki=16/\T % 2=0\/ki=32/\T % 4=0/\12<=T
 lo:12<=T
 hi:T<=72
 l32:ki=32->24<=T
theorem a47 {u:Nat} (h:u<9):M13 12 (14+3*u):=⟨.inl ⟨rfl,Nat.add_mul_mod_self_left 14 3 u,by (exact fk s!"oxn5an14l3A" [] [_] rfl)⟩,by (exact fk s!"oxn12an14l3A" [] [_] rfl),by (exact fk s!"h3yAn9oxan14l3An72" [] [_] rfl h),fun z=>absurd z (by decide)⟩
theorem q51 {u s:Nat} (h:u<7) (hs:ki=32/\s=2\/ki=16/\(s=1\/s=2)):M13 ki ((12+4*u)*s):=by
 rcases hs with ⟨rfl,rfl⟩ | ⟨rfl,hs⟩
 ·rw [show (12+4*u)*2=4*(6+2*u) from by (exact fe (.o 1 (.e (.r (.a (.n 12) (.l 4 (.v 0))) 2) (.l 4 (.a (.n 6) (.l 2 (.v 0)))))) [] [_] rfl)];exact ⟨.inr (.inr ⟨rfl,Nat.mul_mod_right 4 _,by (exact fk s!"oxn12l4an6l2A" [] [_] rfl)⟩),by (exact fk s!"oxn12l4an6l2A" [] [_] rfl),by (exact fk s!"h8yAn7oxl4an6l2An72" [] [_] rfl h),fun _=>by (exact fk s!"oxn24l4an6l2A" [] [_] rfl)⟩
 ·have h3:s<=2/\1<=s:=hs.elim (fun z=>by rw [z];decide) fun z=>by rw [z];decide
  have h1:(12+4*u)*s<=36*2:=Nat.mul_le_mul (by exact fk s!"h4yAn7oxan12l4An36" [] [_] rfl h) h3.1;have h2:12*1<=(12+4*u)*s:=Nat.mul_le_mul (by exact fk s!"oxn12an12l4A" [] [_] rfl) h3.2;exact ⟨.inr (.inl ⟨rfl,by rw [show 12+4*u=2*(6+2*u) from by (exact fe (.o 1 (.e (.a (.n 12) (.l 4 (.v 0))) (.l 2 (.a (.n 6) (.l 2 (.v 0)))))) [] [_] rfl),Nat.mul_assoc];exact Nat.mul_mod_right 2 _⟩),h2,h1,fun z=>absurd z (by decide)⟩
theorem M13.cnt {T:Nat} (hk:K3 ki) (h:M13 ki T):6<=8*T / ki.toNat/\8*T / ki.toNat<=48:=by
 have h1:=h.lo;have h2:=h.hi;have h3:=h.l32;rcases hk with rfl | rfl | rfl
 ·exact ⟨(Nat.le_div_iff_mul_le (by decide)).mpr (show 6*12<=8*T by (exact fk s!"h8xn12Aoxl6n12l8A" [] [_] rfl h1)),Nat.div_le_of_le_mul (show 8*T<=12*48 by (exact fk s!"h8xAn72oxl8Al12n48" [] [_] rfl h2))⟩
 ·exact ⟨(Nat.le_div_iff_mul_le (by decide)).mpr (show 6*16<=8*T by (exact fk s!"h8xn12Aoxl6n16l8A" [] [_] rfl h1)),Nat.div_le_of_le_mul (show 8*T<=16*48 by (exact fk s!"h8xAn72oxl8Al16n48" [] [_] rfl h2))⟩
 ·have h4:=h3 rfl;exact ⟨(Nat.le_div_iff_mul_le (by decide)).mpr (show 6*32<=8*T by (exact fk s!"h8xn24Aoxl6n32l8A" [] [_] rfl h4)),Nat.div_le_of_le_mul (show 8*T<=32*48 by (exact fk s!"h8xAn72oxl8Al32n48" [] [_] rfl h2))⟩
end Mine
namespace Mine
section
variable {ki tb ah of se sz:Int} {T F k:Nat} {es:List Int} {d pre m z:List UInt8}
noncomputable def zz:List UInt8:=(List.replicate ((4:Int)*39).toNat [(0:UInt8)]).flatten
theorem t42 (s:Sh d pre m z F T k) (tab:Tab ki T es) (w:Bool): ∃m',Sh (dOf w ki es d F T k) pre m' z F T k/\(w=true/\ki≠12->m'=(List.replicate k (Q3 ki (mkE ki es))).flatten)/\(w=false\/ki=12->m'=m/\dOf w ki es d F T k=d):=by
 unfold dOf;cases w with
 | false=>exact ⟨m,s,(fun z=>by cases z.1),fun _=>⟨rfl,rfl⟩⟩
 | true=>
  rw [if_pos rfl];by_cases h:ki=12
  ·rw [if_pos h];exact ⟨m,s,(fun z=>absurd h z.2),fun _=>⟨rfl,rfl⟩⟩
  ·rw [if_neg h,s.fl tab.mark.tbl.2];exact ⟨_,s.rep tab.mark.tbl.2,fun _=>rfl,fun z=>z.elim (fun z=>by cases z) fun z=>absurd z h⟩
theorem v42 (po:POk ki tb ah of se sz) (hk:tb=k) (hF:ah*se+of=F) (tab:Tab ki T es):F<=120/\T<=100/\1<=k/\k<=3/\k*T<=300/\0<T:=by
 have p:=po.se;have a:=po.ah;have b:=po.of;have c:=po.tb;have t:=tab.T0;have m1:ah*se<=3*38:=Int.mul_le_mul a.2 p.2 (by exact fk s!"hLn12AoLn0A" [_] [] rfl p.1) (by decide);have m2:k*T<=3*100:=Nat.mul_le_mul (by exact fk s!"h-EAwAhLAn3oxAn3" [_] [_] rfl hk c.2) t.2
 (exact ⟨fk s!"h-EaABwAhLBn6hLAl3n38oxAn120" [_,_] [_] rfl hF b.2 m1,⟨fk s!"hxAn100oxAn100" [] [_] rfl t.2,⟨fk s!"hEAwAhLn1Aoxn1A" [_] [_] rfl hk c.1,⟨fk s!"h-EAwAhLAn3oxAn3" [_] [_] rfl hk c.2,⟨fk s!"hxAl3n100oxAn300" [] [_] rfl m2,fk s!"hxn4Aoyn0A" [] [_] rfl t.1⟩⟩⟩⟩⟩)
theorem vok (po:POk ki tb ah of se sz) (hk:tb=k) (hF:ah*se+of=F) (hS:se*sz=T) (tab:Tab ki T es) (s:Sh d pre m zz F T k) (hm:m.take T=Q3 ki es) (w:Bool):VOk ki tb ah of se sz d (Q3 ki es) es w F T k:=by
 obtain ⟨n1,n2,n3,n4,n5,n6⟩:=v42 po hk hF tab;have hl:=s.len;have hz:zz.length=156:=rfl;obtain ⟨m',s',_,_⟩:=t42 s tab w;have hl':=s'.len;exact {
  po:=po
  hk:=hk
  ht:=by rw [b18 F T hF (by exact fe (.h 1 (.E (.a (.v 0) (.v 1)) (.w (.v 0))) <| .h 1 (.E (.v 2) (.w (.v 1))) <| .o 1 (.E (.a (.a (.v 0) (.v 1)) (.v 2)) (.w (.a (.v 0) (.v 1))))) [_,_,_] [_,_] rfl hF hS),s.tab (by exact fk s!"hxn1Aoyn0A" [] [_] rfl n3),hm]
  tl:=tab.tbl.2
  hes:=tab.ents
  hel:=⟨tab.two.1,by have:=tab.two.2;(exact fk κ18 [] [_] rfl this)⟩
  hko:=tab.ko
  hF:=hF
  hS:=hS
  hb:=fun _=>tab.mark.tbl.2
  hm:=tab.md'
  hFd:=by (exact fk s!"h-zAaaBCDh-zDn156oxaBCA" [] [_,_,_,_] rfl hl hz)
  hz:=by (exact fk s!"hxAn120hxBn300hzCaaABDhzDn156oxCn1000000" [] [_,_,_,_] rfl n1 n5 hl hz)
  h32:=fun e=>by
   cases w
   ·exact tab.chn e
   ·exact tab.mark.chn e
  hs:=by rw [b18 (F+k*T) 32 rfl (by (exact fe (.o 1 (.E (.a (.w (.a (.v 0) (.v 1))) (.n 32)) (.w (.a (.a (.v 0) (.v 1)) (.n 32))))) [] [_,_] rfl)),s'.slot];rfl
  hdz:=by (exact fk s!"hxAn120hxBn300hzCn156hzDaaABCoxDn16777216" [] [_,_,_,_] rfl n1 n5 hz hl')}
end
variable {X:Cx} {c:Cf} {σ:St} {E:Nat->St->Prop} {Q:AV->St->Prop} {n:Nat} {H:Nat->Option W0} {L:NS} {p:Nat} {V:PF}
theorem b47 (R:Row X) (hn:c.n=n+1+1+1) (hh:c.hd=none) (hp:H p=some (.inst 936 V.ns)) (hr:V.ro=true) (h: ∀x,H x=none->E x ⟨upd H x (.exc (.ref 41) true [(`errno,.int 30)]),L⟩):P0 X c (.ref 692) [.ref p] [] Q E ⟨H,L⟩:=by
 refine w10 R (j13 R) hn (l13 R) fun c' h1 h2 h3 h4=>?_;have hh':c'.hd=none:=h4.trans hh;walk_at "R";refine q54 R h1 fun x hx=>?_;walk_at "R";exact a42 hh' s!"-hp" (by rw [R.k];kernel_rfl) (upB (i10 _ _ _) (h x hx))
theorem x32 (R:Row X) (hn:c.n=n+1+1+1+1) (hh:c.hd=none) (hp:H p=some (.inst 936 V.ns)) (hi:V.init=true) (hr:V.ro=true) (h: ∀x,H x=none->E x ⟨upd H x (.exc (.ref 41) true [(`errno,.int 30)]),L⟩):P0 X c (.ref 824) [.ref p] [] Q E ⟨H,L⟩:=by
 refine w10 R (h18 R) hn (i18 R) fun c' h1 h2 h3 h4=>?_;have hh':c'.hd=none:=h4.trans hh;walk_at "R";refine k15 R h1 hp hi ?_;walk_at "R";exact b47 R h1 hh' hp hr fun x hx=>upB (i10 _ _ _) (h x hx)
theorem c47 {K:KT} {P:PT} {r:List Tr} {vs:List AV} {k F T:Nat} {t pre:List UInt8} (e1:L.lookup `copies=some (.int k)) (e2:L.lookup `behind=some (.bytes zz)) (tl:t.length=T) (hpl:pre.length=F) (hb:1<=k/\k<=3/\0<T/\T<=100/\F<=120) (h:Go (run X c K P r (.bytes (pre++(List.replicate k t).flatten++zz)::vs) ⟨H,L⟩)):
  Go (run X c K P (I.ld `copies::I.bin .Mult::I.bin .Add::I.ld `behind::I.bin .Add::r) (.bytes t:: .bytes pre::vs) (⟨H,L⟩:St)):=by
 have hrl:=k18 k t;have hzz:zz.length=156:=rfl;have m2:k*T<=3*100:=Nat.mul_le_mul hb.2.1 hb.2.2.2.1;rw [tl] at hrl;refine a53 e1 (y41 (x:=t) ⟨fun z=>by rw [z] at tl;exact absurd tl (by show 0≠T;(exact fun q10=>fk s!"hyn0Ah-zn0Ao0F" [] [_] rfl hb.2.2.1 q10)),by (exact fk s!"hxn1AoLgn1048576wA" [] [_] rfl hb.1),by (exact fk s!"hxAn3oLwAn1048576" [] [_] rfl hb.2.1),.inr ⟨by (exact fk s!"hxn1AoLn1wA" [] [_] rfl hb.1),by rw [tl,Int.toNat_natCast,Nat.mul_comm];(exact fk s!"hxAl3n100oxAn16777216" [] [_] rfl m2)⟩⟩ ?_);rw [Int.toNat_natCast];exact t23 (by rw [hpl,hrl];(exact fk s!"hxAn120hxBl3n100oxaABn16777216" [] [_,_] rfl hb.2.2.2.2 m2)) (a53 e2 (t23 (by rw [w6,hpl,hrl,hzz];(exact fk s!"hxAn120hxBl3n100oxaaABn156n16777216" [] [_,_] rfl hb.2.2.2.2 m2)) h))
theorem l41 {ki tb ah se sz no:Int}: ∀p∈Q6 ki tb ah se sz no,∃i,p.2=AV.int i:=by
 unfold Q6
 iterate 11 refine List.forall_mem_cons.mpr ⟨⟨_,rfl⟩,?_⟩
 exact fun _ h=>nomatch h
theorem r51 {ki tb ah se sz no:Int}:((Q6 ki tb ah se sz no).map (·.1)).Nodup:=r11 s!"."
end Mine
namespace Mine
variable {X:Cx} {c:Cf} {σ:St} {E:Nat->St->Prop} {Q:AV->St->Prop} {n:Nat} {H:Nat->Option W0} {L:NS} {p:Nat}
theorem J9.eq {V':PF} {q hdr B:Nat} {off fsz ty:Int} {w:Bool} {enc:Str} (v:J9 V' q hdr B off fsz ty w enc): ∃r:PF,V'=r.mkV q hdr B off fsz ty w:=by
 obtain ⟨rfl,rfl,rfl,h4,h5,rfl,rfl,rfl⟩:=v;exact ⟨V',by unfold PF.mkV;rw [<-h5,<-h4]⟩
set_option tactic.hygienic true in
theorem d47 (R:Row X) (hZ:X.Z=true) {m:Nat} {ns:List Int} (hm:Base X m (.list (ns.map .int))) (hz:ns.length<=64) {A:Around} (a1:A.frames=some []) (a2:A.depth<=400) (a3:A.units<=4000) (a4:A.handled=none) {vs:List Value} (hvs:vs.map ab=[.ref m]) {own:Nat->Option Nat} {s:Shared} (RO:Z0 X own [] (fun _=>none) s):
  K1 X.Z X.M A (.call (.ref 973) ⟨vs,[]⟩) (fun r s'=>match r with | .ok (.ret v)=>ab v= .bool true/\ ∃own H,Z0 X own [] H s' | _=>False) s:=by
 refine j36 (Q:=fun v=>v= .bool true) (n:=0+1+1+1+1+1+1+1+1+1) (s40 R) (v15 R) (t40 R) (v40 R) (fun c' a h1 hh' hks hcs hnd=>?_) a1 (by exact fk s!"hxAn400oxaAl20aaaaaaaaaan0n1n1n1n1n1n1n1n1n1n1n980" [] [_] rfl a2) (by exact fk s!"hxAn4000oxaAl200aaaaaaaaaan0n1n1n1n1n1n1n1n1n1n1n9700" [] [_] rfl a3) a4 hvs RO;clear a1 a2 a3 a4 hvs RO;have hcs:c'.cs=[(`reach,a+1),(`script,a)]:=hcs;have cA:c'.cs.lookup `script=some a:=by rw [hcs];rfl
 have cB:c'.cs.lookup `reach=some (a+1):=by rw [hcs];rfl
 have ab:Ap a (a+1):=⟨by (exact fun q2=>fk κ4 [] [_] rfl q2)⟩;generalize hH:M5 (fun y=>if y=`script then some (AV.ref m) else none) (J1 a k22 []) (fun _=>none)=H;have hA:H a=some (.cell (some (.ref m))):=by rw [<-hH];exact (c11 _ _ ab.ne).trans (i10 _ _ _)
 have hB:H (a+1)=some (.cell none):=by rw [<-hH];exact i10 _ _ _
 clear hH hnd;generalize a+1=b at*;generalize hQ:(fun v (_:St)=>v=AV.bool true)=Q;have h: ∀σ,Q (.bool true) σ:=fun σ=>by rw [<-hQ]
 clear hQ;generalize (fun (_:Nat) (_:St)=>False)=E;have gA: ∀q,H q=none->Ap q a:=fun q hq=>⟨(i11 hq hA).symm⟩;have gB: ∀q,H q=none->Ap q b:=fun q hq=>⟨(i11 hq hB).symm⟩;walk_at "R";rename_i q1 hq1;have r1:=gA _ hq1;have s1:=gB _ hq1;refine m13 R hm hz h1 (by decide) (by decide) fun v0 hv0=>?_;obtain ⟨u0,rfl⟩:=Int.eq_ofNat_of_zero_le hv0.1;have u3:u0<3:=Int.ofNat_lt.mp hv0.2;obtain ⟨ki,hki,k3⟩: ∃ki:Int,([.int 12,.int 16,.int 32]:List AV)[((u0:Nat):Int).toNat]? =some (.int ki)/\K3 ki:=by
  rw [Int.toNat_natCast];exact (by decide: ∀u<3,(([.int 12,.int 16,.int 32]:List AV)[u]? =some (.int 12)\/([.int 12,.int 16,.int 32]:List AV)[u]? =some (.int 16)\/([.int 12,.int 16,.int 32]:List AV)[u]? =some (.int 32))) u0 u3 |>.elim (fun z=>⟨12,z,.inl rfl⟩) fun z=>z.elim (fun z=>⟨16,z,.inr (.inl rfl)⟩) fun z=>⟨32,z,.inr (.inr rfl)⟩
 walk_at "R";refine k21 (fun vs' σ'=>vs'=[]/\ ∃(se sz:Int) (T:Nat),σ'=⟨upd H q1 (.list [.int 12,.int 16,.int 32]),[(`size,.int T),(`sector,.int se),(`kind,.int ki)]⟩/\se*sz=T/\M13 ki T/\(12<=se/\se<=38)/\(1<=sz/\sz<=2)) (fun kont e=>?_) (fun kont e=>?_) fun vs' σ' hJ=>?_
 ·have e:ki=12:=eq_of_beq e;walk_at "R";refine m13 R hm hz h1 (by decide) (by decide) fun v1 hv1=>?_;obtain ⟨u,rfl⟩:=Int.eq_ofNat_of_zero_le hv1.1
  iterate 6 walk_at "go"
  refine z10 (kont _ _ ?_);exact ⟨rfl,_,1,14+3*u,rfl,Int.mul_one _,e▸a47 (Int.ofNat_lt.mp hv1.2),by (exact ⟨fk s!"h3Ln0wAoLn12an14l3wA" [] [_] rfl hv1.1,fk s!"h3SwAn9oLan14l3wAn38" [] [_] rfl hv1.2⟩),by decide⟩
 ·have e:ki≠12:=fun z=>by rw [z] at e;cases e
  walk_at "R";refine m13 R hm hz h1 (by decide) (by decide) fun v1 hv1=>?_;obtain ⟨u,rfl⟩:=Int.eq_ofNat_of_zero_le hv1.1
  iterate 9 walk_at "go"
  refine k36 (fun v=> ∃s:Nat,v= .int s/\(ki=32/\s=2\/ki=16/\(s=1\/s=2))) (fun key z=>?_) (fun key z=>?_) fun v hv=>?_
  ·exact r23 (z10 (key _ ⟨2,rfl,.inl ⟨eq_of_beq z,rfl⟩⟩))
  ·walk_at "R";refine m13 R hm hz h1 (by decide) (by decide) fun v2 hv2=>?_;obtain ⟨y,rfl⟩:=Int.eq_ofNat_of_zero_le hv2.1
   iterate 2 walk_at "go"
   have z:ki≠32:=fun y=>by rw [y] at z;cases z
   have y2:y<2:=Int.ofNat_lt.mp hv2.2;exact z10 (key _ ⟨1+y,rfl,.inr ⟨k3.elim (fun k=>absurd k e) fun k=>k.elim id fun k=>absurd k z,(by decide: ∀y<2,1+y=1\/1+y=2) y y2⟩⟩)
  ·obtain ⟨s,rfl,hs⟩:=hv;have hs2:s=1\/s=2:=hs.elim (fun x=> .inr x.2) fun x=>x.2
   iterate 2 walk_at "go"
   refine z10 (kont _ _ ?_);exact ⟨rfl,_,s,(12+4*u)*s,rfl,rfl,q51 (Int.ofNat_lt.mp hv1.2) hs,by (exact ⟨fk s!"h4Ln0wAoLn12an12l4wA" [] [_] rfl hv1.1,fk s!"h4SwAn7oLan12l4wAn38" [] [_] rfl hv1.2⟩),hs2.elim (fun z=>by rw [z];decide) fun z=>by rw [z];decide⟩
 obtain ⟨rfl,se,sz,T,rfl,hT,hTb,hse,hsz⟩:=hJ;have kb:=z55 k3;walk_at "R";refine m13 R hm hz h1 (by decide) (by decide) fun v3 hv3=>?_;walk_at "R";refine m13 R hm hz h1 (by decide) (by decide) fun v4 hv4=>?_;walk_at "R";refine m13 R hm hz h1 (by decide) (by decide) fun v6 hv6=>?_;walk_at "R";refine x50 hh' ?_;walk_at "R";rw [show (if 28<ki then 28 else ki)=wd ki from rfl];have po:POk ki (1+v3) (1+v6) v4 se sz:=⟨k3,hse,hsz,by (exact ⟨fk s!"hLn0AoLn1an1A" [_] [] rfl hv3.1,fk s!"hSAn3oLan1An3" [_] [] rfl hv3.2⟩),by (exact ⟨fk s!"hLn0AoLn1an1A" [_] [] rfl hv6.1,fk s!"hSAn3oLan1An3" [_] [] rfl hv6.2⟩),by (exact ⟨fk s!"hLn0AoLn0A" [_] [] rfl hv4.1,fk s!"hSAn7oLAn6" [_] [] rfl hv4.2⟩)⟩;rw [p51 k3];have hNb:=hTb.cnt k3;generalize hN:8*T / ki.toNat=N at hNb⊢;obtain ⟨w1,w2,w3,w4⟩:=m51 k3;generalize (1:Int)+v3=tb at*;generalize (1:Int)+v6=ah at*;generalize v4=of at*;clear hv0 hki u3 u0 hv3 hv4 hv6;refine e29 (by rw [hcs];rfl) ?_;walk_at "R";rename_i q2 n1 n2 hq2;refine j15 (p:=fun _ x=> ∃v,x= .int v/\0<=v/\v<eB ki) (N:=N) s!"-hp" (small_one (by decide) (by decide) (by exact fk s!"hxn6AoLgn2^62wA" [] [_] rfl hNb.1) (by exact fk s!"hxAn48oSwAn2^62" [] [_] rfl hNb.2)) (by rw [rangeSize_one];split<;>(first | (exact fe (.o 1 (.E (.m (.w (.v 0)) (.n 0)) (.w (.v 0)))) [] [_] rfl) | (rename_i hz1;exact t0 (fk s!"hxn6AhKn0wAo0Ln0wA" [] [_] rfl hNb.1 hz1) (fk s!"hxn6AhKn0wAo0LwAn0" [] [_] rfl hNb.1 hz1)))) (by exact fk s!"hxAn48oxAn16777216" [] [_] rfl hNb.2) hh' (fun c2 i H2 L2 K2 g1 g2 g3 g4 hi ge hK=>?_) fun D xs hD hl hx=>?_
 ·have cA2:c2.cs.lookup `script=some a:=by rw [g3,hcs];rfl
  have cB2:c2.cs.lookup `reach=some b:=by rw [g3,hcs];rfl
  have hA2:H2 a=some (.cell (some (.ref m))):=ge _ _ s!"-hp";have hB2:H2 b=some (.cell (some (.int (wd ki)))):=ge _ _ s!"-hp";walk_at "R";refine v44 ⟨w3,w4⟩ ?_;rw [show (2:Int)^(wd ki).toNat=eB ki from rfl];walk_at "R";refine m13 R hm hz (g1.trans h1) (by exact ⟨fk s!"oLn0an8wA" [] [_] rfl,fk s!"hxAn48hyBAoLan8wBn1000" [] [_,_] rfl hNb.2 hi⟩) (by exact ⟨fk κ3 [_] [] rfl w1,fk s!"hLAn268435456oLAn4294967296" [_] [] rfl w2⟩) fun v hv=>?_;walk_at "R";exact z10 (hK _ _ ⟨v,rfl,hv⟩ a15)
 obtain ⟨es,rfl,hes⟩:=c29 hx;rw [a7] at hl;have gD:H D=none:=by walk_at "nx"
 have pD:Ap D q1:=by walk_at "na"
 have pDb:Ap D b:=gB _ gD;have pDa:Ap D a:=gA _ gD;clear hx;walk_at "R";refine k21 (fun vs' σ'=>vs'=[]/\ ∃es1 H2,σ'=⟨H2,[(`entries,.ref D),(`reserved,.int ah),(`offset,.int of),(`copies,.int tb),(`count,.int N),(`size,.int T),(`sector,.int se),(`kind,.int ki)]⟩/\Tab ki T es1/\H2 D=some (.list (es1.map .int))/\H2 a=some (.cell (some (.ref m)))/\H2 b=some (.cell (some (.int (wd ki))))) (fun kont e=>?_) (fun kont e=>?_) fun vs' σ' hJ=>?_
 ·have e:ki=32:=eq_of_beq e
  iterate 3 walk_at "go"
  refine m11 s!"-hp" (by decide) (by rw [a7,hl];(exact fk s!"hxn6AoSn2wA" [] [_] rfl hNb.1)) ?_;refine z10 (kont _ _ ?_);refine ⟨rfl,es.set 2 268435455,_,rfl,⟨k3,by rw [List.length_set,hl,hN],fun x hx=>?_,fun _=>?_,hTb.md,by (exact ⟨fk s!"hxn12Aoxn4A" [] [_] rfl hTb.lo,fk s!"hxAn72oxAn100" [] [_] rfl hTb.hi⟩)⟩,(i10 _ _ _).trans (by rw [List.map_set];rfl),by walk_at "hp",by walk_at "hp"⟩
  ·rcases List.mem_or_eq_of_mem_set hx with hx | rfl
   ·exact hes x hx
   ·rw [e];decide
  ·rw [w0,List.getElem?_set_self (by omega)];rfl
 ·have e:ki≠32:=fun z=>by rw [z] at e;cases e
  refine z10 (kont _ _ ?_);exact ⟨rfl,es,_,rfl,⟨k3,by rw [hl,hN],hes,fun z=>absurd z e,hTb.md,by (exact ⟨fk s!"hxn12Aoxn4A" [] [_] rfl hTb.lo,fk s!"hxAn72oxAn100" [] [_] rfl hTb.hi⟩)⟩,by walk_at "hp",by walk_at "hp",by walk_at "hp"⟩
 clear hl hes hD gD pD pDb pDa hq2 n1 n2 hq1 r1 s1 hA hB gA gB;clear es;obtain ⟨rfl,es,H,rfl,tab,hE,hA,hB⟩:=hJ;walk_at "R";refine m13 R hm hz h1 (by decide) (by decide) fun v7 hv7=>?_
 iterate 4 walk_at "go"
 refine k21 (fun vs' σ'=>vs'=[]/\ ∃es1 H2,σ'=⟨H2,[(`entries,.ref D),(`reserved,.int ah),(`offset,.int of),(`copies,.int tb),(`count,.int N),(`size,.int T),(`sector,.int se),(`kind,.int ki)]⟩/\Tab ki T es1/\H2 D=some (.list (es1.map .int))/\H2 a=some (.cell (some (.ref m)))/\H2 b=some (.cell (some (.int (wd ki))))) (fun kont e=>?_) (fun kont e=>?_) fun vs' σ' hJ=>?_
 ·have two:=tab.two;have hb:=tab.bd _ (n12 two.1)
  iterate 2 walk_at "go"
  refine w11 (a:= .int (es.getD 1 0)) hE (by decide) (by rw [List.getElem?_map,w0,show (1:Int).toNat=1 from rfl,o5 two.1];rfl) ?_
  iterate 2 walk_at "go"
  refine v37 R h1 fun q hq=>?_;have qD:Ap q D:=⟨(i11 hq hE).symm⟩;have qa:Ap q a:=⟨(i11 hq hA).symm⟩;have qb:Ap q b:=⟨(i11 hq hB).symm⟩
  iterate 2 walk_at "go"
  refine w14 (i10 _ _ _) (r42 k3) ?_
  iterate 3 walk_at "go"
  refine m11 s!"-hp" (by decide) (by rw [a7];(exact fk s!"hyn1AoSn1wA" [] [_] rfl two.1)) ?_;refine z10 (kont _ _ ?_);exact ⟨rfl,es.set 1 _,_,rfl,tab.set (by decide) (x54 k3 hb),(i10 _ _ _).trans (by rw [List.map_set];rfl),by walk_at "hp",by walk_at "hp"⟩
 ·refine z10 (kont _ _ ?_);exact ⟨rfl,es,_,rfl,tab,hE,hA,hB⟩
 clear tab hE hA hB hv7;clear es;obtain ⟨rfl,es,H,rfl,tab,hE,hA,hB⟩:=hJ;have hsq:(T:Int).fdiv se=sz:=by rw [<-hT];exact Int.mul_fdiv_cancel_left _ (by exact fun q16=>fk s!"hLn12AhEAn0o0F" [_] [] rfl hse.1 q16)
 obtain ⟨p1,p2⟩:=hse;obtain ⟨p3,p4⟩:=hsz;walk_at "R";rename_i hd hhd;have pdD:Ap hd D:=⟨(i11 hhd hE).symm⟩;have pda:Ap hd a:=⟨(i11 hhd hA).symm⟩;have pdb:Ap hd b:=⟨(i11 hhd hB).symm⟩;refine n24 (p:=ki=32) rfl ?_;walk_at "R";refine n24 (p:=ki=12) rfl ?_;walk_at "R";refine k36 (fun v=>v= .int (if ki=32 then 0 else sz)) (fun key z=>?_) (fun key z=>?_) fun v hv=>?_
 ·exact r23 (z10 (key _ (by rw [if_pos (eq_of_beq z)])))
 ·iterate 3 walk_at "go"
  exact z10 (key _ (by rw [hsq,if_neg (fun y=>by rw [y] at z;cases z)]))
 subst hv;walk_at "R";refine f25 fun H1 e1=>?_;have k1:H1 D=some (.list (es.map .int)):=by rw [e1];walk_at "hp"
 have k2:H1 a=some (.cell (some (.ref m))):=by rw [e1];walk_at "hp"
 have k4:H1 b=some (.cell (some (.int (wd ki)))):=by rw [e1];walk_at "hp"
 have k5:H1 hd=some (.dictS (Q6 ki tb ah se sz 6)):=by rw [e1,hsq];exact i10 _ _ _
 clear e1 hE hA hB hhd;refine e29 (by rw [hcs];rfl) ?_;walk_at "R";rename_i q3 hq3;have pof:=po.of;refine j15 (p:=fun _ x=> ∃v,x= .int v/\0<=v/\v<256) (N:=of.toNat) s!"-hp" (small_one (by decide) (by decide) (by exact fk s!"hLn0AoLgn2^62A" [_] [] rfl pof.1) (by exact fk s!"hLAn6oSAn2^62" [_] [] rfl pof.2)) (by rw [rangeSize_one];split<;>(first | (exact fe (.h (-1) (.E (.w (.v 0)) (.v 0)) <| .o 1 (.E (.m (.v 0) (.n 0)) (.w (.v 0)))) [_] [_] rfl (y5 (pof.1))) | (rename_i hz4;exact t0 (fk s!"hLn0Ah-EwAAoLn0wA" [_] [_] rfl pof.1 (y5 (pof.1))) (fk s!"hKn0AhEwAAoLwAn0" [_] [_] rfl hz4 (y5 (pof.1)))))) (by exact fk s!"hLAn6hEwAAoxAn16777216" [_] [_] rfl pof.2 (y5 (pof.1))) hh' (fun c2 i H2 L2 K2 g1 g2 g3 g4 hi ge hK=>?_) fun D2 xs hD2 hl2 hx2=>?_
 ·have cA2:c2.cs.lookup `script=some a:=by rw [g3,hcs];rfl
  have hA2:H2 a=some (.cell (some (.ref m))):=ge _ _ s!"-hp";walk_at "R";refine m13 R hm hz (g1.trans h1) (by exact ⟨fk s!"oLn0an40wA" [] [_] rfl,fk s!"hLAn6hyABhEwBAoLan40wAn1000" [_] [_,_] rfl pof.2 hi (y5 (pof.1))⟩) (by exact ⟨fk s!"oSn0n256" [] [] rfl,fk s!"oLn256n4294967296" [] [] rfl⟩) fun v hv=>?_;walk_at "R";exact z10 (hK _ _ ⟨v,rfl,hv⟩ a15)
 obtain ⟨bs,rfl,hbs⟩:=c29 hx2;rw [a7] at hl2;walk_at "R";refine t17 (ns:=bs) hh' (i10 _ _ _) hbs (by exact fk s!"hLAn6hzABhEwBAoxAn16777216" [_] [_,_] rfl pof.2 hl2 (y5 (pof.1))) ?_;have m1:0<=se*ah/\se*ah<=38*3:=⟨Int.mul_nonneg (by exact fk s!"hLn12AoLn0A" [_] [] rfl p1) (by have:=po.ah;(exact fk κ0 [_] [] rfl this.1)),Int.mul_le_mul p2 po.ah.2 (by have:=po.ah;(exact fk κ0 [_] [] rfl this.1)) (by decide)⟩
 iterate 7 walk_at "go"
 generalize hpre:List.map (fun n:Int=>n.toNat.toUInt8) bs++(List.replicate (se*ah).toNat [(7:UInt8)]).flatten=pre;refine f25 fun H2 e2=>?_;have l1:H2 D=some (.list (es.map .int)):=by rw [e2];walk_at "hp"
 have l2:H2 a=some (.cell (some (.ref m))):=by rw [e2];walk_at "hp"
 have l4:H2 b=some (.cell (some (.int (wd ki)))):=by rw [e2];walk_at "hp"
 have l5:H2 hd=some (.dictS (Q6 ki tb ah se sz 6)):=by rw [e2];walk_at "hp"
 clear e2 k1 k2 k4 k5 hD2 hq3;walk_at "R";refine j25 R tab h1 hh' s!"-hp" ?_;have tl:=tab.tbl.2;have T0:=tab.T0;obtain ⟨k,hk⟩: ∃k:Nat,tb=k:=⟨tb.toNat,by have:=po.tb;omega⟩;subst hk;have ptb:=po.tb;have mc:=Int.mul_comm se ah;obtain ⟨F,hF⟩: ∃F:Nat,ah*se+of=F:=⟨(ah*se+of).toNat,by (exact t0 (fk s!"h-EwAaABoLaABwA" [_,_] [_] rfl (y5 (fk s!"hLn0AhLn0BhEBCoLn0aCA" [_,_,_] [] rfl pof.1 m1.1 mc))) (Int.le_of_eq (y5 (fk s!"hLn0AhLn0BhEBCoLn0aCA" [_,_,_] [] rfl pof.1 m1.1 mc))))⟩;have hpl:pre.length=F:=by
  rw [<-hpre,w6,a7,hl2,k18,List.length_singleton];(exact fe (.h 1 (.E (.v 0) (.v 1)) <| .h 1 (.E (.a (.v 1) (.v 2)) (.w (.v 0))) <| .h 1 (.E (.w (.v 1)) (.v 2)) <| .h 1 (.E (.w (.v 2)) (.v 0)) <| .o 1 (.e (.a (.v 1) (.r (.v 2) 1)) (.v 0))) [_,_,_] [_,_,_] rfl mc hF (y5 (pof.1)) (y5 (m1.1)))
 obtain ⟨n1,n2,n3,n4,n5,n6⟩:=v42 po rfl hF tab;clear hpre hl2 hbs hx2 bs m1 mc;have hrl:=k18 k (Q3 ki es);rw [tl] at hrl;walk_at "go";rw [show (List.replicate ((4:Int)*39).toNat [(0:UInt8)]).flatten=zz from rfl];have hnb:1<=k/\k<=3/\0<T/\T<=100/\F<=120:=⟨n3,n4,n6,n2,n1⟩;refine c47 rfl rfl tl hpl hnb ?_;have sh:Sh (pre++(List.replicate k (Q3 ki es)).flatten++zz) pre (List.replicate k (Q3 ki es)).flatten zz F T k:=⟨rfl,hpl,hrl⟩;have hm0:((List.replicate k (Q3 ki es)).flatten).take T=Q3 ki es:=by
  have:=k29 (k:=k) (b:=Q3 ki es) n3
  rwa [tl] at this
 generalize hd0:pre++(List.replicate k (Q3 ki es)).flatten++zz=d at sh⊢;walk_at "R";refine x37 R hZ h1 hh' s!"-hp" (vok po rfl hF hT tab sh hm0 false) fun q4 x4 y4 B4 t4 a4 V4 fr4 v4=>?_;obtain ⟨f1,f2,f3,f4,f5,f6,f7,f8,f9,f10,f11,f12,f13,f14,f15⟩:=fr4;obtain ⟨r4,rfl⟩:=v4.eq;clear v4;rw [show dOf false ki es d F T k=d from rfl,show L11 false ki es=es from rfl,show K11 false (Q6 ki k ah se sz 6) 6=Q6 ki k ah se sz 6 from rfl];walk_at "R";refine n11 (i10 _ _ _) hh' rfl ?_;dsimp only [List.cons_append,List.nil_append];walk_at "R";refine z41 (by exact bne_self_eq_false ki) ?_;walk_at "R";refine x28 s!"-hp" s!"-hp" ?_;rw [bne_self_eq_false];have two:=tab.two;walk_at "R";refine j18 R h1 hh' s!"-hp" (by exact rfl) s!"-hp" (by exact fk κ18 [] [_] rfl two.2) (by exact tab.ko) ?_;walk_at "R";refine j25 R tab h1 hh' s!"-hp" ?_;dsimp only;walk_at "R";rw [bne_self_eq_false];walk_at "R";refine x32 R h1 hh' s!"-hp" (by exact rfl) (by exact rfl) fun x5 hx5=>?_;unfold fx;dsimp only
 with_reducible refine j42 (i10 _ _ _) ?_ ?_
 ·rw [R.k];kernel_rfl
 walk_at "R";rw [bne_self_eq_false];walk_at "R";refine n36 (es:=Q6 ki k ah se sz 6) (w37 R) s!"-hp" s!"-hp" r51 l41 ?_;walk_at "R";refine z10 ?_;refine (show Go (run X c' _ _ _ [] ⟨_,[(`octets,.ref y4),(`first,.ref x4),(`image,.bytes d),(`behind,.bytes zz),(`ahead,.bytes pre),(`header,.ref hd),(`entries,.ref D),(`reserved,.int ah),(`offset,.int of),(`copies,.int k),(`count,.int N),(`size,.int T),(`sector,.int se),(`kind,.int ki)]⟩) from ?_).out;refine f25 fun H3 e3=>?_;have j1:H3 D=some (.list (es.map .int)):=by rw [e3];walk_at "hp"
 have j2:H3 a=some (.cell (some (.ref m))):=by rw [e3];walk_at "hp"
 have j4:H3 b=some (.cell (some (.int (wd ki)))):=by rw [e3];walk_at "hp"
 have j5:H3 hd=some (.dictS (Q6 ki k ah se sz 6)):=by rw [e3];walk_at "hp"
 clear e3 l1 l2 l4 l5 hx5 f1 f2 f3 f4 f5 f6 f7 f8 f9 f10 f11 f12 f13 f14 f15;obtain ⟨m',s',sA,sB⟩:=t42 sh tab true;have hd2:dOf true ki es d F T k=pre++(List.replicate k (Q3 ki (mkE ki es))).flatten++zz:=by
  by_cases z:ki=12
  ·rw [(sB (.inr z)).2,<-hd0];unfold mkE;rw [if_pos z]
  ·rw [s'.eq,sA ⟨rfl,z⟩]
 walk_at "R";refine x37 R hZ h1 hh' s!"-hp" (vok po rfl hF hT tab sh hm0 true) fun q6 x6 y6 B6 t6 a6 V6 fr6 v6=>?_;obtain ⟨f1,f2,f3,f4,f5,f6,f7,f8,f9,f10,f11,f12,f13,f14,f15⟩:=fr6;obtain ⟨r6,rfl⟩:=v6.eq;clear v6 sA sB;rw [show L11 true ki es=mkE ki es from rfl];generalize dOf true ki es d F T k=d2 at*;have g1:Ap q6 D:=⟨(i11 f1 j1).symm⟩;have g2:Ap x6 D:=⟨(i11 f2 j1).symm⟩;have g3:Ap y6 D:=⟨(i11 f3 j1).symm⟩;have g4:Ap B6 D:=⟨(i11 f4 j1).symm⟩;have g5:Ap t6 D:=⟨(i11 f5 j1).symm⟩;have tabM:=tab.mark;have twM:=tabM.two;have hb1:=tab.bd _ (n12 two.1);walk_at "R";refine n11 (i10 _ _ _) hh' rfl ?_;dsimp only [List.cons_append,List.nil_append]
 iterate 4 walk_at "go"
 refine w11 (a:= .int (es.getD 1 0)) s!"-hp" (by decide) (by rw [List.getElem?_map,w0,show (1:Int).toNat=1 from rfl,o5 two.1];rfl) ?_;walk_at "R";refine v44 ⟨w3,w4⟩ ?_;rw [show (2:Int)^(wd ki).toNat=eB ki from rfl];walk_at "R";refine v37 R h1 fun q7 hq7=>?_
 iterate 2 walk_at "go"
 refine w14 (i10 _ _ _) (r42 k3) ?_
 iterate 4 walk_at "go"
 have q7D:Ap q7 D:=⟨(i11 (by walk_at "nx":H3 q7=none) j1).symm⟩;refine m11 s!"-hp" (by decide) (by rw [a7];(exact fk s!"hyn1AoSn1wA" [] [_] rfl two.1)) ?_;rw [show (es.map AV.int).set (1:Int).toNat (.int (Builtin.bitAnd (es.getD 1 0) (eB ki-1-clI ki)))=(mkE ki es).map .int from by rw [<-y54 tab,List.map_set];rfl];walk_at "R";refine x28 s!"-hp" s!"-hp" ?_;rw [bne_self_eq_false];walk_at "R";refine j25 R tabM h1 hh' s!"-hp" ?_;walk_at "go";refine c47 rfl rfl tabM.tbl.2 hpl hnb ?_;rw [<-hd2];walk_at "R";rw [bne_self_eq_false];walk_at "R";refine m13 R hm hz h1 (by decide) (by decide) fun v8 hv8=>?_;walk_at "R";rename_i q8 n81 n82 n83 n84 n85 n86 n87 hq8;have q8a:Ap q8 a:=⟨(i11 hq8 j2).symm⟩;have q8b:Ap q8 b:=⟨(i11 hq8 j4).symm⟩;have q8h:Ap q8 hd:=⟨(i11 hq8 j5).symm⟩;refine f25 fun H4 e4=>?_;have i1:H4 D=some (.list ((mkE ki es).map .int)):=by rw [e4];walk_at "hp"
 have i2:H4 a=some (.cell (some (.ref m))):=by rw [e4];walk_at "hp"
 have i4:H4 b=some (.cell (some (.int (wd ki)))):=by rw [e4];walk_at "hp"
 have i5:H4 hd=some (.dictS (Q6 ki k ah se sz 6)):=by rw [e4];walk_at "hp"
 have i6:H4 q8=some (.range 0 (1+v8) 1):=by rw [e4];walk_at "hp"
 have i7:H4 q6=some (.dictS (K11 true (Q6 ki k ah se sz 6) 6)):=by rw [e4];walk_at "hp"
 have i8:H4 y6=some (Oc d2 true a6):=by rw [e4];walk_at "hp"
 have i9:H4 x6=some (.inst 936 (r6.mkV y6 q6 B6 of sz ki true).ns):=by rw [e4];walk_at "hp"
 have i0:H4 B6=some (.list ((mkE ki es).map .int)):=by rw [e4];walk_at "hp"
 clear e4 j1 j2 j4 j5 hq8 n81 n82 n83 n84 n85 n86 n87 q8a q8b q8h hq7 q7D f1 f2 f3 f4 f5 f6 f7 f8 f9 f11 f12 f13 f14 f15 f10 g1 g2 g3 g5;have hlM:(mkE ki es).length=N:=(m22 ki es).trans (tab.len.trans hN);refine m24 (N:=(1+v8).toNat) (fun i H' L'=>L'=[(`octets,.ref y6),(`second,.ref x6),(`behind,.bytes zz),(`ahead,.bytes pre),(`header,.ref hd),(`entries,.ref D),(`offset,.int of),(`copies,.int k),(`count,.int N),(`size,.int T),(`kind,.int ki)]/\ ∃fs,H13 ki (mkE ki es) fs/\H'=upd (upd H4 D (.list (fs.map .int))) B6 (.list (fs.map .int))) i6 (by exact t0 (fk s!"h-EwAan1AoLan1AwA" [_] [_] rfl (y5 (fk κ11 [_] [] rfl hv8.1))) (Int.le_of_eq (y5 (fk κ11 [_] [] rfl hv8.1)))) (by exact fk s!"hSAn4hEwAan1AoxAn1000000000" [_] [_] rfl hv8.2 (y5 (fk κ11 [_] [] rfl hv8.1))) hh' (g0:=?_) (l0:=?_) ⟨rfl,mkE ki es,⟨rfl,tabM.bd,rfl⟩,rfl⟩ (fun i H' L' q j hq=>?_) (fun it i H' L' hit hit' hlt j=>?_) fun H' L' j=>?_
 ·walk_at "gp"
 ·walk_at "lp"
 ·obtain ⟨_,fs,_,rfl⟩:=j;exact (c11 _ _ (i11 hq i0).symm).trans ((c11 _ _ (i11 hq i1).symm).trans hq)
 ·obtain ⟨rfl,fs,hfs,rfl⟩:=j;have hfl:fs.length=N:=hfs.len.trans hlM;have t1:Ap it D:=⟨(i11 hit i1).symm⟩;have t2:Ap it a:=⟨(i11 hit i2).symm⟩;have t3:Ap it b:=⟨(i11 hit i4).symm⟩;have t4:Ap it x6:=⟨(i11 hit i9).symm⟩;have t5:Ap it B6:=⟨(i11 hit i0).symm⟩;walk_at "R";refine m13 R hm hz h1 (by exact ⟨fk s!"oLn0an50l2wA" [] [_] rfl,fk s!"h2SAn4h2yABh2EwBan1AoLan50l2wAn1000" [_] [_,_] rfl hv8.2 hlt (y5 (fk κ11 [_] [] rfl hv8.1))⟩) (by exact ⟨fk s!"hxn6AoSn0mwAn3" [] [_] rfl hNb.1,fk s!"hxAn48oLmwAn3n4294967296" [] [_] rfl hNb.2⟩) fun w1' hw1=>?_;walk_at "R";refine v44 ⟨w3,w4⟩ ?_;rw [show (2:Int)^(wd ki).toNat=eB ki from rfl];walk_at "R";refine m13 R hm hz h1 (by exact ⟨fk s!"oLn0an51l2wA" [] [_] rfl,fk s!"h2SAn4h2yABh2EwBan1AoLan51l2wAn1000" [_] [_,_] rfl hv8.2 hlt (y5 (fk κ11 [_] [] rfl hv8.1))⟩) (by exact ⟨fk κ3 [_] [] rfl w1,fk s!"hLAn268435456oLAn4294967296" [_] [] rfl w2⟩) fun w2' hw2=>?_
  iterate 3 walk_at "go"
  refine m11 s!"-hp" (by exact ⟨fk s!"hLn0AoLn0an3A" [_] [] rfl hw1.1,fk s!"hxAn48hSAmwAn3oSan3An2^63" [_] [_] rfl hNb.2 hw1.2⟩) (by rw [a7];(exact fk s!"h-zABhSAmwBn3oSan3AwA" [_] [_,_] rfl hfl hw1.2)) ?_;rw [show (fs.map AV.int).set (3+w1').toNat (.int w2')=(fs.set (3+w1').toNat w2').map .int from by rw [List.map_set]]
  iterate 2 walk_at "go"
  refine w11 (a:= .int w2') s!"-hp" (by omega) (by rw [List.getElem?_map,List.getElem?_set_self (by omega)];rfl) ?_
  iterate 3 walk_at "go"
  refine m11 (xs:=fs.map .int) s!"-hp" (by exact ⟨fk s!"hLn0AoLn0an3A" [_] [] rfl hw1.1,fk s!"hxAn48hSAmwAn3oSan3An2^63" [_] [_] rfl hNb.2 hw1.2⟩) (by rw [a7];(exact fk s!"h-zABhSAmwBn3oSan3AwA" [_] [_,_] rfl hfl hw1.2)) ?_;rw [show (fs.map AV.int).set (3+w1').toNat (.int w2')=(fs.set (3+w1').toNat w2').map .int from by rw [List.map_set]];exact z10 (d29 ⟨rfl,fs.set (3+w1').toNat w2',hfs.set (by exact fk s!"hLn0Ah-EwAan3Aoxn3A" [_] [_] rfl hw1.1 (y5 (fk s!"hLn0AoLn0an3A" [_] [] rfl hw1.1))) hw2,rfl⟩ hlt)
 obtain ⟨rfl,fs,hfs,rfl⟩:=j;have tabR:=tabM.K17 hfs;have twR:=tabR.two;have tlR:=tabR.tbl.2;walk_at "R";have s'l:=s'.len;have hzz:zz.length=156:=rfl;refine j37 R (D:=K11 true (Q6 ki k ah se sz 6) 6) (es:=fs) (N:=k) (F:=F) (S:=T) H14 h1 hh' s!"-hp" (by exact rfl) (by exact rfl) s!"-hp" s!"-hp" s!"-hp" (by exact fk κ18 [] [_] rfl twR.2) (by exact tabR.ko) ⟨rfl,by (exact fk s!"hLwAn3oxAn1000" [] [_] rfl ptb.2)⟩ ⟨by (exact fk s!"hLn12AoSn0A" [_] [] rfl p1),by (exact fk s!"hLAn38oLAn1000000" [_] [] rfl p2)⟩ (by dsimp only;(exact ⟨fk κ0 [_] [] rfl p3,fk s!"hLAn2oLAn1000000" [_] [] rfl p4⟩)) (by have:=po.ah;(exact ⟨fk κ0 [_] [] rfl this.1,fk s!"hLAn3oLAn1000000" [_] [] rfl this.2⟩)) hF hT tlR ⟨by (exact fk s!"h-zAaaBCDh-zDn156oxaBCA" [] [_,_,_,_] rfl s'l hzz),by (exact fk s!"hxAn120hxBn300hzCaaABDhzDn156oxCn1000000" [] [_,_,_,_] rfl n1 n5 s'l hzz)⟩ fun a9=>?_;dsimp only;rw [s'.fl tlR];have sR:=s'.rep tlR;have hm3:((List.replicate k (Q3 ki fs)).flatten).take T=Q3 ki fs:=by
  have:=k29 (k:=k) (b:=Q3 ki fs) n3
  rwa [tlR] at this
 generalize hd3:pre++(List.replicate k (Q3 ki fs)).flatten++zz=d3 at sR⊢;walk_at "R";refine j25 R tabR h1 hh' s!"-hp" ?_;walk_at "go";refine c47 rfl rfl tlR hpl hnb ?_;rw [hd3];walk_at "R";rw [bne_self_eq_false];walk_at "R";refine j18 R h1 hh' s!"-hp" (by exact rfl) s!"-hp" (by exact fk κ18 [] [_] rfl twR.2) (by exact tabR.ko) ?_;walk_at "R";refine j25 R tabR h1 hh' s!"-hp" ?_;dsimp only;walk_at "R";rw [bne_self_eq_false];walk_at "R";refine x37 R hZ h1 hh' s!"-hp" (vok po rfl hF hT tabR sR hm3 false) fun q9 x9 y9 B9 t9 a9 V9 fr9 v9=>?_;obtain ⟨f1,f2,f3,f4,f5,f6,f7,f8,f9,f10,f11,f12,f13,f14,f15⟩:=fr9;obtain ⟨r9,rfl⟩:=v9.eq;clear v9;rw [show L11 false ki fs=fs from rfl];walk_at "R";refine n11 (i10 _ _ _) hh' rfl ?_;dsimp only [List.cons_append,List.nil_append];walk_at "R";refine d39 s!"-hp" s!"-hp" ?_;rw [beq_self_eq_true];refine j35 (fun _=>?_) fun z=>absurd rfl z;walk_at "R";rw [beq_self_eq_true];exact c12 (Up.same (h _))
end Mine
namespace Mine
open PySem.Spec
noncomputable section
theorem I15 (call:V11 qv loose Yf (fun w=>ya w.params) rw_.row.toRowW rw_.row.name):rw_.Holds:=
 holds_law q47 fun said=>N12 (r:=rw_.row) l47 n47 b55 c55 (fun _ _=>recFacts_of (by rfl)) rfl said d55 o47 r47 (fun _ _=>rfl) (fun _=>g36) call
end
end Mine
namespace Mine
open PySem.Spec
section
theorem O9:V11 qv loose Yf (fun w=>ya w.params) rw_.row.toRowW rw_.row.name:=fun w s₀ s₁ mg mb G Y f hf args vals as L hpre=>by
 have K:(KF w.params).In s₁.heap:=Frag.In.keeps (Frag.in_of (i47 w.params) (congrArg (·.1) Y)) L.keeps
 let X:Cx:=⟨pw,w,KF w.params,s₁.heap,s₁.os,mg,mb,K,G.T.nolimit,G.T.g,G.T.b,true,fun _=>G.T.builtins,fun _=>none,true⟩
 have R:Row X:=⟨rfl,rfl,rfl⟩;obtain ⟨V,hV,g⟩:Glo X 1782007 (.ref 973):=v41 R.l (gt:=[(1782007,.ref 973)]) (by rw [R.k];kernel_rfl) _ _ rfl;have en:N 1782007=rw_.row.name:=by decide+kernel
 rw [en] at g;obtain rfl:V=f:=by
  rcases g with g | ⟨g,_⟩
  ·exact w5 (g.symm.trans hf)
  ·exact absurd (g.symm.trans hf) (by nofun)
 obtain rfl:=t10 hV;obtain ⟨m,vs,xs,ns,rfl,rfl,ho,hl,hv⟩:=j40 (R:=rw_.row.records) L.well (pre_splitW hpre).1;have hz:xs.length<=63:=k40 (pre_splitW hpre).2;have hm:Base X m (.list (ns.map .int)):=fun own h k=>⟨vs.toArray,⟨_,k _ _ ho⟩,by rw [List.toList_toArray,hv]⟩;have RO:Z0 X (fun _=>none) [] (fun _=>none) s₁:={
  base:=fun _ _ e=>e
  objs:=fun _ _ e=>nomatch e
  frs:=fun _ h=>nomatch h
  nodup:=List.nodup_nil
  owned:=fun _ _ e=>nomatch e
  os:=rfl
  bare:=⟨fun i=>by intro y e;rw [L.gens] at e;simp at e,⟨fun _ _ _ _ _ e=>(nomatch e),fun _ _ _ _ _ _ _ _ _ e=>(nomatch e)⟩⟩}
 have C:=d47 R rfl hm (by omega) (A:=callerA) rfl (by decide) (by decide) rfl (vs:=[.ref m]) rfl RO;refine q22 (g13 C fun r s' q=>?_);rcases r with e | (_ | _ | _ | v)
 ·exact q
 ·exact q
 ·exact q
 ·exact q
 ·obtain ⟨q,own',H',R'⟩:=q;have hv:v= .bool true:=(a33 q).symm;refine ⟨hv,R'.base,R'.os,fun y hy=>?_⟩;obtain ⟨i,hi,rfl⟩:=Array.mem_iff_getElem.mp hy;exact R'.bare.1 i _ (Array.getElem?_eq_getElem hi)
end
end Mine
end Internal
set_option maxRecDepth 100000 in
theorem PySem.Challenge.cw_iw0018_01_holds : PySem.Challenge.rw_iw0018_01.Holds := by
 exact Internal.Mine.I15 Internal.Mine.O9
