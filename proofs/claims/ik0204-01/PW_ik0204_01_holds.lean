import PyProof.Rows.All
import Wide.All
import OpenK.AllK
import Wide.FinOn
import KE.KEqDat
import KE.KItem
import KE.KLam
import KE.KNest
import KE.KNestM
import KE.KSlice
import KE.KStopIter
import KE.KTryDeep
import KE.KTryDeepN
import KE.LcTurns
import KE.RegKTryDeep
import Lean
import PySem.Challenge.RW_ik0204_01
set_option Elab.async false
set_option linter.all false
set_option compiler.extract_closed false
section
open PySem PySem.W
set_option maxRecDepth 100000
namespace Mine
noncomputable abbrev PW : Program := PySem.Challenge.pw_ik0204_01
/-- the statements behind the imports -/
noncomputable def BW : List Stmt := behindTheImports PW
/-- one statement; one member of a class -/
noncomputable def sA (i : Nat) : Stmt := BW.getD i (.Pass default)
noncomputable def sB (i j : Nat) : Stmt := match sA i with
  | .ClassDef _ _ _ b _ _ _ _ _ _ _ => b.getD j (.Pass default)
  | s => s
noncomputable def fA : Stmt → Arguments
  | .FunctionDef _ a _ _ _ _ _ _ _ _ => a
  | _ => default
noncomputable def fB : Stmt → List Stmt
  | .FunctionDef _ _ b _ _ _ _ _ _ _ => b
  | _ => []
noncomputable def fS : Stmt → Scope
  | .FunctionDef _ _ _ _ _ _ s _ _ _ => s
  | _ => default
noncomputable abbrev nS (s : String) : Str := Str.ofString s
noncomputable abbrev vS (s : String) (t : Nat) : Value := .str (Str.ofString s) t
noncomputable abbrev vR (a : Nat) : Value := .ref a
noncomputable abbrev vT (s : String) : Value := .type s
noncomputable abbrev dE (P : Params) (s : String) (t : Nat) (v : Value) : DictEntry := ⟨PyData.keyHash P (Str.ofString s), .str (Str.ofString s) t, v⟩
noncomputable abbrev oD (c : Value) (es : List DictEntry) (n : Nat) : Obj := ⟨c, none, .dict es.toArray n, #[]⟩
noncomputable abbrev oT (d : Option Addr) (es : List Value) (n : Nat) : Obj := ⟨.type "tuple", d, .seq es.toArray n, #[]⟩
noncomputable abbrev fO (s : Stmt) (nm q : String) (cl : List (Str × Addr)) (df kd dc md : Value) (an : Option Addr) (cd ct : Value) (g b : Addr) : Data := .func ⟨Str.ofString nm, Str.ofString q, fA s, .stmts (fB s), fS s, g, cl, df, kd, dc, md, an, cd, ct, b⟩

noncomputable def b2 (P : Params) : Obj := ⟨.none, none, (.dict #[dE P "imp\x6frt.loaded._sre" 183 (.bool true), dE P "class._frozen_importlib.BuiltinImporter" 185 (vR 14), dE P "watched.imp\x6frt" 206 (vR 18), dE P "class._frozen_importlib.ModuleSpec" 216 (vR 22), dE P "sys.modules.booked-epoch" 245 (.int (4) 0), dE P "imp\x6frt.later-laid._sre" 270 (.bool true), dE P "watched.library" 272 (vR 27), dE P "watched.library-objects" 0 (vS "\x0c\x1e" 0), dE P "watched.library-deep._sre" 273 (vS "\x04\x00\x00\x0b\x04\x00\x00\x0b\x04\x00\x00\x03\x04\x00\x00\x0b\x08\x04dict\x02" 0), dE P "imp\x6frt.loaded._collections" 280 (.bool true), dE P "sys.modules.landed._collections" 294 (.bool true), dE P "imp\x6frt.later-laid._collections" 309 (.bool true), dE P "watched.library-deep._collections" 311 (vS "\x04\x00\x00\x1d\x04\x00\x00\x1d\x04\x00\x00\x03\x04\x00\x00\x1d\x08\x04dict\x02" 0), dE P "type.__subclasses__.OSError.0" 593 (.int (99) 0), dE P "type.__subclasses__.OSError.n" 594 (.int (1) 0)] 15), #[]⟩
noncomputable def b3 (P : Params) : Obj := ⟨(vT "dict"), none, (.dict #[dE P "__name__" 165 (vS "law_ik0204_01" 1423), dE P "__doc__" 166 .none, dE P "__package__" 167 .none, dE P "__loader__" 168 (.builtin "__main__.__loader__#opaque"), dE P "__spec__" 169 .none, dE P "__annotations__" 170 (vR 6), dE P "__builtins__" 171 (vR 4), dE P "__file__" 173 (vS "/claim/cut.py" 172), dE P "__cached__" 174 .none, dE P "_sre" 275 (vR 12), dE P "deque" 317 (vT "collections.deque"), dE P "_wall" 330 (vR 44), dE P "_strip_padding" 342 (vR 51), dE P "_twin_re_1" 380 (vR 56), dE P "_special_chars_map" 528 (vR 58), dE P "escape" 535 (vR 68), dE P "_translate" 556 (vR 75), dE P "_whence" 566 (vR 82), dE P "_index" 574 (vR 89), dE P "UnsupportedOperation" 596 (vR 99), dE P "IOBase" 628 (vR 119), dE P "BufferedIOBase" 646 (vR 134), dE P "TextIOBase" 664 (vR 146), dE P "BytesIO" 926 (vR 376), dE P "StringIO" 1213 (vR 623), dE P "_kind" 1224 (vR 632), dE P "_fspath" 1233 (vR 639), dE P "_check_arg_types" 1243 (vR 646), dE P "isabs" 1250 (vR 653), dE P "join" 1261 (vR 660), dE P "dirname" 1271 (vR 667), dE P "shlex" 1412 (vR 758), dE P "split" 1422 (vR 770), dE P "_law_read" 1431 (vR 777), dE P "_law_bare" 1439 (vR 784), dE P "_law_holds" 1456 (vR 791), dE P "law" 1462 (vR 796)] 37), #[]⟩
noncomputable def b38 (_ : Params) : Obj := ⟨(vT "tuple"), none, (.seq #[] 0), #[]⟩
noncomputable def b40 (_ : Params) : Obj := ⟨(vT "tuple"), none, (.seq #[(vS "k" 327)] 0), #[]⟩
noncomputable def b41 (_ : Params) : Obj := ⟨(vT "tuple"), none, (.seq #[] 0), #[]⟩
noncomputable def b43 (_ : Params) : Obj := ⟨(vT "code"), none, (.fields #[(vS "_wall" 324), (vS "_wall" 325), (vS "/claim/cut.py" 326), (.int (3) 0), (.int (1) 0), (.int (0) 0), (.int (0) 0), (.int (3) 0), (vR 38), (.bool true), (.int (318) 0), (vR 39), .none, (vR 40), (vR 41), (vR 42), (.int (328) 0), (.int (3) 0), (vS "/claim/cut.py" 329)]), #[]⟩
noncomputable def b44 (_ : Params) : Obj := ⟨(vT "function"), none, (fO (sA 0) "_wall" "_wall" [] .none .none .none (vS "__main__" 164) none (vR 43) .none 3 0), #[]⟩
noncomputable def b45 (_ : Params) : Obj := ⟨(vT "tuple"), none, (.seq #[] 0), #[]⟩
noncomputable def b47 (_ : Params) : Obj := ⟨(vT "tuple"), none, (.seq #[(vS "s" 336), (vS "amount" 337), (vS "lpos" 338), (vS "rpos" 339)] 0), #[]⟩
noncomputable def b48 (_ : Params) : Obj := ⟨(vT "tuple"), none, (.seq #[] 0), #[]⟩
noncomputable def b50 (_ : Params) : Obj := ⟨(vT "code"), none, (.fields #[(vS "_strip_padding" 333), (vS "_strip_padding" 334), (vS "/claim/cut.py" 335), (.int (7) 0), (.int (2) 0), (.int (0) 0), (.int (0) 0), (.int (3) 0), (vR 45), (.bool true), (.int (318) 0), (vR 46), .none, (vR 47), (vR 48), (vR 49), (.int (340) 0), (.int (7) 0), (vS "/claim/cut.py" 341)]), #[]⟩
noncomputable def b51 (_ : Params) : Obj := ⟨(vT "function"), none, (fO (sA 2) "_strip_padding" "_strip_padding" [] .none .none .none (vS "cpy313.locale" 331) none (vR 50) .none 3 0), #[]⟩
noncomputable def b55 (_ : Params) : Obj := ⟨(vT "tuple"), none, (.seq #[(.int (14) 0), (.int (14) 0), (.int (4) 0), (.int (1) 0), (.int (1) 0), (.int (9) 0), (.int (0) 0), (.int (64) 0), (.int (0) 0), (.int (1342177280) 0), (.int (0) 0), (.int (0) 0), (.int (0) 0), (.int (0) 0), (.int (0) 0), (.int (17) 0), (.int (0) 0), (.int (13) 0), (.int (11) 0), (.int (9) 0), (.int (0) 0), (.int (64) 0), (.int (0) 0), (.int (1342177280) 0), (.int (0) 0), (.int (0) 0), (.int (0) 0), (.int (0) 0), (.int (0) 0), (.int (17) 0), (.int (1) 0), (.int (1) 0)] 0), #[]⟩
noncomputable def b56 (_ : Params) : Obj := ⟨(vT "re.Pattern"), none, (.fields #[(vS "([&~|])" 344), (.int (32) 379), (.int (1) 0), .none, .none, (vR 55), (.int (0) 0)]), #[]⟩
noncomputable def b58 (_ : Params) : Obj := ⟨(vT "dict"), none, (.dict #[⟨40, (.int (40) 384), (vS "\\(" 388)⟩, ⟨41, (.int (41) 390), (vS "\\)" 394)⟩, ⟨91, (.int (91) 396), (vS "\\[" 400)⟩, ⟨93, (.int (93) 402), (vS "\\]" 406)⟩, ⟨123, (.int (123) 408), (vS "\\{" 412)⟩, ⟨125, (.int (125) 414), (vS "\\}" 418)⟩, ⟨63, (.int (63) 420), (vS "\\?" 424)⟩, ⟨42, (.int (42) 426), (vS "\\*" 430)⟩, ⟨43, (.int (43) 432), (vS "\\+" 436)⟩, ⟨45, (.int (45) 438), (vS "\\-" 442)⟩, ⟨124, (.int (124) 444), (vS "\\|" 448)⟩, ⟨94, (.int (94) 450), (vS "\\^" 454)⟩, ⟨36, (.int (36) 456), (vS "\\$" 460)⟩, ⟨92, (.int (92) 462), (vS "\\\\" 466)⟩, ⟨46, (.int (46) 468), (vS "\\." 472)⟩, ⟨38, (.int (38) 474), (vS "\\&" 478)⟩, ⟨126, (.int (126) 480), (vS "\\~" 484)⟩, ⟨35, (.int (35) 486), (vS "\\#" 490)⟩, ⟨32, (.int (32) 492), (vS "\\ " 496)⟩, ⟨9, (.int (9) 498), (vS "\\\t" 502)⟩, ⟨10, (.int (10) 504), (vS "\\\n" 508)⟩, ⟨13, (.int (13) 510), (vS "\\\x0d" 514)⟩, ⟨11, (.int (11) 516), (vS "\\\x0b" 520)⟩, ⟨12, (.int (12) 522), (vS "\\\x0c" 526)⟩] 24), #[]⟩
noncomputable def b62 (_ : Params) : Obj := ⟨(vT "tuple"), none, (.seq #[] 0), #[]⟩
noncomputable def b64 (_ : Params) : Obj := ⟨(vT "tuple"), none, (.seq #[(vS "pattern" 532)] 0), #[]⟩
noncomputable def b65 (_ : Params) : Obj := ⟨(vT "tuple"), none, (.seq #[] 0), #[]⟩
noncomputable def b67 (_ : Params) : Obj := ⟨(vT "code"), none, (.fields #[(vS "escape" 529), (vS "escape" 530), (vS "/claim/cut.py" 531), (.int (20) 0), (.int (1) 0), (.int (0) 0), (.int (0) 0), (.int (3) 0), (vR 62), (.bool true), (.int (318) 0), (vR 63), .none, (vR 64), (vR 65), (vR 66), (.int (533) 0), (.int (20) 0), (vS "/claim/cut.py" 534)]), #[]⟩
noncomputable def b68 (_ : Params) : Obj := ⟨(vT "function"), none, (fO (sA 6) "escape" "escape" [] .none .none .none (vS "re" 381) none (vR 67) .none 3 0), #[]⟩
noncomputable def b69 (_ : Params) : Obj := ⟨(vT "tuple"), none, (.seq #[] 0), #[]⟩
noncomputable def b71 (_ : Params) : Obj := ⟨(vT "tuple"), none, (.seq #[(vS "pat" 541), (vS "STAR" 542), (vS "QUESTION_MARK" 543), (vS "res" 544), (vS "add" 545), (vS "i" 546), (vS "n" 547), (vS "c" 548), (vS "j" 549), (vS "stuff" 550), (vS "chunks" 551), (vS "k" 552), (vS "chunk" 553)] 0), #[]⟩
noncomputable def b72 (_ : Params) : Obj := ⟨(vT "tuple"), none, (.seq #[] 0), #[]⟩
noncomputable def b74 (_ : Params) : Obj := ⟨(vT "code"), none, (.fields #[(vS "_translate" 538), (vS "_translate" 539), (vS "/claim/cut.py" 540), (.int (27) 0), (.int (3) 0), (.int (0) 0), (.int (0) 0), (.int (3) 0), (vR 69), (.bool true), (.int (318) 0), (vR 70), .none, (vR 71), (vR 72), (vR 73), (.int (554) 0), (.int (27) 0), (vS "/claim/cut.py" 555)]), #[]⟩
noncomputable def b75 (_ : Params) : Obj := ⟨(vT "function"), none, (fO (sA 8) "_translate" "_translate" [] .none .none .none (vS "cpy313.fnmatch" 536) none (vR 74) .none 3 0), #[]⟩
noncomputable def b76 (_ : Params) : Obj := ⟨(vT "tuple"), none, (.seq #[] 0), #[]⟩
noncomputable def b78 (_ : Params) : Obj := ⟨(vT "tuple"), none, (.seq #[(vS "n" 562), (vS "what" 563)] 0), #[]⟩
noncomputable def b79 (_ : Params) : Obj := ⟨(vT "tuple"), none, (.seq #[] 0), #[]⟩
noncomputable def b81 (_ : Params) : Obj := ⟨(vT "code"), none, (.fields #[(vS "_whence" 559), (vS "_whence" 560), (vS "/claim/cut.py" 561), (.int (90) 0), (.int (2) 0), (.int (0) 0), (.int (0) 0), (.int (3) 0), (vR 76), (.bool true), (.int (318) 0), (vR 77), .none, (vR 78), (vR 79), (vR 80), (.int (564) 0), (.int (90) 0), (vS "/claim/cut.py" 565)]), #[]⟩
noncomputable def b82 (_ : Params) : Obj := ⟨(vT "function"), none, (fO (sA 10) "_whence" "_whence" [] .none .none .none (vS "io" 557) none (vR 81) .none 3 0), #[]⟩
noncomputable def b83 (_ : Params) : Obj := ⟨(vT "tuple"), none, (.seq #[] 0), #[]⟩
noncomputable def b85 (_ : Params) : Obj := ⟨(vT "tuple"), none, (.seq #[(vS "n" 570), (vS "what" 571)] 0), #[]⟩
noncomputable def b86 (_ : Params) : Obj := ⟨(vT "tuple"), none, (.seq #[] 0), #[]⟩
noncomputable def b88 (_ : Params) : Obj := ⟨(vT "code"), none, (.fields #[(vS "_index" 567), (vS "_index" 568), (vS "/claim/cut.py" 569), (.int (95) 0), (.int (2) 0), (.int (0) 0), (.int (0) 0), (.int (3) 0), (vR 83), (.bool true), (.int (318) 0), (vR 84), .none, (vR 85), (vR 86), (vR 87), (.int (572) 0), (.int (95) 0), (vS "/claim/cut.py" 573)]), #[]⟩
noncomputable def b89 (_ : Params) : Obj := ⟨(vT "function"), none, (fO (sA 11) "_index" "_index" [] .none .none .none (vS "io" 557) none (vR 88) .none 3 0), #[]⟩
noncomputable def b90 (_ : Params) : Obj := ⟨(vT "tuple"), none, (.seq #[(vT "OSError"), (vT "ValueError")] 0), #[]⟩
noncomputable def b97 (_ : Params) : Obj := ⟨(vT "tuple"), none, (.seq #[] 0), #[]⟩
noncomputable def b98 (P : Params) : Obj := ⟨(vT "dict"), none, (.dict #[dE P "__module__" 582 (vS "io" 587), dE P "__firstlineno__" 586 (.int (102) 585), dE P "__static_attributes__" 589 (vR 97), dE P "__weakref__" 591 (vR 100), dE P "__doc__" 592 .none] 3), #[]⟩
noncomputable def b99 (_ : Params) : Obj := ⟨(vT "type"), none, (.cls ⟨(nS "UnsupportedOperation"), [(vT "OSError"), (vT "ValueError")], [(vR 99), (vT "OSError"), (vT "ValueError"), (vT "Exception"), (vT "BaseException"), (vT "object")], 98, (nS "UnsupportedOperation"), true, [], [], false, none, false⟩), #[(some (vR 90)), none, (some (vS "UnsupportedOperation" 575)), (some (vS "UnsupportedOperation" 583)), (some (.builtin "OSError.__new__")), (some (.bool true))]⟩
noncomputable def b100 (_ : Params) : Obj := ⟨(vT "getset_descriptor"), none, (.fields #[(vS "__weakref__" 590), (vR 99), (.builtin "ExceptionGroup.__weakref__"), .none]), #[]⟩
noncomputable def b110 (_ : Params) : Obj := ⟨(vT "tuple"), none, (.seq #[] 0), #[]⟩
noncomputable def b112 (_ : Params) : Obj := ⟨(vT "tuple"), none, (.seq #[(vS "cls" 614), (vS "args" 615), (vS "kwargs" 616)] 0), #[]⟩
noncomputable def b113 (_ : Params) : Obj := ⟨(vT "tuple"), none, (.seq #[] 0), #[]⟩
noncomputable def b115 (_ : Params) : Obj := ⟨(vT "code"), none, (.fields #[(vS "__new__" 611), (vS "IOBase.__new__" 612), (vS "/claim/cut.py" 613), (.int (107) 0), (.int (1) 0), (.int (1) 0), (.int (0) 0), (.int (15) 0), (vR 110), (.bool true), (.int (318) 0), (vR 111), .none, (vR 112), (vR 113), (vR 114), (.int (617) 0), (.int (107) 0), (vS "/claim/cut.py" 618)]), #[]⟩
noncomputable def b116 (_ : Params) : Obj := ⟨(vT "function"), none, (fO (sB 13 1) "__new__" "IOBase.__new__" [] .none .none .none (vS "io" 557) none (vR 115) .none 3 0), #[]⟩
noncomputable def b117 (_ : Params) : Obj := ⟨(vT "tuple"), none, (.seq #[] 0), #[]⟩
noncomputable def b118 (P : Params) : Obj := ⟨(vT "dict"), none, (.dict #[dE P "__module__" 604 (vS "io" 609), dE P "__firstlineno__" 608 (.int (104) 607), dE P "__new__" 619 (vR 120), dE P "__static_attributes__" 620 (vR 117), dE P "__dict__" 623 (vR 121), dE P "__weakref__" 625 (vR 122), dE P "__doc__" 626 .none] 4), #[]⟩
noncomputable def b119 (_ : Params) : Obj := ⟨(vT "type"), none, (.cls ⟨(nS "IOBase"), [(vT "object")], [(vR 119), (vT "object")], 118, (nS "IOBase"), true, [], [(vR 134), (vR 146)], false, none, false⟩), #[none, none, (some (vS "IOBase" 597)), (some (vS "IOBase" 605)), (some .none), (some (.bool true))]⟩
noncomputable def b120 (_ : Params) : Obj := ⟨(vT "staticmethod"), none, (.fields #[(vR 116)]), #[]⟩
noncomputable def b121 (_ : Params) : Obj := ⟨(vT "getset_descriptor"), none, (.fields #[(vS "__dict__" 622), (vR 119), (.builtin "function.__dict__"), (.builtin "function.__dict__#set")]), #[]⟩
noncomputable def b122 (_ : Params) : Obj := ⟨(vT "getset_descriptor"), none, (.fields #[(vS "__weakref__" 624), (vR 119), (.builtin "ExceptionGroup.__weakref__"), .none]), #[]⟩
noncomputable def b125 (_ : Params) : Obj := ⟨(vT "tuple"), none, (.seq #[(vR 119)] 0), #[]⟩
noncomputable def b132 (_ : Params) : Obj := ⟨(vT "tuple"), none, (.seq #[] 0), #[]⟩
noncomputable def b133 (P : Params) : Obj := ⟨(vT "dict"), none, (.dict #[dE P "__module__" 636 (vS "io" 641), dE P "__firstlineno__" 640 (.int (111) 639), dE P "__static_attributes__" 643 (vR 132), dE P "__doc__" 644 .none] 2), #[]⟩
noncomputable def b134 (_ : Params) : Obj := ⟨(vT "type"), none, (.cls ⟨(nS "BufferedIOBase"), [(vR 119)], [(vR 134), (vR 119), (vT "object")], 133, (nS "BufferedIOBase"), true, [], [(vR 376)], false, none, false⟩), #[(some (vR 125)), none, (some (vS "BufferedIOBase" 629)), (some (vS "BufferedIOBase" 637)), (some .none), (some (.bool true))]⟩
noncomputable def b137 (_ : Params) : Obj := ⟨(vT "tuple"), none, (.seq #[(vR 119)] 0), #[]⟩
noncomputable def b144 (_ : Params) : Obj := ⟨(vT "tuple"), none, (.seq #[] 0), #[]⟩
noncomputable def b145 (P : Params) : Obj := ⟨(vT "dict"), none, (.dict #[dE P "__module__" 654 (vS "io" 659), dE P "__firstlineno__" 658 (.int (113) 657), dE P "__static_attributes__" 661 (vR 144), dE P "__doc__" 662 .none] 2), #[]⟩
noncomputable def b146 (_ : Params) : Obj := ⟨(vT "type"), none, (.cls ⟨(nS "TextIOBase"), [(vR 119)], [(vR 146), (vR 119), (vT "object")], 145, (nS "TextIOBase"), true, [], [(vR 623)], false, none, false⟩), #[(some (vR 137)), none, (some (vS "TextIOBase" 647)), (some (vS "TextIOBase" 655)), (some .none), (some (.bool true))]⟩
noncomputable def b149 (_ : Params) : Obj := ⟨(vT "tuple"), none, (.seq #[(vR 134)] 0), #[]⟩
noncomputable def b156 (_ : Params) : Obj := ⟨(vT "tuple"), none, (.seq #[.none] 0), #[]⟩
noncomputable def b157 (_ : Params) : Obj := ⟨(vT "tuple"), none, (.seq #[] 0), #[]⟩
noncomputable def b159 (_ : Params) : Obj := ⟨(vT "tuple"), none, (.seq #[(vS "self" 682), (vS "initial_bytes" 683)] 0), #[]⟩
noncomputable def b160 (_ : Params) : Obj := ⟨(vT "tuple"), none, (.seq #[] 0), #[]⟩
noncomputable def b162 (_ : Params) : Obj := ⟨(vT "code"), none, (.fields #[(vS "__init__" 679), (vS "BytesIO.__init__" 680), (vS "/claim/cut.py" 681), (.int (118) 0), (.int (2) 0), (.int (0) 0), (.int (0) 0), (.int (3) 0), (vR 157), (.bool true), (.int (318) 0), (vR 158), .none, (vR 159), (vR 160), (vR 161), (.int (684) 0), (.int (118) 0), (vS "/claim/cut.py" 685)]), #[]⟩
noncomputable def b163 (_ : Params) : Obj := ⟨(vT "function"), none, (fO (sB 16 1) "__init__" "BytesIO.__init__" [] (vR 156) .none .none (vS "io" 557) none (vR 162) .none 3 0), #[]⟩
noncomputable def b164 (_ : Params) : Obj := ⟨(vT "tuple"), none, (.seq #[] 0), #[]⟩
noncomputable def b166 (_ : Params) : Obj := ⟨(vT "tuple"), none, (.seq #[(vS "self" 690)] 0), #[]⟩
noncomputable def b167 (_ : Params) : Obj := ⟨(vT "tuple"), none, (.seq #[] 0), #[]⟩
noncomputable def b169 (_ : Params) : Obj := ⟨(vT "code"), none, (.fields #[(vS "__check" 687), (vS "BytesIO.__check" 688), (vS "/claim/cut.py" 689), (.int (124) 0), (.int (1) 0), (.int (0) 0), (.int (0) 0), (.int (3) 0), (vR 164), (.bool true), (.int (318) 0), (vR 165), .none, (vR 166), (vR 167), (vR 168), (.int (691) 0), (.int (124) 0), (vS "/claim/cut.py" 692)]), #[]⟩
noncomputable def b170 (_ : Params) : Obj := ⟨(vT "function"), none, (fO (sB 16 2) "__check" "BytesIO.__check" [] .none .none .none (vS "io" 557) none (vR 169) .none 3 0), #[]⟩
noncomputable def b171 (_ : Params) : Obj := ⟨(vT "tuple"), none, (.seq #[] 0), #[]⟩
noncomputable def b173 (_ : Params) : Obj := ⟨(vT "tuple"), none, (.seq #[(vS "self" 697), (vS "limit" 698), (vS "start" 699), (vS "stop" 700), (vS "i" 701)] 0), #[]⟩
noncomputable def b174 (_ : Params) : Obj := ⟨(vT "tuple"), none, (.seq #[] 0), #[]⟩
noncomputable def b176 (_ : Params) : Obj := ⟨(vT "code"), none, (.fields #[(vS "__line" 694), (vS "BytesIO.__line" 695), (vS "/claim/cut.py" 696), (.int (128) 0), (.int (2) 0), (.int (0) 0), (.int (0) 0), (.int (3) 0), (vR 171), (.bool true), (.int (318) 0), (vR 172), .none, (vR 173), (vR 174), (vR 175), (.int (702) 0), (.int (128) 0), (vS "/claim/cut.py" 703)]), #[]⟩
noncomputable def b177 (_ : Params) : Obj := ⟨(vT "function"), none, (fO (sB 16 3) "__line" "BytesIO.__line" [] .none .none .none (vS "io" 557) none (vR 176) .none 3 0), #[]⟩
noncomputable def b178 (_ : Params) : Obj := ⟨(vT "tuple"), none, (.seq #[] 0), #[]⟩
noncomputable def b180 (_ : Params) : Obj := ⟨(vT "tuple"), none, (.seq #[(vS "self" 708)] 0), #[]⟩
noncomputable def b181 (_ : Params) : Obj := ⟨(vT "tuple"), none, (.seq #[] 0), #[]⟩
noncomputable def b183 (_ : Params) : Obj := ⟨(vT "code"), none, (.fields #[(vS "closed" 705), (vS "BytesIO.closed" 706), (vS "/claim/cut.py" 707), (.int (141) 0), (.int (1) 0), (.int (0) 0), (.int (0) 0), (.int (3) 0), (vR 178), (.bool true), (.int (318) 0), (vR 179), .none, (vR 180), (vR 181), (vR 182), (.int (709) 0), (.int (141) 0), (vS "/claim/cut.py" 710)]), #[]⟩
noncomputable def b184 (_ : Params) : Obj := ⟨(vT "function"), none, (fO (sB 16 4) "closed" "BytesIO.closed" [] .none .none .none (vS "io" 557) none (vR 183) .none 3 0), #[]⟩
noncomputable def b185 (_ : Params) : Obj := ⟨(vT "property"), none, (.fields #[(vR 184), .none, .none, .none, (vS "closed" 712), (.bool false)]), #[]⟩
noncomputable def b186 (_ : Params) : Obj := ⟨(vT "tuple"), none, (.seq #[] 0), #[]⟩
noncomputable def b188 (_ : Params) : Obj := ⟨(vT "tuple"), none, (.seq #[(vS "self" 716)] 0), #[]⟩
noncomputable def b189 (_ : Params) : Obj := ⟨(vT "tuple"), none, (.seq #[] 0), #[]⟩
noncomputable def b191 (_ : Params) : Obj := ⟨(vT "code"), none, (.fields #[(vS "close" 713), (vS "BytesIO.close" 714), (vS "/claim/cut.py" 715), (.int (145) 0), (.int (1) 0), (.int (0) 0), (.int (0) 0), (.int (3) 0), (vR 186), (.bool true), (.int (318) 0), (vR 187), .none, (vR 188), (vR 189), (vR 190), (.int (717) 0), (.int (145) 0), (vS "/claim/cut.py" 718)]), #[]⟩
noncomputable def b192 (_ : Params) : Obj := ⟨(vT "function"), none, (fO (sB 16 5) "close" "BytesIO.close" [] .none .none .none (vS "io" 557) none (vR 191) .none 3 0), #[]⟩
noncomputable def b193 (_ : Params) : Obj := ⟨(vT "tuple"), none, (.seq #[] 0), #[]⟩
noncomputable def b195 (_ : Params) : Obj := ⟨(vT "tuple"), none, (.seq #[(vS "self" 723)] 0), #[]⟩
noncomputable def b196 (_ : Params) : Obj := ⟨(vT "tuple"), none, (.seq #[] 0), #[]⟩
noncomputable def b198 (_ : Params) : Obj := ⟨(vT "code"), none, (.fields #[(vS "__enter__" 720), (vS "BytesIO.__enter__" 721), (vS "/claim/cut.py" 722), (.int (148) 0), (.int (1) 0), (.int (0) 0), (.int (0) 0), (.int (3) 0), (vR 193), (.bool true), (.int (318) 0), (vR 194), .none, (vR 195), (vR 196), (vR 197), (.int (724) 0), (.int (148) 0), (vS "/claim/cut.py" 725)]), #[]⟩
noncomputable def b199 (_ : Params) : Obj := ⟨(vT "function"), none, (fO (sB 16 6) "__enter__" "BytesIO.__enter__" [] .none .none .none (vS "io" 557) none (vR 198) .none 3 0), #[]⟩
noncomputable def b200 (_ : Params) : Obj := ⟨(vT "tuple"), none, (.seq #[] 0), #[]⟩
noncomputable def b202 (_ : Params) : Obj := ⟨(vT "tuple"), none, (.seq #[(vS "self" 730), (vS "args" 731)] 0), #[]⟩
noncomputable def b203 (_ : Params) : Obj := ⟨(vT "tuple"), none, (.seq #[] 0), #[]⟩
noncomputable def b205 (_ : Params) : Obj := ⟨(vT "code"), none, (.fields #[(vS "__exit__" 727), (vS "BytesIO.__exit__" 728), (vS "/claim/cut.py" 729), (.int (152) 0), (.int (1) 0), (.int (0) 0), (.int (0) 0), (.int (7) 0), (vR 200), (.bool true), (.int (318) 0), (vR 201), .none, (vR 202), (vR 203), (vR 204), (.int (732) 0), (.int (152) 0), (vS "/claim/cut.py" 733)]), #[]⟩
noncomputable def b206 (_ : Params) : Obj := ⟨(vT "function"), none, (fO (sB 16 7) "__exit__" "BytesIO.__exit__" [] .none .none .none (vS "io" 557) none (vR 205) .none 3 0), #[]⟩
noncomputable def b207 (_ : Params) : Obj := ⟨(vT "tuple"), none, (.seq #[] 0), #[]⟩
noncomputable def b209 (_ : Params) : Obj := ⟨(vT "tuple"), none, (.seq #[(vS "self" 738)] 0), #[]⟩
noncomputable def b210 (_ : Params) : Obj := ⟨(vT "tuple"), none, (.seq #[] 0), #[]⟩
noncomputable def b212 (_ : Params) : Obj := ⟨(vT "code"), none, (.fields #[(vS "readable" 735), (vS "BytesIO.readable" 736), (vS "/claim/cut.py" 737), (.int (155) 0), (.int (1) 0), (.int (0) 0), (.int (0) 0), (.int (3) 0), (vR 207), (.bool true), (.int (318) 0), (vR 208), .none, (vR 209), (vR 210), (vR 211), (.int (739) 0), (.int (155) 0), (vS "/claim/cut.py" 740)]), #[]⟩
noncomputable def b213 (_ : Params) : Obj := ⟨(vT "function"), none, (fO (sB 16 8) "readable" "BytesIO.readable" [] .none .none .none (vS "io" 557) none (vR 212) .none 3 0), #[]⟩
noncomputable def b214 (_ : Params) : Obj := ⟨(vT "tuple"), none, (.seq #[] 0), #[]⟩
noncomputable def b216 (_ : Params) : Obj := ⟨(vT "tuple"), none, (.seq #[(vS "self" 745)] 0), #[]⟩
noncomputable def b217 (_ : Params) : Obj := ⟨(vT "tuple"), none, (.seq #[] 0), #[]⟩
noncomputable def b219 (_ : Params) : Obj := ⟨(vT "code"), none, (.fields #[(vS "writable" 742), (vS "BytesIO.writable" 743), (vS "/claim/cut.py" 744), (.int (159) 0), (.int (1) 0), (.int (0) 0), (.int (0) 0), (.int (3) 0), (vR 214), (.bool true), (.int (318) 0), (vR 215), .none, (vR 216), (vR 217), (vR 218), (.int (746) 0), (.int (159) 0), (vS "/claim/cut.py" 747)]), #[]⟩
noncomputable def b220 (_ : Params) : Obj := ⟨(vT "function"), none, (fO (sB 16 9) "writable" "BytesIO.writable" [] .none .none .none (vS "io" 557) none (vR 219) .none 3 0), #[]⟩
noncomputable def b221 (_ : Params) : Obj := ⟨(vT "tuple"), none, (.seq #[] 0), #[]⟩
noncomputable def b223 (_ : Params) : Obj := ⟨(vT "tuple"), none, (.seq #[(vS "self" 752)] 0), #[]⟩
noncomputable def b224 (_ : Params) : Obj := ⟨(vT "tuple"), none, (.seq #[] 0), #[]⟩
noncomputable def b226 (_ : Params) : Obj := ⟨(vT "code"), none, (.fields #[(vS "seekable" 749), (vS "BytesIO.seekable" 750), (vS "/claim/cut.py" 751), (.int (163) 0), (.int (1) 0), (.int (0) 0), (.int (0) 0), (.int (3) 0), (vR 221), (.bool true), (.int (318) 0), (vR 222), .none, (vR 223), (vR 224), (vR 225), (.int (753) 0), (.int (163) 0), (vS "/claim/cut.py" 754)]), #[]⟩
noncomputable def b227 (_ : Params) : Obj := ⟨(vT "function"), none, (fO (sB 16 10) "seekable" "BytesIO.seekable" [] .none .none .none (vS "io" 557) none (vR 226) .none 3 0), #[]⟩
noncomputable def b228 (_ : Params) : Obj := ⟨(vT "tuple"), none, (.seq #[] 0), #[]⟩
noncomputable def b230 (_ : Params) : Obj := ⟨(vT "tuple"), none, (.seq #[(vS "self" 759)] 0), #[]⟩
noncomputable def b231 (_ : Params) : Obj := ⟨(vT "tuple"), none, (.seq #[] 0), #[]⟩
noncomputable def b233 (_ : Params) : Obj := ⟨(vT "code"), none, (.fields #[(vS "isatty" 756), (vS "BytesIO.isatty" 757), (vS "/claim/cut.py" 758), (.int (167) 0), (.int (1) 0), (.int (0) 0), (.int (0) 0), (.int (3) 0), (vR 228), (.bool true), (.int (318) 0), (vR 229), .none, (vR 230), (vR 231), (vR 232), (.int (760) 0), (.int (167) 0), (vS "/claim/cut.py" 761)]), #[]⟩
noncomputable def b234 (_ : Params) : Obj := ⟨(vT "function"), none, (fO (sB 16 11) "isatty" "BytesIO.isatty" [] .none .none .none (vS "io" 557) none (vR 233) .none 3 0), #[]⟩
noncomputable def b235 (_ : Params) : Obj := ⟨(vT "tuple"), none, (.seq #[] 0), #[]⟩
noncomputable def b237 (_ : Params) : Obj := ⟨(vT "tuple"), none, (.seq #[(vS "self" 766)] 0), #[]⟩
noncomputable def b238 (_ : Params) : Obj := ⟨(vT "tuple"), none, (.seq #[] 0), #[]⟩
noncomputable def b240 (_ : Params) : Obj := ⟨(vT "code"), none, (.fields #[(vS "flush" 763), (vS "BytesIO.flush" 764), (vS "/claim/cut.py" 765), (.int (171) 0), (.int (1) 0), (.int (0) 0), (.int (0) 0), (.int (3) 0), (vR 235), (.bool true), (.int (318) 0), (vR 236), .none, (vR 237), (vR 238), (vR 239), (.int (767) 0), (.int (171) 0), (vS "/claim/cut.py" 768)]), #[]⟩
noncomputable def b241 (_ : Params) : Obj := ⟨(vT "function"), none, (fO (sB 16 12) "flush" "BytesIO.flush" [] .none .none .none (vS "io" 557) none (vR 240) .none 3 0), #[]⟩
noncomputable def b242 (_ : Params) : Obj := ⟨(vT "tuple"), none, (.seq #[] 0), #[]⟩
noncomputable def b244 (_ : Params) : Obj := ⟨(vT "tuple"), none, (.seq #[(vS "self" 773)] 0), #[]⟩
noncomputable def b245 (_ : Params) : Obj := ⟨(vT "tuple"), none, (.seq #[] 0), #[]⟩
noncomputable def b247 (_ : Params) : Obj := ⟨(vT "code"), none, (.fields #[(vS "fileno" 770), (vS "BytesIO.fileno" 771), (vS "/claim/cut.py" 772), (.int (174) 0), (.int (1) 0), (.int (0) 0), (.int (0) 0), (.int (3) 0), (vR 242), (.bool true), (.int (318) 0), (vR 243), .none, (vR 244), (vR 245), (vR 246), (.int (774) 0), (.int (174) 0), (vS "/claim/cut.py" 775)]), #[]⟩
noncomputable def b248 (_ : Params) : Obj := ⟨(vT "function"), none, (fO (sB 16 13) "fileno" "BytesIO.fileno" [] .none .none .none (vS "io" 557) none (vR 247) .none 3 0), #[]⟩
noncomputable def b249 (_ : Params) : Obj := ⟨(vT "tuple"), none, (.seq #[] 0), #[]⟩
noncomputable def b251 (_ : Params) : Obj := ⟨(vT "tuple"), none, (.seq #[(vS "self" 780)] 0), #[]⟩
noncomputable def b252 (_ : Params) : Obj := ⟨(vT "tuple"), none, (.seq #[] 0), #[]⟩
noncomputable def b254 (_ : Params) : Obj := ⟨(vT "code"), none, (.fields #[(vS "detach" 777), (vS "BytesIO.detach" 778), (vS "/claim/cut.py" 779), (.int (177) 0), (.int (1) 0), (.int (0) 0), (.int (0) 0), (.int (3) 0), (vR 249), (.bool true), (.int (318) 0), (vR 250), .none, (vR 251), (vR 252), (vR 253), (.int (781) 0), (.int (177) 0), (vS "/claim/cut.py" 782)]), #[]⟩
noncomputable def b255 (_ : Params) : Obj := ⟨(vT "function"), none, (fO (sB 16 14) "detach" "BytesIO.detach" [] .none .none .none (vS "io" 557) none (vR 254) .none 3 0), #[]⟩
noncomputable def b256 (_ : Params) : Obj := ⟨(vT "tuple"), none, (.seq #[] 0), #[]⟩
noncomputable def b258 (_ : Params) : Obj := ⟨(vT "tuple"), none, (.seq #[(vS "self" 787)] 0), #[]⟩
noncomputable def b259 (_ : Params) : Obj := ⟨(vT "tuple"), none, (.seq #[] 0), #[]⟩
noncomputable def b261 (_ : Params) : Obj := ⟨(vT "code"), none, (.fields #[(vS "getvalue" 784), (vS "BytesIO.getvalue" 785), (vS "/claim/cut.py" 786), (.int (180) 0), (.int (1) 0), (.int (0) 0), (.int (0) 0), (.int (3) 0), (vR 256), (.bool true), (.int (318) 0), (vR 257), .none, (vR 258), (vR 259), (vR 260), (.int (788) 0), (.int (180) 0), (vS "/claim/cut.py" 789)]), #[]⟩
noncomputable def b262 (_ : Params) : Obj := ⟨(vT "function"), none, (fO (sB 16 15) "getvalue" "BytesIO.getvalue" [] .none .none .none (vS "io" 557) none (vR 261) .none 3 0), #[]⟩
noncomputable def b263 (_ : Params) : Obj := ⟨(vT "tuple"), none, (.seq #[] 0), #[]⟩
noncomputable def b265 (_ : Params) : Obj := ⟨(vT "tuple"), none, (.seq #[(vS "self" 794)] 0), #[]⟩
noncomputable def b266 (_ : Params) : Obj := ⟨(vT "tuple"), none, (.seq #[] 0), #[]⟩
noncomputable def b268 (_ : Params) : Obj := ⟨(vT "code"), none, (.fields #[(vS "getbuffer" 791), (vS "BytesIO.getbuffer" 792), (vS "/claim/cut.py" 793), (.int (183) 0), (.int (1) 0), (.int (0) 0), (.int (0) 0), (.int (3) 0), (vR 263), (.bool true), (.int (318) 0), (vR 264), .none, (vR 265), (vR 266), (vR 267), (.int (795) 0), (.int (183) 0), (vS "/claim/cut.py" 796)]), #[]⟩
noncomputable def b269 (_ : Params) : Obj := ⟨(vT "function"), none, (fO (sB 16 16) "getbuffer" "BytesIO.getbuffer" [] .none .none .none (vS "io" 557) none (vR 268) .none 3 0), #[]⟩
noncomputable def b270 (_ : Params) : Obj := ⟨(vT "tuple"), none, (.seq #[] 0), #[]⟩
noncomputable def b272 (_ : Params) : Obj := ⟨(vT "tuple"), none, (.seq #[(vS "self" 801)] 0), #[]⟩
noncomputable def b273 (_ : Params) : Obj := ⟨(vT "tuple"), none, (.seq #[] 0), #[]⟩
noncomputable def b275 (_ : Params) : Obj := ⟨(vT "code"), none, (.fields #[(vS "tell" 798), (vS "BytesIO.tell" 799), (vS "/claim/cut.py" 800), (.int (186) 0), (.int (1) 0), (.int (0) 0), (.int (0) 0), (.int (3) 0), (vR 270), (.bool true), (.int (318) 0), (vR 271), .none, (vR 272), (vR 273), (vR 274), (.int (802) 0), (.int (186) 0), (vS "/claim/cut.py" 803)]), #[]⟩
noncomputable def b276 (_ : Params) : Obj := ⟨(vT "function"), none, (fO (sB 16 17) "tell" "BytesIO.tell" [] .none .none .none (vS "io" 557) none (vR 275) .none 3 0), #[]⟩
noncomputable def b277 (_ : Params) : Obj := ⟨(vT "tuple"), none, (.seq #[(.int (0) 805)] 0), #[]⟩
noncomputable def b278 (_ : Params) : Obj := ⟨(vT "tuple"), none, (.seq #[] 0), #[]⟩
noncomputable def b280 (_ : Params) : Obj := ⟨(vT "tuple"), none, (.seq #[(vS "self" 809), (vS "pos" 810), (vS "whence" 811)] 0), #[]⟩
noncomputable def b281 (_ : Params) : Obj := ⟨(vT "tuple"), none, (.seq #[] 0), #[]⟩
noncomputable def b283 (_ : Params) : Obj := ⟨(vT "code"), none, (.fields #[(vS "seek" 806), (vS "BytesIO.seek" 807), (vS "/claim/cut.py" 808), (.int (190) 0), (.int (3) 0), (.int (3) 0), (.int (0) 0), (.int (3) 0), (vR 278), (.bool true), (.int (318) 0), (vR 279), .none, (vR 280), (vR 281), (vR 282), (.int (812) 0), (.int (190) 0), (vS "/claim/cut.py" 813)]), #[]⟩
noncomputable def b284 (_ : Params) : Obj := ⟨(vT "function"), none, (fO (sB 16 18) "seek" "BytesIO.seek" [] (vR 277) .none .none (vS "io" 557) none (vR 283) .none 3 0), #[]⟩
noncomputable def b285 (_ : Params) : Obj := ⟨(vT "tuple"), none, (.seq #[.none] 0), #[]⟩
noncomputable def b286 (_ : Params) : Obj := ⟨(vT "tuple"), none, (.seq #[] 0), #[]⟩
noncomputable def b288 (_ : Params) : Obj := ⟨(vT "tuple"), none, (.seq #[(vS "self" 818), (vS "size" 819)] 0), #[]⟩
noncomputable def b289 (_ : Params) : Obj := ⟨(vT "tuple"), none, (.seq #[] 0), #[]⟩
noncomputable def b291 (_ : Params) : Obj := ⟨(vT "code"), none, (.fields #[(vS "truncate" 815), (vS "BytesIO.truncate" 816), (vS "/claim/cut.py" 817), (.int (207) 0), (.int (2) 0), (.int (2) 0), (.int (0) 0), (.int (3) 0), (vR 286), (.bool true), (.int (318) 0), (vR 287), .none, (vR 288), (vR 289), (vR 290), (.int (820) 0), (.int (207) 0), (vS "/claim/cut.py" 821)]), #[]⟩
noncomputable def b292 (_ : Params) : Obj := ⟨(vT "function"), none, (fO (sB 16 19) "truncate" "BytesIO.truncate" [] (vR 285) .none .none (vS "io" 557) none (vR 291) .none 3 0), #[]⟩
noncomputable def b293 (_ : Params) : Obj := ⟨(vT "tuple"), none, (.seq #[(.int (-1) 824)] 0), #[]⟩
noncomputable def b294 (_ : Params) : Obj := ⟨(vT "tuple"), none, (.seq #[] 0), #[]⟩
noncomputable def b296 (_ : Params) : Obj := ⟨(vT "tuple"), none, (.seq #[(vS "self" 828), (vS "size" 829), (vS "start" 830), (vS "stop" 831)] 0), #[]⟩
noncomputable def b297 (_ : Params) : Obj := ⟨(vT "tuple"), none, (.seq #[] 0), #[]⟩
noncomputable def b299 (_ : Params) : Obj := ⟨(vT "code"), none, (.fields #[(vS "read" 825), (vS "BytesIO.read" 826), (vS "/claim/cut.py" 827), (.int (210) 0), (.int (2) 0), (.int (2) 0), (.int (0) 0), (.int (3) 0), (vR 294), (.bool true), (.int (318) 0), (vR 295), .none, (vR 296), (vR 297), (vR 298), (.int (832) 0), (.int (210) 0), (vS "/claim/cut.py" 833)]), #[]⟩
noncomputable def b300 (_ : Params) : Obj := ⟨(vT "function"), none, (fO (sB 16 20) "read" "BytesIO.read" [] (vR 293) .none .none (vS "io" 557) none (vR 299) .none 3 0), #[]⟩
noncomputable def b301 (_ : Params) : Obj := ⟨(vT "tuple"), none, (.seq #[(.int (-1) 836)] 0), #[]⟩
noncomputable def b302 (_ : Params) : Obj := ⟨(vT "tuple"), none, (.seq #[] 0), #[]⟩
noncomputable def b304 (_ : Params) : Obj := ⟨(vT "tuple"), none, (.seq #[(vS "self" 840), (vS "size" 841)] 0), #[]⟩
noncomputable def b305 (_ : Params) : Obj := ⟨(vT "tuple"), none, (.seq #[] 0), #[]⟩
noncomputable def b307 (_ : Params) : Obj := ⟨(vT "code"), none, (.fields #[(vS "read1" 837), (vS "BytesIO.read1" 838), (vS "/claim/cut.py" 839), (.int (224) 0), (.int (2) 0), (.int (2) 0), (.int (0) 0), (.int (3) 0), (vR 302), (.bool true), (.int (318) 0), (vR 303), .none, (vR 304), (vR 305), (vR 306), (.int (842) 0), (.int (224) 0), (vS "/claim/cut.py" 843)]), #[]⟩
noncomputable def b308 (_ : Params) : Obj := ⟨(vT "function"), none, (fO (sB 16 21) "read1" "BytesIO.read1" [] (vR 301) .none .none (vS "io" 557) none (vR 307) .none 3 0), #[]⟩
noncomputable def b309 (_ : Params) : Obj := ⟨(vT "tuple"), none, (.seq #[] 0), #[]⟩
noncomputable def b311 (_ : Params) : Obj := ⟨(vT "tuple"), none, (.seq #[(vS "self" 848), (vS "buffer" 849), (vS "start" 850), (vS "n" 851)] 0), #[]⟩
noncomputable def b312 (_ : Params) : Obj := ⟨(vT "tuple"), none, (.seq #[] 0), #[]⟩
noncomputable def b314 (_ : Params) : Obj := ⟨(vT "code"), none, (.fields #[(vS "readinto" 845), (vS "BytesIO.readinto" 846), (vS "/claim/cut.py" 847), (.int (227) 0), (.int (2) 0), (.int (2) 0), (.int (0) 0), (.int (3) 0), (vR 309), (.bool true), (.int (318) 0), (vR 310), .none, (vR 311), (vR 312), (vR 313), (.int (852) 0), (.int (227) 0), (vS "/claim/cut.py" 853)]), #[]⟩
noncomputable def b315 (_ : Params) : Obj := ⟨(vT "function"), none, (fO (sB 16 22) "readinto" "BytesIO.readinto" [] .none .none .none (vS "io" 557) none (vR 314) .none 3 0), #[]⟩
noncomputable def b316 (_ : Params) : Obj := ⟨(vT "tuple"), none, (.seq #[] 0), #[]⟩
noncomputable def b318 (_ : Params) : Obj := ⟨(vT "tuple"), none, (.seq #[(vS "self" 858), (vS "buffer" 859)] 0), #[]⟩
noncomputable def b319 (_ : Params) : Obj := ⟨(vT "tuple"), none, (.seq #[] 0), #[]⟩
noncomputable def b321 (_ : Params) : Obj := ⟨(vT "code"), none, (.fields #[(vS "readinto1" 855), (vS "BytesIO.readinto1" 856), (vS "/claim/cut.py" 857), (.int (241) 0), (.int (2) 0), (.int (2) 0), (.int (0) 0), (.int (3) 0), (vR 316), (.bool true), (.int (318) 0), (vR 317), .none, (vR 318), (vR 319), (vR 320), (.int (860) 0), (.int (241) 0), (vS "/claim/cut.py" 861)]), #[]⟩
noncomputable def b322 (_ : Params) : Obj := ⟨(vT "function"), none, (fO (sB 16 23) "readinto1" "BytesIO.readinto1" [] .none .none .none (vS "io" 557) none (vR 321) .none 3 0), #[]⟩
noncomputable def b323 (_ : Params) : Obj := ⟨(vT "tuple"), none, (.seq #[(.int (-1) 864)] 0), #[]⟩
noncomputable def b324 (_ : Params) : Obj := ⟨(vT "tuple"), none, (.seq #[] 0), #[]⟩
noncomputable def b326 (_ : Params) : Obj := ⟨(vT "tuple"), none, (.seq #[(vS "self" 868), (vS "size" 869)] 0), #[]⟩
noncomputable def b327 (_ : Params) : Obj := ⟨(vT "tuple"), none, (.seq #[] 0), #[]⟩
noncomputable def b329 (_ : Params) : Obj := ⟨(vT "code"), none, (.fields #[(vS "readline" 865), (vS "BytesIO.readline" 866), (vS "/claim/cut.py" 867), (.int (244) 0), (.int (2) 0), (.int (2) 0), (.int (0) 0), (.int (3) 0), (vR 324), (.bool true), (.int (318) 0), (vR 325), .none, (vR 326), (vR 327), (vR 328), (.int (870) 0), (.int (244) 0), (vS "/claim/cut.py" 871)]), #[]⟩
noncomputable def b330 (_ : Params) : Obj := ⟨(vT "function"), none, (fO (sB 16 24) "readline" "BytesIO.readline" [] (vR 323) .none .none (vS "io" 557) none (vR 329) .none 3 0), #[]⟩
noncomputable def b331 (_ : Params) : Obj := ⟨(vT "tuple"), none, (.seq #[.none] 0), #[]⟩
noncomputable def b332 (_ : Params) : Obj := ⟨(vT "tuple"), none, (.seq #[] 0), #[]⟩
noncomputable def b334 (_ : Params) : Obj := ⟨(vT "tuple"), none, (.seq #[(vS "self" 876), (vS "size" 877)] 0), #[]⟩
noncomputable def b335 (_ : Params) : Obj := ⟨(vT "tuple"), none, (.seq #[] 0), #[]⟩
noncomputable def b337 (_ : Params) : Obj := ⟨(vT "code"), none, (.fields #[(vS "readlines" 873), (vS "BytesIO.readlines" 874), (vS "/claim/cut.py" 875), (.int (251) 0), (.int (2) 0), (.int (2) 0), (.int (0) 0), (.int (3) 0), (vR 332), (.bool true), (.int (318) 0), (vR 333), .none, (vR 334), (vR 335), (vR 336), (.int (878) 0), (.int (251) 0), (vS "/claim/cut.py" 879)]), #[]⟩
noncomputable def b338 (_ : Params) : Obj := ⟨(vT "function"), none, (fO (sB 16 25) "readlines" "BytesIO.readlines" [] (vR 331) .none .none (vS "io" 557) none (vR 337) .none 3 0), #[]⟩
noncomputable def b339 (_ : Params) : Obj := ⟨(vT "tuple"), none, (.seq #[] 0), #[]⟩
noncomputable def b341 (_ : Params) : Obj := ⟨(vT "tuple"), none, (.seq #[(vS "self" 884)] 0), #[]⟩
noncomputable def b342 (_ : Params) : Obj := ⟨(vT "tuple"), none, (.seq #[] 0), #[]⟩
noncomputable def b344 (_ : Params) : Obj := ⟨(vT "code"), none, (.fields #[(vS "__iter__" 881), (vS "BytesIO.__iter__" 882), (vS "/claim/cut.py" 883), (.int (254) 0), (.int (1) 0), (.int (0) 0), (.int (0) 0), (.int (3) 0), (vR 339), (.bool true), (.int (318) 0), (vR 340), .none, (vR 341), (vR 342), (vR 343), (.int (885) 0), (.int (254) 0), (vS "/claim/cut.py" 886)]), #[]⟩
noncomputable def b345 (_ : Params) : Obj := ⟨(vT "function"), none, (fO (sB 16 26) "__iter__" "BytesIO.__iter__" [] .none .none .none (vS "io" 557) none (vR 344) .none 3 0), #[]⟩
noncomputable def b346 (_ : Params) : Obj := ⟨(vT "tuple"), none, (.seq #[] 0), #[]⟩
noncomputable def b348 (_ : Params) : Obj := ⟨(vT "tuple"), none, (.seq #[(vS "self" 891), (vS "line" 892)] 0), #[]⟩
noncomputable def b349 (_ : Params) : Obj := ⟨(vT "tuple"), none, (.seq #[] 0), #[]⟩
noncomputable def b351 (_ : Params) : Obj := ⟨(vT "code"), none, (.fields #[(vS "__next__" 888), (vS "BytesIO.__next__" 889), (vS "/claim/cut.py" 890), (.int (257) 0), (.int (1) 0), (.int (0) 0), (.int (0) 0), (.int (3) 0), (vR 346), (.bool true), (.int (318) 0), (vR 347), .none, (vR 348), (vR 349), (vR 350), (.int (893) 0), (.int (257) 0), (vS "/claim/cut.py" 894)]), #[]⟩
noncomputable def b352 (_ : Params) : Obj := ⟨(vT "function"), none, (fO (sB 16 27) "__next__" "BytesIO.__next__" [] .none .none .none (vS "io" 557) none (vR 351) .none 3 0), #[]⟩
noncomputable def b353 (_ : Params) : Obj := ⟨(vT "tuple"), none, (.seq #[] 0), #[]⟩
noncomputable def b355 (_ : Params) : Obj := ⟨(vT "tuple"), none, (.seq #[(vS "self" 899), (vS "b" 900), (vS "n" 901), (vS "start" 902)] 0), #[]⟩
noncomputable def b356 (_ : Params) : Obj := ⟨(vT "tuple"), none, (.seq #[] 0), #[]⟩
noncomputable def b358 (_ : Params) : Obj := ⟨(vT "code"), none, (.fields #[(vS "write" 896), (vS "BytesIO.write" 897), (vS "/claim/cut.py" 898), (.int (264) 0), (.int (2) 0), (.int (2) 0), (.int (0) 0), (.int (3) 0), (vR 353), (.bool true), (.int (318) 0), (vR 354), .none, (vR 355), (vR 356), (vR 357), (.int (903) 0), (.int (264) 0), (vS "/claim/cut.py" 904)]), #[]⟩
noncomputable def b359 (_ : Params) : Obj := ⟨(vT "function"), none, (fO (sB 16 28) "write" "BytesIO.write" [] .none .none .none (vS "io" 557) none (vR 358) .none 3 0), #[]⟩
noncomputable def b360 (_ : Params) : Obj := ⟨(vT "tuple"), none, (.seq #[] 0), #[]⟩
noncomputable def b362 (_ : Params) : Obj := ⟨(vT "tuple"), none, (.seq #[(vS "self" 909), (vS "lines" 910)] 0), #[]⟩
noncomputable def b363 (_ : Params) : Obj := ⟨(vT "tuple"), none, (.seq #[] 0), #[]⟩
noncomputable def b365 (_ : Params) : Obj := ⟨(vT "code"), none, (.fields #[(vS "writelines" 906), (vS "BytesIO.writelines" 907), (vS "/claim/cut.py" 908), (.int (280) 0), (.int (2) 0), (.int (2) 0), (.int (0) 0), (.int (3) 0), (vR 360), (.bool true), (.int (318) 0), (vR 361), .none, (vR 362), (vR 363), (vR 364), (.int (911) 0), (.int (280) 0), (vS "/claim/cut.py" 912)]), #[]⟩
noncomputable def b366 (_ : Params) : Obj := ⟨(vT "function"), none, (fO (sB 16 29) "writelines" "BytesIO.writelines" [] .none .none .none (vS "io" 557) none (vR 365) .none 3 0), #[]⟩
noncomputable def b367 (_ : Params) : Obj := ⟨(vT "tuple"), none, (.seq #[] 0), #[]⟩
noncomputable def b369 (_ : Params) : Obj := ⟨(vT "tuple"), none, (.seq #[(vS "self" 917)] 0), #[]⟩
noncomputable def b370 (_ : Params) : Obj := ⟨(vT "tuple"), none, (.seq #[] 0), #[]⟩
noncomputable def b372 (_ : Params) : Obj := ⟨(vT "code"), none, (.fields #[(vS "__repr__" 914), (vS "BytesIO.__repr__" 915), (vS "/claim/cut.py" 916), (.int (283) 0), (.int (1) 0), (.int (0) 0), (.int (0) 0), (.int (3) 0), (vR 367), (.bool true), (.int (318) 0), (vR 368), .none, (vR 369), (vR 370), (vR 371), (.int (918) 0), (.int (283) 0), (vS "/claim/cut.py" 919)]), #[]⟩
noncomputable def b373 (_ : Params) : Obj := ⟨(vT "function"), none, (fO (sB 16 30) "__repr__" "BytesIO.__repr__" [] .none .none .none (vS "io" 557) none (vR 372) .none 3 0), #[]⟩
noncomputable def b374 (_ : Params) : Obj := ⟨(vT "tuple"), none, (.seq #[(vS "__buf" 921), (vS "__pos" 922)] 0), #[]⟩
noncomputable def b375 (P : Params) : Obj := ⟨(vT "dict"), none, (.dict #[dE P "__module__" 672 (vS "_io" 677), dE P "__firstlineno__" 676 (.int (115) 675), dE P "__init__" 686 (vR 163), dE P "_BytesIO__check" 693 (vR 170), dE P "_BytesIO__line" 704 (vR 177), dE P "closed" 712 (vR 185), dE P "close" 719 (vR 192), dE P "__enter__" 726 (vR 199), dE P "__exit__" 734 (vR 206), dE P "readable" 741 (vR 213), dE P "writable" 748 (vR 220), dE P "seekable" 755 (vR 227), dE P "isatty" 762 (vR 234), dE P "flush" 769 (vR 241), dE P "fileno" 776 (vR 248), dE P "detach" 783 (vR 255), dE P "getvalue" 790 (vR 262), dE P "getbuffer" 797 (vR 269), dE P "tell" 804 (vR 276), dE P "seek" 814 (vR 284), dE P "truncate" 822 (vR 292), dE P "read" 834 (vR 300), dE P "read1" 844 (vR 308), dE P "readinto" 854 (vR 315), dE P "readinto1" 862 (vR 322), dE P "readline" 872 (vR 330), dE P "readlines" 880 (vR 338), dE P "__iter__" 887 (vR 345), dE P "__next__" 895 (vR 352), dE P "write" 905 (vR 359), dE P "writelines" 913 (vR 366), dE P "__repr__" 920 (vR 373), dE P "__static_attributes__" 923 (vR 374), dE P "__doc__" 924 .none] 2), #[]⟩
noncomputable def b376 (_ : Params) : Obj := ⟨(vT "type"), none, (.cls ⟨(nS "BytesIO"), [(vR 134)], [(vR 376), (vR 134), (vR 119), (vT "object")], 375, (nS "BytesIO"), true, [], [], false, none, false⟩), #[(some (vR 149)), none, (some (vS "BytesIO" 665)), (some (vS "BytesIO" 673)), (some .none), (some (.bool true))]⟩
noncomputable def b379 (_ : Params) : Obj := ⟨(vT "tuple"), none, (.seq #[(vR 146)] 0), #[]⟩
noncomputable def b386 (_ : Params) : Obj := ⟨(vT "tuple"), none, (.seq #[(vS "" 941), (vS "\n" 942)] 0), #[]⟩
noncomputable def b387 (_ : Params) : Obj := ⟨(vT "tuple"), none, (.seq #[] 0), #[]⟩
noncomputable def b389 (_ : Params) : Obj := ⟨(vT "tuple"), none, (.seq #[(vS "self" 946), (vS "initial_value" 947), (vS "newline" 948)] 0), #[]⟩
noncomputable def b390 (_ : Params) : Obj := ⟨(vT "tuple"), none, (.seq #[] 0), #[]⟩
noncomputable def b392 (_ : Params) : Obj := ⟨(vT "code"), none, (.fields #[(vS "__init__" 943), (vS "StringIO.__init__" 944), (vS "/claim/cut.py" 945), (.int (288) 0), (.int (3) 0), (.int (0) 0), (.int (0) 0), (.int (3) 0), (vR 387), (.bool true), (.int (318) 0), (vR 388), .none, (vR 389), (vR 390), (vR 391), (.int (949) 0), (.int (288) 0), (vS "/claim/cut.py" 950)]), #[]⟩
noncomputable def b393 (_ : Params) : Obj := ⟨(vT "function"), none, (fO (sB 17 1) "__init__" "StringIO.__init__" [] (vR 386) .none .none (vS "io" 557) none (vR 392) .none 3 0), #[]⟩
noncomputable def b394 (_ : Params) : Obj := ⟨(vT "tuple"), none, (.seq #[] 0), #[]⟩
noncomputable def b396 (_ : Params) : Obj := ⟨(vT "tuple"), none, (.seq #[(vS "self" 955), (vS "s" 956), (vS "newline" 957)] 0), #[]⟩
noncomputable def b397 (_ : Params) : Obj := ⟨(vT "tuple"), none, (.seq #[] 0), #[]⟩
noncomputable def b399 (_ : Params) : Obj := ⟨(vT "code"), none, (.fields #[(vS "__translated" 952), (vS "StringIO.__translated" 953), (vS "/claim/cut.py" 954), (.int (301) 0), (.int (2) 0), (.int (0) 0), (.int (0) 0), (.int (3) 0), (vR 394), (.bool true), (.int (318) 0), (vR 395), .none, (vR 396), (vR 397), (vR 398), (.int (958) 0), (.int (301) 0), (vS "/claim/cut.py" 959)]), #[]⟩
noncomputable def b400 (_ : Params) : Obj := ⟨(vT "function"), none, (fO (sB 17 2) "__translated" "StringIO.__translated" [] .none .none .none (vS "io" 557) none (vR 399) .none 3 0), #[]⟩
noncomputable def b401 (_ : Params) : Obj := ⟨(vT "tuple"), none, (.seq #[] 0), #[]⟩
noncomputable def b403 (_ : Params) : Obj := ⟨(vT "tuple"), none, (.seq #[(vS "self" 964)] 0), #[]⟩
noncomputable def b404 (_ : Params) : Obj := ⟨(vT "tuple"), none, (.seq #[] 0), #[]⟩
noncomputable def b406 (_ : Params) : Obj := ⟨(vT "code"), none, (.fields #[(vS "__check" 961), (vS "StringIO.__check" 962), (vS "/claim/cut.py" 963), (.int (309) 0), (.int (1) 0), (.int (0) 0), (.int (0) 0), (.int (3) 0), (vR 401), (.bool true), (.int (318) 0), (vR 402), .none, (vR 403), (vR 404), (vR 405), (.int (965) 0), (.int (309) 0), (vS "/claim/cut.py" 966)]), #[]⟩
noncomputable def b407 (_ : Params) : Obj := ⟨(vT "function"), none, (fO (sB 17 3) "__check" "StringIO.__check" [] .none .none .none (vS "io" 557) none (vR 406) .none 3 0), #[]⟩
noncomputable def b408 (_ : Params) : Obj := ⟨(vT "tuple"), none, (.seq #[] 0), #[]⟩
noncomputable def b410 (_ : Params) : Obj := ⟨(vT "tuple"), none, (.seq #[(vS "self" 971)] 0), #[]⟩
noncomputable def b411 (_ : Params) : Obj := ⟨(vT "tuple"), none, (.seq #[] 0), #[]⟩
noncomputable def b413 (_ : Params) : Obj := ⟨(vT "code"), none, (.fields #[(vS "__check_dot" 968), (vS "StringIO.__check_dot" 969), (vS "/claim/cut.py" 970), (.int (313) 0), (.int (1) 0), (.int (0) 0), (.int (0) 0), (.int (3) 0), (vR 408), (.bool true), (.int (318) 0), (vR 409), .none, (vR 410), (vR 411), (vR 412), (.int (972) 0), (.int (313) 0), (vS "/claim/cut.py" 973)]), #[]⟩
noncomputable def b414 (_ : Params) : Obj := ⟨(vT "function"), none, (fO (sB 17 4) "__check_dot" "StringIO.__check_dot" [] .none .none .none (vS "io" 557) none (vR 413) .none 3 0), #[]⟩
noncomputable def b415 (_ : Params) : Obj := ⟨(vT "tuple"), none, (.seq #[] 0), #[]⟩
noncomputable def b417 (_ : Params) : Obj := ⟨(vT "tuple"), none, (.seq #[(vS "self" 978), (vS "limit" 979), (vS "start" 980), (vS "stop" 981), (vS "cut" 982), (vS "newline" 983), (vS "i" 984), (vS "j" 985), (vS "end" 986)] 0), #[]⟩
noncomputable def b418 (_ : Params) : Obj := ⟨(vT "tuple"), none, (.seq #[] 0), #[]⟩
noncomputable def b420 (_ : Params) : Obj := ⟨(vT "code"), none, (.fields #[(vS "__line" 975), (vS "StringIO.__line" 976), (vS "/claim/cut.py" 977), (.int (317) 0), (.int (2) 0), (.int (0) 0), (.int (0) 0), (.int (3) 0), (vR 415), (.bool true), (.int (318) 0), (vR 416), .none, (vR 417), (vR 418), (vR 419), (.int (987) 0), (.int (317) 0), (vS "/claim/cut.py" 988)]), #[]⟩
noncomputable def b421 (_ : Params) : Obj := ⟨(vT "function"), none, (fO (sB 17 5) "__line" "StringIO.__line" [] .none .none .none (vS "io" 557) none (vR 420) .none 3 0), #[]⟩
noncomputable def b422 (_ : Params) : Obj := ⟨(vT "tuple"), none, (.seq #[] 0), #[]⟩
noncomputable def b424 (_ : Params) : Obj := ⟨(vT "tuple"), none, (.seq #[(vS "self" 993)] 0), #[]⟩
noncomputable def b425 (_ : Params) : Obj := ⟨(vT "tuple"), none, (.seq #[] 0), #[]⟩
noncomputable def b427 (_ : Params) : Obj := ⟨(vT "code"), none, (.fields #[(vS "closed" 990), (vS "StringIO.closed" 991), (vS "/claim/cut.py" 992), (.int (349) 0), (.int (1) 0), (.int (0) 0), (.int (0) 0), (.int (3) 0), (vR 422), (.bool true), (.int (318) 0), (vR 423), .none, (vR 424), (vR 425), (vR 426), (.int (994) 0), (.int (349) 0), (vS "/claim/cut.py" 995)]), #[]⟩
noncomputable def b428 (_ : Params) : Obj := ⟨(vT "function"), none, (fO (sB 17 6) "closed" "StringIO.closed" [] .none .none .none (vS "io" 557) none (vR 427) .none 3 0), #[]⟩
noncomputable def b429 (_ : Params) : Obj := ⟨(vT "property"), none, (.fields #[(vR 428), .none, .none, .none, (vS "closed" 997), (.bool false)]), #[]⟩
noncomputable def b430 (_ : Params) : Obj := ⟨(vT "tuple"), none, (.seq #[] 0), #[]⟩
noncomputable def b432 (_ : Params) : Obj := ⟨(vT "tuple"), none, (.seq #[(vS "self" 1001)] 0), #[]⟩
noncomputable def b433 (_ : Params) : Obj := ⟨(vT "tuple"), none, (.seq #[] 0), #[]⟩
noncomputable def b435 (_ : Params) : Obj := ⟨(vT "code"), none, (.fields #[(vS "line_buffering" 998), (vS "StringIO.line_buffering" 999), (vS "/claim/cut.py" 1000), (.int (353) 0), (.int (1) 0), (.int (0) 0), (.int (0) 0), (.int (3) 0), (vR 430), (.bool true), (.int (318) 0), (vR 431), .none, (vR 432), (vR 433), (vR 434), (.int (1002) 0), (.int (353) 0), (vS "/claim/cut.py" 1003)]), #[]⟩
noncomputable def b436 (_ : Params) : Obj := ⟨(vT "function"), none, (fO (sB 17 7) "line_buffering" "StringIO.line_buffering" [] .none .none .none (vS "io" 557) none (vR 435) .none 3 0), #[]⟩
noncomputable def b437 (_ : Params) : Obj := ⟨(vT "property"), none, (.fields #[(vR 436), .none, .none, .none, (vS "line_buffering" 1005), (.bool false)]), #[]⟩
noncomputable def b438 (_ : Params) : Obj := ⟨(vT "tuple"), none, (.seq #[] 0), #[]⟩
noncomputable def b440 (_ : Params) : Obj := ⟨(vT "tuple"), none, (.seq #[(vS "self" 1009)] 0), #[]⟩
noncomputable def b441 (_ : Params) : Obj := ⟨(vT "tuple"), none, (.seq #[] 0), #[]⟩
noncomputable def b443 (_ : Params) : Obj := ⟨(vT "code"), none, (.fields #[(vS "newlines" 1006), (vS "StringIO.newlines" 1007), (vS "/claim/cut.py" 1008), (.int (357) 0), (.int (1) 0), (.int (0) 0), (.int (0) 0), (.int (3) 0), (vR 438), (.bool true), (.int (318) 0), (vR 439), .none, (vR 440), (vR 441), (vR 442), (.int (1010) 0), (.int (357) 0), (vS "/claim/cut.py" 1011)]), #[]⟩
noncomputable def b444 (_ : Params) : Obj := ⟨(vT "function"), none, (fO (sB 17 8) "newlines" "StringIO.newlines" [] .none .none .none (vS "io" 557) none (vR 443) .none 3 0), #[]⟩
noncomputable def b445 (_ : Params) : Obj := ⟨(vT "property"), none, (.fields #[(vR 444), .none, .none, .none, (vS "newlines" 1013), (.bool false)]), #[]⟩
noncomputable def b446 (_ : Params) : Obj := ⟨(vT "tuple"), none, (.seq #[] 0), #[]⟩
noncomputable def b448 (_ : Params) : Obj := ⟨(vT "tuple"), none, (.seq #[(vS "self" 1017)] 0), #[]⟩
noncomputable def b449 (_ : Params) : Obj := ⟨(vT "tuple"), none, (.seq #[] 0), #[]⟩
noncomputable def b451 (_ : Params) : Obj := ⟨(vT "code"), none, (.fields #[(vS "encoding" 1014), (vS "StringIO.encoding" 1015), (vS "/claim/cut.py" 1016), (.int (361) 0), (.int (1) 0), (.int (0) 0), (.int (0) 0), (.int (3) 0), (vR 446), (.bool true), (.int (318) 0), (vR 447), .none, (vR 448), (vR 449), (vR 450), (.int (1018) 0), (.int (361) 0), (vS "/claim/cut.py" 1019)]), #[]⟩
noncomputable def b452 (_ : Params) : Obj := ⟨(vT "function"), none, (fO (sB 17 9) "encoding" "StringIO.encoding" [] .none .none .none (vS "io" 557) none (vR 451) .none 3 0), #[]⟩
noncomputable def b453 (_ : Params) : Obj := ⟨(vT "property"), none, (.fields #[(vR 452), .none, .none, .none, (vS "encoding" 1021), (.bool false)]), #[]⟩
noncomputable def b454 (_ : Params) : Obj := ⟨(vT "tuple"), none, (.seq #[] 0), #[]⟩
noncomputable def b456 (_ : Params) : Obj := ⟨(vT "tuple"), none, (.seq #[(vS "self" 1025)] 0), #[]⟩
noncomputable def b457 (_ : Params) : Obj := ⟨(vT "tuple"), none, (.seq #[] 0), #[]⟩
noncomputable def b459 (_ : Params) : Obj := ⟨(vT "code"), none, (.fields #[(vS "errors" 1022), (vS "StringIO.errors" 1023), (vS "/claim/cut.py" 1024), (.int (365) 0), (.int (1) 0), (.int (0) 0), (.int (0) 0), (.int (3) 0), (vR 454), (.bool true), (.int (318) 0), (vR 455), .none, (vR 456), (vR 457), (vR 458), (.int (1026) 0), (.int (365) 0), (vS "/claim/cut.py" 1027)]), #[]⟩
noncomputable def b460 (_ : Params) : Obj := ⟨(vT "function"), none, (fO (sB 17 10) "errors" "StringIO.errors" [] .none .none .none (vS "io" 557) none (vR 459) .none 3 0), #[]⟩
noncomputable def b461 (_ : Params) : Obj := ⟨(vT "property"), none, (.fields #[(vR 460), .none, .none, .none, (vS "errors" 1029), (.bool false)]), #[]⟩
noncomputable def b462 (_ : Params) : Obj := ⟨(vT "tuple"), none, (.seq #[] 0), #[]⟩
noncomputable def b464 (_ : Params) : Obj := ⟨(vT "tuple"), none, (.seq #[(vS "self" 1033)] 0), #[]⟩
noncomputable def b465 (_ : Params) : Obj := ⟨(vT "tuple"), none, (.seq #[] 0), #[]⟩
noncomputable def b467 (_ : Params) : Obj := ⟨(vT "code"), none, (.fields #[(vS "close" 1030), (vS "StringIO.close" 1031), (vS "/claim/cut.py" 1032), (.int (369) 0), (.int (1) 0), (.int (0) 0), (.int (0) 0), (.int (3) 0), (vR 462), (.bool true), (.int (318) 0), (vR 463), .none, (vR 464), (vR 465), (vR 466), (.int (1034) 0), (.int (369) 0), (vS "/claim/cut.py" 1035)]), #[]⟩
noncomputable def b468 (_ : Params) : Obj := ⟨(vT "function"), none, (fO (sB 17 11) "close" "StringIO.close" [] .none .none .none (vS "io" 557) none (vR 467) .none 3 0), #[]⟩
noncomputable def b469 (_ : Params) : Obj := ⟨(vT "tuple"), none, (.seq #[] 0), #[]⟩
noncomputable def b471 (_ : Params) : Obj := ⟨(vT "tuple"), none, (.seq #[(vS "self" 1040)] 0), #[]⟩
noncomputable def b472 (_ : Params) : Obj := ⟨(vT "tuple"), none, (.seq #[] 0), #[]⟩
noncomputable def b474 (_ : Params) : Obj := ⟨(vT "code"), none, (.fields #[(vS "__enter__" 1037), (vS "StringIO.__enter__" 1038), (vS "/claim/cut.py" 1039), (.int (372) 0), (.int (1) 0), (.int (0) 0), (.int (0) 0), (.int (3) 0), (vR 469), (.bool true), (.int (318) 0), (vR 470), .none, (vR 471), (vR 472), (vR 473), (.int (1041) 0), (.int (372) 0), (vS "/claim/cut.py" 1042)]), #[]⟩
noncomputable def b475 (_ : Params) : Obj := ⟨(vT "function"), none, (fO (sB 17 12) "__enter__" "StringIO.__enter__" [] .none .none .none (vS "io" 557) none (vR 474) .none 3 0), #[]⟩
noncomputable def b476 (_ : Params) : Obj := ⟨(vT "tuple"), none, (.seq #[] 0), #[]⟩
noncomputable def b478 (_ : Params) : Obj := ⟨(vT "tuple"), none, (.seq #[(vS "self" 1047), (vS "args" 1048)] 0), #[]⟩
noncomputable def b479 (_ : Params) : Obj := ⟨(vT "tuple"), none, (.seq #[] 0), #[]⟩
noncomputable def b481 (_ : Params) : Obj := ⟨(vT "code"), none, (.fields #[(vS "__exit__" 1044), (vS "StringIO.__exit__" 1045), (vS "/claim/cut.py" 1046), (.int (376) 0), (.int (1) 0), (.int (0) 0), (.int (0) 0), (.int (7) 0), (vR 476), (.bool true), (.int (318) 0), (vR 477), .none, (vR 478), (vR 479), (vR 480), (.int (1049) 0), (.int (376) 0), (vS "/claim/cut.py" 1050)]), #[]⟩
noncomputable def b482 (_ : Params) : Obj := ⟨(vT "function"), none, (fO (sB 17 13) "__exit__" "StringIO.__exit__" [] .none .none .none (vS "io" 557) none (vR 481) .none 3 0), #[]⟩
noncomputable def b483 (_ : Params) : Obj := ⟨(vT "tuple"), none, (.seq #[] 0), #[]⟩
noncomputable def b485 (_ : Params) : Obj := ⟨(vT "tuple"), none, (.seq #[(vS "self" 1055)] 0), #[]⟩
noncomputable def b486 (_ : Params) : Obj := ⟨(vT "tuple"), none, (.seq #[] 0), #[]⟩
noncomputable def b488 (_ : Params) : Obj := ⟨(vT "code"), none, (.fields #[(vS "readable" 1052), (vS "StringIO.readable" 1053), (vS "/claim/cut.py" 1054), (.int (379) 0), (.int (1) 0), (.int (0) 0), (.int (0) 0), (.int (3) 0), (vR 483), (.bool true), (.int (318) 0), (vR 484), .none, (vR 485), (vR 486), (vR 487), (.int (1056) 0), (.int (379) 0), (vS "/claim/cut.py" 1057)]), #[]⟩
noncomputable def b489 (_ : Params) : Obj := ⟨(vT "function"), none, (fO (sB 17 14) "readable" "StringIO.readable" [] .none .none .none (vS "io" 557) none (vR 488) .none 3 0), #[]⟩
noncomputable def b490 (_ : Params) : Obj := ⟨(vT "tuple"), none, (.seq #[] 0), #[]⟩
noncomputable def b492 (_ : Params) : Obj := ⟨(vT "tuple"), none, (.seq #[(vS "self" 1062)] 0), #[]⟩
noncomputable def b493 (_ : Params) : Obj := ⟨(vT "tuple"), none, (.seq #[] 0), #[]⟩
noncomputable def b495 (_ : Params) : Obj := ⟨(vT "code"), none, (.fields #[(vS "writable" 1059), (vS "StringIO.writable" 1060), (vS "/claim/cut.py" 1061), (.int (383) 0), (.int (1) 0), (.int (0) 0), (.int (0) 0), (.int (3) 0), (vR 490), (.bool true), (.int (318) 0), (vR 491), .none, (vR 492), (vR 493), (vR 494), (.int (1063) 0), (.int (383) 0), (vS "/claim/cut.py" 1064)]), #[]⟩
noncomputable def b496 (_ : Params) : Obj := ⟨(vT "function"), none, (fO (sB 17 15) "writable" "StringIO.writable" [] .none .none .none (vS "io" 557) none (vR 495) .none 3 0), #[]⟩
noncomputable def b497 (_ : Params) : Obj := ⟨(vT "tuple"), none, (.seq #[] 0), #[]⟩
noncomputable def b499 (_ : Params) : Obj := ⟨(vT "tuple"), none, (.seq #[(vS "self" 1069)] 0), #[]⟩
noncomputable def b500 (_ : Params) : Obj := ⟨(vT "tuple"), none, (.seq #[] 0), #[]⟩
noncomputable def b502 (_ : Params) : Obj := ⟨(vT "code"), none, (.fields #[(vS "seekable" 1066), (vS "StringIO.seekable" 1067), (vS "/claim/cut.py" 1068), (.int (387) 0), (.int (1) 0), (.int (0) 0), (.int (0) 0), (.int (3) 0), (vR 497), (.bool true), (.int (318) 0), (vR 498), .none, (vR 499), (vR 500), (vR 501), (.int (1070) 0), (.int (387) 0), (vS "/claim/cut.py" 1071)]), #[]⟩
noncomputable def b503 (_ : Params) : Obj := ⟨(vT "function"), none, (fO (sB 17 16) "seekable" "StringIO.seekable" [] .none .none .none (vS "io" 557) none (vR 502) .none 3 0), #[]⟩
noncomputable def b504 (_ : Params) : Obj := ⟨(vT "tuple"), none, (.seq #[] 0), #[]⟩
noncomputable def b506 (_ : Params) : Obj := ⟨(vT "tuple"), none, (.seq #[(vS "self" 1076)] 0), #[]⟩
noncomputable def b507 (_ : Params) : Obj := ⟨(vT "tuple"), none, (.seq #[] 0), #[]⟩
noncomputable def b509 (_ : Params) : Obj := ⟨(vT "code"), none, (.fields #[(vS "isatty" 1073), (vS "StringIO.isatty" 1074), (vS "/claim/cut.py" 1075), (.int (391) 0), (.int (1) 0), (.int (0) 0), (.int (0) 0), (.int (3) 0), (vR 504), (.bool true), (.int (318) 0), (vR 505), .none, (vR 506), (vR 507), (vR 508), (.int (1077) 0), (.int (391) 0), (vS "/claim/cut.py" 1078)]), #[]⟩
noncomputable def b510 (_ : Params) : Obj := ⟨(vT "function"), none, (fO (sB 17 17) "isatty" "StringIO.isatty" [] .none .none .none (vS "io" 557) none (vR 509) .none 3 0), #[]⟩
noncomputable def b511 (_ : Params) : Obj := ⟨(vT "tuple"), none, (.seq #[] 0), #[]⟩
noncomputable def b513 (_ : Params) : Obj := ⟨(vT "tuple"), none, (.seq #[(vS "self" 1083)] 0), #[]⟩
noncomputable def b514 (_ : Params) : Obj := ⟨(vT "tuple"), none, (.seq #[] 0), #[]⟩
noncomputable def b516 (_ : Params) : Obj := ⟨(vT "code"), none, (.fields #[(vS "flush" 1080), (vS "StringIO.flush" 1081), (vS "/claim/cut.py" 1082), (.int (395) 0), (.int (1) 0), (.int (0) 0), (.int (0) 0), (.int (3) 0), (vR 511), (.bool true), (.int (318) 0), (vR 512), .none, (vR 513), (vR 514), (vR 515), (.int (1084) 0), (.int (395) 0), (vS "/claim/cut.py" 1085)]), #[]⟩
noncomputable def b517 (_ : Params) : Obj := ⟨(vT "function"), none, (fO (sB 17 18) "flush" "StringIO.flush" [] .none .none .none (vS "io" 557) none (vR 516) .none 3 0), #[]⟩
noncomputable def b518 (_ : Params) : Obj := ⟨(vT "tuple"), none, (.seq #[] 0), #[]⟩
noncomputable def b520 (_ : Params) : Obj := ⟨(vT "tuple"), none, (.seq #[(vS "self" 1090)] 0), #[]⟩
noncomputable def b521 (_ : Params) : Obj := ⟨(vT "tuple"), none, (.seq #[] 0), #[]⟩
noncomputable def b523 (_ : Params) : Obj := ⟨(vT "code"), none, (.fields #[(vS "fileno" 1087), (vS "StringIO.fileno" 1088), (vS "/claim/cut.py" 1089), (.int (398) 0), (.int (1) 0), (.int (0) 0), (.int (0) 0), (.int (3) 0), (vR 518), (.bool true), (.int (318) 0), (vR 519), .none, (vR 520), (vR 521), (vR 522), (.int (1091) 0), (.int (398) 0), (vS "/claim/cut.py" 1092)]), #[]⟩
noncomputable def b524 (_ : Params) : Obj := ⟨(vT "function"), none, (fO (sB 17 19) "fileno" "StringIO.fileno" [] .none .none .none (vS "io" 557) none (vR 523) .none 3 0), #[]⟩
noncomputable def b525 (_ : Params) : Obj := ⟨(vT "tuple"), none, (.seq #[] 0), #[]⟩
noncomputable def b527 (_ : Params) : Obj := ⟨(vT "tuple"), none, (.seq #[(vS "self" 1097)] 0), #[]⟩
noncomputable def b528 (_ : Params) : Obj := ⟨(vT "tuple"), none, (.seq #[] 0), #[]⟩
noncomputable def b530 (_ : Params) : Obj := ⟨(vT "code"), none, (.fields #[(vS "detach" 1094), (vS "StringIO.detach" 1095), (vS "/claim/cut.py" 1096), (.int (401) 0), (.int (1) 0), (.int (0) 0), (.int (0) 0), (.int (3) 0), (vR 525), (.bool true), (.int (318) 0), (vR 526), .none, (vR 527), (vR 528), (vR 529), (.int (1098) 0), (.int (401) 0), (vS "/claim/cut.py" 1099)]), #[]⟩
noncomputable def b531 (_ : Params) : Obj := ⟨(vT "function"), none, (fO (sB 17 20) "detach" "StringIO.detach" [] .none .none .none (vS "io" 557) none (vR 530) .none 3 0), #[]⟩
noncomputable def b532 (_ : Params) : Obj := ⟨(vT "tuple"), none, (.seq #[] 0), #[]⟩
noncomputable def b534 (_ : Params) : Obj := ⟨(vT "tuple"), none, (.seq #[(vS "self" 1104)] 0), #[]⟩
noncomputable def b535 (_ : Params) : Obj := ⟨(vT "tuple"), none, (.seq #[] 0), #[]⟩
noncomputable def b537 (_ : Params) : Obj := ⟨(vT "code"), none, (.fields #[(vS "getvalue" 1101), (vS "StringIO.getvalue" 1102), (vS "/claim/cut.py" 1103), (.int (404) 0), (.int (1) 0), (.int (0) 0), (.int (0) 0), (.int (3) 0), (vR 532), (.bool true), (.int (318) 0), (vR 533), .none, (vR 534), (vR 535), (vR 536), (.int (1105) 0), (.int (404) 0), (vS "/claim/cut.py" 1106)]), #[]⟩
noncomputable def b538 (_ : Params) : Obj := ⟨(vT "function"), none, (fO (sB 17 21) "getvalue" "StringIO.getvalue" [] .none .none .none (vS "io" 557) none (vR 537) .none 3 0), #[]⟩
noncomputable def b539 (_ : Params) : Obj := ⟨(vT "tuple"), none, (.seq #[] 0), #[]⟩
noncomputable def b541 (_ : Params) : Obj := ⟨(vT "tuple"), none, (.seq #[(vS "self" 1111)] 0), #[]⟩
noncomputable def b542 (_ : Params) : Obj := ⟨(vT "tuple"), none, (.seq #[] 0), #[]⟩
noncomputable def b544 (_ : Params) : Obj := ⟨(vT "code"), none, (.fields #[(vS "tell" 1108), (vS "StringIO.tell" 1109), (vS "/claim/cut.py" 1110), (.int (407) 0), (.int (1) 0), (.int (0) 0), (.int (0) 0), (.int (3) 0), (vR 539), (.bool true), (.int (318) 0), (vR 540), .none, (vR 541), (vR 542), (vR 543), (.int (1112) 0), (.int (407) 0), (vS "/claim/cut.py" 1113)]), #[]⟩
noncomputable def b545 (_ : Params) : Obj := ⟨(vT "function"), none, (fO (sB 17 22) "tell" "StringIO.tell" [] .none .none .none (vS "io" 557) none (vR 544) .none 3 0), #[]⟩
noncomputable def b546 (_ : Params) : Obj := ⟨(vT "tuple"), none, (.seq #[(.int (0) 1115)] 0), #[]⟩
noncomputable def b547 (_ : Params) : Obj := ⟨(vT "tuple"), none, (.seq #[] 0), #[]⟩
noncomputable def b549 (_ : Params) : Obj := ⟨(vT "tuple"), none, (.seq #[(vS "self" 1119), (vS "pos" 1120), (vS "whence" 1121)] 0), #[]⟩
noncomputable def b550 (_ : Params) : Obj := ⟨(vT "tuple"), none, (.seq #[] 0), #[]⟩
noncomputable def b552 (_ : Params) : Obj := ⟨(vT "code"), none, (.fields #[(vS "seek" 1116), (vS "StringIO.seek" 1117), (vS "/claim/cut.py" 1118), (.int (411) 0), (.int (3) 0), (.int (3) 0), (.int (0) 0), (.int (3) 0), (vR 547), (.bool true), (.int (318) 0), (vR 548), .none, (vR 549), (vR 550), (vR 551), (.int (1122) 0), (.int (411) 0), (vS "/claim/cut.py" 1123)]), #[]⟩
noncomputable def b553 (_ : Params) : Obj := ⟨(vT "function"), none, (fO (sB 17 23) "seek" "StringIO.seek" [] (vR 546) .none .none (vS "io" 557) none (vR 552) .none 3 0), #[]⟩
noncomputable def b554 (_ : Params) : Obj := ⟨(vT "tuple"), none, (.seq #[.none] 0), #[]⟩
noncomputable def b555 (_ : Params) : Obj := ⟨(vT "tuple"), none, (.seq #[] 0), #[]⟩
noncomputable def b557 (_ : Params) : Obj := ⟨(vT "tuple"), none, (.seq #[(vS "self" 1128), (vS "pos" 1129)] 0), #[]⟩
noncomputable def b558 (_ : Params) : Obj := ⟨(vT "tuple"), none, (.seq #[] 0), #[]⟩
noncomputable def b560 (_ : Params) : Obj := ⟨(vT "code"), none, (.fields #[(vS "truncate" 1125), (vS "StringIO.truncate" 1126), (vS "/claim/cut.py" 1127), (.int (428) 0), (.int (2) 0), (.int (2) 0), (.int (0) 0), (.int (3) 0), (vR 555), (.bool true), (.int (318) 0), (vR 556), .none, (vR 557), (vR 558), (vR 559), (.int (1130) 0), (.int (428) 0), (vS "/claim/cut.py" 1131)]), #[]⟩
noncomputable def b561 (_ : Params) : Obj := ⟨(vT "function"), none, (fO (sB 17 24) "truncate" "StringIO.truncate" [] (vR 554) .none .none (vS "io" 557) none (vR 560) .none 3 0), #[]⟩
noncomputable def b562 (_ : Params) : Obj := ⟨(vT "tuple"), none, (.seq #[(.int (-1) 1134)] 0), #[]⟩
noncomputable def b563 (_ : Params) : Obj := ⟨(vT "tuple"), none, (.seq #[] 0), #[]⟩
noncomputable def b565 (_ : Params) : Obj := ⟨(vT "tuple"), none, (.seq #[(vS "self" 1138), (vS "size" 1139), (vS "start" 1140), (vS "stop" 1141)] 0), #[]⟩
noncomputable def b566 (_ : Params) : Obj := ⟨(vT "tuple"), none, (.seq #[] 0), #[]⟩
noncomputable def b568 (_ : Params) : Obj := ⟨(vT "code"), none, (.fields #[(vS "read" 1135), (vS "StringIO.read" 1136), (vS "/claim/cut.py" 1137), (.int (431) 0), (.int (2) 0), (.int (2) 0), (.int (0) 0), (.int (3) 0), (vR 563), (.bool true), (.int (318) 0), (vR 564), .none, (vR 565), (vR 566), (vR 567), (.int (1142) 0), (.int (431) 0), (vS "/claim/cut.py" 1143)]), #[]⟩
noncomputable def b569 (_ : Params) : Obj := ⟨(vT "function"), none, (fO (sB 17 25) "read" "StringIO.read" [] (vR 562) .none .none (vS "io" 557) none (vR 568) .none 3 0), #[]⟩
noncomputable def b570 (_ : Params) : Obj := ⟨(vT "tuple"), none, (.seq #[(.int (-1) 1146)] 0), #[]⟩
noncomputable def b571 (_ : Params) : Obj := ⟨(vT "tuple"), none, (.seq #[] 0), #[]⟩
noncomputable def b573 (_ : Params) : Obj := ⟨(vT "tuple"), none, (.seq #[(vS "self" 1150), (vS "size" 1151)] 0), #[]⟩
noncomputable def b574 (_ : Params) : Obj := ⟨(vT "tuple"), none, (.seq #[] 0), #[]⟩
noncomputable def b576 (_ : Params) : Obj := ⟨(vT "code"), none, (.fields #[(vS "readline" 1147), (vS "StringIO.readline" 1148), (vS "/claim/cut.py" 1149), (.int (445) 0), (.int (2) 0), (.int (2) 0), (.int (0) 0), (.int (3) 0), (vR 571), (.bool true), (.int (318) 0), (vR 572), .none, (vR 573), (vR 574), (vR 575), (.int (1152) 0), (.int (445) 0), (vS "/claim/cut.py" 1153)]), #[]⟩
noncomputable def b577 (_ : Params) : Obj := ⟨(vT "function"), none, (fO (sB 17 26) "readline" "StringIO.readline" [] (vR 570) .none .none (vS "io" 557) none (vR 576) .none 3 0), #[]⟩
noncomputable def b578 (_ : Params) : Obj := ⟨(vT "tuple"), none, (.seq #[(.int (-1) 1156)] 0), #[]⟩
noncomputable def b579 (_ : Params) : Obj := ⟨(vT "tuple"), none, (.seq #[] 0), #[]⟩
noncomputable def b581 (_ : Params) : Obj := ⟨(vT "tuple"), none, (.seq #[(vS "self" 1160), (vS "hint" 1161)] 0), #[]⟩
noncomputable def b582 (_ : Params) : Obj := ⟨(vT "tuple"), none, (.seq #[] 0), #[]⟩
noncomputable def b584 (_ : Params) : Obj := ⟨(vT "code"), none, (.fields #[(vS "readlines" 1157), (vS "StringIO.readlines" 1158), (vS "/claim/cut.py" 1159), (.int (452) 0), (.int (2) 0), (.int (2) 0), (.int (0) 0), (.int (3) 0), (vR 579), (.bool true), (.int (318) 0), (vR 580), .none, (vR 581), (vR 582), (vR 583), (.int (1162) 0), (.int (452) 0), (vS "/claim/cut.py" 1163)]), #[]⟩
noncomputable def b585 (_ : Params) : Obj := ⟨(vT "function"), none, (fO (sB 17 27) "readlines" "StringIO.readlines" [] (vR 578) .none .none (vS "io" 557) none (vR 584) .none 3 0), #[]⟩
noncomputable def b586 (_ : Params) : Obj := ⟨(vT "tuple"), none, (.seq #[] 0), #[]⟩
noncomputable def b588 (_ : Params) : Obj := ⟨(vT "tuple"), none, (.seq #[(vS "self" 1168)] 0), #[]⟩
noncomputable def b589 (_ : Params) : Obj := ⟨(vT "tuple"), none, (.seq #[] 0), #[]⟩
noncomputable def b591 (_ : Params) : Obj := ⟨(vT "code"), none, (.fields #[(vS "__iter__" 1165), (vS "StringIO.__iter__" 1166), (vS "/claim/cut.py" 1167), (.int (455) 0), (.int (1) 0), (.int (0) 0), (.int (0) 0), (.int (3) 0), (vR 586), (.bool true), (.int (318) 0), (vR 587), .none, (vR 588), (vR 589), (vR 590), (.int (1169) 0), (.int (455) 0), (vS "/claim/cut.py" 1170)]), #[]⟩
noncomputable def b592 (_ : Params) : Obj := ⟨(vT "function"), none, (fO (sB 17 28) "__iter__" "StringIO.__iter__" [] .none .none .none (vS "io" 557) none (vR 591) .none 3 0), #[]⟩
noncomputable def b593 (_ : Params) : Obj := ⟨(vT "tuple"), none, (.seq #[] 0), #[]⟩
noncomputable def b595 (_ : Params) : Obj := ⟨(vT "tuple"), none, (.seq #[(vS "self" 1175), (vS "line" 1176)] 0), #[]⟩
noncomputable def b596 (_ : Params) : Obj := ⟨(vT "tuple"), none, (.seq #[] 0), #[]⟩
noncomputable def b598 (_ : Params) : Obj := ⟨(vT "code"), none, (.fields #[(vS "__next__" 1172), (vS "StringIO.__next__" 1173), (vS "/claim/cut.py" 1174), (.int (459) 0), (.int (1) 0), (.int (0) 0), (.int (0) 0), (.int (3) 0), (vR 593), (.bool true), (.int (318) 0), (vR 594), .none, (vR 595), (vR 596), (vR 597), (.int (1177) 0), (.int (459) 0), (vS "/claim/cut.py" 1178)]), #[]⟩
noncomputable def b599 (_ : Params) : Obj := ⟨(vT "function"), none, (fO (sB 17 29) "__next__" "StringIO.__next__" [] .none .none .none (vS "io" 557) none (vR 598) .none 3 0), #[]⟩
noncomputable def b600 (_ : Params) : Obj := ⟨(vT "tuple"), none, (.seq #[] 0), #[]⟩
noncomputable def b602 (_ : Params) : Obj := ⟨(vT "tuple"), none, (.seq #[(vS "self" 1183), (vS "s" 1184), (vS "n" 1185), (vS "m" 1186), (vS "start" 1187), (vS "buf" 1188)] 0), #[]⟩
noncomputable def b603 (_ : Params) : Obj := ⟨(vT "tuple"), none, (.seq #[] 0), #[]⟩
noncomputable def b605 (_ : Params) : Obj := ⟨(vT "code"), none, (.fields #[(vS "write" 1180), (vS "StringIO.write" 1181), (vS "/claim/cut.py" 1182), (.int (466) 0), (.int (2) 0), (.int (2) 0), (.int (0) 0), (.int (3) 0), (vR 600), (.bool true), (.int (318) 0), (vR 601), .none, (vR 602), (vR 603), (vR 604), (.int (1189) 0), (.int (466) 0), (vS "/claim/cut.py" 1190)]), #[]⟩
noncomputable def b606 (_ : Params) : Obj := ⟨(vT "function"), none, (fO (sB 17 30) "write" "StringIO.write" [] .none .none .none (vS "io" 557) none (vR 605) .none 3 0), #[]⟩
noncomputable def b607 (_ : Params) : Obj := ⟨(vT "tuple"), none, (.seq #[] 0), #[]⟩
noncomputable def b609 (_ : Params) : Obj := ⟨(vT "tuple"), none, (.seq #[(vS "self" 1195), (vS "lines" 1196)] 0), #[]⟩
noncomputable def b610 (_ : Params) : Obj := ⟨(vT "tuple"), none, (.seq #[] 0), #[]⟩
noncomputable def b612 (_ : Params) : Obj := ⟨(vT "code"), none, (.fields #[(vS "writelines" 1192), (vS "StringIO.writelines" 1193), (vS "/claim/cut.py" 1194), (.int (485) 0), (.int (2) 0), (.int (2) 0), (.int (0) 0), (.int (3) 0), (vR 607), (.bool true), (.int (318) 0), (vR 608), .none, (vR 609), (vR 610), (vR 611), (.int (1197) 0), (.int (485) 0), (vS "/claim/cut.py" 1198)]), #[]⟩
noncomputable def b613 (_ : Params) : Obj := ⟨(vT "function"), none, (fO (sB 17 31) "writelines" "StringIO.writelines" [] .none .none .none (vS "io" 557) none (vR 612) .none 3 0), #[]⟩
noncomputable def b614 (_ : Params) : Obj := ⟨(vT "tuple"), none, (.seq #[] 0), #[]⟩
noncomputable def b616 (_ : Params) : Obj := ⟨(vT "tuple"), none, (.seq #[(vS "self" 1203)] 0), #[]⟩
noncomputable def b617 (_ : Params) : Obj := ⟨(vT "tuple"), none, (.seq #[] 0), #[]⟩
noncomputable def b619 (_ : Params) : Obj := ⟨(vT "code"), none, (.fields #[(vS "__repr__" 1200), (vS "StringIO.__repr__" 1201), (vS "/claim/cut.py" 1202), (.int (488) 0), (.int (1) 0), (.int (0) 0), (.int (0) 0), (.int (3) 0), (vR 614), (.bool true), (.int (318) 0), (vR 615), .none, (vR 616), (vR 617), (vR 618), (.int (1204) 0), (.int (488) 0), (vS "/claim/cut.py" 1205)]), #[]⟩
noncomputable def b620 (_ : Params) : Obj := ⟨(vT "function"), none, (fO (sB 17 32) "__repr__" "StringIO.__repr__" [] .none .none .none (vS "io" 557) none (vR 619) .none 3 0), #[]⟩
noncomputable def b621 (_ : Params) : Obj := ⟨(vT "tuple"), none, (.seq #[(vS "__buf" 1207), (vS "__newline" 1208), (vS "__pos" 1209)] 0), #[]⟩
noncomputable def b622 (P : Params) : Obj := ⟨(vT "dict"), none, (.dict #[dE P "__module__" 934 (vS "_io" 939), dE P "__firstlineno__" 938 (.int (285) 937), dE P "__init__" 951 (vR 393), dE P "_StringIO__translated" 960 (vR 400), dE P "_StringIO__check" 967 (vR 407), dE P "_StringIO__check_dot" 974 (vR 414), dE P "_StringIO__line" 989 (vR 421), dE P "closed" 997 (vR 429), dE P "line_buffering" 1005 (vR 437), dE P "newlines" 1013 (vR 445), dE P "encoding" 1021 (vR 453), dE P "errors" 1029 (vR 461), dE P "close" 1036 (vR 468), dE P "__enter__" 1043 (vR 475), dE P "__exit__" 1051 (vR 482), dE P "readable" 1058 (vR 489), dE P "writable" 1065 (vR 496), dE P "seekable" 1072 (vR 503), dE P "isatty" 1079 (vR 510), dE P "flush" 1086 (vR 517), dE P "fileno" 1093 (vR 524), dE P "detach" 1100 (vR 531), dE P "getvalue" 1107 (vR 538), dE P "tell" 1114 (vR 545), dE P "seek" 1124 (vR 553), dE P "truncate" 1132 (vR 561), dE P "read" 1144 (vR 569), dE P "readline" 1154 (vR 577), dE P "readlines" 1164 (vR 585), dE P "__iter__" 1171 (vR 592), dE P "__next__" 1179 (vR 599), dE P "write" 1191 (vR 606), dE P "writelines" 1199 (vR 613), dE P "__repr__" 1206 (vR 620), dE P "__static_attributes__" 1210 (vR 621), dE P "__doc__" 1211 .none] 2), #[]⟩
noncomputable def b623 (_ : Params) : Obj := ⟨(vT "type"), none, (.cls ⟨(nS "StringIO"), [(vR 146)], [(vR 623), (vR 146), (vR 119), (vT "object")], 622, (nS "StringIO"), true, [], [], false, none, false⟩), #[(some (vR 379)), none, (some (vS "StringIO" 927)), (some (vS "StringIO" 935)), (some .none), (some (.bool true))]⟩
noncomputable def b626 (_ : Params) : Obj := ⟨(vT "tuple"), none, (.seq #[] 0), #[]⟩
noncomputable def b628 (_ : Params) : Obj := ⟨(vT "tuple"), none, (.seq #[(vS "name" 1219), (vS "x" 1220), (vS "t" 1221)] 0), #[]⟩
noncomputable def b629 (_ : Params) : Obj := ⟨(vT "tuple"), none, (.seq #[] 0), #[]⟩
noncomputable def b631 (_ : Params) : Obj := ⟨(vT "code"), none, (.fields #[(vS "_kind" 1216), (vS "_kind" 1217), (vS "/claim/cut.py" 1218), (.int (491) 0), (.int (2) 0), (.int (0) 0), (.int (0) 0), (.int (3) 0), (vR 626), (.bool true), (.int (318) 0), (vR 627), .none, (vR 628), (vR 629), (vR 630), (.int (1222) 0), (.int (491) 0), (vS "/claim/cut.py" 1223)]), #[]⟩
noncomputable def b632 (_ : Params) : Obj := ⟨(vT "function"), none, (fO (sA 19) "_kind" "_kind" [] .none .none .none (vS "os.path" 1214) none (vR 631) .none 3 0), #[]⟩
noncomputable def b633 (_ : Params) : Obj := ⟨(vT "tuple"), none, (.seq #[] 0), #[]⟩
noncomputable def b635 (_ : Params) : Obj := ⟨(vT "tuple"), none, (.seq #[(vS "name" 1228), (vS "x" 1229), (vS "k" 1230)] 0), #[]⟩
noncomputable def b636 (_ : Params) : Obj := ⟨(vT "tuple"), none, (.seq #[] 0), #[]⟩
noncomputable def b638 (_ : Params) : Obj := ⟨(vT "code"), none, (.fields #[(vS "_fspath" 1225), (vS "_fspath" 1226), (vS "/claim/cut.py" 1227), (.int (512) 0), (.int (2) 0), (.int (0) 0), (.int (0) 0), (.int (3) 0), (vR 633), (.bool true), (.int (318) 0), (vR 634), .none, (vR 635), (vR 636), (vR 637), (.int (1231) 0), (.int (512) 0), (vS "/claim/cut.py" 1232)]), #[]⟩
noncomputable def b639 (_ : Params) : Obj := ⟨(vT "function"), none, (fO (sA 20) "_fspath" "_fspath" [] .none .none .none (vS "os.path" 1214) none (vR 638) .none 3 0), #[]⟩
noncomputable def b640 (_ : Params) : Obj := ⟨(vT "tuple"), none, (.seq #[] 0), #[]⟩
noncomputable def b642 (_ : Params) : Obj := ⟨(vT "tuple"), none, (.seq #[(vS "funcname" 1237), (vS "args" 1238), (vS "s" 1239), (vS "k" 1240)] 0), #[]⟩
noncomputable def b643 (_ : Params) : Obj := ⟨(vT "tuple"), none, (.seq #[] 0), #[]⟩
noncomputable def b645 (_ : Params) : Obj := ⟨(vT "code"), none, (.fields #[(vS "_check_arg_types" 1234), (vS "_check_arg_types" 1235), (vS "/claim/cut.py" 1236), (.int (517) 0), (.int (1) 0), (.int (0) 0), (.int (0) 0), (.int (7) 0), (vR 640), (.bool true), (.int (318) 0), (vR 641), .none, (vR 642), (vR 643), (vR 644), (.int (1241) 0), (.int (517) 0), (vS "/claim/cut.py" 1242)]), #[]⟩
noncomputable def b646 (_ : Params) : Obj := ⟨(vT "function"), none, (fO (sA 21) "_check_arg_types" "_check_arg_types" [] .none .none .none (vS "os.path" 1214) none (vR 645) .none 3 0), #[]⟩
noncomputable def b647 (_ : Params) : Obj := ⟨(vT "tuple"), none, (.seq #[] 0), #[]⟩
noncomputable def b649 (_ : Params) : Obj := ⟨(vT "tuple"), none, (.seq #[(vS "s" 1247)] 0), #[]⟩
noncomputable def b650 (_ : Params) : Obj := ⟨(vT "tuple"), none, (.seq #[] 0), #[]⟩
noncomputable def b652 (_ : Params) : Obj := ⟨(vT "code"), none, (.fields #[(vS "isabs" 1244), (vS "isabs" 1245), (vS "/claim/cut.py" 1246), (.int (522) 0), (.int (1) 0), (.int (0) 0), (.int (0) 0), (.int (3) 0), (vR 647), (.bool true), (.int (318) 0), (vR 648), .none, (vR 649), (vR 650), (vR 651), (.int (1248) 0), (.int (522) 0), (vS "/claim/cut.py" 1249)]), #[]⟩
noncomputable def b653 (_ : Params) : Obj := ⟨(vT "function"), none, (fO (sA 22) "isabs" "isabs" [] .none .none .none (vS "os.path" 1214) none (vR 652) .none 3 0), #[]⟩
noncomputable def b654 (_ : Params) : Obj := ⟨(vT "tuple"), none, (.seq #[] 0), #[]⟩
noncomputable def b656 (_ : Params) : Obj := ⟨(vT "tuple"), none, (.seq #[(vS "a" 1254), (vS "p" 1255), (vS "b" 1256), (vS "sep" 1257), (vS "path" 1258)] 0), #[]⟩
noncomputable def b657 (_ : Params) : Obj := ⟨(vT "tuple"), none, (.seq #[] 0), #[]⟩
noncomputable def b659 (_ : Params) : Obj := ⟨(vT "code"), none, (.fields #[(vS "join" 1251), (vS "join" 1252), (vS "/claim/cut.py" 1253), (.int (525) 0), (.int (1) 0), (.int (0) 0), (.int (0) 0), (.int (7) 0), (vR 654), (.bool true), (.int (318) 0), (vR 655), .none, (vR 656), (vR 657), (vR 658), (.int (1259) 0), (.int (525) 0), (vS "/claim/cut.py" 1260)]), #[]⟩
noncomputable def b660 (_ : Params) : Obj := ⟨(vT "function"), none, (fO (sA 23) "join" "join" [] .none .none .none (vS "os.path" 1214) none (vR 659) .none 3 0), #[]⟩
noncomputable def b661 (_ : Params) : Obj := ⟨(vT "tuple"), none, (.seq #[] 0), #[]⟩
noncomputable def b663 (_ : Params) : Obj := ⟨(vT "tuple"), none, (.seq #[(vS "p" 1265), (vS "sep" 1266), (vS "i" 1267), (vS "head" 1268)] 0), #[]⟩
noncomputable def b664 (_ : Params) : Obj := ⟨(vT "tuple"), none, (.seq #[] 0), #[]⟩
noncomputable def b666 (_ : Params) : Obj := ⟨(vT "code"), none, (.fields #[(vS "dirname" 1262), (vS "dirname" 1263), (vS "/claim/cut.py" 1264), (.int (545) 0), (.int (1) 0), (.int (0) 0), (.int (0) 0), (.int (3) 0), (vR 661), (.bool true), (.int (318) 0), (vR 662), .none, (vR 663), (vR 664), (vR 665), (.int (1269) 0), (.int (545) 0), (vS "/claim/cut.py" 1270)]), #[]⟩
noncomputable def b667 (_ : Params) : Obj := ⟨(vT "function"), none, (fO (sA 24) "dirname" "dirname" [] .none .none .none (vS "os.path" 1214) none (vR 666) .none 3 0), #[]⟩
noncomputable def b675 (_ : Params) : Obj := ⟨(vT "tuple"), none, (.seq #[.none, .none, (.bool false), (.bool false)] 0), #[]⟩
noncomputable def b676 (_ : Params) : Obj := ⟨(vT "tuple"), none, (.seq #[] 0), #[]⟩
noncomputable def b678 (_ : Params) : Obj := ⟨(vT "tuple"), none, (.seq #[(vS "self" 1289), (vS "instream" 1290), (vS "infile" 1291), (vS "posix" 1292), (vS "punctuation_chars" 1293), (vS "t" 1294)] 0), #[]⟩
noncomputable def b679 (_ : Params) : Obj := ⟨(vT "tuple"), none, (.seq #[] 0), #[]⟩
noncomputable def b681 (_ : Params) : Obj := ⟨(vT "code"), none, (.fields #[(vS "__init__" 1286), (vS "shlex.__init__" 1287), (vS "/claim/cut.py" 1288), (.int (556) 0), (.int (5) 0), (.int (0) 0), (.int (0) 0), (.int (3) 0), (vR 676), (.bool true), (.int (318) 0), (vR 677), .none, (vR 678), (vR 679), (vR 680), (.int (1295) 0), (.int (556) 0), (vS "/claim/cut.py" 1296)]), #[]⟩
noncomputable def b682 (_ : Params) : Obj := ⟨(vT "function"), none, (fO (sB 26 0) "__init__" "shlex.__init__" [] (vR 675) .none .none (vS "cpy313.shlex" 1272) none (vR 681) .none 3 0), #[]⟩
noncomputable def b683 (_ : Params) : Obj := ⟨(vT "tuple"), none, (.seq #[] 0), #[]⟩
noncomputable def b685 (_ : Params) : Obj := ⟨(vT "tuple"), none, (.seq #[(vS "self" 1301)] 0), #[]⟩
noncomputable def b686 (_ : Params) : Obj := ⟨(vT "tuple"), none, (.seq #[] 0), #[]⟩
noncomputable def b688 (_ : Params) : Obj := ⟨(vT "code"), none, (.fields #[(vS "punctuation_chars" 1298), (vS "shlex.punctuation_chars" 1299), (vS "/claim/cut.py" 1300), (.int (597) 0), (.int (1) 0), (.int (0) 0), (.int (0) 0), (.int (3) 0), (vR 683), (.bool true), (.int (318) 0), (vR 684), .none, (vR 685), (vR 686), (vR 687), (.int (1302) 0), (.int (597) 0), (vS "/claim/cut.py" 1303)]), #[]⟩
noncomputable def b689 (_ : Params) : Obj := ⟨(vT "function"), none, (fO (sB 26 1) "punctuation_chars" "shlex.punctuation_chars" [] .none .none .none (vS "cpy313.shlex" 1272) none (vR 688) .none 3 0), #[]⟩
noncomputable def b690 (_ : Params) : Obj := ⟨(vT "property"), none, (.fields #[(vR 689), .none, .none, .none, (vS "punctuation_chars" 1305), (.bool false)]), #[]⟩
noncomputable def b691 (_ : Params) : Obj := ⟨(vT "tuple"), none, (.seq #[] 0), #[]⟩
noncomputable def b693 (_ : Params) : Obj := ⟨(vT "tuple"), none, (.seq #[(vS "self" 1309), (vS "tok" 1310)] 0), #[]⟩
noncomputable def b694 (_ : Params) : Obj := ⟨(vT "tuple"), none, (.seq #[] 0), #[]⟩
noncomputable def b696 (_ : Params) : Obj := ⟨(vT "code"), none, (.fields #[(vS "push_token" 1306), (vS "shlex.push_token" 1307), (vS "/claim/cut.py" 1308), (.int (601) 0), (.int (2) 0), (.int (0) 0), (.int (0) 0), (.int (3) 0), (vR 691), (.bool true), (.int (318) 0), (vR 692), .none, (vR 693), (vR 694), (vR 695), (.int (1311) 0), (.int (601) 0), (vS "/claim/cut.py" 1312)]), #[]⟩
noncomputable def b697 (_ : Params) : Obj := ⟨(vT "function"), none, (fO (sB 26 2) "push_token" "shlex.push_token" [] .none .none .none (vS "cpy313.shlex" 1272) none (vR 696) .none 3 0), #[]⟩
noncomputable def b698 (_ : Params) : Obj := ⟨(vT "tuple"), none, (.seq #[.none] 0), #[]⟩
noncomputable def b699 (_ : Params) : Obj := ⟨(vT "tuple"), none, (.seq #[] 0), #[]⟩
noncomputable def b701 (_ : Params) : Obj := ⟨(vT "tuple"), none, (.seq #[(vS "self" 1317), (vS "newstream" 1318), (vS "newfile" 1319)] 0), #[]⟩
noncomputable def b702 (_ : Params) : Obj := ⟨(vT "tuple"), none, (.seq #[] 0), #[]⟩
noncomputable def b704 (_ : Params) : Obj := ⟨(vT "code"), none, (.fields #[(vS "push_source" 1314), (vS "shlex.push_source" 1315), (vS "/claim/cut.py" 1316), (.int (604) 0), (.int (3) 0), (.int (0) 0), (.int (0) 0), (.int (3) 0), (vR 699), (.bool true), (.int (318) 0), (vR 700), .none, (vR 701), (vR 702), (vR 703), (.int (1320) 0), (.int (604) 0), (vS "/claim/cut.py" 1321)]), #[]⟩
noncomputable def b705 (_ : Params) : Obj := ⟨(vT "function"), none, (fO (sB 26 3) "push_source" "shlex.push_source" [] (vR 698) .none .none (vS "cpy313.shlex" 1272) none (vR 704) .none 3 0), #[]⟩
noncomputable def b706 (_ : Params) : Obj := ⟨(vT "tuple"), none, (.seq #[] 0), #[]⟩
noncomputable def b708 (_ : Params) : Obj := ⟨(vT "tuple"), none, (.seq #[(vS "self" 1326)] 0), #[]⟩
noncomputable def b709 (_ : Params) : Obj := ⟨(vT "tuple"), none, (.seq #[] 0), #[]⟩
noncomputable def b711 (_ : Params) : Obj := ⟨(vT "code"), none, (.fields #[(vS "pop_source" 1323), (vS "shlex.pop_source" 1324), (vS "/claim/cut.py" 1325), (.int (617) 0), (.int (1) 0), (.int (0) 0), (.int (0) 0), (.int (3) 0), (vR 706), (.bool true), (.int (318) 0), (vR 707), .none, (vR 708), (vR 709), (vR 710), (.int (1327) 0), (.int (617) 0), (vS "/claim/cut.py" 1328)]), #[]⟩
noncomputable def b712 (_ : Params) : Obj := ⟨(vT "function"), none, (fO (sB 26 4) "pop_source" "shlex.pop_source" [] .none .none .none (vS "cpy313.shlex" 1272) none (vR 711) .none 3 0), #[]⟩
noncomputable def b713 (_ : Params) : Obj := ⟨(vT "tuple"), none, (.seq #[] 0), #[]⟩
noncomputable def b715 (_ : Params) : Obj := ⟨(vT "tuple"), none, (.seq #[(vS "self" 1333), (vS "tok" 1334), (vS "raw" 1335), (vS "spec" 1336), (vS "newfile" 1337), (vS "newstream" 1338)] 0), #[]⟩
noncomputable def b716 (_ : Params) : Obj := ⟨(vT "tuple"), none, (.seq #[] 0), #[]⟩
noncomputable def b718 (_ : Params) : Obj := ⟨(vT "code"), none, (.fields #[(vS "get_token" 1330), (vS "shlex.get_token" 1331), (vS "/claim/cut.py" 1332), (.int (624) 0), (.int (1) 0), (.int (0) 0), (.int (0) 0), (.int (3) 0), (vR 713), (.bool true), (.int (318) 0), (vR 714), .none, (vR 715), (vR 716), (vR 717), (.int (1339) 0), (.int (624) 0), (vS "/claim/cut.py" 1340)]), #[]⟩
noncomputable def b719 (_ : Params) : Obj := ⟨(vT "function"), none, (fO (sB 26 5) "get_token" "shlex.get_token" [] .none .none .none (vS "cpy313.shlex" 1272) none (vR 718) .none 3 0), #[]⟩
noncomputable def b720 (_ : Params) : Obj := ⟨(vT "tuple"), none, (.seq #[] 0), #[]⟩
noncomputable def b722 (_ : Params) : Obj := ⟨(vT "tuple"), none, (.seq #[(vS "self" 1345), (vS "quoted" 1346), (vS "escapedstate" 1347), (vS "nextchar" 1348), (vS "result" 1349)] 0), #[]⟩
noncomputable def b723 (_ : Params) : Obj := ⟨(vT "tuple"), none, (.seq #[] 0), #[]⟩
noncomputable def b725 (_ : Params) : Obj := ⟨(vT "code"), none, (.fields #[(vS "read_token" 1342), (vS "shlex.read_token" 1343), (vS "/claim/cut.py" 1344), (.int (651) 0), (.int (1) 0), (.int (0) 0), (.int (0) 0), (.int (3) 0), (vR 720), (.bool true), (.int (318) 0), (vR 721), .none, (vR 722), (vR 723), (vR 724), (.int (1350) 0), (.int (651) 0), (vS "/claim/cut.py" 1351)]), #[]⟩
noncomputable def b726 (_ : Params) : Obj := ⟨(vT "function"), none, (fO (sB 26 6) "read_token" "shlex.read_token" [] .none .none .none (vS "cpy313.shlex" 1272) none (vR 725) .none 3 0), #[]⟩
noncomputable def b727 (_ : Params) : Obj := ⟨(vT "tuple"), none, (.seq #[] 0), #[]⟩
noncomputable def b729 (_ : Params) : Obj := ⟨(vT "tuple"), none, (.seq #[(vS "self" 1356), (vS "newfile" 1357)] 0), #[]⟩
noncomputable def b730 (_ : Params) : Obj := ⟨(vT "tuple"), none, (.seq #[] 0), #[]⟩
noncomputable def b732 (_ : Params) : Obj := ⟨(vT "code"), none, (.fields #[(vS "sourcehook" 1353), (vS "shlex.sourcehook" 1354), (vS "/claim/cut.py" 1355), (.int (788) 0), (.int (2) 0), (.int (0) 0), (.int (0) 0), (.int (3) 0), (vR 727), (.bool true), (.int (318) 0), (vR 728), .none, (vR 729), (vR 730), (vR 731), (.int (1358) 0), (.int (788) 0), (vS "/claim/cut.py" 1359)]), #[]⟩
noncomputable def b733 (_ : Params) : Obj := ⟨(vT "function"), none, (fO (sB 26 7) "sourcehook" "shlex.sourcehook" [] .none .none .none (vS "cpy313.shlex" 1272) none (vR 732) .none 3 0), #[]⟩
noncomputable def b734 (_ : Params) : Obj := ⟨(vT "tuple"), none, (.seq #[.none, .none] 0), #[]⟩
noncomputable def b735 (_ : Params) : Obj := ⟨(vT "tuple"), none, (.seq #[] 0), #[]⟩
noncomputable def b737 (_ : Params) : Obj := ⟨(vT "tuple"), none, (.seq #[(vS "self" 1364), (vS "infile" 1365), (vS "lineno" 1366)] 0), #[]⟩
noncomputable def b738 (_ : Params) : Obj := ⟨(vT "tuple"), none, (.seq #[] 0), #[]⟩
noncomputable def b740 (_ : Params) : Obj := ⟨(vT "code"), none, (.fields #[(vS "error_leader" 1361), (vS "shlex.error_leader" 1362), (vS "/claim/cut.py" 1363), (.int (795) 0), (.int (3) 0), (.int (0) 0), (.int (0) 0), (.int (3) 0), (vR 735), (.bool true), (.int (318) 0), (vR 736), .none, (vR 737), (vR 738), (vR 739), (.int (1367) 0), (.int (795) 0), (vS "/claim/cut.py" 1368)]), #[]⟩
noncomputable def b741 (_ : Params) : Obj := ⟨(vT "function"), none, (fO (sB 26 8) "error_leader" "shlex.error_leader" [] (vR 734) .none .none (vS "cpy313.shlex" 1272) none (vR 740) .none 3 0), #[]⟩
noncomputable def b742 (_ : Params) : Obj := ⟨(vT "tuple"), none, (.seq #[] 0), #[]⟩
noncomputable def b744 (_ : Params) : Obj := ⟨(vT "tuple"), none, (.seq #[(vS "self" 1373)] 0), #[]⟩
noncomputable def b745 (_ : Params) : Obj := ⟨(vT "tuple"), none, (.seq #[] 0), #[]⟩
noncomputable def b747 (_ : Params) : Obj := ⟨(vT "code"), none, (.fields #[(vS "__iter__" 1370), (vS "shlex.__iter__" 1371), (vS "/claim/cut.py" 1372), (.int (798) 0), (.int (1) 0), (.int (0) 0), (.int (0) 0), (.int (3) 0), (vR 742), (.bool true), (.int (318) 0), (vR 743), .none, (vR 744), (vR 745), (vR 746), (.int (1374) 0), (.int (798) 0), (vS "/claim/cut.py" 1375)]), #[]⟩
noncomputable def b748 (_ : Params) : Obj := ⟨(vT "function"), none, (fO (sB 26 9) "__iter__" "shlex.__iter__" [] .none .none .none (vS "cpy313.shlex" 1272) none (vR 747) .none 3 0), #[]⟩
noncomputable def b749 (_ : Params) : Obj := ⟨(vT "tuple"), none, (.seq #[] 0), #[]⟩
noncomputable def b751 (_ : Params) : Obj := ⟨(vT "tuple"), none, (.seq #[(vS "self" 1380), (vS "token" 1381)] 0), #[]⟩
noncomputable def b752 (_ : Params) : Obj := ⟨(vT "tuple"), none, (.seq #[] 0), #[]⟩
noncomputable def b754 (_ : Params) : Obj := ⟨(vT "code"), none, (.fields #[(vS "__next__" 1377), (vS "shlex.__next__" 1378), (vS "/claim/cut.py" 1379), (.int (801) 0), (.int (1) 0), (.int (0) 0), (.int (0) 0), (.int (3) 0), (vR 749), (.bool true), (.int (318) 0), (vR 750), .none, (vR 751), (vR 752), (vR 753), (.int (1382) 0), (.int (801) 0), (vS "/claim/cut.py" 1383)]), #[]⟩
noncomputable def b755 (_ : Params) : Obj := ⟨(vT "function"), none, (fO (sB 26 10) "__next__" "shlex.__next__" [] .none .none .none (vS "cpy313.shlex" 1272) none (vR 754) .none 3 0), #[]⟩
noncomputable def b756 (_ : Params) : Obj := ⟨(vT "tuple"), none, (.seq #[(vS "_punctuation_chars" 1385), (vS "_pushback_chars" 1386), (vS "commenters" 1387), (vS "debug" 1388), (vS "eof" 1389), (vS "escape" 1390), (vS "escapedquotes" 1391), (vS "filestack" 1392), (vS "infile" 1393), (vS "instream" 1394), (vS "lineno" 1395), (vS "posix" 1396), (vS "pushback" 1397), (vS "quotes" 1398), (vS "source" 1399), (vS "state" 1400), (vS "token" 1401), (vS "whitespace" 1402), (vS "whitespace_split" 1403), (vS "wordchars" 1404)] 0), #[]⟩
noncomputable def b757 (P : Params) : Obj := ⟨(vT "dict"), none, (.dict #[dE P "__module__" 1281 (vS "cpy313.shlex" 1272), dE P "__firstlineno__" 1285 (.int (554) 1284), dE P "__init__" 1297 (vR 682), dE P "punctuation_chars" 1305 (vR 690), dE P "push_token" 1313 (vR 697), dE P "push_source" 1322 (vR 705), dE P "pop_source" 1329 (vR 712), dE P "get_token" 1341 (vR 719), dE P "read_token" 1352 (vR 726), dE P "sourcehook" 1360 (vR 733), dE P "error_leader" 1369 (vR 741), dE P "__iter__" 1376 (vR 748), dE P "__next__" 1384 (vR 755), dE P "__static_attributes__" 1405 (vR 756), dE P "__dict__" 1407 (vR 759), dE P "__weakref__" 1409 (vR 760), dE P "__doc__" 1410 .none] 4), #[]⟩
noncomputable def b758 (_ : Params) : Obj := ⟨(vT "type"), none, (.cls ⟨(nS "shlex"), [(vT "object")], [(vR 758), (vT "object")], 757, (nS "shlex"), true, [], [], false, none, false⟩), #[none, none, (some (vS "shlex" 1274)), (some (vS "shlex" 1282)), (some (.builtin "object.__new__")), (some (.bool true))]⟩
noncomputable def b759 (_ : Params) : Obj := ⟨(vT "getset_descriptor"), none, (.fields #[(vS "__dict__" 1406), (vR 758), (.builtin "function.__dict__"), (.builtin "function.__dict__#set")]), #[]⟩
noncomputable def b760 (_ : Params) : Obj := ⟨(vT "getset_descriptor"), none, (.fields #[(vS "__weakref__" 1408), (vR 758), (.builtin "ExceptionGroup.__weakref__"), .none]), #[]⟩
noncomputable def b763 (_ : Params) : Obj := ⟨(vT "tuple"), none, (.seq #[(.bool false), (.bool true)] 0), #[]⟩
noncomputable def b764 (_ : Params) : Obj := ⟨(vT "tuple"), none, (.seq #[] 0), #[]⟩
noncomputable def b766 (_ : Params) : Obj := ⟨(vT "tuple"), none, (.seq #[(vS "s" 1416), (vS "comments" 1417), (vS "posix" 1418), (vS "lex" 1419)] 0), #[]⟩
noncomputable def b767 (_ : Params) : Obj := ⟨(vT "tuple"), none, (.seq #[] 0), #[]⟩
noncomputable def b769 (_ : Params) : Obj := ⟨(vT "code"), none, (.fields #[(vS "split" 1413), (vS "split" 1414), (vS "/claim/cut.py" 1415), (.int (806) 0), (.int (3) 0), (.int (0) 0), (.int (0) 0), (.int (3) 0), (vR 764), (.bool true), (.int (318) 0), (vR 765), .none, (vR 766), (vR 767), (vR 768), (.int (1420) 0), (.int (806) 0), (vS "/claim/cut.py" 1421)]), #[]⟩
noncomputable def b770 (_ : Params) : Obj := ⟨(vT "function"), none, (fO (sA 27) "split" "split" [] (vR 763) .none .none (vS "cpy313.shlex" 1272) none (vR 769) .none 3 0), #[]⟩
noncomputable def b771 (_ : Params) : Obj := ⟨(vT "tuple"), none, (.seq #[] 0), #[]⟩
noncomputable def b773 (_ : Params) : Obj := ⟨(vT "tuple"), none, (.seq #[(vS "line" 1428)] 0), #[]⟩
noncomputable def b774 (_ : Params) : Obj := ⟨(vT "tuple"), none, (.seq #[] 0), #[]⟩
noncomputable def b776 (_ : Params) : Obj := ⟨(vT "code"), none, (.fields #[(vS "_law_read" 1425), (vS "_law_read" 1426), (vS "/claim/cut.py" 1427), (.int (815) 0), (.int (1) 0), (.int (0) 0), (.int (0) 0), (.int (3) 0), (vR 771), (.bool true), (.int (318) 0), (vR 772), .none, (vR 773), (vR 774), (vR 775), (.int (1429) 0), (.int (815) 0), (vS "/claim/cut.py" 1430)]), #[]⟩
noncomputable def b777 (_ : Params) : Obj := ⟨(vT "function"), none, (fO (sA 29) "_law_read" "_law_read" [] .none .none .none (vS "law_ik0204_01" 1423) none (vR 776) .none 3 0), #[]⟩
noncomputable def b778 (_ : Params) : Obj := ⟨(vT "tuple"), none, (.seq #[] 0), #[]⟩
noncomputable def b780 (_ : Params) : Obj := ⟨(vT "tuple"), none, (.seq #[(vS "line" 1435), (vS "amount" 1436)] 0), #[]⟩
noncomputable def b781 (_ : Params) : Obj := ⟨(vT "tuple"), none, (.seq #[] 0), #[]⟩
noncomputable def b783 (_ : Params) : Obj := ⟨(vT "code"), none, (.fields #[(vS "_law_bare" 1432), (vS "_law_bare" 1433), (vS "/claim/cut.py" 1434), (.int (820) 0), (.int (2) 0), (.int (0) 0), (.int (0) 0), (.int (3) 0), (vR 778), (.bool true), (.int (318) 0), (vR 779), .none, (vR 780), (vR 781), (vR 782), (.int (1437) 0), (.int (820) 0), (vS "/claim/cut.py" 1438)]), #[]⟩
noncomputable def b784 (_ : Params) : Obj := ⟨(vT "function"), none, (fO (sA 30) "_law_bare" "_law_bare" [] .none .none .none (vS "law_ik0204_01" 1423) none (vR 783) .none 3 0), #[]⟩
noncomputable def b785 (_ : Params) : Obj := ⟨(vT "tuple"), none, (.seq #[] 0), #[]⟩
noncomputable def b787 (_ : Params) : Obj := ⟨(vT "tuple"), none, (.seq #[(vS "line" 1443), (vS "items" 1444), (vS "words" 1445), (vS "amount" 1446), (vS "core" 1447), (vS "ahead" 1448), (vS "behind" 1449), (vS "bare" 1450), (vS "front" 1451), (vS "back" 1452), (vS "slashes" 1453)] 0), #[]⟩
noncomputable def b788 (_ : Params) : Obj := ⟨(vT "tuple"), none, (.seq #[] 0), #[]⟩
noncomputable def b790 (_ : Params) : Obj := ⟨(vT "code"), none, (.fields #[(vS "_law_holds" 1440), (vS "_law_holds" 1441), (vS "/claim/cut.py" 1442), (.int (825) 0), (.int (4) 0), (.int (0) 0), (.int (0) 0), (.int (3) 0), (vR 785), (.bool true), (.int (318) 0), (vR 786), .none, (vR 787), (vR 788), (vR 789), (.int (1454) 0), (.int (825) 0), (vS "/claim/cut.py" 1455)]), #[]⟩
noncomputable def b791 (_ : Params) : Obj := ⟨(vT "function"), none, (fO (sA 31) "_law_holds" "_law_holds" [] .none .none .none (vS "law_ik0204_01" 1423) none (vR 790) .none 3 0), #[]⟩
noncomputable def b792 (_ : Params) : Obj := ⟨(vT "tuple"), none, (.seq #[] 0), #[]⟩
noncomputable def b795 (_ : Params) : Obj := ⟨(vT "code"), none, (.fields #[(vS "law" 1457), (vS "law" 1458), (vS "/claim/cut.py" 1459), (.int (842) 0), (.int (1) 0), (.int (0) 0), (.int (0) 0), (.int (3) 0), (vR 792), (.bool true), (.int (318) 0), (vR 793), .none, .none, .none, (vR 794), (.int (1460) 0), (.int (842) 0), (vS "/claim/cut.py" 1461)]), #[]⟩
noncomputable def b796 (_ : Params) : Obj := ⟨(vT "function"), none, (fO (sA 32) "law" "law" [] .none .none .none (vS "law_ik0204_01" 1423) none (vR 795) .none 3 0), #[]⟩
noncomputable def b0 (P : Params) : Obj := ⟨(vT "dict"), none, (.dict #[dE P "__name__" 1 (vS "builtins" 160), dE P "__doc__" 2 (.builtin "builtins.__doc__:str#opaque"), dE P "__package__" 3 (.builtin "builtins.__package__:str#opaque"), dE P "__loader__" 4 (.builtin "builtins.__loader__:shared#opaque"), dE P "__spec__" 5 (.builtin "builtins.__spec__#opaque"), dE P "__build_class__" 6 (.builtin "__build_class__"), dE P "__import__" 7 (.builtin "__import__"), dE P "abs" 8 (.builtin "abs"), dE P "all" 9 (.builtin "all"), dE P "any" 10 (.builtin "any"), dE P "ascii" 11 (.builtin "ascii"), dE P "bin" 12 (.builtin "bin"), dE P "breakpoint" 13 (.builtin "breakpoint"), dE P "callable" 14 (.builtin "callable"), dE P "chr" 15 (.builtin "chr"), dE P "compile" 16 (.builtin "compile"), dE P "delattr" 17 (.builtin "delattr"), dE P "dir" 18 (.builtin "dir"), dE P "divmod" 19 (.builtin "divmod"), dE P "eval" 20 (.builtin "eval"), dE P "exec" 21 (.builtin "exec"), dE P "format" 22 (.builtin "format"), dE P "getattr" 23 (.builtin "getattr"), dE P "globals" 24 (.builtin "globals"), dE P "hasattr" 25 (.builtin "hasattr"), dE P "hash" 26 (.builtin "hash"), dE P "hex" 27 (.builtin "hex"), dE P "id" 28 (.builtin "id"), dE P "input" 29 (.builtin "input"), dE P "isinstance" 30 (.builtin "isinstance"), dE P "issubclass" 31 (.builtin "issubclass"), dE P "iter" 32 (.builtin "iter"), dE P "aiter" 33 (.builtin "aiter"), dE P "len" 34 (.builtin "len"), dE P "locals" 35 (.builtin "locals"), dE P "max" 36 (.builtin "max"), dE P "min" 37 (.builtin "min"), dE P "next" 38 (.builtin "next"), dE P "anext" 39 (.builtin "anext"), dE P "oct" 40 (.builtin "oct"), dE P "ord" 41 (.builtin "ord"), dE P "pow" 42 (.builtin "pow"), dE P "print" 43 (.builtin "print"), dE P "repr" 44 (.builtin "repr"), dE P "round" 45 (.builtin "round"), dE P "setattr" 46 (.builtin "setattr"), dE P "sorted" 47 (.builtin "sorted"), dE P "sum" 48 (.builtin "sum"), dE P "vars" 49 (.builtin "vars"), dE P "None" 50 .none, dE P "Ellipsis" 51 .ellipsis, dE P "NotImplemented" 52 .notImplemented, dE P "False" 53 (.bool false), dE P "True" 54 (.bool true), dE P "bool" 55 (vT "bool"), dE P "memoryview" 56 (vT "memoryview"), dE P "bytearray" 57 (vT "bytearray"), dE P "bytes" 58 (vT "bytes"), dE P "classmethod" 59 (vT "classmethod"), dE P "complex" 60 (vT "complex"), dE P "dict" 61 (vT "dict"), dE P "enumerate" 62 (vT "enumerate"), dE P "filter" 63 (vT "filter"), dE P "float" 64 (vT "float"), dE P "frozenset" 65 (vT "frozenset"), dE P "property" 66 (vT "property"), dE P "int" 67 (vT "int"), dE P "list" 68 (vT "list"), dE P "map" 69 (vT "map"), dE P "object" 70 (vT "object"), dE P "range" 71 (vT "range"), dE P "reversed" 72 (vT "reversed"), dE P "set" 73 (vT "set"), dE P "slice" 74 (vT "slice"), dE P "staticmethod" 75 (vT "staticmethod"), dE P "str" 76 (vT "str"), dE P "super" 77 (vT "super"), dE P "tuple" 78 (vT "tuple"), dE P "type" 79 (vT "type"), dE P "zip" 80 (vT "zip"), dE P "__debug__" 81 (.bool true), dE P "BaseException" 82 (vT "BaseException"), dE P "BaseExceptionGroup" 83 (vT "BaseExceptionGroup"), dE P "Exception" 84 (vT "Exception"), dE P "GeneratorExit" 85 (vT "GeneratorExit"), dE P "KeyboardInterrupt" 86 (vT "KeyboardInterrupt"), dE P "SystemExit" 87 (vT "SystemExit"), dE P "ArithmeticError" 88 (vT "ArithmeticError"), dE P "AssertionError" 89 (vT "AssertionError"), dE P "AttributeError" 90 (vT "AttributeError"), dE P "BufferError" 91 (vT "BufferError"), dE P "EOFError" 92 (vT "EOFError"), dE P "ImportError" 93 (vT "ImportError"), dE P "LookupError" 94 (vT "LookupError"), dE P "MemoryError" 95 (vT "MemoryError"), dE P "NameError" 96 (vT "NameError"), dE P "OSError" 97 (vT "OSError"), dE P "ReferenceError" 98 (vT "ReferenceError"), dE P "RuntimeError" 99 (vT "RuntimeError"), dE P "StopAsyncIteration" 100 (vT "StopAsyncIteration"), dE P "StopIteration" 101 (vT "StopIteration"), dE P "SyntaxError" 102 (vT "SyntaxError"), dE P "SystemError" 103 (vT "SystemError"), dE P "TypeError" 104 (vT "TypeError"), dE P "ValueError" 105 (vT "ValueError"), dE P "Warning" 106 (vT "Warning"), dE P "FloatingPointError" 107 (vT "FloatingPointError"), dE P "OverflowError" 108 (vT "OverflowError"), dE P "ZeroDivisionError" 109 (vT "ZeroDivisionError"), dE P "BytesWarning" 110 (vT "BytesWarning"), dE P "DeprecationWarning" 111 (vT "DeprecationWarning"), dE P "EncodingWarning" 112 (vT "EncodingWarning"), dE P "FutureWarning" 113 (vT "FutureWarning"), dE P "ImportWarning" 114 (vT "ImportWarning"), dE P "PendingDeprecationWarning" 115 (vT "PendingDeprecationWarning"), dE P "ResourceWarning" 116 (vT "ResourceWarning"), dE P "RuntimeWarning" 117 (vT "RuntimeWarning"), dE P "SyntaxWarning" 118 (vT "SyntaxWarning"), dE P "UnicodeWarning" 119 (vT "UnicodeWarning"), dE P "UserWarning" 120 (vT "UserWarning"), dE P "BlockingIOError" 121 (vT "BlockingIOError"), dE P "ChildProcessError" 122 (vT "ChildProcessError"), dE P "ConnectionError" 123 (vT "ConnectionError"), dE P "FileExistsError" 124 (vT "FileExistsError"), dE P "FileNotFoundError" 125 (vT "FileNotFoundError"), dE P "InterruptedError" 126 (vT "InterruptedError"), dE P "IsADirectoryError" 127 (vT "IsADirectoryError"), dE P "NotADirectoryError" 128 (vT "NotADirectoryError"), dE P "PermissionError" 129 (vT "PermissionError"), dE P "ProcessLookupError" 130 (vT "ProcessLookupError"), dE P "TimeoutError" 131 (vT "TimeoutError"), dE P "IndentationError" 132 (vT "IndentationError"), dE P "_IncompleteInputError" 133 (vT "_IncompleteInputError"), dE P "IndexError" 134 (vT "IndexError"), dE P "KeyError" 135 (vT "KeyError"), dE P "ModuleNotFoundError" 136 (vT "ModuleNotFoundError"), dE P "NotImplementedError" 137 (vT "NotImplementedError"), dE P "PythonFinalizationError" 138 (vT "PythonFinalizationError"), dE P "RecursionError" 139 (vT "RecursionError"), dE P "UnboundLocalError" 140 (vT "UnboundLocalError"), dE P "UnicodeError" 141 (vT "UnicodeError"), dE P "BrokenPipeError" 142 (vT "BrokenPipeError"), dE P "ConnectionAbortedError" 143 (vT "ConnectionAbortedError"), dE P "ConnectionRefusedError" 144 (vT "ConnectionRefusedError"), dE P "ConnectionResetError" 145 (vT "ConnectionResetError"), dE P "TabError" 146 (vT "TabError"), dE P "UnicodeDecodeError" 147 (vT "UnicodeDecodeError"), dE P "UnicodeEncodeError" 148 (vT "UnicodeEncodeError"), dE P "UnicodeTranslateError" 149 (vT "UnicodeTranslateError"), dE P "ExceptionGroup" 150 (vT "ExceptionGroup"), dE P "EnvironmentError" 151 (vT "OSError"), dE P "IOError" 152 (vT "OSError"), dE P "open" 153 (.builtin "open"), dE P "quit" 154 (.builtin "builtins.quit#opaque"), dE P "exit" 155 (.builtin "builtins.exit#opaque"), dE P "copyright" 156 (.builtin "builtins.copyright#opaque"), dE P "credits" 157 (.builtin "builtins.credits#opaque"), dE P "license" 158 (.builtin "builtins.license#opaque"), dE P "help" 159 (.builtin "builtins.help#opaque")] 159), #[]⟩
noncomputable def b1 (P : Params) : Obj := ⟨(vT "dict"), none, (.dict #[dE P "builtins" 162 (vR 4), dE P "__main__" 163 (vR 5), dE P "_sre" 244 (vR 12), dE P "_collections" 292 (vR 30)] 4), #[]⟩
noncomputable def b2x (P : Params) : Obj := ⟨.none, none, (.dict #[dE P "imp\x6frt.loaded._sre" 183 (.bool true), dE P "class._frozen_importlib.BuiltinImporter" 185 (vR 14), dE P "watched.imp\x6frt" 206 (vR 18), dE P "class._frozen_importlib.ModuleSpec" 216 (vR 22), dE P "sys.modules.booked-epoch" 245 (.int (4) 0), dE P "imp\x6frt.later-laid._sre" 270 (.bool true), dE P "watched.library" 272 (vR 27), dE P "watched.library-objects" 0 (vS "\x0c\x1e" 0), dE P "watched.library-deep._sre" 273 (vS "\x04\x00\x00\x0b\x04\x00\x00\x0b\x04\x00\x00\x03\x04\x00\x00\x0b\x08\x04dict\x02" 0), dE P "imp\x6frt.loaded._collections" 280 (.bool true), dE P "sys.modules.landed._collections" 294 (.bool true), dE P "imp\x6frt.later-laid._collections" 309 (.bool true), dE P "watched.library-deep._collections" 311 (vS "\x04\x00\x00\x1d\x04\x00\x00\x1d\x04\x00\x00\x03\x04\x00\x00\x1d\x08\x04dict\x02" 0)] 13), #[]⟩
noncomputable def b3x (P : Params) : Obj := ⟨(vT "dict"), none, (.dict #[dE P "__name__" 165 (vS "__main__" 164), dE P "__doc__" 166 .none, dE P "__package__" 167 .none, dE P "__loader__" 168 (.builtin "__main__.__loader__#opaque"), dE P "__spec__" 169 .none, dE P "__annotations__" 170 (vR 6), dE P "__builtins__" 171 (vR 4), dE P "__file__" 173 (vS "/claim/cut.py" 172), dE P "__cached__" 174 .none, dE P "_sre" 275 (vR 12), dE P "deque" 317 (vT "collections.deque")] 11), #[]⟩
noncomputable def b4 (_ : Params) : Obj := ⟨(vT "module"), (some 0), .plain, #[]⟩
noncomputable def b5 (_ : Params) : Obj := ⟨(vT "module"), (some 3), .plain, #[]⟩
noncomputable def b6 (_ : Params) : Obj := ⟨(vT "dict"), none, (.dict #[] 0), #[]⟩
noncomputable def b7 (_ : Params) : Obj := ⟨(vT "tuple"), none, (.seq #[] 0), #[]⟩
noncomputable def b8 (_ : Params) : Obj := ⟨.none, none, (.fields #[]), #[]⟩
noncomputable def b9 (_ : Params) : Obj := ⟨(vT "code"), none, (.fields #[(vS "<module>" 176), (vS "<module>" 177), (vS "/claim/cut.py" 178), (.int (1) 0), (.int (0) 0), (.int (0) 0), (.int (0) 0), (.int (0) 0), (vR 7), (.bool false), (.int (175) 0), (vR 8), .none, .none, .none, .none, (.int (179) 0), (.int (1) 0), (vS "/claim/cut.py" 180)]), #[]⟩
noncomputable def b10 (_ : Params) : Obj := ⟨(vT "frame"), none, .plain, #[(some (vR 9)), (some (vR 3)), (some (vR 3)), none, (some (vS "__main__" 164)), none, (some (vR 0))]⟩
noncomputable def b11 (P : Params) : Obj := ⟨(vT "dict"), none, (.dict #[dE P "__name__" 247 (vS "_sre" 246), dE P "__doc__" 248 .none, dE P "__package__" 250 (vS "" 249), dE P "__loader__" 251 (.builtin "off-the-table:_sre.__loader__:shared#opaque"), dE P "__spec__" 252 (.builtin "off-the-table:_sre.__spec__:shared#opaque"), dE P "compile" 253 (.builtin "_sre.compile"), dE P "template" 254 (.builtin "off-the-table:_sre.template:shared#opaque"), dE P "getcodesize" 255 (.builtin "off-the-table:_sre.getcodesize:shared#opaque"), dE P "ascii_iscased" 256 (.builtin "off-the-table:_sre.ascii_iscased:shared#opaque"), dE P "unicode_iscased" 257 (.builtin "off-the-table:_sre.unicode_iscased:shared#opaque"), dE P "ascii_tolower" 258 (.builtin "off-the-table:_sre.ascii_tolower:shared#opaque"), dE P "unicode_tolower" 259 (.builtin "off-the-table:_sre.unicode_tolower:shared#opaque"), dE P "MAGIC" 261 (.int (20230612) 260), dE P "CODESIZE" 263 (.int (4) 262), dE P "MAXREPEAT" 265 (.int (4294967295) 264), dE P "MAXGROUPS" 267 (.int (1073741823) 266), dE P "copyright" 269 (vS " SRE 2.2.2 Copyright (c) 1997-2002 by Secret Labs AB " 268)] 17), #[]⟩
noncomputable def b12 (_ : Params) : Obj := ⟨(vT "module"), (some 11), .plain, #[]⟩
noncomputable def b13 (P : Params) : Obj := ⟨(vT "dict"), none, (.dict #[dE P "__module__" 189 (vS "_frozen_importlib" 186), dE P "__firstlineno__" 190 (.int (971) 187), dE P "__doc__" 191 (.builtin "_frozen_importlib.BuiltinImporter.__doc__:str#opaque"), dE P "_ORIGIN" 192 (vS "built-in" 188), dE P "find_spec" 193 (.builtin "_frozen_importlib.BuiltinImporter.find_spec#opaque"), dE P "create_module" 194 (.builtin "_frozen_importlib.BuiltinImporter.create_module#opaque"), dE P "exec_module" 195 (.builtin "_frozen_importlib.BuiltinImporter.exec_module#opaque"), dE P "get_code" 196 (.builtin "_frozen_importlib.BuiltinImporter.get_code#opaque"), dE P "get_source" 197 (.builtin "_frozen_importlib.BuiltinImporter.get_source#opaque"), dE P "is_package" 198 (.builtin "_frozen_importlib.BuiltinImporter.is_package#opaque"), dE P "load_module" 199 (.builtin "_frozen_importlib.BuiltinImporter.load_module#opaque"), dE P "__static_attributes__" 200 (vR 15), dE P "__dict__" 202 (vR 16), dE P "__weakref__" 204 (vR 17)] 14), #[]⟩
noncomputable def b14 (_ : Params) : Obj := ⟨(vT "type"), none, (.cls ⟨(nS "BuiltinImporter"), [(vT "object")], [(vR 14), (vT "object")], 13, (nS "BuiltinImporter"), true, [], [], false, none, false⟩), #[]⟩
noncomputable def b15 (_ : Params) : Obj := ⟨(vT "tuple"), none, (.seq #[] 0), #[]⟩
noncomputable def b16 (_ : Params) : Obj := ⟨(vT "getset_descriptor"), none, (.fields #[(vS "__dict__" 201), (vR 14), (.builtin "function.__dict__"), (.builtin "function.__dict__#set")]), #[]⟩
noncomputable def b17 (_ : Params) : Obj := ⟨(vT "getset_descriptor"), none, (.fields #[(vS "__weakref__" 203), (vR 14), (.builtin "ExceptionGroup.__weakref__"), .none]), #[]⟩
noncomputable def b18 (P : Params) : Obj := ⟨.none, none, (.seq #[(.int (13) 0), (PySem.Builtin.packed (PySem.Builtin.flatEntries #[dE P "__module__" 189 (vS "_frozen_importlib" 186), dE P "__firstlineno__" 190 (.int (971) 187), dE P "__doc__" 191 (.builtin "_frozen_importlib.BuiltinImporter.__doc__:str#opaque"), dE P "_ORIGIN" 192 (vS "built-in" 188), dE P "find_spec" 193 (.builtin "_frozen_importlib.BuiltinImporter.find_spec#opaque"), dE P "create_module" 194 (.builtin "_frozen_importlib.BuiltinImporter.create_module#opaque"), dE P "exec_module" 195 (.builtin "_frozen_importlib.BuiltinImporter.exec_module#opaque"), dE P "get_code" 196 (.builtin "_frozen_importlib.BuiltinImporter.get_code#opaque"), dE P "get_source" 197 (.builtin "_frozen_importlib.BuiltinImporter.get_source#opaque"), dE P "is_package" 198 (.builtin "_frozen_importlib.BuiltinImporter.is_package#opaque"), dE P "load_module" 199 (.builtin "_frozen_importlib.BuiltinImporter.load_module#opaque"), dE P "__static_attributes__" 200 (vR 15), dE P "__dict__" 202 (vR 16), dE P "__weakref__" 204 (vR 17)])), (.bool true), (.bool true), (vS "" 205), (.int (21) 0), (PySem.Builtin.packed (PySem.Builtin.flatEntries #[dE P "__module__" 227 (vS "_frozen_importlib" 217), dE P "__firstlineno__" 228 (.int (562) 218), dE P "__doc__" 229 (.builtin "_frozen_importlib.ModuleSpec.__doc__:str#opaque"), dE P "__init__" 230 (.builtin "_frozen_importlib.ModuleSpec.__init__#opaque"), dE P "__repr__" 231 (.builtin "_frozen_importlib.ModuleSpec.__repr__#opaque"), dE P "__eq__" 232 (.builtin "_frozen_importlib.ModuleSpec.__eq__#opaque"), dE P "cached" 233 (.builtin "_frozen_importlib.ModuleSpec.cached#opaque"), dE P "parent" 234 (.builtin "_frozen_importlib.ModuleSpec.parent#opaque"), dE P "has_location" 235 (.builtin "_frozen_importlib.ModuleSpec.has_location#opaque"), dE P "__static_attributes__" 236 (vR 23), dE P "__dict__" 238 (vR 24), dE P "__weakref__" 240 (vR 25), dE P "__hash__" 241 .none])), (.bool true), (.bool true), (vS "" 242)] 1), #[]⟩
noncomputable def b19 (_ : Params) : Obj := ⟨(vT "list"), none, (.seq #[] 0), #[]⟩
noncomputable def b20 (P : Params) : Obj := ⟨(vT "dict"), none, (.dict #[dE P "name" 208 (vS "_sre" 207), dE P "loader" 209 (vR 14), dE P "origin" 210 (vS "built-in" 184), dE P "loader_state" 211 .none, dE P "submodule_search_locations" 212 .none, dE P "_uninitialized_submodules" 213 (vR 19), dE P "_set_fileattr" 214 (.bool false), dE P "_cached" 215 .none, dE P "_initializing" 243 (.bool false)] 9), #[]⟩
noncomputable def b21 (P : Params) : Obj := ⟨(vT "dict"), none, (.dict #[dE P "__module__" 227 (vS "_frozen_importlib" 217), dE P "__firstlineno__" 228 (.int (562) 218), dE P "__doc__" 229 (.builtin "_frozen_importlib.ModuleSpec.__doc__:str#opaque"), dE P "__init__" 230 (.builtin "_frozen_importlib.ModuleSpec.__init__#opaque"), dE P "__repr__" 231 (.builtin "_frozen_importlib.ModuleSpec.__repr__#opaque"), dE P "__eq__" 232 (.builtin "_frozen_importlib.ModuleSpec.__eq__#opaque"), dE P "cached" 233 (.builtin "_frozen_importlib.ModuleSpec.cached#opaque"), dE P "parent" 234 (.builtin "_frozen_importlib.ModuleSpec.parent#opaque"), dE P "has_location" 235 (.builtin "_frozen_importlib.ModuleSpec.has_location#opaque"), dE P "__static_attributes__" 236 (vR 23), dE P "__dict__" 238 (vR 24), dE P "__weakref__" 240 (vR 25), dE P "__hash__" 241 .none] 13), #[]⟩
noncomputable def b22 (_ : Params) : Obj := ⟨(vT "type"), none, (.cls ⟨(nS "ModuleSpec"), [(vT "object")], [(vR 22), (vT "object")], 21, (nS "ModuleSpec"), true, [], [], false, none, false⟩), #[]⟩
noncomputable def b23 (_ : Params) : Obj := ⟨(vT "tuple"), none, (.seq #[(vS "_cached" 219), (vS "_set_fileattr" 220), (vS "_uninitialized_submodules" 221), (vS "loader" 222), (vS "loader_state" 223), (vS "name" 224), (vS "origin" 225), (vS "submodule_search_locations" 226)] 0), #[]⟩
noncomputable def b24 (_ : Params) : Obj := ⟨(vT "getset_descriptor"), none, (.fields #[(vS "__dict__" 237), (vR 22), (.builtin "function.__dict__"), (.builtin "function.__dict__#set")]), #[]⟩
noncomputable def b25 (_ : Params) : Obj := ⟨(vT "getset_descriptor"), none, (.fields #[(vS "__weakref__" 239), (vR 22), (.builtin "ExceptionGroup.__weakref__"), .none]), #[]⟩
noncomputable def b26 (_ : Params) : Obj := ⟨(vR 22), (some 20), .plain, #[]⟩
noncomputable def b27 (P : Params) : Obj := ⟨.none, none, (.seq #[(.int (11) 0), (PySem.Builtin.packed (PySem.Builtin.flatEntries #[dE P "__name__" 247 (vS "_sre" 246), dE P "__doc__" 248 .none, dE P "__package__" 250 (vS "" 249), dE P "__loader__" 251 (vR 14), dE P "__spec__" 252 (vR 26), dE P "compile" 253 (.builtin "_sre.compile"), dE P "template" 254 (.builtin "_sre.template"), dE P "getcodesize" 255 (.builtin "_sre.getcodesize"), dE P "ascii_iscased" 256 (.builtin "_sre.ascii_iscased"), dE P "unicode_iscased" 257 (.builtin "_sre.unicode_iscased"), dE P "ascii_tolower" 258 (.builtin "_sre.ascii_tolower"), dE P "unicode_tolower" 259 (.builtin "_sre.unicode_tolower"), dE P "MAGIC" 261 (.int (20230612) 260), dE P "CODESIZE" 263 (.int (4) 262), dE P "MAXREPEAT" 265 (.int (4294967295) 264), dE P "MAXGROUPS" 267 (.int (1073741823) 266), dE P "copyright" 269 (vS " SRE 2.2.2 Copyright (c) 1997-2002 by Secret Labs AB " 268)])), (.bool true), (.bool false), (vS "_sre" 271), (.int (29) 0), (PySem.Builtin.packed (PySem.Builtin.flatEntries #[dE P "__name__" 296 (vS "_collections" 295), dE P "__doc__" 297 (.builtin "_collections.__doc__:str#opaque"), dE P "__package__" 299 (vS "" 298), dE P "__loader__" 300 (vR 14), dE P "__spec__" 301 (vR 33), dE P "_count_elements" 302 (.builtin "_collections._count_elements"), dE P "deque" 303 (vT "collections.deque"), dE P "defaultdict" 304 (vT "collections.defaultdict"), dE P "_deque_iterator" 305 (vT "collections._deque_iterator"), dE P "_deque_reverse_iterator" 306 (vT "collections._deque_reverse_iterator"), dE P "_tuplegetter" 307 (vT "collections._tuplegetter"), dE P "OrderedDict" 308 (vT "collections.OrderedDict")])), (.bool true), (.bool false), (vS "_collections" 310)] 1), #[]⟩
noncomputable def b28 (_ : Params) : Obj := ⟨(vT "tuple"), none, (.seq #[(vS "deque" 277)] 0), #[]⟩
noncomputable def b29 (P : Params) : Obj := ⟨(vT "dict"), none, (.dict #[dE P "__name__" 296 (vS "_collections" 295), dE P "__doc__" 297 (.builtin "off-the-table:_collections.__doc__:shared#opaque"), dE P "__package__" 299 (vS "" 298), dE P "__loader__" 300 (.builtin "off-the-table:_collections.__loader__:shared#opaque"), dE P "__spec__" 301 (.builtin "off-the-table:_collections.__spec__:shared#opaque"), dE P "_count_elements" 302 (.builtin "_collections._count_elements"), dE P "deque" 303 (vT "collections.deque"), dE P "defaultdict" 304 (vT "collections.defaultdict"), dE P "_deque_iterator" 305 (.builtin "off-the-table:_collections._deque_iterator:shared#opaque"), dE P "_deque_reverse_iterator" 306 (.builtin "off-the-table:_collections._deque_reverse_iterator:shared#opaque"), dE P "_tuplegetter" 307 (vT "collections._tuplegetter"), dE P "OrderedDict" 308 (vT "collections.OrderedDict")] 12), #[]⟩
noncomputable def b30 (_ : Params) : Obj := ⟨(vT "module"), (some 29), .plain, #[]⟩
noncomputable def b31 (_ : Params) : Obj := ⟨(vT "list"), none, (.seq #[] 0), #[]⟩
noncomputable def b32 (P : Params) : Obj := ⟨(vT "dict"), none, (.dict #[dE P "name" 283 (vS "_collections" 282), dE P "loader" 284 (vR 14), dE P "origin" 285 (vS "built-in" 281), dE P "loader_state" 286 .none, dE P "submodule_search_locations" 287 .none, dE P "_uninitialized_submodules" 288 (vR 31), dE P "_set_fileattr" 289 (.bool false), dE P "_cached" 290 .none, dE P "_initializing" 291 (.bool false)] 9), #[]⟩
noncomputable def b33 (_ : Params) : Obj := ⟨(vR 22), (some 32), .plain, #[]⟩
noncomputable def b35 (_ : Params) : Obj := ⟨.none, none, (.fields #[]), #[]⟩
noncomputable def b37 (_ : Params) : Obj := ⟨(vT "frame"), none, .plain, #[(some (vR 36)), (some (vR 3)), (some (vR 3)), none, (some (vS "__main__" 164)), none, (some (vR 0))]⟩
noncomputable def b36 (_ : Params) : Obj := ⟨(vT "code"), none, (.fields #[(vS "<module>" 319), (vS "<module>" 320), (vS "/claim/cut.py" 321), (.int (1) 0), (.int (0) 0), (.int (0) 0), (.int (0) 0), (.int (0) 0), (vR 34), (.bool false), (.int (318) 0), (vR 35), .none, .none, .none, .none, (.int (322) 0), (.int (1) 0), (vS "/claim/cut.py" 323)]), #[]⟩
noncomputable def b34 (_ : Params) : Obj := ⟨(vT "tuple"), none, (.seq #[] 0), #[]⟩
noncomputable def b3xx (P : Params) : Obj := ⟨(vT "dict"), none, (.dict #[dE P "__name__" 165 (vS "re" 381), dE P "__doc__" 166 .none, dE P "__package__" 167 .none, dE P "__loader__" 168 (.builtin "__main__.__loader__#opaque"), dE P "__spec__" 169 .none, dE P "__annotations__" 170 (vR 6), dE P "__builtins__" 171 (vR 4), dE P "__file__" 173 (vS "/claim/cut.py" 172), dE P "__cached__" 174 .none, dE P "_sre" 275 (vR 12), dE P "deque" 317 (vT "collections.deque"), dE P "_wall" 330 (vR 44), dE P "_strip_padding" 342 (vR 51), dE P "_twin_re_1" 380 (vR 56), dE P "_special_chars_map" 528 (vR 58)] 15), #[]⟩
noncomputable def b39 (_ : Params) : Obj := ⟨.none, none, (.fields #[]), #[]⟩
noncomputable def b35x (_ : Params) : Obj := ⟨.none, none, (.fields #[(.int (3) 0), (.int (0) 0), (vR 43), (.int (7) 0), (.int (0) 0), (vR 50)]), #[]⟩
noncomputable def b59 (_ : Params) : Obj := ⟨(vT "dict"), none, (.dict #[] 2), #[]⟩
noncomputable def b49 (_ : Params) : Obj := ⟨.none, none, (fO (sA 2) "_strip_padding" "_strip_padding" [] .none .none .none .none none .none .none 0 0), #[]⟩
noncomputable def b57 (_ : Params) : Obj := ⟨(vT "bytes_iterator"), none, (.fields #[.none, (.int (24) 0)]), #[]⟩
noncomputable def b53 (_ : Params) : Obj := ⟨(vT "dict"), none, (.dict #[] 0), #[]⟩
noncomputable def b61 (_ : Params) : Obj := ⟨(vT "StopIteration"), none, (.fields #[(vR 60), .none, .none, .none, (.bool false), .none]), #[]⟩
noncomputable def b52 (_ : Params) : Obj := ⟨(vT "list"), none, (.seq #[(.int (14) 346), (.int (14) 347), (.int (4) 348), (.int (1) 349), (.int (1) 350), (.int (9) 351), (.int (0) 352), (.int (64) 353), (.int (0) 354), (.int (1342177280) 355), (.int (0) 356), (.int (0) 357), (.int (0) 358), (.int (0) 359), (.int (0) 360), (.int (17) 361), (.int (0) 362), (.int (13) 363), (.int (11) 364), (.int (9) 365), (.int (0) 366), (.int (64) 367), (.int (0) 368), (.int (1342177280) 369), (.int (0) 370), (.int (0) 371), (.int (0) 372), (.int (0) 373), (.int (0) 374), (.int (17) 375), (.int (1) 376), (.int (1) 377)] 0), #[]⟩
noncomputable def b60 (_ : Params) : Obj := ⟨(vT "tuple"), none, (.seq #[] 0), #[]⟩
noncomputable def b42 (_ : Params) : Obj := ⟨.none, none, (fO (sA 0) "_wall" "_wall" [] .none .none .none .none none .none .none 0 0), #[]⟩
noncomputable def b54 (_ : Params) : Obj := ⟨(vT "tuple"), none, (.seq #[.none, .none] 0), #[]⟩
noncomputable def b46 (_ : Params) : Obj := ⟨.none, none, (.fields #[]), #[]⟩
noncomputable def b3xxx (P : Params) : Obj := ⟨(vT "dict"), none, (.dict #[dE P "__name__" 165 (vS "io" 557), dE P "__doc__" 166 .none, dE P "__package__" 167 .none, dE P "__loader__" 168 (.builtin "__main__.__loader__#opaque"), dE P "__spec__" 169 .none, dE P "__annotations__" 170 (vR 6), dE P "__builtins__" 171 (vR 4), dE P "__file__" 173 (vS "/claim/cut.py" 172), dE P "__cached__" 174 .none, dE P "_sre" 275 (vR 12), dE P "deque" 317 (vT "collections.deque"), dE P "_wall" 330 (vR 44), dE P "_strip_padding" 342 (vR 51), dE P "_twin_re_1" 380 (vR 56), dE P "_special_chars_map" 528 (vR 58), dE P "escape" 535 (vR 68), dE P "_translate" 556 (vR 75), dE P "_whence" 566 (vR 82), dE P "_index" 574 (vR 89), dE P "UnsupportedOperation" 596 (vR 99), dE P "IOBase" 628 (vR 119), dE P "BufferedIOBase" 646 (vR 134), dE P "TextIOBase" 664 (vR 146)] 23), #[]⟩
noncomputable def b63 (_ : Params) : Obj := ⟨.none, none, (.fields #[]), #[]⟩
noncomputable def b127 (P : Params) : Obj := ⟨(vT "dict"), none, (.dict #[dE P "__module__" 636 (vS "io" 641), dE P "__qualname__" 638 (vS "BufferedIOBase" 637), dE P "__firstlineno__" 640 (.int (111) 639), dE P "__static_attributes__" 643 (vR 132)] 4), #[]⟩
noncomputable def b95 (_ : Params) : Obj := ⟨(vT "code"), none, (.fields #[(vS "UnsupportedOperation" 577), (vS "UnsupportedOperation" 578), (vS "/claim/cut.py" 579), (.int (102) 0), (.int (0) 0), (.int (0) 0), (.int (0) 0), (.int (0) 0), (vR 93), (.bool false), (.int (318) 0), (vR 94), .none, .none, .none, .none, (.int (580) 0), (.int (102) 0), (vS "/claim/cut.py" 581)]), #[]⟩
noncomputable def b143 (_ : Params) : Obj := ⟨(vT "frame"), none, .plain, #[(some (vR 142)), (some (vR 3)), (some (vR 139)), none, (some (vS "io" 557)), none, (some (vR 0))]⟩
noncomputable def b111 (_ : Params) : Obj := ⟨.none, none, (.fields #[]), #[]⟩
noncomputable def b135 (_ : Params) : Obj := ⟨(vT "super"), none, (.fields #[(vR 134), (vR 134), (vR 134)]), #[]⟩
noncomputable def b103 (_ : Params) : Obj := ⟨(vT "tuple"), none, (.seq #[] 0), #[]⟩
noncomputable def b87 (_ : Params) : Obj := ⟨.none, none, (fO (sA 11) "_index" "_index" [] .none .none .none .none none .none .none 0 0), #[]⟩
noncomputable def b35xx (_ : Params) : Obj := ⟨.none, none, (.fields #[(.int (3) 0), (.int (0) 0), (vR 43), (.int (7) 0), (.int (0) 0), (vR 50), (.int (20) 0), (.int (0) 0), (vR 67), (.int (27) 0), (.int (0) 0), (vR 74), (.int (90) 0), (.int (0) 0), (vR 81), (.int (95) 0), (.int (0) 0), (vR 88), (.int (102) 0), (.int (0) 0), (vR 95), (.int (104) 0), (.int (0) 0), (vR 108), (.int (111) 0), (.int (0) 0), (vR 130), (.int (113) 0), (.int (0) 0), (vR 142)]), #[]⟩
noncomputable def b131 (_ : Params) : Obj := ⟨(vT "frame"), none, .plain, #[(some (vR 130)), (some (vR 3)), (some (vR 127)), none, (some (vS "io" 557)), none, (some (vR 0))]⟩
noncomputable def b147 (_ : Params) : Obj := ⟨(vT "super"), none, (.fields #[(vR 146), (vR 146), (vR 146)]), #[]⟩
noncomputable def b139 (P : Params) : Obj := ⟨(vT "dict"), none, (.dict #[dE P "__module__" 654 (vS "io" 659), dE P "__qualname__" 656 (vS "TextIOBase" 655), dE P "__firstlineno__" 658 (.int (113) 657), dE P "__static_attributes__" 661 (vR 144)] 4), #[]⟩
noncomputable def b107 (_ : Params) : Obj := ⟨.none, none, (.fields #[(.int (107) 0), (.int (4) 0), (vR 115)]), #[]⟩
noncomputable def b91 (_ : Params) : Obj := ⟨(vT "builtin_function_or_method"), none, (.fields #[(.builtin "type.__prepare__"), (vT "type")]), #[]⟩
noncomputable def b123 (_ : Params) : Obj := ⟨(vT "super"), none, (.fields #[(vR 119), (vR 119), (vR 119)]), #[]⟩
noncomputable def b129 (_ : Params) : Obj := ⟨.none, none, (.fields #[]), #[]⟩
noncomputable def b73 (_ : Params) : Obj := ⟨.none, none, (fO (sA 8) "_translate" "_translate" [] .none .none .none .none none .none .none 0 0), #[]⟩
noncomputable def b105 (P : Params) : Obj := ⟨(vT "dict"), none, (.dict #[dE P "__module__" 604 (vS "io" 609), dE P "__qualname__" 606 (vS "IOBase" 605), dE P "__firstlineno__" 608 (.int (104) 607), dE P "__new__" 619 (vR 116), dE P "__static_attributes__" 620 (vR 117)] 5), #[]⟩
noncomputable def b101 (_ : Params) : Obj := ⟨(vT "super"), none, (.fields #[(vR 99), (vR 99), (vR 99)]), #[]⟩
noncomputable def b77 (_ : Params) : Obj := ⟨.none, none, (.fields #[]), #[]⟩
noncomputable def b141 (_ : Params) : Obj := ⟨.none, none, (.fields #[]), #[]⟩
noncomputable def b109 (_ : Params) : Obj := ⟨(vT "frame"), none, .plain, #[(some (vR 108)), (some (vR 3)), (some (vR 105)), none, (some (vS "io" 557)), none, (some (vR 0))]⟩
noncomputable def b93 (_ : Params) : Obj := ⟨(vT "tuple"), none, (.seq #[] 0), #[]⟩
noncomputable def b128 (_ : Params) : Obj := ⟨(vT "tuple"), none, (.seq #[] 0), #[]⟩
noncomputable def b96 (_ : Params) : Obj := ⟨(vT "frame"), none, .plain, #[(some (vR 95)), (some (vR 3)), (some (vR 92)), none, (some (vS "io" 557)), none, (some (vR 0))]⟩
noncomputable def b80 (_ : Params) : Obj := ⟨.none, none, (fO (sA 10) "_whence" "_whence" [] .none .none .none .none none .none .none 0 0), #[]⟩
noncomputable def b136 (_ : Params) : Obj := ⟨(vT "builtin_function_or_method"), none, (.fields #[(.builtin "object.__init_subclass__"), (vR 134)]), #[]⟩
noncomputable def b104 (_ : Params) : Obj := ⟨(vT "builtin_function_or_method"), none, (.fields #[(.builtin "type.__prepare__"), (vT "type")]), #[]⟩
noncomputable def b84 (_ : Params) : Obj := ⟨.none, none, (.fields #[]), #[]⟩
noncomputable def b148 (_ : Params) : Obj := ⟨(vT "builtin_function_or_method"), none, (.fields #[(.builtin "object.__init_subclass__"), (vR 146)]), #[]⟩
noncomputable def b140 (_ : Params) : Obj := ⟨(vT "tuple"), none, (.seq #[] 0), #[]⟩
noncomputable def b108 (_ : Params) : Obj := ⟨(vT "code"), none, (.fields #[(vS "IOBase" 599), (vS "IOBase" 600), (vS "/claim/cut.py" 601), (.int (104) 0), (.int (0) 0), (.int (0) 0), (.int (0) 0), (.int (0) 0), (vR 106), (.bool false), (.int (318) 0), (vR 107), .none, .none, .none, .none, (.int (602) 0), (.int (104) 0), (vS "/claim/cut.py" 603)]), #[]⟩
noncomputable def b92 (P : Params) : Obj := ⟨(vT "dict"), none, (.dict #[dE P "__module__" 582 (vS "io" 587), dE P "__qualname__" 584 (vS "UnsupportedOperation" 583), dE P "__firstlineno__" 586 (.int (102) 585), dE P "__static_attributes__" 589 (vR 97)] 4), #[]⟩
noncomputable def b124 (_ : Params) : Obj := ⟨(vT "builtin_function_or_method"), none, (.fields #[(.builtin "object.__init_subclass__"), (vR 119)]), #[]⟩
noncomputable def b66 (_ : Params) : Obj := ⟨.none, none, (fO (sA 6) "escape" "escape" [] .none .none .none .none none .none .none 0 0), #[]⟩
noncomputable def b130 (_ : Params) : Obj := ⟨(vT "code"), none, (.fields #[(vS "BufferedIOBase" 631), (vS "BufferedIOBase" 632), (vS "/claim/cut.py" 633), (.int (111) 0), (.int (0) 0), (.int (0) 0), (.int (0) 0), (.int (0) 0), (vR 128), (.bool false), (.int (318) 0), (vR 129), .none, .none, .none, .none, (.int (634) 0), (.int (111) 0), (vS "/claim/cut.py" 635)]), #[]⟩
noncomputable def b146x (_ : Params) : Obj := ⟨(vT "type"), none, (.cls ⟨(nS "TextIOBase"), [(vR 119)], [(vR 146), (vR 119), (vT "object")], 145, (nS "TextIOBase"), true, [], [], false, none, false⟩), #[(some (vR 137)), none, (some (vS "TextIOBase" 647)), (some (vS "TextIOBase" 655)), (some .none), (some (.bool true))]⟩
noncomputable def b114 (_ : Params) : Obj := ⟨.none, none, (fO (sB 13 1) "__new__" "IOBase.__new__" [] .none .none .none .none none .none .none 0 0), #[]⟩
noncomputable def b138 (_ : Params) : Obj := ⟨(vT "builtin_function_or_method"), none, (.fields #[(.builtin "type.__prepare__"), (vT "type")]), #[]⟩
noncomputable def b106 (_ : Params) : Obj := ⟨(vT "tuple"), none, (.seq #[] 0), #[]⟩
noncomputable def b70 (_ : Params) : Obj := ⟨.none, none, (.fields #[]), #[]⟩
noncomputable def b134x (_ : Params) : Obj := ⟨(vT "type"), none, (.cls ⟨(nS "BufferedIOBase"), [(vR 119)], [(vR 134), (vR 119), (vT "object")], 133, (nS "BufferedIOBase"), true, [], [], false, none, false⟩), #[(some (vR 125)), none, (some (vS "BufferedIOBase" 629)), (some (vS "BufferedIOBase" 637)), (some .none), (some (.bool true))]⟩
noncomputable def b102 (_ : Params) : Obj := ⟨(vT "builtin_function_or_method"), none, (.fields #[(.builtin "object.__init_subclass__"), (vR 99)]), #[]⟩
noncomputable def b142 (_ : Params) : Obj := ⟨(vT "code"), none, (.fields #[(vS "TextIOBase" 649), (vS "TextIOBase" 650), (vS "/claim/cut.py" 651), (.int (113) 0), (.int (0) 0), (.int (0) 0), (.int (0) 0), (.int (0) 0), (vR 140), (.bool false), (.int (318) 0), (vR 141), .none, .none, .none, .none, (.int (652) 0), (.int (113) 0), (vS "/claim/cut.py" 653)]), #[]⟩
noncomputable def b94 (_ : Params) : Obj := ⟨.none, none, (.fields #[]), #[]⟩
noncomputable def b126 (_ : Params) : Obj := ⟨(vT "builtin_function_or_method"), none, (.fields #[(.builtin "type.__prepare__"), (vT "type")]), #[]⟩
noncomputable def b3xxxx (P : Params) : Obj := ⟨(vT "dict"), none, (.dict #[dE P "__name__" 165 (vS "io" 557), dE P "__doc__" 166 .none, dE P "__package__" 167 .none, dE P "__loader__" 168 (.builtin "__main__.__loader__#opaque"), dE P "__spec__" 169 .none, dE P "__annotations__" 170 (vR 6), dE P "__builtins__" 171 (vR 4), dE P "__file__" 173 (vS "/claim/cut.py" 172), dE P "__cached__" 174 .none, dE P "_sre" 275 (vR 12), dE P "deque" 317 (vT "collections.deque"), dE P "_wall" 330 (vR 44), dE P "_strip_padding" 342 (vR 51), dE P "_twin_re_1" 380 (vR 56), dE P "_special_chars_map" 528 (vR 58), dE P "escape" 535 (vR 68), dE P "_translate" 556 (vR 75), dE P "_whence" 566 (vR 82), dE P "_index" 574 (vR 89), dE P "UnsupportedOperation" 596 (vR 99), dE P "IOBase" 628 (vR 119), dE P "BufferedIOBase" 646 (vR 134), dE P "TextIOBase" 664 (vR 146), dE P "BytesIO" 926 (vR 376)] 24), #[]⟩
noncomputable def b287 (_ : Params) : Obj := ⟨.none, none, (.fields #[]), #[]⟩
noncomputable def b271 (_ : Params) : Obj := ⟨.none, none, (.fields #[]), #[]⟩
noncomputable def b175 (_ : Params) : Obj := ⟨.none, none, (fO (sB 16 3) "__line" "BytesIO.__line" [] .none .none .none .none none .none .none 0 0), #[]⟩
noncomputable def b303 (_ : Params) : Obj := ⟨.none, none, (.fields #[]), #[]⟩
noncomputable def b239 (_ : Params) : Obj := ⟨.none, none, (fO (sB 16 12) "flush" "BytesIO.flush" [] .none .none .none .none none .none .none 0 0), #[]⟩
noncomputable def b295 (_ : Params) : Obj := ⟨.none, none, (.fields #[]), #[]⟩
noncomputable def b151 (P : Params) : Obj := ⟨(vT "dict"), none, (.dict #[dE P "__module__" 672 (vS "_io" 677), dE P "__qualname__" 674 (vS "BytesIO" 673), dE P "__firstlineno__" 676 (.int (115) 675), dE P "__init__" 686 (vR 163), dE P "_BytesIO__check" 693 (vR 170), dE P "_BytesIO__line" 704 (vR 177), dE P "closed" 712 (vR 185), dE P "close" 719 (vR 192), dE P "__enter__" 726 (vR 199), dE P "__exit__" 734 (vR 206), dE P "readable" 741 (vR 213), dE P "writable" 748 (vR 220), dE P "seekable" 755 (vR 227), dE P "isatty" 762 (vR 234), dE P "flush" 769 (vR 241), dE P "fileno" 776 (vR 248), dE P "detach" 783 (vR 255), dE P "getvalue" 790 (vR 262), dE P "getbuffer" 797 (vR 269), dE P "tell" 804 (vR 276), dE P "seek" 814 (vR 284), dE P "truncate" 822 (vR 292), dE P "read" 834 (vR 300), dE P "read1" 844 (vR 308), dE P "readinto" 854 (vR 315), dE P "readinto1" 862 (vR 322), dE P "readline" 872 (vR 330), dE P "readlines" 880 (vR 338), dE P "__iter__" 887 (vR 345), dE P "__next__" 895 (vR 352), dE P "write" 905 (vR 359), dE P "writelines" 913 (vR 366), dE P "__repr__" 920 (vR 373), dE P "__static_attributes__" 923 (vR 374)] 34), #[]⟩
noncomputable def b279 (_ : Params) : Obj := ⟨.none, none, (.fields #[]), #[]⟩
noncomputable def b215 (_ : Params) : Obj := ⟨.none, none, (.fields #[]), #[]⟩
noncomputable def b343 (_ : Params) : Obj := ⟨.none, none, (fO (sB 16 26) "__iter__" "BytesIO.__iter__" [] .none .none .none .none none .none .none 0 0), #[]⟩
noncomputable def b35xxx (_ : Params) : Obj := ⟨.none, none, (.fields #[(.int (3) 0), (.int (0) 0), (vR 43), (.int (7) 0), (.int (0) 0), (vR 50), (.int (20) 0), (.int (0) 0), (vR 67), (.int (27) 0), (.int (0) 0), (vR 74), (.int (90) 0), (.int (0) 0), (vR 81), (.int (95) 0), (.int (0) 0), (vR 88), (.int (102) 0), (.int (0) 0), (vR 95), (.int (104) 0), (.int (0) 0), (vR 108), (.int (111) 0), (.int (0) 0), (vR 130), (.int (113) 0), (.int (0) 0), (vR 142), (.int (115) 0), (.int (0) 0), (vR 154)]), #[]⟩
noncomputable def b211 (_ : Params) : Obj := ⟨.none, none, (fO (sB 16 8) "readable" "BytesIO.readable" [] .none .none .none .none none .none .none 0 0), #[]⟩
noncomputable def b179 (_ : Params) : Obj := ⟨.none, none, (.fields #[]), #[]⟩
noncomputable def b243 (_ : Params) : Obj := ⟨.none, none, (.fields #[]), #[]⟩
noncomputable def b371 (_ : Params) : Obj := ⟨.none, none, (fO (sB 16 30) "__repr__" "BytesIO.__repr__" [] .none .none .none .none none .none .none 0 0), #[]⟩
noncomputable def b267 (_ : Params) : Obj := ⟨.none, none, (fO (sB 16 16) "getbuffer" "BytesIO.getbuffer" [] .none .none .none .none none .none .none 0 0), #[]⟩
noncomputable def b155 (_ : Params) : Obj := ⟨(vT "frame"), none, .plain, #[(some (vR 154)), (some (vR 3)), (some (vR 151)), none, (some (vS "io" 557)), none, (some (vR 0))]⟩
noncomputable def b347 (_ : Params) : Obj := ⟨.none, none, (.fields #[]), #[]⟩
noncomputable def b187 (_ : Params) : Obj := ⟨.none, none, (.fields #[]), #[]⟩
noncomputable def b257 (_ : Params) : Obj := ⟨.none, none, (.fields #[]), #[]⟩
noncomputable def b161 (_ : Params) : Obj := ⟨.none, none, (fO (sB 16 1) "__init__" "BytesIO.__init__" [] .none .none .none .none none .none .none 0 0), #[]⟩
noncomputable def b225 (_ : Params) : Obj := ⟨.none, none, (fO (sB 16 10) "seekable" "BytesIO.seekable" [] .none .none .none .none none .none .none 0 0), #[]⟩
noncomputable def b201 (_ : Params) : Obj := ⟨.none, none, (.fields #[]), #[]⟩
noncomputable def b361 (_ : Params) : Obj := ⟨.none, none, (.fields #[]), #[]⟩
noncomputable def b153 (_ : Params) : Obj := ⟨.none, none, (.fields #[(.int (118) 0), (.int (4) 0), (vR 162), (.int (124) 0), (.int (4) 0), (vR 169), (.int (128) 0), (.int (4) 0), (vR 176), (.int (142) 0), (.int (4) 0), (vR 183), (.int (145) 0), (.int (4) 0), (vR 191), (.int (148) 0), (.int (4) 0), (vR 198), (.int (152) 0), (.int (4) 0), (vR 205), (.int (155) 0), (.int (4) 0), (vR 212), (.int (159) 0), (.int (4) 0), (vR 219), (.int (163) 0), (.int (4) 0), (vR 226), (.int (167) 0), (.int (4) 0), (vR 233), (.int (171) 0), (.int (4) 0), (vR 240), (.int (174) 0), (.int (4) 0), (vR 247), (.int (177) 0), (.int (4) 0), (vR 254), (.int (180) 0), (.int (4) 0), (vR 261), (.int (183) 0), (.int (4) 0), (vR 268), (.int (186) 0), (.int (4) 0), (vR 275), (.int (190) 0), (.int (4) 0), (vR 283), (.int (207) 0), (.int (4) 0), (vR 291), (.int (210) 0), (.int (4) 0), (vR 299), (.int (224) 0), (.int (4) 0), (vR 307), (.int (227) 0), (.int (4) 0), (vR 314), (.int (241) 0), (.int (4) 0), (vR 321), (.int (244) 0), (.int (4) 0), (vR 329), (.int (251) 0), (.int (4) 0), (vR 337), (.int (254) 0), (.int (4) 0), (vR 344), (.int (257) 0), (.int (4) 0), (vR 351), (.int (264) 0), (.int (4) 0), (vR 358), (.int (280) 0), (.int (4) 0), (vR 365), (.int (283) 0), (.int (4) 0), (vR 372)]), #[]⟩
noncomputable def b313 (_ : Params) : Obj := ⟨.none, none, (fO (sB 16 22) "readinto" "BytesIO.readinto" [] .none .none .none .none none .none .none 0 0), #[]⟩
noncomputable def b377 (_ : Params) : Obj := ⟨(vT "super"), none, (.fields #[(vR 376), (vR 376), (vR 376)]), #[]⟩
noncomputable def b197 (_ : Params) : Obj := ⟨.none, none, (fO (sB 16 6) "__enter__" "BytesIO.__enter__" [] .none .none .none .none none .none .none 0 0), #[]⟩
noncomputable def b325 (_ : Params) : Obj := ⟨.none, none, (.fields #[]), #[]⟩
noncomputable def b165 (_ : Params) : Obj := ⟨.none, none, (.fields #[]), #[]⟩
noncomputable def b229 (_ : Params) : Obj := ⟨.none, none, (.fields #[]), #[]⟩
noncomputable def b357 (_ : Params) : Obj := ⟨.none, none, (fO (sB 16 28) "write" "BytesIO.write" [] .none .none .none .none none .none .none 0 0), #[]⟩
noncomputable def b333 (_ : Params) : Obj := ⟨.none, none, (.fields #[]), #[]⟩
noncomputable def b317 (_ : Params) : Obj := ⟨.none, none, (.fields #[]), #[]⟩
noncomputable def b253 (_ : Params) : Obj := ⟨.none, none, (fO (sB 16 14) "detach" "BytesIO.detach" [] .none .none .none .none none .none .none 0 0), #[]⟩
noncomputable def b320 (_ : Params) : Obj := ⟨.none, none, (fO (sB 16 23) "readinto1" "BytesIO.readinto1" [] .none .none .none .none none .none .none 0 0), #[]⟩
noncomputable def b208 (_ : Params) : Obj := ⟨.none, none, (.fields #[]), #[]⟩
noncomputable def b336 (_ : Params) : Obj := ⟨.none, none, (fO (sB 16 25) "readlines" "BytesIO.readlines" [] .none .none .none .none none .none .none 0 0), #[]⟩
noncomputable def b368 (_ : Params) : Obj := ⟨.none, none, (.fields #[]), #[]⟩
noncomputable def b264 (_ : Params) : Obj := ⟨.none, none, (.fields #[]), #[]⟩
noncomputable def b328 (_ : Params) : Obj := ⟨.none, none, (fO (sB 16 24) "readline" "BytesIO.readline" [] .none .none .none .none none .none .none 0 0), #[]⟩
noncomputable def b168 (_ : Params) : Obj := ⟨.none, none, (fO (sB 16 2) "__check" "BytesIO.__check" [] .none .none .none .none none .none .none 0 0), #[]⟩
noncomputable def b232 (_ : Params) : Obj := ⟨.none, none, (fO (sB 16 11) "isatty" "BytesIO.isatty" [] .none .none .none .none none .none .none 0 0), #[]⟩
noncomputable def b152 (_ : Params) : Obj := ⟨(vT "tuple"), none, (.seq #[] 0), #[]⟩
noncomputable def b260 (_ : Params) : Obj := ⟨.none, none, (fO (sB 16 15) "getvalue" "BytesIO.getvalue" [] .none .none .none .none none .none .none 0 0), #[]⟩
noncomputable def b340 (_ : Params) : Obj := ⟨.none, none, (.fields #[]), #[]⟩
noncomputable def b204 (_ : Params) : Obj := ⟨.none, none, (fO (sB 16 7) "__exit__" "BytesIO.__exit__" [] .none .none .none .none none .none .none 0 0), #[]⟩
noncomputable def b172 (_ : Params) : Obj := ⟨.none, none, (.fields #[]), #[]⟩
noncomputable def b236 (_ : Params) : Obj := ⟨.none, none, (.fields #[]), #[]⟩
noncomputable def b364 (_ : Params) : Obj := ⟨.none, none, (fO (sB 16 29) "writelines" "BytesIO.writelines" [] .none .none .none .none none .none .none 0 0), #[]⟩
noncomputable def b194 (_ : Params) : Obj := ⟨.none, none, (.fields #[]), #[]⟩
noncomputable def b290 (_ : Params) : Obj := ⟨.none, none, (fO (sB 16 19) "truncate" "BytesIO.truncate" [] .none .none .none .none none .none .none 0 0), #[]⟩
noncomputable def b354 (_ : Params) : Obj := ⟨.none, none, (.fields #[]), #[]⟩
noncomputable def b274 (_ : Params) : Obj := ⟨.none, none, (fO (sB 16 17) "tell" "BytesIO.tell" [] .none .none .none .none none .none .none 0 0), #[]⟩
noncomputable def b306 (_ : Params) : Obj := ⟨.none, none, (fO (sB 16 21) "read1" "BytesIO.read1" [] .none .none .none .none none .none .none 0 0), #[]⟩
noncomputable def b298 (_ : Params) : Obj := ⟨.none, none, (fO (sB 16 20) "read" "BytesIO.read" [] .none .none .none .none none .none .none 0 0), #[]⟩
noncomputable def b154 (_ : Params) : Obj := ⟨(vT "code"), none, (.fields #[(vS "BytesIO" 667), (vS "BytesIO" 668), (vS "/claim/cut.py" 669), (.int (115) 0), (.int (0) 0), (.int (0) 0), (.int (0) 0), (.int (0) 0), (vR 152), (.bool false), (.int (318) 0), (vR 153), .none, .none, .none, .none, (.int (670) 0), (.int (115) 0), (vS "/claim/cut.py" 671)]), #[]⟩
noncomputable def b282 (_ : Params) : Obj := ⟨.none, none, (fO (sB 16 18) "seek" "BytesIO.seek" [] .none .none .none .none none .none .none 0 0), #[]⟩
noncomputable def b218 (_ : Params) : Obj := ⟨.none, none, (fO (sB 16 9) "writable" "BytesIO.writable" [] .none .none .none .none none .none .none 0 0), #[]⟩
noncomputable def b250 (_ : Params) : Obj := ⟨.none, none, (.fields #[]), #[]⟩
noncomputable def b378 (_ : Params) : Obj := ⟨(vT "builtin_function_or_method"), none, (.fields #[(.builtin "object.__init_subclass__"), (vR 376)]), #[]⟩
noncomputable def b150 (_ : Params) : Obj := ⟨(vT "builtin_function_or_method"), none, (.fields #[(.builtin "type.__prepare__"), (vT "type")]), #[]⟩
noncomputable def b182 (_ : Params) : Obj := ⟨.none, none, (fO (sB 16 4) "closed" "BytesIO.closed" [] .none .none .none .none none .none .none 0 0), #[]⟩
noncomputable def b310 (_ : Params) : Obj := ⟨.none, none, (.fields #[]), #[]⟩
noncomputable def b246 (_ : Params) : Obj := ⟨.none, none, (fO (sB 16 13) "fileno" "BytesIO.fileno" [] .none .none .none .none none .none .none 0 0), #[]⟩
noncomputable def b158 (_ : Params) : Obj := ⟨.none, none, (.fields #[]), #[]⟩
noncomputable def b222 (_ : Params) : Obj := ⟨.none, none, (.fields #[]), #[]⟩
noncomputable def b350 (_ : Params) : Obj := ⟨.none, none, (fO (sB 16 27) "__next__" "BytesIO.__next__" [] .none .none .none .none none .none .none 0 0), #[]⟩
noncomputable def b190 (_ : Params) : Obj := ⟨.none, none, (fO (sB 16 5) "close" "BytesIO.close" [] .none .none .none .none none .none .none 0 0), #[]⟩
noncomputable def b3xxxxx (P : Params) : Obj := ⟨(vT "dict"), none, (.dict #[dE P "__name__" 165 (vS "io" 557), dE P "__doc__" 166 .none, dE P "__package__" 167 .none, dE P "__loader__" 168 (.builtin "__main__.__loader__#opaque"), dE P "__spec__" 169 .none, dE P "__annotations__" 170 (vR 6), dE P "__builtins__" 171 (vR 4), dE P "__file__" 173 (vS "/claim/cut.py" 172), dE P "__cached__" 174 .none, dE P "_sre" 275 (vR 12), dE P "deque" 317 (vT "collections.deque"), dE P "_wall" 330 (vR 44), dE P "_strip_padding" 342 (vR 51), dE P "_twin_re_1" 380 (vR 56), dE P "_special_chars_map" 528 (vR 58), dE P "escape" 535 (vR 68), dE P "_translate" 556 (vR 75), dE P "_whence" 566 (vR 82), dE P "_index" 574 (vR 89), dE P "UnsupportedOperation" 596 (vR 99), dE P "IOBase" 628 (vR 119), dE P "BufferedIOBase" 646 (vR 134), dE P "TextIOBase" 664 (vR 146), dE P "BytesIO" 926 (vR 376), dE P "StringIO" 1213 (vR 623)] 25), #[]⟩
noncomputable def b383 (_ : Params) : Obj := ⟨.none, none, (.fields #[(.int (288) 0), (.int (4) 0), (vR 392), (.int (301) 0), (.int (4) 0), (vR 399), (.int (309) 0), (.int (4) 0), (vR 406), (.int (313) 0), (.int (4) 0), (vR 413), (.int (317) 0), (.int (4) 0), (vR 420), (.int (350) 0), (.int (4) 0), (vR 427), (.int (354) 0), (.int (4) 0), (vR 435), (.int (358) 0), (.int (4) 0), (vR 443), (.int (362) 0), (.int (4) 0), (vR 451), (.int (366) 0), (.int (4) 0), (vR 459), (.int (369) 0), (.int (4) 0), (vR 467), (.int (372) 0), (.int (4) 0), (vR 474), (.int (376) 0), (.int (4) 0), (vR 481), (.int (379) 0), (.int (4) 0), (vR 488), (.int (383) 0), (.int (4) 0), (vR 495), (.int (387) 0), (.int (4) 0), (vR 502), (.int (391) 0), (.int (4) 0), (vR 509), (.int (395) 0), (.int (4) 0), (vR 516), (.int (398) 0), (.int (4) 0), (vR 523), (.int (401) 0), (.int (4) 0), (vR 530), (.int (404) 0), (.int (4) 0), (vR 537), (.int (407) 0), (.int (4) 0), (vR 544), (.int (411) 0), (.int (4) 0), (vR 552), (.int (428) 0), (.int (4) 0), (vR 560), (.int (431) 0), (.int (4) 0), (vR 568), (.int (445) 0), (.int (4) 0), (vR 576), (.int (452) 0), (.int (4) 0), (vR 584), (.int (455) 0), (.int (4) 0), (vR 591), (.int (459) 0), (.int (4) 0), (vR 598), (.int (466) 0), (.int (4) 0), (vR 605), (.int (485) 0), (.int (4) 0), (vR 612), (.int (488) 0), (.int (4) 0), (vR 619)]), #[]⟩
noncomputable def b575 (_ : Params) : Obj := ⟨.none, none, (fO (sB 17 26) "readline" "StringIO.readline" [] .none .none .none .none none .none .none 0 0), #[]⟩
noncomputable def b447 (_ : Params) : Obj := ⟨.none, none, (.fields #[]), #[]⟩
noncomputable def b543 (_ : Params) : Obj := ⟨.none, none, (fO (sB 17 22) "tell" "StringIO.tell" [] .none .none .none .none none .none .none 0 0), #[]⟩
noncomputable def b463 (_ : Params) : Obj := ⟨.none, none, (.fields #[]), #[]⟩
noncomputable def b559 (_ : Params) : Obj := ⟨.none, none, (fO (sB 17 24) "truncate" "StringIO.truncate" [] .none .none .none .none none .none .none 0 0), #[]⟩
noncomputable def b431 (_ : Params) : Obj := ⟨.none, none, (.fields #[]), #[]⟩
noncomputable def b519 (_ : Params) : Obj := ⟨.none, none, (.fields #[]), #[]⟩
noncomputable def b391 (_ : Params) : Obj := ⟨.none, none, (fO (sB 17 1) "__init__" "StringIO.__init__" [] .none .none .none .none none .none .none 0 0), #[]⟩
noncomputable def b583 (_ : Params) : Obj := ⟨.none, none, (fO (sB 17 27) "readlines" "StringIO.readlines" [] .none .none .none .none none .none .none 0 0), #[]⟩
noncomputable def b455 (_ : Params) : Obj := ⟨.none, none, (.fields #[]), #[]⟩
noncomputable def b551 (_ : Params) : Obj := ⟨.none, none, (fO (sB 17 23) "seek" "StringIO.seek" [] .none .none .none .none none .none .none 0 0), #[]⟩
noncomputable def b423 (_ : Params) : Obj := ⟨.none, none, (.fields #[]), #[]⟩
noncomputable def b615 (_ : Params) : Obj := ⟨.none, none, (.fields #[]), #[]⟩
noncomputable def b487 (_ : Params) : Obj := ⟨.none, none, (fO (sB 17 14) "readable" "StringIO.readable" [] .none .none .none .none none .none .none 0 0), #[]⟩
noncomputable def b567 (_ : Params) : Obj := ⟨.none, none, (fO (sB 17 25) "read" "StringIO.read" [] .none .none .none .none none .none .none 0 0), #[]⟩
noncomputable def b439 (_ : Params) : Obj := ⟨.none, none, (.fields #[]), #[]⟩
noncomputable def b35xxxx (_ : Params) : Obj := ⟨.none, none, (.fields #[(.int (3) 0), (.int (0) 0), (vR 43), (.int (7) 0), (.int (0) 0), (vR 50), (.int (20) 0), (.int (0) 0), (vR 67), (.int (27) 0), (.int (0) 0), (vR 74), (.int (90) 0), (.int (0) 0), (vR 81), (.int (95) 0), (.int (0) 0), (vR 88), (.int (102) 0), (.int (0) 0), (vR 95), (.int (104) 0), (.int (0) 0), (vR 108), (.int (111) 0), (.int (0) 0), (vR 130), (.int (113) 0), (.int (0) 0), (vR 142), (.int (115) 0), (.int (0) 0), (vR 154), (.int (285) 0), (.int (0) 0), (vR 384)]), #[]⟩
noncomputable def b515 (_ : Params) : Obj := ⟨.none, none, (fO (sB 17 18) "flush" "StringIO.flush" [] .none .none .none .none none .none .none 0 0), #[]⟩
noncomputable def b419 (_ : Params) : Obj := ⟨.none, none, (fO (sB 17 5) "__line" "StringIO.__line" [] .none .none .none .none none .none .none 0 0), #[]⟩
noncomputable def b611 (_ : Params) : Obj := ⟨.none, none, (fO (sB 17 31) "writelines" "StringIO.writelines" [] .none .none .none .none none .none .none 0 0), #[]⟩
noncomputable def b395 (_ : Params) : Obj := ⟨.none, none, (.fields #[]), #[]⟩
noncomputable def b587 (_ : Params) : Obj := ⟨.none, none, (.fields #[]), #[]⟩
noncomputable def b491 (_ : Params) : Obj := ⟨.none, none, (.fields #[]), #[]⟩
noncomputable def b385 (_ : Params) : Obj := ⟨(vT "frame"), none, .plain, #[(some (vR 384)), (some (vR 3)), (some (vR 381)), none, (some (vS "io" 557)), none, (some (vR 0))]⟩
noncomputable def b529 (_ : Params) : Obj := ⟨.none, none, (fO (sB 17 20) "detach" "StringIO.detach" [] .none .none .none .none none .none .none 0 0), #[]⟩
noncomputable def b625 (_ : Params) : Obj := ⟨(vT "builtin_function_or_method"), none, (.fields #[(.builtin "object.__init_subclass__"), (vR 623)]), #[]⟩
noncomputable def b409 (_ : Params) : Obj := ⟨.none, none, (.fields #[]), #[]⟩
noncomputable def b601 (_ : Params) : Obj := ⟨.none, none, (.fields #[]), #[]⟩
noncomputable def b473 (_ : Params) : Obj := ⟨.none, none, (fO (sB 17 12) "__enter__" "StringIO.__enter__" [] .none .none .none .none none .none .none 0 0), #[]⟩
noncomputable def b505 (_ : Params) : Obj := ⟨.none, none, (.fields #[]), #[]⟩
noncomputable def b533 (_ : Params) : Obj := ⟨.none, none, (.fields #[]), #[]⟩
noncomputable def b405 (_ : Params) : Obj := ⟨.none, none, (fO (sB 17 3) "__check" "StringIO.__check" [] .none .none .none .none none .none .none 0 0), #[]⟩
noncomputable def b597 (_ : Params) : Obj := ⟨.none, none, (fO (sB 17 29) "__next__" "StringIO.__next__" [] .none .none .none .none none .none .none 0 0), #[]⟩
noncomputable def b501 (_ : Params) : Obj := ⟨.none, none, (fO (sB 17 16) "seekable" "StringIO.seekable" [] .none .none .none .none none .none .none 0 0), #[]⟩
noncomputable def b477 (_ : Params) : Obj := ⟨.none, none, (.fields #[]), #[]⟩
noncomputable def b381 (P : Params) : Obj := ⟨(vT "dict"), none, (.dict #[dE P "__module__" 934 (vS "_io" 939), dE P "__qualname__" 936 (vS "StringIO" 935), dE P "__firstlineno__" 938 (.int (285) 937), dE P "__init__" 951 (vR 393), dE P "_StringIO__translated" 960 (vR 400), dE P "_StringIO__check" 967 (vR 407), dE P "_StringIO__check_dot" 974 (vR 414), dE P "_StringIO__line" 989 (vR 421), dE P "closed" 997 (vR 429), dE P "line_buffering" 1005 (vR 437), dE P "newlines" 1013 (vR 445), dE P "encoding" 1021 (vR 453), dE P "errors" 1029 (vR 461), dE P "close" 1036 (vR 468), dE P "__enter__" 1043 (vR 475), dE P "__exit__" 1051 (vR 482), dE P "readable" 1058 (vR 489), dE P "writable" 1065 (vR 496), dE P "seekable" 1072 (vR 503), dE P "isatty" 1079 (vR 510), dE P "flush" 1086 (vR 517), dE P "fileno" 1093 (vR 524), dE P "detach" 1100 (vR 531), dE P "getvalue" 1107 (vR 538), dE P "tell" 1114 (vR 545), dE P "seek" 1124 (vR 553), dE P "truncate" 1132 (vR 561), dE P "read" 1144 (vR 569), dE P "readline" 1154 (vR 577), dE P "readlines" 1164 (vR 585), dE P "__iter__" 1171 (vR 592), dE P "__next__" 1179 (vR 599), dE P "write" 1191 (vR 606), dE P "writelines" 1199 (vR 613), dE P "__repr__" 1206 (vR 620), dE P "__static_attributes__" 1210 (vR 621)] 36), #[]⟩
noncomputable def b512 (_ : Params) : Obj := ⟨.none, none, (.fields #[]), #[]⟩
noncomputable def b384 (_ : Params) : Obj := ⟨(vT "code"), none, (.fields #[(vS "StringIO" 929), (vS "StringIO" 930), (vS "/claim/cut.py" 931), (.int (285) 0), (.int (0) 0), (.int (0) 0), (.int (0) 0), (.int (0) 0), (vR 382), (.bool false), (.int (318) 0), (vR 383), .none, .none, .none, .none, (.int (932) 0), (.int (285) 0), (vS "/claim/cut.py" 933)]), #[]⟩
noncomputable def b416 (_ : Params) : Obj := ⟨.none, none, (.fields #[]), #[]⟩
noncomputable def b608 (_ : Params) : Obj := ⟨.none, none, (.fields #[]), #[]⟩
noncomputable def b480 (_ : Params) : Obj := ⟨.none, none, (fO (sB 17 13) "__exit__" "StringIO.__exit__" [] .none .none .none .none none .none .none 0 0), #[]⟩
noncomputable def b624 (_ : Params) : Obj := ⟨(vT "super"), none, (.fields #[(vR 623), (vR 623), (vR 623)]), #[]⟩
noncomputable def b536 (_ : Params) : Obj := ⟨.none, none, (fO (sB 17 21) "getvalue" "StringIO.getvalue" [] .none .none .none .none none .none .none 0 0), #[]⟩
noncomputable def b388 (_ : Params) : Obj := ⟨.none, none, (.fields #[]), #[]⟩
noncomputable def b580 (_ : Params) : Obj := ⟨.none, none, (.fields #[]), #[]⟩
noncomputable def b548 (_ : Params) : Obj := ⟨.none, none, (.fields #[]), #[]⟩
noncomputable def b484 (_ : Params) : Obj := ⟨.none, none, (.fields #[]), #[]⟩
noncomputable def b564 (_ : Params) : Obj := ⟨.none, none, (.fields #[]), #[]⟩
noncomputable def b556 (_ : Params) : Obj := ⟨.none, none, (.fields #[]), #[]⟩
noncomputable def b540 (_ : Params) : Obj := ⟨.none, none, (.fields #[]), #[]⟩
noncomputable def b412 (_ : Params) : Obj := ⟨.none, none, (fO (sB 17 4) "__check_dot" "StringIO.__check_dot" [] .none .none .none .none none .none .none 0 0), #[]⟩
noncomputable def b604 (_ : Params) : Obj := ⟨.none, none, (fO (sB 17 30) "write" "StringIO.write" [] .none .none .none .none none .none .none 0 0), #[]⟩
noncomputable def b572 (_ : Params) : Obj := ⟨.none, none, (.fields #[]), #[]⟩
noncomputable def b380 (_ : Params) : Obj := ⟨(vT "builtin_function_or_method"), none, (.fields #[(.builtin "type.__prepare__"), (vT "type")]), #[]⟩
noncomputable def b508 (_ : Params) : Obj := ⟨.none, none, (fO (sB 17 17) "isatty" "StringIO.isatty" [] .none .none .none .none none .none .none 0 0), #[]⟩
noncomputable def b450 (_ : Params) : Obj := ⟨.none, none, (fO (sB 17 9) "encoding" "StringIO.encoding" [] .none .none .none .none none .none .none 0 0), #[]⟩
noncomputable def b402 (_ : Params) : Obj := ⟨.none, none, (.fields #[]), #[]⟩
noncomputable def b594 (_ : Params) : Obj := ⟨.none, none, (.fields #[]), #[]⟩
noncomputable def b466 (_ : Params) : Obj := ⟨.none, none, (fO (sB 17 11) "close" "StringIO.close" [] .none .none .none .none none .none .none 0 0), #[]⟩
noncomputable def b434 (_ : Params) : Obj := ⟨.none, none, (fO (sB 17 7) "line_buffering" "StringIO.line_buffering" [] .none .none .none .none none .none .none 0 0), #[]⟩
noncomputable def b498 (_ : Params) : Obj := ⟨.none, none, (.fields #[]), #[]⟩
noncomputable def b522 (_ : Params) : Obj := ⟨.none, none, (fO (sB 17 19) "fileno" "StringIO.fileno" [] .none .none .none .none none .none .none 0 0), #[]⟩
noncomputable def b458 (_ : Params) : Obj := ⟨.none, none, (fO (sB 17 10) "errors" "StringIO.errors" [] .none .none .none .none none .none .none 0 0), #[]⟩
noncomputable def b426 (_ : Params) : Obj := ⟨.none, none, (fO (sB 17 6) "closed" "StringIO.closed" [] .none .none .none .none none .none .none 0 0), #[]⟩
noncomputable def b618 (_ : Params) : Obj := ⟨.none, none, (fO (sB 17 32) "__repr__" "StringIO.__repr__" [] .none .none .none .none none .none .none 0 0), #[]⟩
noncomputable def b442 (_ : Params) : Obj := ⟨.none, none, (fO (sB 17 8) "newlines" "StringIO.newlines" [] .none .none .none .none none .none .none 0 0), #[]⟩
noncomputable def b470 (_ : Params) : Obj := ⟨.none, none, (.fields #[]), #[]⟩
noncomputable def b526 (_ : Params) : Obj := ⟨.none, none, (.fields #[]), #[]⟩
noncomputable def b398 (_ : Params) : Obj := ⟨.none, none, (fO (sB 17 2) "__translated" "StringIO.__translated" [] .none .none .none .none none .none .none 0 0), #[]⟩
noncomputable def b590 (_ : Params) : Obj := ⟨.none, none, (fO (sB 17 28) "__iter__" "StringIO.__iter__" [] .none .none .none .none none .none .none 0 0), #[]⟩
noncomputable def b494 (_ : Params) : Obj := ⟨.none, none, (fO (sB 17 15) "writable" "StringIO.writable" [] .none .none .none .none none .none .none 0 0), #[]⟩
noncomputable def b382 (_ : Params) : Obj := ⟨(vT "tuple"), none, (.seq #[] 0), #[]⟩
noncomputable def b3xxxxxx (P : Params) : Obj := ⟨(vT "dict"), none, (.dict #[dE P "__name__" 165 (vS "cpy313.shlex" 1272), dE P "__doc__" 166 .none, dE P "__package__" 167 .none, dE P "__loader__" 168 (.builtin "__main__.__loader__#opaque"), dE P "__spec__" 169 .none, dE P "__annotations__" 170 (vR 6), dE P "__builtins__" 171 (vR 4), dE P "__file__" 173 (vS "/claim/cut.py" 172), dE P "__cached__" 174 .none, dE P "_sre" 275 (vR 12), dE P "deque" 317 (vT "collections.deque"), dE P "_wall" 330 (vR 44), dE P "_strip_padding" 342 (vR 51), dE P "_twin_re_1" 380 (vR 56), dE P "_special_chars_map" 528 (vR 58), dE P "escape" 535 (vR 68), dE P "_translate" 556 (vR 75), dE P "_whence" 566 (vR 82), dE P "_index" 574 (vR 89), dE P "UnsupportedOperation" 596 (vR 99), dE P "IOBase" 628 (vR 119), dE P "BufferedIOBase" 646 (vR 134), dE P "TextIOBase" 664 (vR 146), dE P "BytesIO" 926 (vR 376), dE P "StringIO" 1213 (vR 623), dE P "_kind" 1224 (vR 632), dE P "_fspath" 1233 (vR 639), dE P "_check_arg_types" 1243 (vR 646), dE P "isabs" 1250 (vR 653), dE P "join" 1261 (vR 660), dE P "dirname" 1271 (vR 667), dE P "shlex" 1412 (vR 758)] 32), #[]⟩
noncomputable def b703 (_ : Params) : Obj := ⟨.none, none, (fO (sB 26 3) "push_source" "shlex.push_source" [] .none .none .none .none none .none .none 0 0), #[]⟩
noncomputable def b671 (_ : Params) : Obj := ⟨(vT "tuple"), none, (.seq #[] 0), #[]⟩
noncomputable def b655 (_ : Params) : Obj := ⟨.none, none, (.fields #[]), #[]⟩
noncomputable def b687 (_ : Params) : Obj := ⟨.none, none, (fO (sB 26 1) "punctuation_chars" "shlex.punctuation_chars" [] .none .none .none .none none .none .none 0 0), #[]⟩
noncomputable def b743 (_ : Params) : Obj := ⟨.none, none, (.fields #[]), #[]⟩
noncomputable def b695 (_ : Params) : Obj := ⟨.none, none, (fO (sB 26 2) "push_token" "shlex.push_token" [] .none .none .none .none none .none .none 0 0), #[]⟩
noncomputable def b35xxxxx (_ : Params) : Obj := ⟨.none, none, (.fields #[(.int (3) 0), (.int (0) 0), (vR 43), (.int (7) 0), (.int (0) 0), (vR 50), (.int (20) 0), (.int (0) 0), (vR 67), (.int (27) 0), (.int (0) 0), (vR 74), (.int (90) 0), (.int (0) 0), (vR 81), (.int (95) 0), (.int (0) 0), (vR 88), (.int (102) 0), (.int (0) 0), (vR 95), (.int (104) 0), (.int (0) 0), (vR 108), (.int (111) 0), (.int (0) 0), (vR 130), (.int (113) 0), (.int (0) 0), (vR 142), (.int (115) 0), (.int (0) 0), (vR 154), (.int (285) 0), (.int (0) 0), (vR 384), (.int (491) 0), (.int (0) 0), (vR 631), (.int (512) 0), (.int (0) 0), (vR 638), (.int (517) 0), (.int (0) 0), (vR 645), (.int (522) 0), (.int (0) 0), (vR 652), (.int (525) 0), (.int (0) 0), (vR 659), (.int (545) 0), (.int (0) 0), (vR 666), (.int (554) 0), (.int (0) 0), (vR 673)]), #[]⟩
noncomputable def b707 (_ : Params) : Obj := ⟨.none, none, (.fields #[]), #[]⟩
noncomputable def b739 (_ : Params) : Obj := ⟨.none, none, (fO (sB 26 8) "error_leader" "shlex.error_leader" [] .none .none .none .none none .none .none 0 0), #[]⟩
noncomputable def b627 (_ : Params) : Obj := ⟨.none, none, (.fields #[]), #[]⟩
noncomputable def b651 (_ : Params) : Obj := ⟨.none, none, (fO (sA 22) "isabs" "isabs" [] .none .none .none .none none .none .none 0 0), #[]⟩
noncomputable def b731 (_ : Params) : Obj := ⟨.none, none, (fO (sB 26 7) "sourcehook" "shlex.sourcehook" [] .none .none .none .none none .none .none 0 0), #[]⟩
noncomputable def b641 (_ : Params) : Obj := ⟨.none, none, (.fields #[]), #[]⟩
noncomputable def b673 (_ : Params) : Obj := ⟨(vT "code"), none, (.fields #[(vS "shlex" 1276), (vS "shlex" 1277), (vS "/claim/cut.py" 1278), (.int (554) 0), (.int (0) 0), (.int (0) 0), (.int (0) 0), (.int (0) 0), (vR 671), (.bool false), (.int (318) 0), (vR 672), .none, .none, .none, .none, (.int (1279) 0), (.int (554) 0), (vS "/claim/cut.py" 1280)]), #[]⟩
noncomputable def b721 (_ : Params) : Obj := ⟨.none, none, (.fields #[]), #[]⟩
noncomputable def b753 (_ : Params) : Obj := ⟨.none, none, (fO (sB 26 10) "__next__" "shlex.__next__" [] .none .none .none .none none .none .none 0 0), #[]⟩
noncomputable def b665 (_ : Params) : Obj := ⟨.none, none, (fO (sA 24) "dirname" "dirname" [] .none .none .none .none none .none .none 0 0), #[]⟩
noncomputable def b761 (_ : Params) : Obj := ⟨(vT "super"), none, (.fields #[(vR 758), (vR 758), (vR 758)]), #[]⟩
noncomputable def b677 (_ : Params) : Obj := ⟨.none, none, (.fields #[]), #[]⟩
noncomputable def b717 (_ : Params) : Obj := ⟨.none, none, (fO (sB 26 5) "get_token" "shlex.get_token" [] .none .none .none .none none .none .none 0 0), #[]⟩
noncomputable def b669 (_ : Params) : Obj := ⟨(vT "builtin_function_or_method"), none, (.fields #[(.builtin "type.__prepare__"), (vT "type")]), #[]⟩
noncomputable def b637 (_ : Params) : Obj := ⟨.none, none, (fO (sA 20) "_fspath" "_fspath" [] .none .none .none .none none .none .none 0 0), #[]⟩
noncomputable def b672 (_ : Params) : Obj := ⟨.none, none, (.fields #[(.int (556) 0), (.int (4) 0), (vR 681), (.int (598) 0), (.int (4) 0), (vR 688), (.int (601) 0), (.int (4) 0), (vR 696), (.int (604) 0), (.int (4) 0), (vR 704), (.int (617) 0), (.int (4) 0), (vR 711), (.int (624) 0), (.int (4) 0), (vR 718), (.int (651) 0), (.int (4) 0), (vR 725), (.int (788) 0), (.int (4) 0), (vR 732), (.int (795) 0), (.int (4) 0), (vR 740), (.int (798) 0), (.int (4) 0), (vR 747), (.int (801) 0), (.int (4) 0), (vR 754)]), #[]⟩
noncomputable def b736 (_ : Params) : Obj := ⟨.none, none, (.fields #[]), #[]⟩
noncomputable def b648 (_ : Params) : Obj := ⟨.none, none, (.fields #[]), #[]⟩
noncomputable def b680 (_ : Params) : Obj := ⟨.none, none, (fO (sB 26 0) "__init__" "shlex.__init__" [] .none .none .none .none none .none .none 0 0), #[]⟩
noncomputable def b728 (_ : Params) : Obj := ⟨.none, none, (.fields #[]), #[]⟩
noncomputable def b644 (_ : Params) : Obj := ⟨.none, none, (fO (sA 21) "_check_arg_types" "_check_arg_types" [] .none .none .none .none none .none .none 0 0), #[]⟩
noncomputable def b724 (_ : Params) : Obj := ⟨.none, none, (fO (sB 26 6) "read_token" "shlex.read_token" [] .none .none .none .none none .none .none 0 0), #[]⟩
noncomputable def b692 (_ : Params) : Obj := ⟨.none, none, (.fields #[]), #[]⟩
noncomputable def b684 (_ : Params) : Obj := ⟨.none, none, (.fields #[]), #[]⟩
noncomputable def b668 (_ : Params) : Obj := ⟨(vT "tuple"), none, (.seq #[] 0), #[]⟩
noncomputable def b700 (_ : Params) : Obj := ⟨.none, none, (.fields #[]), #[]⟩
noncomputable def b674 (_ : Params) : Obj := ⟨(vT "frame"), none, .plain, #[(some (vR 673)), (some (vR 3)), (some (vR 670)), none, (some (vS "cpy313.shlex" 1272)), none, (some (vR 0))]⟩
noncomputable def b658 (_ : Params) : Obj := ⟨.none, none, (fO (sA 23) "join" "join" [] .none .none .none .none none .none .none 0 0), #[]⟩
noncomputable def b714 (_ : Params) : Obj := ⟨.none, none, (.fields #[]), #[]⟩
noncomputable def b746 (_ : Params) : Obj := ⟨.none, none, (fO (sB 26 9) "__iter__" "shlex.__iter__" [] .none .none .none .none none .none .none 0 0), #[]⟩
noncomputable def b634 (_ : Params) : Obj := ⟨.none, none, (.fields #[]), #[]⟩
noncomputable def b762 (_ : Params) : Obj := ⟨(vT "builtin_function_or_method"), none, (.fields #[(.builtin "object.__init_subclass__"), (vR 758)]), #[]⟩
noncomputable def b710 (_ : Params) : Obj := ⟨.none, none, (fO (sB 26 4) "pop_source" "shlex.pop_source" [] .none .none .none .none none .none .none 0 0), #[]⟩
noncomputable def b662 (_ : Params) : Obj := ⟨.none, none, (.fields #[]), #[]⟩
noncomputable def b630 (_ : Params) : Obj := ⟨.none, none, (fO (sA 19) "_kind" "_kind" [] .none .none .none .none none .none .none 0 0), #[]⟩
noncomputable def b750 (_ : Params) : Obj := ⟨.none, none, (.fields #[]), #[]⟩
noncomputable def b670 (P : Params) : Obj := ⟨(vT "dict"), none, (.dict #[dE P "__module__" 1281 (vS "cpy313.shlex" 1272), dE P "__qualname__" 1283 (vS "shlex" 1282), dE P "__firstlineno__" 1285 (.int (554) 1284), dE P "__init__" 1297 (vR 682), dE P "punctuation_chars" 1305 (vR 690), dE P "push_token" 1313 (vR 697), dE P "push_source" 1322 (vR 705), dE P "pop_source" 1329 (vR 712), dE P "get_token" 1341 (vR 719), dE P "read_token" 1352 (vR 726), dE P "sourcehook" 1360 (vR 733), dE P "error_leader" 1369 (vR 741), dE P "__iter__" 1376 (vR 748), dE P "__next__" 1384 (vR 755), dE P "__static_attributes__" 1405 (vR 756)] 15), #[]⟩
noncomputable def H0 (P : Params) : Heap := ⟨#[b0 P, b1 P, b2x P, b3x P, b4 P, b5 P, b6 P, b7 P, b8 P, b9 P, b10 P, b11 P, b12 P, b13 P, b14 P, b15 P, b16 P, b17 P, b18 P, b19 P, b20 P, b21 P, b22 P, b23 P, b24 P, b25 P, b26 P, b27 P, b28 P, b29 P, b30 P, b31 P, b32 P, b33 P], {}⟩
noncomputable def T1 (P : Params) : BT := (.node (b0 P) (.node (b1 P) (.node (b3x P) (.node (b7 P) (.node (b15 P) (.node (b31 P) .nil .nil) .nil) (.node (b23 P) .nil .nil)) (.node (b11 P) (.node (b19 P) (.node (b35 P) .nil .nil) .nil) (.node (b27 P) .nil .nil))) (.node (b5 P) (.node (b9 P) (.node (b17 P) (.node (b33 P) .nil .nil) .nil) (.node (b25 P) .nil .nil)) (.node (b13 P) (.node (b21 P) (.node (b37 P) .nil .nil) .nil) (.node (b29 P) .nil .nil)))) (.node (b2x P) (.node (b4 P) (.node (b8 P) (.node (b16 P) (.node (b32 P) .nil .nil) .nil) (.node (b24 P) .nil .nil)) (.node (b12 P) (.node (b20 P) (.node (b36 P) .nil .nil) .nil) (.node (b28 P) .nil .nil))) (.node (b6 P) (.node (b10 P) (.node (b18 P) (.node (b34 P) .nil .nil) .nil) (.node (b26 P) .nil .nil)) (.node (b14 P) (.node (b22 P) .nil .nil) (.node (b30 P) .nil .nil)))))
noncomputable def TB (P : Params) : BT := (.node (b0 P) (.node (b1 P) (.node (b3xx P) (.node (b7 P) (.node (b15 P) (.node (b31 P) .nil .nil) (.node (b47 P) .nil .nil)) (.node (b23 P) (.node (b39 P) .nil .nil) (.node (b55 P) .nil .nil))) (.node (b11 P) (.node (b19 P) (.node (b35x P) .nil .nil) (.node (b51 P) .nil .nil)) (.node (b27 P) (.node (b43 P) .nil .nil) (.node (b59 P) .nil .nil)))) (.node (b5 P) (.node (b9 P) (.node (b17 P) (.node (b33 P) .nil .nil) (.node (b49 P) .nil .nil)) (.node (b25 P) (.node (b41 P) .nil .nil) (.node (b57 P) .nil .nil))) (.node (b13 P) (.node (b21 P) (.node (b37 P) .nil .nil) (.node (b53 P) .nil .nil)) (.node (b29 P) (.node (b45 P) .nil .nil) (.node (b61 P) .nil .nil))))) (.node (b2x P) (.node (b4 P) (.node (b8 P) (.node (b16 P) (.node (b32 P) .nil .nil) (.node (b48 P) .nil .nil)) (.node (b24 P) (.node (b40 P) .nil .nil) (.node (b56 P) .nil .nil))) (.node (b12 P) (.node (b20 P) (.node (b36 P) .nil .nil) (.node (b52 P) .nil .nil)) (.node (b28 P) (.node (b44 P) .nil .nil) (.node (b60 P) .nil .nil)))) (.node (b6 P) (.node (b10 P) (.node (b18 P) (.node (b34 P) .nil .nil) (.node (b50 P) .nil .nil)) (.node (b26 P) (.node (b42 P) .nil .nil) (.node (b58 P) .nil .nil))) (.node (b14 P) (.node (b22 P) (.node (b38 P) .nil .nil) (.node (b54 P) .nil .nil)) (.node (b30 P) (.node (b46 P) .nil .nil) .nil)))))
noncomputable def TC15 (P : Params) : BT := (.node (b0 P) (.node (b1 P) (.node (b3xxx P) (.node (b7 P) (.node (b15 P) (.node (b31 P) (.node (b63 P) (.node (b127 P) .nil .nil) .nil) (.node (b95 P) .nil .nil)) (.node (b47 P) (.node (b79 P) (.node (b143 P) .nil .nil) .nil) (.node (b111 P) .nil .nil))) (.node (b23 P) (.node (b39 P) (.node (b71 P) (.node (b135 P) .nil .nil) .nil) (.node (b103 P) .nil .nil)) (.node (b55 P) (.node (b87 P) .nil .nil) (.node (b119 P) .nil .nil)))) (.node (b11 P) (.node (b19 P) (.node (b35xx P) (.node (b67 P) (.node (b131 P) .nil .nil) .nil) (.node (b99 P) .nil .nil)) (.node (b51 P) (.node (b83 P) (.node (b147 P) .nil .nil) .nil) (.node (b115 P) .nil .nil))) (.node (b27 P) (.node (b43 P) (.node (b75 P) (.node (b139 P) .nil .nil) .nil) (.node (b107 P) .nil .nil)) (.node (b59 P) (.node (b91 P) .nil .nil) (.node (b123 P) .nil .nil))))) (.node (b5 P) (.node (b9 P) (.node (b17 P) (.node (b33 P) (.node (b65 P) (.node (b129 P) .nil .nil) .nil) (.node (b97 P) .nil .nil)) (.node (b49 P) (.node (b81 P) (.node (b145 P) .nil .nil) .nil) (.node (b113 P) .nil .nil))) (.node (b25 P) (.node (b41 P) (.node (b73 P) (.node (b137 P) .nil .nil) .nil) (.node (b105 P) .nil .nil)) (.node (b57 P) (.node (b89 P) .nil .nil) (.node (b121 P) .nil .nil)))) (.node (b13 P) (.node (b21 P) (.node (b37 P) (.node (b69 P) (.node (b133 P) .nil .nil) .nil) (.node (b101 P) .nil .nil)) (.node (b53 P) (.node (b85 P) .nil .nil) (.node (b117 P) .nil .nil))) (.node (b29 P) (.node (b45 P) (.node (b77 P) (.node (b141 P) .nil .nil) .nil) (.node (b109 P) .nil .nil)) (.node (b61 P) (.node (b93 P) .nil .nil) (.node (b125 P) .nil .nil)))))) (.node (b2 P) (.node (b4 P) (.node (b8 P) (.node (b16 P) (.node (b32 P) (.node (b64 P) (.node (b128 P) .nil .nil) .nil) (.node (b96 P) .nil .nil)) (.node (b48 P) (.node (b80 P) (.node (b144 P) .nil .nil) .nil) (.node (b112 P) .nil .nil))) (.node (b24 P) (.node (b40 P) (.node (b72 P) (.node (b136 P) .nil .nil) .nil) (.node (b104 P) .nil .nil)) (.node (b56 P) (.node (b88 P) .nil .nil) (.node (b120 P) .nil .nil)))) (.node (b12 P) (.node (b20 P) (.node (b36 P) (.node (b68 P) (.node (b132 P) .nil .nil) .nil) (.node (b100 P) .nil .nil)) (.node (b52 P) (.node (b84 P) (.node (b148 P) .nil .nil) .nil) (.node (b116 P) .nil .nil))) (.node (b28 P) (.node (b44 P) (.node (b76 P) (.node (b140 P) .nil .nil) .nil) (.node (b108 P) .nil .nil)) (.node (b60 P) (.node (b92 P) .nil .nil) (.node (b124 P) .nil .nil))))) (.node (b6 P) (.node (b10 P) (.node (b18 P) (.node (b34 P) (.node (b66 P) (.node (b130 P) .nil .nil) .nil) (.node (b98 P) .nil .nil)) (.node (b50 P) (.node (b82 P) (.node (b146x P) .nil .nil) .nil) (.node (b114 P) .nil .nil))) (.node (b26 P) (.node (b42 P) (.node (b74 P) (.node (b138 P) .nil .nil) .nil) (.node (b106 P) .nil .nil)) (.node (b58 P) (.node (b90 P) .nil .nil) (.node (b122 P) .nil .nil)))) (.node (b14 P) (.node (b22 P) (.node (b38 P) (.node (b70 P) (.node (b134x P) .nil .nil) .nil) (.node (b102 P) .nil .nil)) (.node (b54 P) (.node (b86 P) .nil .nil) (.node (b118 P) .nil .nil))) (.node (b30 P) (.node (b46 P) (.node (b78 P) (.node (b142 P) .nil .nil) .nil) (.node (b110 P) .nil .nil)) (.node (b62 P) (.node (b94 P) .nil .nil) (.node (b126 P) .nil .nil)))))))
noncomputable def TC16 (P : Params) : BT := (.node (b0 P) (.node (b1 P) (.node (b3xxxx P) (.node (b7 P) (.node (b15 P) (.node (b31 P) (.node (b63 P) (.node (b127 P) (.node (b255 P) .nil .nil) .nil) (.node (b191 P) (.node (b319 P) .nil .nil) .nil)) (.node (b95 P) (.node (b159 P) (.node (b287 P) .nil .nil) .nil) (.node (b223 P) (.node (b351 P) .nil .nil) .nil))) (.node (b47 P) (.node (b79 P) (.node (b143 P) (.node (b271 P) .nil .nil) .nil) (.node (b207 P) (.node (b335 P) .nil .nil) .nil)) (.node (b111 P) (.node (b175 P) (.node (b303 P) .nil .nil) .nil) (.node (b239 P) (.node (b367 P) .nil .nil) .nil)))) (.node (b23 P) (.node (b39 P) (.node (b71 P) (.node (b135 P) (.node (b263 P) .nil .nil) .nil) (.node (b199 P) (.node (b327 P) .nil .nil) .nil)) (.node (b103 P) (.node (b167 P) (.node (b295 P) .nil .nil) .nil) (.node (b231 P) (.node (b359 P) .nil .nil) .nil))) (.node (b55 P) (.node (b87 P) (.node (b151 P) (.node (b279 P) .nil .nil) .nil) (.node (b215 P) (.node (b343 P) .nil .nil) .nil)) (.node (b119 P) (.node (b183 P) (.node (b311 P) .nil .nil) .nil) (.node (b247 P) (.node (b375 P) .nil .nil) .nil))))) (.node (b11 P) (.node (b19 P) (.node (b35xxx P) (.node (b67 P) (.node (b131 P) (.node (b259 P) .nil .nil) .nil) (.node (b195 P) (.node (b323 P) .nil .nil) .nil)) (.node (b99 P) (.node (b163 P) (.node (b291 P) .nil .nil) .nil) (.node (b227 P) (.node (b355 P) .nil .nil) .nil))) (.node (b51 P) (.node (b83 P) (.node (b147 P) (.node (b275 P) .nil .nil) .nil) (.node (b211 P) (.node (b339 P) .nil .nil) .nil)) (.node (b115 P) (.node (b179 P) (.node (b307 P) .nil .nil) .nil) (.node (b243 P) (.node (b371 P) .nil .nil) .nil)))) (.node (b27 P) (.node (b43 P) (.node (b75 P) (.node (b139 P) (.node (b267 P) .nil .nil) .nil) (.node (b203 P) (.node (b331 P) .nil .nil) .nil)) (.node (b107 P) (.node (b171 P) (.node (b299 P) .nil .nil) .nil) (.node (b235 P) (.node (b363 P) .nil .nil) .nil))) (.node (b59 P) (.node (b91 P) (.node (b155 P) (.node (b283 P) .nil .nil) .nil) (.node (b219 P) (.node (b347 P) .nil .nil) .nil)) (.node (b123 P) (.node (b187 P) (.node (b315 P) .nil .nil) .nil) (.node (b251 P) .nil .nil)))))) (.node (b5 P) (.node (b9 P) (.node (b17 P) (.node (b33 P) (.node (b65 P) (.node (b129 P) (.node (b257 P) .nil .nil) .nil) (.node (b193 P) (.node (b321 P) .nil .nil) .nil)) (.node (b97 P) (.node (b161 P) (.node (b289 P) .nil .nil) .nil) (.node (b225 P) (.node (b353 P) .nil .nil) .nil))) (.node (b49 P) (.node (b81 P) (.node (b145 P) (.node (b273 P) .nil .nil) .nil) (.node (b209 P) (.node (b337 P) .nil .nil) .nil)) (.node (b113 P) (.node (b177 P) (.node (b305 P) .nil .nil) .nil) (.node (b241 P) (.node (b369 P) .nil .nil) .nil)))) (.node (b25 P) (.node (b41 P) (.node (b73 P) (.node (b137 P) (.node (b265 P) .nil .nil) .nil) (.node (b201 P) (.node (b329 P) .nil .nil) .nil)) (.node (b105 P) (.node (b169 P) (.node (b297 P) .nil .nil) .nil) (.node (b233 P) (.node (b361 P) .nil .nil) .nil))) (.node (b57 P) (.node (b89 P) (.node (b153 P) (.node (b281 P) .nil .nil) .nil) (.node (b217 P) (.node (b345 P) .nil .nil) .nil)) (.node (b121 P) (.node (b185 P) (.node (b313 P) .nil .nil) .nil) (.node (b249 P) (.node (b377 P) .nil .nil) .nil))))) (.node (b13 P) (.node (b21 P) (.node (b37 P) (.node (b69 P) (.node (b133 P) (.node (b261 P) .nil .nil) .nil) (.node (b197 P) (.node (b325 P) .nil .nil) .nil)) (.node (b101 P) (.node (b165 P) (.node (b293 P) .nil .nil) .nil) (.node (b229 P) (.node (b357 P) .nil .nil) .nil))) (.node (b53 P) (.node (b85 P) (.node (b149 P) (.node (b277 P) .nil .nil) .nil) (.node (b213 P) (.node (b341 P) .nil .nil) .nil)) (.node (b117 P) (.node (b181 P) (.node (b309 P) .nil .nil) .nil) (.node (b245 P) (.node (b373 P) .nil .nil) .nil)))) (.node (b29 P) (.node (b45 P) (.node (b77 P) (.node (b141 P) (.node (b269 P) .nil .nil) .nil) (.node (b205 P) (.node (b333 P) .nil .nil) .nil)) (.node (b109 P) (.node (b173 P) (.node (b301 P) .nil .nil) .nil) (.node (b237 P) (.node (b365 P) .nil .nil) .nil))) (.node (b61 P) (.node (b93 P) (.node (b157 P) (.node (b285 P) .nil .nil) .nil) (.node (b221 P) (.node (b349 P) .nil .nil) .nil)) (.node (b125 P) (.node (b189 P) (.node (b317 P) .nil .nil) .nil) (.node (b253 P) .nil .nil))))))) (.node (b2 P) (.node (b4 P) (.node (b8 P) (.node (b16 P) (.node (b32 P) (.node (b64 P) (.node (b128 P) (.node (b256 P) .nil .nil) .nil) (.node (b192 P) (.node (b320 P) .nil .nil) .nil)) (.node (b96 P) (.node (b160 P) (.node (b288 P) .nil .nil) .nil) (.node (b224 P) (.node (b352 P) .nil .nil) .nil))) (.node (b48 P) (.node (b80 P) (.node (b144 P) (.node (b272 P) .nil .nil) .nil) (.node (b208 P) (.node (b336 P) .nil .nil) .nil)) (.node (b112 P) (.node (b176 P) (.node (b304 P) .nil .nil) .nil) (.node (b240 P) (.node (b368 P) .nil .nil) .nil)))) (.node (b24 P) (.node (b40 P) (.node (b72 P) (.node (b136 P) (.node (b264 P) .nil .nil) .nil) (.node (b200 P) (.node (b328 P) .nil .nil) .nil)) (.node (b104 P) (.node (b168 P) (.node (b296 P) .nil .nil) .nil) (.node (b232 P) (.node (b360 P) .nil .nil) .nil))) (.node (b56 P) (.node (b88 P) (.node (b152 P) (.node (b280 P) .nil .nil) .nil) (.node (b216 P) (.node (b344 P) .nil .nil) .nil)) (.node (b120 P) (.node (b184 P) (.node (b312 P) .nil .nil) .nil) (.node (b248 P) (.node (b376 P) .nil .nil) .nil))))) (.node (b12 P) (.node (b20 P) (.node (b36 P) (.node (b68 P) (.node (b132 P) (.node (b260 P) .nil .nil) .nil) (.node (b196 P) (.node (b324 P) .nil .nil) .nil)) (.node (b100 P) (.node (b164 P) (.node (b292 P) .nil .nil) .nil) (.node (b228 P) (.node (b356 P) .nil .nil) .nil))) (.node (b52 P) (.node (b84 P) (.node (b148 P) (.node (b276 P) .nil .nil) .nil) (.node (b212 P) (.node (b340 P) .nil .nil) .nil)) (.node (b116 P) (.node (b180 P) (.node (b308 P) .nil .nil) .nil) (.node (b244 P) (.node (b372 P) .nil .nil) .nil)))) (.node (b28 P) (.node (b44 P) (.node (b76 P) (.node (b140 P) (.node (b268 P) .nil .nil) .nil) (.node (b204 P) (.node (b332 P) .nil .nil) .nil)) (.node (b108 P) (.node (b172 P) (.node (b300 P) .nil .nil) .nil) (.node (b236 P) (.node (b364 P) .nil .nil) .nil))) (.node (b60 P) (.node (b92 P) (.node (b156 P) (.node (b284 P) .nil .nil) .nil) (.node (b220 P) (.node (b348 P) .nil .nil) .nil)) (.node (b124 P) (.node (b188 P) (.node (b316 P) .nil .nil) .nil) (.node (b252 P) .nil .nil)))))) (.node (b6 P) (.node (b10 P) (.node (b18 P) (.node (b34 P) (.node (b66 P) (.node (b130 P) (.node (b258 P) .nil .nil) .nil) (.node (b194 P) (.node (b322 P) .nil .nil) .nil)) (.node (b98 P) (.node (b162 P) (.node (b290 P) .nil .nil) .nil) (.node (b226 P) (.node (b354 P) .nil .nil) .nil))) (.node (b50 P) (.node (b82 P) (.node (b146x P) (.node (b274 P) .nil .nil) .nil) (.node (b210 P) (.node (b338 P) .nil .nil) .nil)) (.node (b114 P) (.node (b178 P) (.node (b306 P) .nil .nil) .nil) (.node (b242 P) (.node (b370 P) .nil .nil) .nil)))) (.node (b26 P) (.node (b42 P) (.node (b74 P) (.node (b138 P) (.node (b266 P) .nil .nil) .nil) (.node (b202 P) (.node (b330 P) .nil .nil) .nil)) (.node (b106 P) (.node (b170 P) (.node (b298 P) .nil .nil) .nil) (.node (b234 P) (.node (b362 P) .nil .nil) .nil))) (.node (b58 P) (.node (b90 P) (.node (b154 P) (.node (b282 P) .nil .nil) .nil) (.node (b218 P) (.node (b346 P) .nil .nil) .nil)) (.node (b122 P) (.node (b186 P) (.node (b314 P) .nil .nil) .nil) (.node (b250 P) (.node (b378 P) .nil .nil) .nil))))) (.node (b14 P) (.node (b22 P) (.node (b38 P) (.node (b70 P) (.node (b134 P) (.node (b262 P) .nil .nil) .nil) (.node (b198 P) (.node (b326 P) .nil .nil) .nil)) (.node (b102 P) (.node (b166 P) (.node (b294 P) .nil .nil) .nil) (.node (b230 P) (.node (b358 P) .nil .nil) .nil))) (.node (b54 P) (.node (b86 P) (.node (b150 P) (.node (b278 P) .nil .nil) .nil) (.node (b214 P) (.node (b342 P) .nil .nil) .nil)) (.node (b118 P) (.node (b182 P) (.node (b310 P) .nil .nil) .nil) (.node (b246 P) (.node (b374 P) .nil .nil) .nil)))) (.node (b30 P) (.node (b46 P) (.node (b78 P) (.node (b142 P) (.node (b270 P) .nil .nil) .nil) (.node (b206 P) (.node (b334 P) .nil .nil) .nil)) (.node (b110 P) (.node (b174 P) (.node (b302 P) .nil .nil) .nil) (.node (b238 P) (.node (b366 P) .nil .nil) .nil))) (.node (b62 P) (.node (b94 P) (.node (b158 P) (.node (b286 P) .nil .nil) .nil) (.node (b222 P) (.node (b350 P) .nil .nil) .nil)) (.node (b126 P) (.node (b190 P) (.node (b318 P) .nil .nil) .nil) (.node (b254 P) .nil .nil))))))))
noncomputable def TC17 (P : Params) : BT := (.node (b0 P) (.node (b1 P) (.node (b3xxxxx P) (.node (b7 P) (.node (b15 P) (.node (b31 P) (.node (b63 P) (.node (b127 P) (.node (b255 P) (.node (b511 P) .nil .nil) .nil) (.node (b383 P) .nil .nil)) (.node (b191 P) (.node (b319 P) (.node (b575 P) .nil .nil) .nil) (.node (b447 P) .nil .nil))) (.node (b95 P) (.node (b159 P) (.node (b287 P) (.node (b543 P) .nil .nil) .nil) (.node (b415 P) .nil .nil)) (.node (b223 P) (.node (b351 P) (.node (b607 P) .nil .nil) .nil) (.node (b479 P) .nil .nil)))) (.node (b47 P) (.node (b79 P) (.node (b143 P) (.node (b271 P) (.node (b527 P) .nil .nil) .nil) (.node (b399 P) .nil .nil)) (.node (b207 P) (.node (b335 P) (.node (b591 P) .nil .nil) .nil) (.node (b463 P) .nil .nil))) (.node (b111 P) (.node (b175 P) (.node (b303 P) (.node (b559 P) .nil .nil) .nil) (.node (b431 P) .nil .nil)) (.node (b239 P) (.node (b367 P) (.node (b623 P) .nil .nil) .nil) (.node (b495 P) .nil .nil))))) (.node (b23 P) (.node (b39 P) (.node (b71 P) (.node (b135 P) (.node (b263 P) (.node (b519 P) .nil .nil) .nil) (.node (b391 P) .nil .nil)) (.node (b199 P) (.node (b327 P) (.node (b583 P) .nil .nil) .nil) (.node (b455 P) .nil .nil))) (.node (b103 P) (.node (b167 P) (.node (b295 P) (.node (b551 P) .nil .nil) .nil) (.node (b423 P) .nil .nil)) (.node (b231 P) (.node (b359 P) (.node (b615 P) .nil .nil) .nil) (.node (b487 P) .nil .nil)))) (.node (b55 P) (.node (b87 P) (.node (b151 P) (.node (b279 P) (.node (b535 P) .nil .nil) .nil) (.node (b407 P) .nil .nil)) (.node (b215 P) (.node (b343 P) (.node (b599 P) .nil .nil) .nil) (.node (b471 P) .nil .nil))) (.node (b119 P) (.node (b183 P) (.node (b311 P) (.node (b567 P) .nil .nil) .nil) (.node (b439 P) .nil .nil)) (.node (b247 P) (.node (b375 P) .nil .nil) (.node (b503 P) .nil .nil)))))) (.node (b11 P) (.node (b19 P) (.node (b35xxxx P) (.node (b67 P) (.node (b131 P) (.node (b259 P) (.node (b515 P) .nil .nil) .nil) (.node (b387 P) .nil .nil)) (.node (b195 P) (.node (b323 P) (.node (b579 P) .nil .nil) .nil) (.node (b451 P) .nil .nil))) (.node (b99 P) (.node (b163 P) (.node (b291 P) (.node (b547 P) .nil .nil) .nil) (.node (b419 P) .nil .nil)) (.node (b227 P) (.node (b355 P) (.node (b611 P) .nil .nil) .nil) (.node (b483 P) .nil .nil)))) (.node (b51 P) (.node (b83 P) (.node (b147 P) (.node (b275 P) (.node (b531 P) .nil .nil) .nil) (.node (b403 P) .nil .nil)) (.node (b211 P) (.node (b339 P) (.node (b595 P) .nil .nil) .nil) (.node (b467 P) .nil .nil))) (.node (b115 P) (.node (b179 P) (.node (b307 P) (.node (b563 P) .nil .nil) .nil) (.node (b435 P) .nil .nil)) (.node (b243 P) (.node (b371 P) .nil .nil) (.node (b499 P) .nil .nil))))) (.node (b27 P) (.node (b43 P) (.node (b75 P) (.node (b139 P) (.node (b267 P) (.node (b523 P) .nil .nil) .nil) (.node (b395 P) .nil .nil)) (.node (b203 P) (.node (b331 P) (.node (b587 P) .nil .nil) .nil) (.node (b459 P) .nil .nil))) (.node (b107 P) (.node (b171 P) (.node (b299 P) (.node (b555 P) .nil .nil) .nil) (.node (b427 P) .nil .nil)) (.node (b235 P) (.node (b363 P) (.node (b619 P) .nil .nil) .nil) (.node (b491 P) .nil .nil)))) (.node (b59 P) (.node (b91 P) (.node (b155 P) (.node (b283 P) (.node (b539 P) .nil .nil) .nil) (.node (b411 P) .nil .nil)) (.node (b219 P) (.node (b347 P) (.node (b603 P) .nil .nil) .nil) (.node (b475 P) .nil .nil))) (.node (b123 P) (.node (b187 P) (.node (b315 P) (.node (b571 P) .nil .nil) .nil) (.node (b443 P) .nil .nil)) (.node (b251 P) (.node (b379 P) .nil .nil) (.node (b507 P) .nil .nil))))))) (.node (b5 P) (.node (b9 P) (.node (b17 P) (.node (b33 P) (.node (b65 P) (.node (b129 P) (.node (b257 P) (.node (b513 P) .nil .nil) .nil) (.node (b385 P) .nil .nil)) (.node (b193 P) (.node (b321 P) (.node (b577 P) .nil .nil) .nil) (.node (b449 P) .nil .nil))) (.node (b97 P) (.node (b161 P) (.node (b289 P) (.node (b545 P) .nil .nil) .nil) (.node (b417 P) .nil .nil)) (.node (b225 P) (.node (b353 P) (.node (b609 P) .nil .nil) .nil) (.node (b481 P) .nil .nil)))) (.node (b49 P) (.node (b81 P) (.node (b145 P) (.node (b273 P) (.node (b529 P) .nil .nil) .nil) (.node (b401 P) .nil .nil)) (.node (b209 P) (.node (b337 P) (.node (b593 P) .nil .nil) .nil) (.node (b465 P) .nil .nil))) (.node (b113 P) (.node (b177 P) (.node (b305 P) (.node (b561 P) .nil .nil) .nil) (.node (b433 P) .nil .nil)) (.node (b241 P) (.node (b369 P) (.node (b625 P) .nil .nil) .nil) (.node (b497 P) .nil .nil))))) (.node (b25 P) (.node (b41 P) (.node (b73 P) (.node (b137 P) (.node (b265 P) (.node (b521 P) .nil .nil) .nil) (.node (b393 P) .nil .nil)) (.node (b201 P) (.node (b329 P) (.node (b585 P) .nil .nil) .nil) (.node (b457 P) .nil .nil))) (.node (b105 P) (.node (b169 P) (.node (b297 P) (.node (b553 P) .nil .nil) .nil) (.node (b425 P) .nil .nil)) (.node (b233 P) (.node (b361 P) (.node (b617 P) .nil .nil) .nil) (.node (b489 P) .nil .nil)))) (.node (b57 P) (.node (b89 P) (.node (b153 P) (.node (b281 P) (.node (b537 P) .nil .nil) .nil) (.node (b409 P) .nil .nil)) (.node (b217 P) (.node (b345 P) (.node (b601 P) .nil .nil) .nil) (.node (b473 P) .nil .nil))) (.node (b121 P) (.node (b185 P) (.node (b313 P) (.node (b569 P) .nil .nil) .nil) (.node (b441 P) .nil .nil)) (.node (b249 P) (.node (b377 P) .nil .nil) (.node (b505 P) .nil .nil)))))) (.node (b13 P) (.node (b21 P) (.node (b37 P) (.node (b69 P) (.node (b133 P) (.node (b261 P) (.node (b517 P) .nil .nil) .nil) (.node (b389 P) .nil .nil)) (.node (b197 P) (.node (b325 P) (.node (b581 P) .nil .nil) .nil) (.node (b453 P) .nil .nil))) (.node (b101 P) (.node (b165 P) (.node (b293 P) (.node (b549 P) .nil .nil) .nil) (.node (b421 P) .nil .nil)) (.node (b229 P) (.node (b357 P) (.node (b613 P) .nil .nil) .nil) (.node (b485 P) .nil .nil)))) (.node (b53 P) (.node (b85 P) (.node (b149 P) (.node (b277 P) (.node (b533 P) .nil .nil) .nil) (.node (b405 P) .nil .nil)) (.node (b213 P) (.node (b341 P) (.node (b597 P) .nil .nil) .nil) (.node (b469 P) .nil .nil))) (.node (b117 P) (.node (b181 P) (.node (b309 P) (.node (b565 P) .nil .nil) .nil) (.node (b437 P) .nil .nil)) (.node (b245 P) (.node (b373 P) .nil .nil) (.node (b501 P) .nil .nil))))) (.node (b29 P) (.node (b45 P) (.node (b77 P) (.node (b141 P) (.node (b269 P) (.node (b525 P) .nil .nil) .nil) (.node (b397 P) .nil .nil)) (.node (b205 P) (.node (b333 P) (.node (b589 P) .nil .nil) .nil) (.node (b461 P) .nil .nil))) (.node (b109 P) (.node (b173 P) (.node (b301 P) (.node (b557 P) .nil .nil) .nil) (.node (b429 P) .nil .nil)) (.node (b237 P) (.node (b365 P) (.node (b621 P) .nil .nil) .nil) (.node (b493 P) .nil .nil)))) (.node (b61 P) (.node (b93 P) (.node (b157 P) (.node (b285 P) (.node (b541 P) .nil .nil) .nil) (.node (b413 P) .nil .nil)) (.node (b221 P) (.node (b349 P) (.node (b605 P) .nil .nil) .nil) (.node (b477 P) .nil .nil))) (.node (b125 P) (.node (b189 P) (.node (b317 P) (.node (b573 P) .nil .nil) .nil) (.node (b445 P) .nil .nil)) (.node (b253 P) (.node (b381 P) .nil .nil) (.node (b509 P) .nil .nil)))))))) (.node (b2 P) (.node (b4 P) (.node (b8 P) (.node (b16 P) (.node (b32 P) (.node (b64 P) (.node (b128 P) (.node (b256 P) (.node (b512 P) .nil .nil) .nil) (.node (b384 P) .nil .nil)) (.node (b192 P) (.node (b320 P) (.node (b576 P) .nil .nil) .nil) (.node (b448 P) .nil .nil))) (.node (b96 P) (.node (b160 P) (.node (b288 P) (.node (b544 P) .nil .nil) .nil) (.node (b416 P) .nil .nil)) (.node (b224 P) (.node (b352 P) (.node (b608 P) .nil .nil) .nil) (.node (b480 P) .nil .nil)))) (.node (b48 P) (.node (b80 P) (.node (b144 P) (.node (b272 P) (.node (b528 P) .nil .nil) .nil) (.node (b400 P) .nil .nil)) (.node (b208 P) (.node (b336 P) (.node (b592 P) .nil .nil) .nil) (.node (b464 P) .nil .nil))) (.node (b112 P) (.node (b176 P) (.node (b304 P) (.node (b560 P) .nil .nil) .nil) (.node (b432 P) .nil .nil)) (.node (b240 P) (.node (b368 P) (.node (b624 P) .nil .nil) .nil) (.node (b496 P) .nil .nil))))) (.node (b24 P) (.node (b40 P) (.node (b72 P) (.node (b136 P) (.node (b264 P) (.node (b520 P) .nil .nil) .nil) (.node (b392 P) .nil .nil)) (.node (b200 P) (.node (b328 P) (.node (b584 P) .nil .nil) .nil) (.node (b456 P) .nil .nil))) (.node (b104 P) (.node (b168 P) (.node (b296 P) (.node (b552 P) .nil .nil) .nil) (.node (b424 P) .nil .nil)) (.node (b232 P) (.node (b360 P) (.node (b616 P) .nil .nil) .nil) (.node (b488 P) .nil .nil)))) (.node (b56 P) (.node (b88 P) (.node (b152 P) (.node (b280 P) (.node (b536 P) .nil .nil) .nil) (.node (b408 P) .nil .nil)) (.node (b216 P) (.node (b344 P) (.node (b600 P) .nil .nil) .nil) (.node (b472 P) .nil .nil))) (.node (b120 P) (.node (b184 P) (.node (b312 P) (.node (b568 P) .nil .nil) .nil) (.node (b440 P) .nil .nil)) (.node (b248 P) (.node (b376 P) .nil .nil) (.node (b504 P) .nil .nil)))))) (.node (b12 P) (.node (b20 P) (.node (b36 P) (.node (b68 P) (.node (b132 P) (.node (b260 P) (.node (b516 P) .nil .nil) .nil) (.node (b388 P) .nil .nil)) (.node (b196 P) (.node (b324 P) (.node (b580 P) .nil .nil) .nil) (.node (b452 P) .nil .nil))) (.node (b100 P) (.node (b164 P) (.node (b292 P) (.node (b548 P) .nil .nil) .nil) (.node (b420 P) .nil .nil)) (.node (b228 P) (.node (b356 P) (.node (b612 P) .nil .nil) .nil) (.node (b484 P) .nil .nil)))) (.node (b52 P) (.node (b84 P) (.node (b148 P) (.node (b276 P) (.node (b532 P) .nil .nil) .nil) (.node (b404 P) .nil .nil)) (.node (b212 P) (.node (b340 P) (.node (b596 P) .nil .nil) .nil) (.node (b468 P) .nil .nil))) (.node (b116 P) (.node (b180 P) (.node (b308 P) (.node (b564 P) .nil .nil) .nil) (.node (b436 P) .nil .nil)) (.node (b244 P) (.node (b372 P) .nil .nil) (.node (b500 P) .nil .nil))))) (.node (b28 P) (.node (b44 P) (.node (b76 P) (.node (b140 P) (.node (b268 P) (.node (b524 P) .nil .nil) .nil) (.node (b396 P) .nil .nil)) (.node (b204 P) (.node (b332 P) (.node (b588 P) .nil .nil) .nil) (.node (b460 P) .nil .nil))) (.node (b108 P) (.node (b172 P) (.node (b300 P) (.node (b556 P) .nil .nil) .nil) (.node (b428 P) .nil .nil)) (.node (b236 P) (.node (b364 P) (.node (b620 P) .nil .nil) .nil) (.node (b492 P) .nil .nil)))) (.node (b60 P) (.node (b92 P) (.node (b156 P) (.node (b284 P) (.node (b540 P) .nil .nil) .nil) (.node (b412 P) .nil .nil)) (.node (b220 P) (.node (b348 P) (.node (b604 P) .nil .nil) .nil) (.node (b476 P) .nil .nil))) (.node (b124 P) (.node (b188 P) (.node (b316 P) (.node (b572 P) .nil .nil) .nil) (.node (b444 P) .nil .nil)) (.node (b252 P) (.node (b380 P) .nil .nil) (.node (b508 P) .nil .nil))))))) (.node (b6 P) (.node (b10 P) (.node (b18 P) (.node (b34 P) (.node (b66 P) (.node (b130 P) (.node (b258 P) (.node (b514 P) .nil .nil) .nil) (.node (b386 P) .nil .nil)) (.node (b194 P) (.node (b322 P) (.node (b578 P) .nil .nil) .nil) (.node (b450 P) .nil .nil))) (.node (b98 P) (.node (b162 P) (.node (b290 P) (.node (b546 P) .nil .nil) .nil) (.node (b418 P) .nil .nil)) (.node (b226 P) (.node (b354 P) (.node (b610 P) .nil .nil) .nil) (.node (b482 P) .nil .nil)))) (.node (b50 P) (.node (b82 P) (.node (b146 P) (.node (b274 P) (.node (b530 P) .nil .nil) .nil) (.node (b402 P) .nil .nil)) (.node (b210 P) (.node (b338 P) (.node (b594 P) .nil .nil) .nil) (.node (b466 P) .nil .nil))) (.node (b114 P) (.node (b178 P) (.node (b306 P) (.node (b562 P) .nil .nil) .nil) (.node (b434 P) .nil .nil)) (.node (b242 P) (.node (b370 P) .nil .nil) (.node (b498 P) .nil .nil))))) (.node (b26 P) (.node (b42 P) (.node (b74 P) (.node (b138 P) (.node (b266 P) (.node (b522 P) .nil .nil) .nil) (.node (b394 P) .nil .nil)) (.node (b202 P) (.node (b330 P) (.node (b586 P) .nil .nil) .nil) (.node (b458 P) .nil .nil))) (.node (b106 P) (.node (b170 P) (.node (b298 P) (.node (b554 P) .nil .nil) .nil) (.node (b426 P) .nil .nil)) (.node (b234 P) (.node (b362 P) (.node (b618 P) .nil .nil) .nil) (.node (b490 P) .nil .nil)))) (.node (b58 P) (.node (b90 P) (.node (b154 P) (.node (b282 P) (.node (b538 P) .nil .nil) .nil) (.node (b410 P) .nil .nil)) (.node (b218 P) (.node (b346 P) (.node (b602 P) .nil .nil) .nil) (.node (b474 P) .nil .nil))) (.node (b122 P) (.node (b186 P) (.node (b314 P) (.node (b570 P) .nil .nil) .nil) (.node (b442 P) .nil .nil)) (.node (b250 P) (.node (b378 P) .nil .nil) (.node (b506 P) .nil .nil)))))) (.node (b14 P) (.node (b22 P) (.node (b38 P) (.node (b70 P) (.node (b134 P) (.node (b262 P) (.node (b518 P) .nil .nil) .nil) (.node (b390 P) .nil .nil)) (.node (b198 P) (.node (b326 P) (.node (b582 P) .nil .nil) .nil) (.node (b454 P) .nil .nil))) (.node (b102 P) (.node (b166 P) (.node (b294 P) (.node (b550 P) .nil .nil) .nil) (.node (b422 P) .nil .nil)) (.node (b230 P) (.node (b358 P) (.node (b614 P) .nil .nil) .nil) (.node (b486 P) .nil .nil)))) (.node (b54 P) (.node (b86 P) (.node (b150 P) (.node (b278 P) (.node (b534 P) .nil .nil) .nil) (.node (b406 P) .nil .nil)) (.node (b214 P) (.node (b342 P) (.node (b598 P) .nil .nil) .nil) (.node (b470 P) .nil .nil))) (.node (b118 P) (.node (b182 P) (.node (b310 P) (.node (b566 P) .nil .nil) .nil) (.node (b438 P) .nil .nil)) (.node (b246 P) (.node (b374 P) .nil .nil) (.node (b502 P) .nil .nil))))) (.node (b30 P) (.node (b46 P) (.node (b78 P) (.node (b142 P) (.node (b270 P) (.node (b526 P) .nil .nil) .nil) (.node (b398 P) .nil .nil)) (.node (b206 P) (.node (b334 P) (.node (b590 P) .nil .nil) .nil) (.node (b462 P) .nil .nil))) (.node (b110 P) (.node (b174 P) (.node (b302 P) (.node (b558 P) .nil .nil) .nil) (.node (b430 P) .nil .nil)) (.node (b238 P) (.node (b366 P) (.node (b622 P) .nil .nil) .nil) (.node (b494 P) .nil .nil)))) (.node (b62 P) (.node (b94 P) (.node (b158 P) (.node (b286 P) (.node (b542 P) .nil .nil) .nil) (.node (b414 P) .nil .nil)) (.node (b222 P) (.node (b350 P) (.node (b606 P) .nil .nil) .nil) (.node (b478 P) .nil .nil))) (.node (b126 P) (.node (b190 P) (.node (b318 P) (.node (b574 P) .nil .nil) .nil) (.node (b446 P) .nil .nil)) (.node (b254 P) (.node (b382 P) .nil .nil) (.node (b510 P) .nil .nil)))))))))
noncomputable def TC26 (P : Params) : BT := (.node (b0 P) (.node (b1 P) (.node (b3xxxxxx P) (.node (b7 P) (.node (b15 P) (.node (b31 P) (.node (b63 P) (.node (b127 P) (.node (b255 P) (.node (b511 P) .nil .nil) .nil) (.node (b383 P) (.node (b639 P) .nil .nil) .nil)) (.node (b191 P) (.node (b319 P) (.node (b575 P) .nil .nil) .nil) (.node (b447 P) (.node (b703 P) .nil .nil) .nil))) (.node (b95 P) (.node (b159 P) (.node (b287 P) (.node (b543 P) .nil .nil) .nil) (.node (b415 P) (.node (b671 P) .nil .nil) .nil)) (.node (b223 P) (.node (b351 P) (.node (b607 P) .nil .nil) .nil) (.node (b479 P) (.node (b735 P) .nil .nil) .nil)))) (.node (b47 P) (.node (b79 P) (.node (b143 P) (.node (b271 P) (.node (b527 P) .nil .nil) .nil) (.node (b399 P) (.node (b655 P) .nil .nil) .nil)) (.node (b207 P) (.node (b335 P) (.node (b591 P) .nil .nil) .nil) (.node (b463 P) (.node (b719 P) .nil .nil) .nil))) (.node (b111 P) (.node (b175 P) (.node (b303 P) (.node (b559 P) .nil .nil) .nil) (.node (b431 P) (.node (b687 P) .nil .nil) .nil)) (.node (b239 P) (.node (b367 P) (.node (b623 P) .nil .nil) .nil) (.node (b495 P) (.node (b751 P) .nil .nil) .nil))))) (.node (b23 P) (.node (b39 P) (.node (b71 P) (.node (b135 P) (.node (b263 P) (.node (b519 P) .nil .nil) .nil) (.node (b391 P) (.node (b647 P) .nil .nil) .nil)) (.node (b199 P) (.node (b327 P) (.node (b583 P) .nil .nil) .nil) (.node (b455 P) (.node (b711 P) .nil .nil) .nil))) (.node (b103 P) (.node (b167 P) (.node (b295 P) (.node (b551 P) .nil .nil) .nil) (.node (b423 P) (.node (b679 P) .nil .nil) .nil)) (.node (b231 P) (.node (b359 P) (.node (b615 P) .nil .nil) .nil) (.node (b487 P) (.node (b743 P) .nil .nil) .nil)))) (.node (b55 P) (.node (b87 P) (.node (b151 P) (.node (b279 P) (.node (b535 P) .nil .nil) .nil) (.node (b407 P) (.node (b663 P) .nil .nil) .nil)) (.node (b215 P) (.node (b343 P) (.node (b599 P) .nil .nil) .nil) (.node (b471 P) (.node (b727 P) .nil .nil) .nil))) (.node (b119 P) (.node (b183 P) (.node (b311 P) (.node (b567 P) .nil .nil) .nil) (.node (b439 P) (.node (b695 P) .nil .nil) .nil)) (.node (b247 P) (.node (b375 P) (.node (b631 P) .nil .nil) .nil) (.node (b503 P) (.node (b759 P) .nil .nil) .nil)))))) (.node (b11 P) (.node (b19 P) (.node (b35xxxxx P) (.node (b67 P) (.node (b131 P) (.node (b259 P) (.node (b515 P) .nil .nil) .nil) (.node (b387 P) (.node (b643 P) .nil .nil) .nil)) (.node (b195 P) (.node (b323 P) (.node (b579 P) .nil .nil) .nil) (.node (b451 P) (.node (b707 P) .nil .nil) .nil))) (.node (b99 P) (.node (b163 P) (.node (b291 P) (.node (b547 P) .nil .nil) .nil) (.node (b419 P) (.node (b675 P) .nil .nil) .nil)) (.node (b227 P) (.node (b355 P) (.node (b611 P) .nil .nil) .nil) (.node (b483 P) (.node (b739 P) .nil .nil) .nil)))) (.node (b51 P) (.node (b83 P) (.node (b147 P) (.node (b275 P) (.node (b531 P) .nil .nil) .nil) (.node (b403 P) (.node (b659 P) .nil .nil) .nil)) (.node (b211 P) (.node (b339 P) (.node (b595 P) .nil .nil) .nil) (.node (b467 P) (.node (b723 P) .nil .nil) .nil))) (.node (b115 P) (.node (b179 P) (.node (b307 P) (.node (b563 P) .nil .nil) .nil) (.node (b435 P) (.node (b691 P) .nil .nil) .nil)) (.node (b243 P) (.node (b371 P) (.node (b627 P) .nil .nil) .nil) (.node (b499 P) (.node (b755 P) .nil .nil) .nil))))) (.node (b27 P) (.node (b43 P) (.node (b75 P) (.node (b139 P) (.node (b267 P) (.node (b523 P) .nil .nil) .nil) (.node (b395 P) (.node (b651 P) .nil .nil) .nil)) (.node (b203 P) (.node (b331 P) (.node (b587 P) .nil .nil) .nil) (.node (b459 P) (.node (b715 P) .nil .nil) .nil))) (.node (b107 P) (.node (b171 P) (.node (b299 P) (.node (b555 P) .nil .nil) .nil) (.node (b427 P) (.node (b683 P) .nil .nil) .nil)) (.node (b235 P) (.node (b363 P) (.node (b619 P) .nil .nil) .nil) (.node (b491 P) (.node (b747 P) .nil .nil) .nil)))) (.node (b59 P) (.node (b91 P) (.node (b155 P) (.node (b283 P) (.node (b539 P) .nil .nil) .nil) (.node (b411 P) (.node (b667 P) .nil .nil) .nil)) (.node (b219 P) (.node (b347 P) (.node (b603 P) .nil .nil) .nil) (.node (b475 P) (.node (b731 P) .nil .nil) .nil))) (.node (b123 P) (.node (b187 P) (.node (b315 P) (.node (b571 P) .nil .nil) .nil) (.node (b443 P) (.node (b699 P) .nil .nil) .nil)) (.node (b251 P) (.node (b379 P) (.node (b635 P) .nil .nil) .nil) (.node (b507 P) .nil .nil))))))) (.node (b5 P) (.node (b9 P) (.node (b17 P) (.node (b33 P) (.node (b65 P) (.node (b129 P) (.node (b257 P) (.node (b513 P) .nil .nil) .nil) (.node (b385 P) (.node (b641 P) .nil .nil) .nil)) (.node (b193 P) (.node (b321 P) (.node (b577 P) .nil .nil) .nil) (.node (b449 P) (.node (b705 P) .nil .nil) .nil))) (.node (b97 P) (.node (b161 P) (.node (b289 P) (.node (b545 P) .nil .nil) .nil) (.node (b417 P) (.node (b673 P) .nil .nil) .nil)) (.node (b225 P) (.node (b353 P) (.node (b609 P) .nil .nil) .nil) (.node (b481 P) (.node (b737 P) .nil .nil) .nil)))) (.node (b49 P) (.node (b81 P) (.node (b145 P) (.node (b273 P) (.node (b529 P) .nil .nil) .nil) (.node (b401 P) (.node (b657 P) .nil .nil) .nil)) (.node (b209 P) (.node (b337 P) (.node (b593 P) .nil .nil) .nil) (.node (b465 P) (.node (b721 P) .nil .nil) .nil))) (.node (b113 P) (.node (b177 P) (.node (b305 P) (.node (b561 P) .nil .nil) .nil) (.node (b433 P) (.node (b689 P) .nil .nil) .nil)) (.node (b241 P) (.node (b369 P) (.node (b625 P) .nil .nil) .nil) (.node (b497 P) (.node (b753 P) .nil .nil) .nil))))) (.node (b25 P) (.node (b41 P) (.node (b73 P) (.node (b137 P) (.node (b265 P) (.node (b521 P) .nil .nil) .nil) (.node (b393 P) (.node (b649 P) .nil .nil) .nil)) (.node (b201 P) (.node (b329 P) (.node (b585 P) .nil .nil) .nil) (.node (b457 P) (.node (b713 P) .nil .nil) .nil))) (.node (b105 P) (.node (b169 P) (.node (b297 P) (.node (b553 P) .nil .nil) .nil) (.node (b425 P) (.node (b681 P) .nil .nil) .nil)) (.node (b233 P) (.node (b361 P) (.node (b617 P) .nil .nil) .nil) (.node (b489 P) (.node (b745 P) .nil .nil) .nil)))) (.node (b57 P) (.node (b89 P) (.node (b153 P) (.node (b281 P) (.node (b537 P) .nil .nil) .nil) (.node (b409 P) (.node (b665 P) .nil .nil) .nil)) (.node (b217 P) (.node (b345 P) (.node (b601 P) .nil .nil) .nil) (.node (b473 P) (.node (b729 P) .nil .nil) .nil))) (.node (b121 P) (.node (b185 P) (.node (b313 P) (.node (b569 P) .nil .nil) .nil) (.node (b441 P) (.node (b697 P) .nil .nil) .nil)) (.node (b249 P) (.node (b377 P) (.node (b633 P) .nil .nil) .nil) (.node (b505 P) (.node (b761 P) .nil .nil) .nil)))))) (.node (b13 P) (.node (b21 P) (.node (b37 P) (.node (b69 P) (.node (b133 P) (.node (b261 P) (.node (b517 P) .nil .nil) .nil) (.node (b389 P) (.node (b645 P) .nil .nil) .nil)) (.node (b197 P) (.node (b325 P) (.node (b581 P) .nil .nil) .nil) (.node (b453 P) (.node (b709 P) .nil .nil) .nil))) (.node (b101 P) (.node (b165 P) (.node (b293 P) (.node (b549 P) .nil .nil) .nil) (.node (b421 P) (.node (b677 P) .nil .nil) .nil)) (.node (b229 P) (.node (b357 P) (.node (b613 P) .nil .nil) .nil) (.node (b485 P) (.node (b741 P) .nil .nil) .nil)))) (.node (b53 P) (.node (b85 P) (.node (b149 P) (.node (b277 P) (.node (b533 P) .nil .nil) .nil) (.node (b405 P) (.node (b661 P) .nil .nil) .nil)) (.node (b213 P) (.node (b341 P) (.node (b597 P) .nil .nil) .nil) (.node (b469 P) (.node (b725 P) .nil .nil) .nil))) (.node (b117 P) (.node (b181 P) (.node (b309 P) (.node (b565 P) .nil .nil) .nil) (.node (b437 P) (.node (b693 P) .nil .nil) .nil)) (.node (b245 P) (.node (b373 P) (.node (b629 P) .nil .nil) .nil) (.node (b501 P) (.node (b757 P) .nil .nil) .nil))))) (.node (b29 P) (.node (b45 P) (.node (b77 P) (.node (b141 P) (.node (b269 P) (.node (b525 P) .nil .nil) .nil) (.node (b397 P) (.node (b653 P) .nil .nil) .nil)) (.node (b205 P) (.node (b333 P) (.node (b589 P) .nil .nil) .nil) (.node (b461 P) (.node (b717 P) .nil .nil) .nil))) (.node (b109 P) (.node (b173 P) (.node (b301 P) (.node (b557 P) .nil .nil) .nil) (.node (b429 P) (.node (b685 P) .nil .nil) .nil)) (.node (b237 P) (.node (b365 P) (.node (b621 P) .nil .nil) .nil) (.node (b493 P) (.node (b749 P) .nil .nil) .nil)))) (.node (b61 P) (.node (b93 P) (.node (b157 P) (.node (b285 P) (.node (b541 P) .nil .nil) .nil) (.node (b413 P) (.node (b669 P) .nil .nil) .nil)) (.node (b221 P) (.node (b349 P) (.node (b605 P) .nil .nil) .nil) (.node (b477 P) (.node (b733 P) .nil .nil) .nil))) (.node (b125 P) (.node (b189 P) (.node (b317 P) (.node (b573 P) .nil .nil) .nil) (.node (b445 P) (.node (b701 P) .nil .nil) .nil)) (.node (b253 P) (.node (b381 P) (.node (b637 P) .nil .nil) .nil) (.node (b509 P) .nil .nil)))))))) (.node (b2 P) (.node (b4 P) (.node (b8 P) (.node (b16 P) (.node (b32 P) (.node (b64 P) (.node (b128 P) (.node (b256 P) (.node (b512 P) .nil .nil) .nil) (.node (b384 P) (.node (b640 P) .nil .nil) .nil)) (.node (b192 P) (.node (b320 P) (.node (b576 P) .nil .nil) .nil) (.node (b448 P) (.node (b704 P) .nil .nil) .nil))) (.node (b96 P) (.node (b160 P) (.node (b288 P) (.node (b544 P) .nil .nil) .nil) (.node (b416 P) (.node (b672 P) .nil .nil) .nil)) (.node (b224 P) (.node (b352 P) (.node (b608 P) .nil .nil) .nil) (.node (b480 P) (.node (b736 P) .nil .nil) .nil)))) (.node (b48 P) (.node (b80 P) (.node (b144 P) (.node (b272 P) (.node (b528 P) .nil .nil) .nil) (.node (b400 P) (.node (b656 P) .nil .nil) .nil)) (.node (b208 P) (.node (b336 P) (.node (b592 P) .nil .nil) .nil) (.node (b464 P) (.node (b720 P) .nil .nil) .nil))) (.node (b112 P) (.node (b176 P) (.node (b304 P) (.node (b560 P) .nil .nil) .nil) (.node (b432 P) (.node (b688 P) .nil .nil) .nil)) (.node (b240 P) (.node (b368 P) (.node (b624 P) .nil .nil) .nil) (.node (b496 P) (.node (b752 P) .nil .nil) .nil))))) (.node (b24 P) (.node (b40 P) (.node (b72 P) (.node (b136 P) (.node (b264 P) (.node (b520 P) .nil .nil) .nil) (.node (b392 P) (.node (b648 P) .nil .nil) .nil)) (.node (b200 P) (.node (b328 P) (.node (b584 P) .nil .nil) .nil) (.node (b456 P) (.node (b712 P) .nil .nil) .nil))) (.node (b104 P) (.node (b168 P) (.node (b296 P) (.node (b552 P) .nil .nil) .nil) (.node (b424 P) (.node (b680 P) .nil .nil) .nil)) (.node (b232 P) (.node (b360 P) (.node (b616 P) .nil .nil) .nil) (.node (b488 P) (.node (b744 P) .nil .nil) .nil)))) (.node (b56 P) (.node (b88 P) (.node (b152 P) (.node (b280 P) (.node (b536 P) .nil .nil) .nil) (.node (b408 P) (.node (b664 P) .nil .nil) .nil)) (.node (b216 P) (.node (b344 P) (.node (b600 P) .nil .nil) .nil) (.node (b472 P) (.node (b728 P) .nil .nil) .nil))) (.node (b120 P) (.node (b184 P) (.node (b312 P) (.node (b568 P) .nil .nil) .nil) (.node (b440 P) (.node (b696 P) .nil .nil) .nil)) (.node (b248 P) (.node (b376 P) (.node (b632 P) .nil .nil) .nil) (.node (b504 P) (.node (b760 P) .nil .nil) .nil)))))) (.node (b12 P) (.node (b20 P) (.node (b36 P) (.node (b68 P) (.node (b132 P) (.node (b260 P) (.node (b516 P) .nil .nil) .nil) (.node (b388 P) (.node (b644 P) .nil .nil) .nil)) (.node (b196 P) (.node (b324 P) (.node (b580 P) .nil .nil) .nil) (.node (b452 P) (.node (b708 P) .nil .nil) .nil))) (.node (b100 P) (.node (b164 P) (.node (b292 P) (.node (b548 P) .nil .nil) .nil) (.node (b420 P) (.node (b676 P) .nil .nil) .nil)) (.node (b228 P) (.node (b356 P) (.node (b612 P) .nil .nil) .nil) (.node (b484 P) (.node (b740 P) .nil .nil) .nil)))) (.node (b52 P) (.node (b84 P) (.node (b148 P) (.node (b276 P) (.node (b532 P) .nil .nil) .nil) (.node (b404 P) (.node (b660 P) .nil .nil) .nil)) (.node (b212 P) (.node (b340 P) (.node (b596 P) .nil .nil) .nil) (.node (b468 P) (.node (b724 P) .nil .nil) .nil))) (.node (b116 P) (.node (b180 P) (.node (b308 P) (.node (b564 P) .nil .nil) .nil) (.node (b436 P) (.node (b692 P) .nil .nil) .nil)) (.node (b244 P) (.node (b372 P) (.node (b628 P) .nil .nil) .nil) (.node (b500 P) (.node (b756 P) .nil .nil) .nil))))) (.node (b28 P) (.node (b44 P) (.node (b76 P) (.node (b140 P) (.node (b268 P) (.node (b524 P) .nil .nil) .nil) (.node (b396 P) (.node (b652 P) .nil .nil) .nil)) (.node (b204 P) (.node (b332 P) (.node (b588 P) .nil .nil) .nil) (.node (b460 P) (.node (b716 P) .nil .nil) .nil))) (.node (b108 P) (.node (b172 P) (.node (b300 P) (.node (b556 P) .nil .nil) .nil) (.node (b428 P) (.node (b684 P) .nil .nil) .nil)) (.node (b236 P) (.node (b364 P) (.node (b620 P) .nil .nil) .nil) (.node (b492 P) (.node (b748 P) .nil .nil) .nil)))) (.node (b60 P) (.node (b92 P) (.node (b156 P) (.node (b284 P) (.node (b540 P) .nil .nil) .nil) (.node (b412 P) (.node (b668 P) .nil .nil) .nil)) (.node (b220 P) (.node (b348 P) (.node (b604 P) .nil .nil) .nil) (.node (b476 P) (.node (b732 P) .nil .nil) .nil))) (.node (b124 P) (.node (b188 P) (.node (b316 P) (.node (b572 P) .nil .nil) .nil) (.node (b444 P) (.node (b700 P) .nil .nil) .nil)) (.node (b252 P) (.node (b380 P) (.node (b636 P) .nil .nil) .nil) (.node (b508 P) .nil .nil))))))) (.node (b6 P) (.node (b10 P) (.node (b18 P) (.node (b34 P) (.node (b66 P) (.node (b130 P) (.node (b258 P) (.node (b514 P) .nil .nil) .nil) (.node (b386 P) (.node (b642 P) .nil .nil) .nil)) (.node (b194 P) (.node (b322 P) (.node (b578 P) .nil .nil) .nil) (.node (b450 P) (.node (b706 P) .nil .nil) .nil))) (.node (b98 P) (.node (b162 P) (.node (b290 P) (.node (b546 P) .nil .nil) .nil) (.node (b418 P) (.node (b674 P) .nil .nil) .nil)) (.node (b226 P) (.node (b354 P) (.node (b610 P) .nil .nil) .nil) (.node (b482 P) (.node (b738 P) .nil .nil) .nil)))) (.node (b50 P) (.node (b82 P) (.node (b146 P) (.node (b274 P) (.node (b530 P) .nil .nil) .nil) (.node (b402 P) (.node (b658 P) .nil .nil) .nil)) (.node (b210 P) (.node (b338 P) (.node (b594 P) .nil .nil) .nil) (.node (b466 P) (.node (b722 P) .nil .nil) .nil))) (.node (b114 P) (.node (b178 P) (.node (b306 P) (.node (b562 P) .nil .nil) .nil) (.node (b434 P) (.node (b690 P) .nil .nil) .nil)) (.node (b242 P) (.node (b370 P) (.node (b626 P) .nil .nil) .nil) (.node (b498 P) (.node (b754 P) .nil .nil) .nil))))) (.node (b26 P) (.node (b42 P) (.node (b74 P) (.node (b138 P) (.node (b266 P) (.node (b522 P) .nil .nil) .nil) (.node (b394 P) (.node (b650 P) .nil .nil) .nil)) (.node (b202 P) (.node (b330 P) (.node (b586 P) .nil .nil) .nil) (.node (b458 P) (.node (b714 P) .nil .nil) .nil))) (.node (b106 P) (.node (b170 P) (.node (b298 P) (.node (b554 P) .nil .nil) .nil) (.node (b426 P) (.node (b682 P) .nil .nil) .nil)) (.node (b234 P) (.node (b362 P) (.node (b618 P) .nil .nil) .nil) (.node (b490 P) (.node (b746 P) .nil .nil) .nil)))) (.node (b58 P) (.node (b90 P) (.node (b154 P) (.node (b282 P) (.node (b538 P) .nil .nil) .nil) (.node (b410 P) (.node (b666 P) .nil .nil) .nil)) (.node (b218 P) (.node (b346 P) (.node (b602 P) .nil .nil) .nil) (.node (b474 P) (.node (b730 P) .nil .nil) .nil))) (.node (b122 P) (.node (b186 P) (.node (b314 P) (.node (b570 P) .nil .nil) .nil) (.node (b442 P) (.node (b698 P) .nil .nil) .nil)) (.node (b250 P) (.node (b378 P) (.node (b634 P) .nil .nil) .nil) (.node (b506 P) (.node (b762 P) .nil .nil) .nil)))))) (.node (b14 P) (.node (b22 P) (.node (b38 P) (.node (b70 P) (.node (b134 P) (.node (b262 P) (.node (b518 P) .nil .nil) .nil) (.node (b390 P) (.node (b646 P) .nil .nil) .nil)) (.node (b198 P) (.node (b326 P) (.node (b582 P) .nil .nil) .nil) (.node (b454 P) (.node (b710 P) .nil .nil) .nil))) (.node (b102 P) (.node (b166 P) (.node (b294 P) (.node (b550 P) .nil .nil) .nil) (.node (b422 P) (.node (b678 P) .nil .nil) .nil)) (.node (b230 P) (.node (b358 P) (.node (b614 P) .nil .nil) .nil) (.node (b486 P) (.node (b742 P) .nil .nil) .nil)))) (.node (b54 P) (.node (b86 P) (.node (b150 P) (.node (b278 P) (.node (b534 P) .nil .nil) .nil) (.node (b406 P) (.node (b662 P) .nil .nil) .nil)) (.node (b214 P) (.node (b342 P) (.node (b598 P) .nil .nil) .nil) (.node (b470 P) (.node (b726 P) .nil .nil) .nil))) (.node (b118 P) (.node (b182 P) (.node (b310 P) (.node (b566 P) .nil .nil) .nil) (.node (b438 P) (.node (b694 P) .nil .nil) .nil)) (.node (b246 P) (.node (b374 P) (.node (b630 P) .nil .nil) .nil) (.node (b502 P) (.node (b758 P) .nil .nil) .nil))))) (.node (b30 P) (.node (b46 P) (.node (b78 P) (.node (b142 P) (.node (b270 P) (.node (b526 P) .nil .nil) .nil) (.node (b398 P) (.node (b654 P) .nil .nil) .nil)) (.node (b206 P) (.node (b334 P) (.node (b590 P) .nil .nil) .nil) (.node (b462 P) (.node (b718 P) .nil .nil) .nil))) (.node (b110 P) (.node (b174 P) (.node (b302 P) (.node (b558 P) .nil .nil) .nil) (.node (b430 P) (.node (b686 P) .nil .nil) .nil)) (.node (b238 P) (.node (b366 P) (.node (b622 P) .nil .nil) .nil) (.node (b494 P) (.node (b750 P) .nil .nil) .nil)))) (.node (b62 P) (.node (b94 P) (.node (b158 P) (.node (b286 P) (.node (b542 P) .nil .nil) .nil) (.node (b414 P) (.node (b670 P) .nil .nil) .nil)) (.node (b222 P) (.node (b350 P) (.node (b606 P) .nil .nil) .nil) (.node (b478 P) (.node (b734 P) .nil .nil) .nil))) (.node (b126 P) (.node (b190 P) (.node (b318 P) (.node (b574 P) .nil .nil) .nil) (.node (b446 P) (.node (b702 P) .nil .nil) .nil)) (.node (b254 P) (.node (b382 P) (.node (b638 P) .nil .nil) .nil) (.node (b510 P) .nil .nil)))))))))

noncomputable def EW : Env := { scope := PW.main.scope, locals := mainNs, globals := mainNs, cells := [], code := .ref 36, frame := some 37 }
noncomputable def CW : Code := .body BW EW
noncomputable def QW : Pos := ⟨0, 0, 0, 0⟩
noncomputable def QK : Pos := ⟨19, 0, 19, 18⟩
noncomputable abbrev TW := PySem.W.Fast.tw14364793385576792824
noncomputable def S1 (w : World) (os : OsState) : SharedT := ⟨T1 w.params, 38, {}, #[], {}, 324, os⟩
noncomputable def SC15 (w : World) (os : OsState) : SharedT := ⟨TC15 w.params, 149, {}, #[], {}, 665, os⟩
noncomputable def SC16 (w : World) (os : OsState) : SharedT := ⟨TC16 w.params, 379, {}, #[], {}, 927, os⟩
noncomputable def SC17 (w : World) (os : OsState) : SharedT := ⟨TC17 w.params, 626, {}, #[], {}, 1214, os⟩
noncomputable def SC26 (w : World) (os : OsState) : SharedT := ⟨TC26 w.params, 763, {}, #[], {}, 1413, os⟩
noncomputable def Q15 : Pos := ⟨113, 0, 114, 21⟩
noncomputable def Q16 : Pos := ⟨115, 0, 284, 17⟩
noncomputable def Q17 : Pos := ⟨285, 0, 489, 17⟩
noncomputable def Q26 : Pos := ⟨554, 0, 805, 20⟩
noncomputable def SB (w : World) (os : OsState) : SharedT := ⟨TB w.params, 62, {}, #[], {}, 529, os⟩
section
variable {tb : String → Option Builtin} {p : Program} {w : World} {n₀ : Nat} {ann : Option Value}
noncomputable def topRunT (tb : String → Option Builtin) (p : Program) (w : World) (n₀ : Nat) (ann : Option Value) : Nat → SharedT → Thread → Option SharedT
  | 0, _, _ => none
  | n + 1, s, t => match through t with
    | true => some s
    | false => match PySem.W.Fast.tw6613529449190102663 n₀ ann t with
      | false => none
      | true => match PySem.W.Fast.tw10156331382660048174 (PySem.W.Fast.tw11892475500146522536 tb) p w s t with
        | some (s', t') => topRunT tb p w n₀ ann n s' t'
        | none => none
theorem topRunT_of : ∀ {n : Nat} {s s' : SharedT} {t : Thread}, topRunT tb p w n₀ ann n s t = some s' → topRun tb p w n₀ ann n s.abs t = some s'.abs
  | 0, _, _, _, h => by cases h
  | n + 1, s, s', t, h => by
    unfold topRunT at h
    rw [← PySem.W.Fast.te10156331382660048174, ← PySem.W.Fast.te11892475500146522536, ← PySem.W.Fast.te6613529449190102663] at h
    unfold topRun
    cases ht : through t with
    | true => rw [ht] at h; cases h; rfl
    | false =>
      rw [ht] at h
      cases hk : stepOk n₀ ann t with
      | false => rw [hk] at h; cases h
      | true =>
        rw [hk] at h
        cases hs : stepT (denote tb) p w s t with
        | none => rw [hs] at h; cases h
        | some r => obtain ⟨s₂, t₂⟩ := r; rw [hs] at h; dsimp only; rw [stepT_spec hs]; exact topRunT_of h
end
noncomputable def VW : Program := view PW [0, 1, 2, 4, 5, 7, 8, 10, 12, 13, 14, 15, 16, 17, 18, 19, 21, 22, 23, 24, 25, 26, 28, 31, 32, 33, 34]
noncomputable def LS : List Str := [nS "_twin_re_1", nS "_special_chars_map", nS "UnsupportedOperation", nS "IOBase", nS "BufferedIOBase", nS "TextIOBase", nS "BytesIO", nS "StringIO", nS "shlex", nS "split"]
noncomputable def KK (P : Params) : Frag := (nat_lit 2, b2 P) :: (nat_lit 3, b3 P) :: (nat_lit 38, b38 P) :: (nat_lit 40, b40 P) :: (nat_lit 41, b41 P) :: (nat_lit 43, b43 P) :: (nat_lit 44, b44 P) :: (nat_lit 45, b45 P) :: (nat_lit 47, b47 P) :: (nat_lit 48, b48 P) :: (nat_lit 50, b50 P) :: (nat_lit 51, b51 P) :: (nat_lit 55, b55 P) :: (nat_lit 56, b56 P) :: (nat_lit 58, b58 P) :: (nat_lit 62, b62 P) :: (nat_lit 64, b64 P) :: (nat_lit 65, b65 P) :: (nat_lit 67, b67 P) :: (nat_lit 68, b68 P) :: (nat_lit 69, b69 P) :: (nat_lit 71, b71 P) :: (nat_lit 72, b72 P) :: (nat_lit 74, b74 P) :: (nat_lit 75, b75 P) :: (nat_lit 76, b76 P) :: (nat_lit 78, b78 P) :: (nat_lit 79, b79 P) :: (nat_lit 81, b81 P) :: (nat_lit 82, b82 P) :: (nat_lit 83, b83 P) :: (nat_lit 85, b85 P) :: (nat_lit 86, b86 P) :: (nat_lit 88, b88 P) :: (nat_lit 89, b89 P) :: (nat_lit 90, b90 P) :: (nat_lit 97, b97 P) :: (nat_lit 98, b98 P) :: (nat_lit 99, b99 P) :: (nat_lit 100, b100 P) :: (nat_lit 110, b110 P) :: (nat_lit 112, b112 P) :: (nat_lit 113, b113 P) :: (nat_lit 115, b115 P) :: (nat_lit 116, b116 P) :: (nat_lit 117, b117 P) :: (nat_lit 118, b118 P) :: (nat_lit 119, b119 P) :: (nat_lit 120, b120 P) :: (nat_lit 121, b121 P) :: (nat_lit 122, b122 P) :: (nat_lit 125, b125 P) :: (nat_lit 132, b132 P) :: (nat_lit 133, b133 P) :: (nat_lit 134, b134 P) :: (nat_lit 137, b137 P) :: (nat_lit 144, b144 P) :: (nat_lit 145, b145 P) :: (nat_lit 146, b146 P) :: (nat_lit 149, b149 P) :: (nat_lit 156, b156 P) :: (nat_lit 157, b157 P) :: (nat_lit 159, b159 P) :: (nat_lit 160, b160 P) :: (nat_lit 162, b162 P) :: (nat_lit 163, b163 P) :: (nat_lit 164, b164 P) :: (nat_lit 166, b166 P) :: (nat_lit 167, b167 P) :: (nat_lit 169, b169 P) :: (nat_lit 170, b170 P) :: (nat_lit 171, b171 P) :: (nat_lit 173, b173 P) :: (nat_lit 174, b174 P) :: (nat_lit 176, b176 P) :: (nat_lit 177, b177 P) :: (nat_lit 178, b178 P) :: (nat_lit 180, b180 P) :: (nat_lit 181, b181 P) :: (nat_lit 183, b183 P) :: (nat_lit 184, b184 P) :: (nat_lit 185, b185 P) :: (nat_lit 186, b186 P) :: (nat_lit 188, b188 P) :: (nat_lit 189, b189 P) :: (nat_lit 191, b191 P) :: (nat_lit 192, b192 P) :: (nat_lit 193, b193 P) :: (nat_lit 195, b195 P) :: (nat_lit 196, b196 P) :: (nat_lit 198, b198 P) :: (nat_lit 199, b199 P) :: (nat_lit 200, b200 P) :: (nat_lit 202, b202 P) :: (nat_lit 203, b203 P) :: (nat_lit 205, b205 P) :: (nat_lit 206, b206 P) :: (nat_lit 207, b207 P) :: (nat_lit 209, b209 P) :: (nat_lit 210, b210 P) :: (nat_lit 212, b212 P) :: (nat_lit 213, b213 P) :: (nat_lit 214, b214 P) :: (nat_lit 216, b216 P) :: (nat_lit 217, b217 P) :: (nat_lit 219, b219 P) :: (nat_lit 220, b220 P) :: (nat_lit 221, b221 P) :: (nat_lit 223, b223 P) :: (nat_lit 224, b224 P) :: (nat_lit 226, b226 P) :: (nat_lit 227, b227 P) :: (nat_lit 228, b228 P) :: (nat_lit 230, b230 P) :: (nat_lit 231, b231 P) :: (nat_lit 233, b233 P) :: (nat_lit 234, b234 P) :: (nat_lit 235, b235 P) :: (nat_lit 237, b237 P) :: (nat_lit 238, b238 P) :: (nat_lit 240, b240 P) :: (nat_lit 241, b241 P) :: (nat_lit 242, b242 P) :: (nat_lit 244, b244 P) :: (nat_lit 245, b245 P) :: (nat_lit 247, b247 P) :: (nat_lit 248, b248 P) :: (nat_lit 249, b249 P) :: (nat_lit 251, b251 P) :: (nat_lit 252, b252 P) :: (nat_lit 254, b254 P) :: (nat_lit 255, b255 P) :: (nat_lit 256, b256 P) :: (nat_lit 258, b258 P) :: (nat_lit 259, b259 P) :: (nat_lit 261, b261 P) :: (nat_lit 262, b262 P) :: (nat_lit 263, b263 P) :: (nat_lit 265, b265 P) :: (nat_lit 266, b266 P) :: (nat_lit 268, b268 P) :: (nat_lit 269, b269 P) :: (nat_lit 270, b270 P) :: (nat_lit 272, b272 P) :: (nat_lit 273, b273 P) :: (nat_lit 275, b275 P) :: (nat_lit 276, b276 P) :: (nat_lit 277, b277 P) :: (nat_lit 278, b278 P) :: (nat_lit 280, b280 P) :: (nat_lit 281, b281 P) :: (nat_lit 283, b283 P) :: (nat_lit 284, b284 P) :: (nat_lit 285, b285 P) :: (nat_lit 286, b286 P) :: (nat_lit 288, b288 P) :: (nat_lit 289, b289 P) :: (nat_lit 291, b291 P) :: (nat_lit 292, b292 P) :: (nat_lit 293, b293 P) :: (nat_lit 294, b294 P) :: (nat_lit 296, b296 P) :: (nat_lit 297, b297 P) :: (nat_lit 299, b299 P) :: (nat_lit 300, b300 P) :: (nat_lit 301, b301 P) :: (nat_lit 302, b302 P) :: (nat_lit 304, b304 P) :: (nat_lit 305, b305 P) :: (nat_lit 307, b307 P) :: (nat_lit 308, b308 P) :: (nat_lit 309, b309 P) :: (nat_lit 311, b311 P) :: (nat_lit 312, b312 P) :: (nat_lit 314, b314 P) :: (nat_lit 315, b315 P) :: (nat_lit 316, b316 P) :: (nat_lit 318, b318 P) :: (nat_lit 319, b319 P) :: (nat_lit 321, b321 P) :: (nat_lit 322, b322 P) :: (nat_lit 323, b323 P) :: (nat_lit 324, b324 P) :: (nat_lit 326, b326 P) :: (nat_lit 327, b327 P) :: (nat_lit 329, b329 P) :: (nat_lit 330, b330 P) :: (nat_lit 331, b331 P) :: (nat_lit 332, b332 P) :: (nat_lit 334, b334 P) :: (nat_lit 335, b335 P) :: (nat_lit 337, b337 P) :: (nat_lit 338, b338 P) :: (nat_lit 339, b339 P) :: (nat_lit 341, b341 P) :: (nat_lit 342, b342 P) :: (nat_lit 344, b344 P) :: (nat_lit 345, b345 P) :: (nat_lit 346, b346 P) :: (nat_lit 348, b348 P) :: (nat_lit 349, b349 P) :: (nat_lit 351, b351 P) :: (nat_lit 352, b352 P) :: (nat_lit 353, b353 P) :: (nat_lit 355, b355 P) :: (nat_lit 356, b356 P) :: (nat_lit 358, b358 P) :: (nat_lit 359, b359 P) :: (nat_lit 360, b360 P) :: (nat_lit 362, b362 P) :: (nat_lit 363, b363 P) :: (nat_lit 365, b365 P) :: (nat_lit 366, b366 P) :: (nat_lit 367, b367 P) :: (nat_lit 369, b369 P) :: (nat_lit 370, b370 P) :: (nat_lit 372, b372 P) :: (nat_lit 373, b373 P) :: (nat_lit 374, b374 P) :: (nat_lit 375, b375 P) :: (nat_lit 376, b376 P) :: (nat_lit 379, b379 P) :: (nat_lit 386, b386 P) :: (nat_lit 387, b387 P) :: (nat_lit 389, b389 P) :: (nat_lit 390, b390 P) :: (nat_lit 392, b392 P) :: (nat_lit 393, b393 P) :: (nat_lit 394, b394 P) :: (nat_lit 396, b396 P) :: (nat_lit 397, b397 P) :: (nat_lit 399, b399 P) :: (nat_lit 400, b400 P) :: (nat_lit 401, b401 P) :: (nat_lit 403, b403 P) :: (nat_lit 404, b404 P) :: (nat_lit 406, b406 P) :: (nat_lit 407, b407 P) :: (nat_lit 408, b408 P) :: (nat_lit 410, b410 P) :: (nat_lit 411, b411 P) :: (nat_lit 413, b413 P) :: (nat_lit 414, b414 P) :: (nat_lit 415, b415 P) :: (nat_lit 417, b417 P) :: (nat_lit 418, b418 P) :: (nat_lit 420, b420 P) :: (nat_lit 421, b421 P) :: (nat_lit 422, b422 P) :: (nat_lit 424, b424 P) :: (nat_lit 425, b425 P) :: (nat_lit 427, b427 P) :: (nat_lit 428, b428 P) :: (nat_lit 429, b429 P) :: (nat_lit 430, b430 P) :: (nat_lit 432, b432 P) :: (nat_lit 433, b433 P) :: (nat_lit 435, b435 P) :: (nat_lit 436, b436 P) :: (nat_lit 437, b437 P) :: (nat_lit 438, b438 P) :: (nat_lit 440, b440 P) :: (nat_lit 441, b441 P) :: (nat_lit 443, b443 P) :: (nat_lit 444, b444 P) :: (nat_lit 445, b445 P) :: (nat_lit 446, b446 P) :: (nat_lit 448, b448 P) :: (nat_lit 449, b449 P) :: (nat_lit 451, b451 P) :: (nat_lit 452, b452 P) :: (nat_lit 453, b453 P) :: (nat_lit 454, b454 P) :: (nat_lit 456, b456 P) :: (nat_lit 457, b457 P) :: (nat_lit 459, b459 P) :: (nat_lit 460, b460 P) :: (nat_lit 461, b461 P) :: (nat_lit 462, b462 P) :: (nat_lit 464, b464 P) :: (nat_lit 465, b465 P) :: (nat_lit 467, b467 P) :: (nat_lit 468, b468 P) :: (nat_lit 469, b469 P) :: (nat_lit 471, b471 P) :: (nat_lit 472, b472 P) :: (nat_lit 474, b474 P) :: (nat_lit 475, b475 P) :: (nat_lit 476, b476 P) :: (nat_lit 478, b478 P) :: (nat_lit 479, b479 P) :: (nat_lit 481, b481 P) :: (nat_lit 482, b482 P) :: (nat_lit 483, b483 P) :: (nat_lit 485, b485 P) :: (nat_lit 486, b486 P) :: (nat_lit 488, b488 P) :: (nat_lit 489, b489 P) :: (nat_lit 490, b490 P) :: (nat_lit 492, b492 P) :: (nat_lit 493, b493 P) :: (nat_lit 495, b495 P) :: (nat_lit 496, b496 P) :: (nat_lit 497, b497 P) :: (nat_lit 499, b499 P) :: (nat_lit 500, b500 P) :: (nat_lit 502, b502 P) :: (nat_lit 503, b503 P) :: (nat_lit 504, b504 P) :: (nat_lit 506, b506 P) :: (nat_lit 507, b507 P) :: (nat_lit 509, b509 P) :: (nat_lit 510, b510 P) :: (nat_lit 511, b511 P) :: (nat_lit 513, b513 P) :: (nat_lit 514, b514 P) :: (nat_lit 516, b516 P) :: (nat_lit 517, b517 P) :: (nat_lit 518, b518 P) :: (nat_lit 520, b520 P) :: (nat_lit 521, b521 P) :: (nat_lit 523, b523 P) :: (nat_lit 524, b524 P) :: (nat_lit 525, b525 P) :: (nat_lit 527, b527 P) :: (nat_lit 528, b528 P) :: (nat_lit 530, b530 P) :: (nat_lit 531, b531 P) :: (nat_lit 532, b532 P) :: (nat_lit 534, b534 P) :: (nat_lit 535, b535 P) :: (nat_lit 537, b537 P) :: (nat_lit 538, b538 P) :: (nat_lit 539, b539 P) :: (nat_lit 541, b541 P) :: (nat_lit 542, b542 P) :: (nat_lit 544, b544 P) :: (nat_lit 545, b545 P) :: (nat_lit 546, b546 P) :: (nat_lit 547, b547 P) :: (nat_lit 549, b549 P) :: (nat_lit 550, b550 P) :: (nat_lit 552, b552 P) :: (nat_lit 553, b553 P) :: (nat_lit 554, b554 P) :: (nat_lit 555, b555 P) :: (nat_lit 557, b557 P) :: (nat_lit 558, b558 P) :: (nat_lit 560, b560 P) :: (nat_lit 561, b561 P) :: (nat_lit 562, b562 P) :: (nat_lit 563, b563 P) :: (nat_lit 565, b565 P) :: (nat_lit 566, b566 P) :: (nat_lit 568, b568 P) :: (nat_lit 569, b569 P) :: (nat_lit 570, b570 P) :: (nat_lit 571, b571 P) :: (nat_lit 573, b573 P) :: (nat_lit 574, b574 P) :: (nat_lit 576, b576 P) :: (nat_lit 577, b577 P) :: (nat_lit 578, b578 P) :: (nat_lit 579, b579 P) :: (nat_lit 581, b581 P) :: (nat_lit 582, b582 P) :: (nat_lit 584, b584 P) :: (nat_lit 585, b585 P) :: (nat_lit 586, b586 P) :: (nat_lit 588, b588 P) :: (nat_lit 589, b589 P) :: (nat_lit 591, b591 P) :: (nat_lit 592, b592 P) :: (nat_lit 593, b593 P) :: (nat_lit 595, b595 P) :: (nat_lit 596, b596 P) :: (nat_lit 598, b598 P) :: (nat_lit 599, b599 P) :: (nat_lit 600, b600 P) :: (nat_lit 602, b602 P) :: (nat_lit 603, b603 P) :: (nat_lit 605, b605 P) :: (nat_lit 606, b606 P) :: (nat_lit 607, b607 P) :: (nat_lit 609, b609 P) :: (nat_lit 610, b610 P) :: (nat_lit 612, b612 P) :: (nat_lit 613, b613 P) :: (nat_lit 614, b614 P) :: (nat_lit 616, b616 P) :: (nat_lit 617, b617 P) :: (nat_lit 619, b619 P) :: (nat_lit 620, b620 P) :: (nat_lit 621, b621 P) :: (nat_lit 622, b622 P) :: (nat_lit 623, b623 P) :: (nat_lit 626, b626 P) :: (nat_lit 628, b628 P) :: (nat_lit 629, b629 P) :: (nat_lit 631, b631 P) :: (nat_lit 632, b632 P) :: (nat_lit 633, b633 P) :: (nat_lit 635, b635 P) :: (nat_lit 636, b636 P) :: (nat_lit 638, b638 P) :: (nat_lit 639, b639 P) :: (nat_lit 640, b640 P) :: (nat_lit 642, b642 P) :: (nat_lit 643, b643 P) :: (nat_lit 645, b645 P) :: (nat_lit 646, b646 P) :: (nat_lit 647, b647 P) :: (nat_lit 649, b649 P) :: (nat_lit 650, b650 P) :: (nat_lit 652, b652 P) :: (nat_lit 653, b653 P) :: (nat_lit 654, b654 P) :: (nat_lit 656, b656 P) :: (nat_lit 657, b657 P) :: (nat_lit 659, b659 P) :: (nat_lit 660, b660 P) :: (nat_lit 661, b661 P) :: (nat_lit 663, b663 P) :: (nat_lit 664, b664 P) :: (nat_lit 666, b666 P) :: (nat_lit 667, b667 P) :: (nat_lit 675, b675 P) :: (nat_lit 676, b676 P) :: (nat_lit 678, b678 P) :: (nat_lit 679, b679 P) :: (nat_lit 681, b681 P) :: (nat_lit 682, b682 P) :: (nat_lit 683, b683 P) :: (nat_lit 685, b685 P) :: (nat_lit 686, b686 P) :: (nat_lit 688, b688 P) :: (nat_lit 689, b689 P) :: (nat_lit 690, b690 P) :: (nat_lit 691, b691 P) :: (nat_lit 693, b693 P) :: (nat_lit 694, b694 P) :: (nat_lit 696, b696 P) :: (nat_lit 697, b697 P) :: (nat_lit 698, b698 P) :: (nat_lit 699, b699 P) :: (nat_lit 701, b701 P) :: (nat_lit 702, b702 P) :: (nat_lit 704, b704 P) :: (nat_lit 705, b705 P) :: (nat_lit 706, b706 P) :: (nat_lit 708, b708 P) :: (nat_lit 709, b709 P) :: (nat_lit 711, b711 P) :: (nat_lit 712, b712 P) :: (nat_lit 713, b713 P) :: (nat_lit 715, b715 P) :: (nat_lit 716, b716 P) :: (nat_lit 718, b718 P) :: (nat_lit 719, b719 P) :: (nat_lit 720, b720 P) :: (nat_lit 722, b722 P) :: (nat_lit 723, b723 P) :: (nat_lit 725, b725 P) :: (nat_lit 726, b726 P) :: (nat_lit 727, b727 P) :: (nat_lit 729, b729 P) :: (nat_lit 730, b730 P) :: (nat_lit 732, b732 P) :: (nat_lit 733, b733 P) :: (nat_lit 734, b734 P) :: (nat_lit 735, b735 P) :: (nat_lit 737, b737 P) :: (nat_lit 738, b738 P) :: (nat_lit 740, b740 P) :: (nat_lit 741, b741 P) :: (nat_lit 742, b742 P) :: (nat_lit 744, b744 P) :: (nat_lit 745, b745 P) :: (nat_lit 747, b747 P) :: (nat_lit 748, b748 P) :: (nat_lit 749, b749 P) :: (nat_lit 751, b751 P) :: (nat_lit 752, b752 P) :: (nat_lit 754, b754 P) :: (nat_lit 755, b755 P) :: (nat_lit 756, b756 P) :: (nat_lit 757, b757 P) :: (nat_lit 758, b758 P) :: (nat_lit 759, b759 P) :: (nat_lit 760, b760 P) :: (nat_lit 763, b763 P) :: (nat_lit 764, b764 P) :: (nat_lit 766, b766 P) :: (nat_lit 767, b767 P) :: (nat_lit 769, b769 P) :: (nat_lit 770, b770 P) :: (nat_lit 771, b771 P) :: (nat_lit 773, b773 P) :: (nat_lit 774, b774 P) :: (nat_lit 776, b776 P) :: (nat_lit 777, b777 P) :: (nat_lit 778, b778 P) :: (nat_lit 780, b780 P) :: (nat_lit 781, b781 P) :: (nat_lit 783, b783 P) :: (nat_lit 784, b784 P) :: (nat_lit 785, b785 P) :: (nat_lit 787, b787 P) :: (nat_lit 788, b788 P) :: (nat_lit 790, b790 P) :: (nat_lit 791, b791 P) :: (nat_lit 792, b792 P) :: (nat_lit 795, b795 P) :: (nat_lit 796, b796 P) :: []
noncomputable def KA : List Addr := [nat_lit 2, nat_lit 3, nat_lit 38, nat_lit 40, nat_lit 41, nat_lit 43, nat_lit 44, nat_lit 45, nat_lit 47, nat_lit 48, nat_lit 50, nat_lit 51, nat_lit 55, nat_lit 56, nat_lit 58, nat_lit 62, nat_lit 64, nat_lit 65, nat_lit 67, nat_lit 68, nat_lit 69, nat_lit 71, nat_lit 72, nat_lit 74, nat_lit 75, nat_lit 76, nat_lit 78, nat_lit 79, nat_lit 81, nat_lit 82, nat_lit 83, nat_lit 85, nat_lit 86, nat_lit 88, nat_lit 89, nat_lit 90, nat_lit 97, nat_lit 98, nat_lit 99, nat_lit 100, nat_lit 110, nat_lit 112, nat_lit 113, nat_lit 115, nat_lit 116, nat_lit 117, nat_lit 118, nat_lit 119, nat_lit 120, nat_lit 121, nat_lit 122, nat_lit 125, nat_lit 132, nat_lit 133, nat_lit 134, nat_lit 137, nat_lit 144, nat_lit 145, nat_lit 146, nat_lit 149, nat_lit 156, nat_lit 157, nat_lit 159, nat_lit 160, nat_lit 162, nat_lit 163, nat_lit 164, nat_lit 166, nat_lit 167, nat_lit 169, nat_lit 170, nat_lit 171, nat_lit 173, nat_lit 174, nat_lit 176, nat_lit 177, nat_lit 178, nat_lit 180, nat_lit 181, nat_lit 183, nat_lit 184, nat_lit 185, nat_lit 186, nat_lit 188, nat_lit 189, nat_lit 191, nat_lit 192, nat_lit 193, nat_lit 195, nat_lit 196, nat_lit 198, nat_lit 199, nat_lit 200, nat_lit 202, nat_lit 203, nat_lit 205, nat_lit 206, nat_lit 207, nat_lit 209, nat_lit 210, nat_lit 212, nat_lit 213, nat_lit 214, nat_lit 216, nat_lit 217, nat_lit 219, nat_lit 220, nat_lit 221, nat_lit 223, nat_lit 224, nat_lit 226, nat_lit 227, nat_lit 228, nat_lit 230, nat_lit 231, nat_lit 233, nat_lit 234, nat_lit 235, nat_lit 237, nat_lit 238, nat_lit 240, nat_lit 241, nat_lit 242, nat_lit 244, nat_lit 245, nat_lit 247, nat_lit 248, nat_lit 249, nat_lit 251, nat_lit 252, nat_lit 254, nat_lit 255, nat_lit 256, nat_lit 258, nat_lit 259, nat_lit 261, nat_lit 262, nat_lit 263, nat_lit 265, nat_lit 266, nat_lit 268, nat_lit 269, nat_lit 270, nat_lit 272, nat_lit 273, nat_lit 275, nat_lit 276, nat_lit 277, nat_lit 278, nat_lit 280, nat_lit 281, nat_lit 283, nat_lit 284, nat_lit 285, nat_lit 286, nat_lit 288, nat_lit 289, nat_lit 291, nat_lit 292, nat_lit 293, nat_lit 294, nat_lit 296, nat_lit 297, nat_lit 299, nat_lit 300, nat_lit 301, nat_lit 302, nat_lit 304, nat_lit 305, nat_lit 307, nat_lit 308, nat_lit 309, nat_lit 311, nat_lit 312, nat_lit 314, nat_lit 315, nat_lit 316, nat_lit 318, nat_lit 319, nat_lit 321, nat_lit 322, nat_lit 323, nat_lit 324, nat_lit 326, nat_lit 327, nat_lit 329, nat_lit 330, nat_lit 331, nat_lit 332, nat_lit 334, nat_lit 335, nat_lit 337, nat_lit 338, nat_lit 339, nat_lit 341, nat_lit 342, nat_lit 344, nat_lit 345, nat_lit 346, nat_lit 348, nat_lit 349, nat_lit 351, nat_lit 352, nat_lit 353, nat_lit 355, nat_lit 356, nat_lit 358, nat_lit 359, nat_lit 360, nat_lit 362, nat_lit 363, nat_lit 365, nat_lit 366, nat_lit 367, nat_lit 369, nat_lit 370, nat_lit 372, nat_lit 373, nat_lit 374, nat_lit 375, nat_lit 376, nat_lit 379, nat_lit 386, nat_lit 387, nat_lit 389, nat_lit 390, nat_lit 392, nat_lit 393, nat_lit 394, nat_lit 396, nat_lit 397, nat_lit 399, nat_lit 400, nat_lit 401, nat_lit 403, nat_lit 404, nat_lit 406, nat_lit 407, nat_lit 408, nat_lit 410, nat_lit 411, nat_lit 413, nat_lit 414, nat_lit 415, nat_lit 417, nat_lit 418, nat_lit 420, nat_lit 421, nat_lit 422, nat_lit 424, nat_lit 425, nat_lit 427, nat_lit 428, nat_lit 429, nat_lit 430, nat_lit 432, nat_lit 433, nat_lit 435, nat_lit 436, nat_lit 437, nat_lit 438, nat_lit 440, nat_lit 441, nat_lit 443, nat_lit 444, nat_lit 445, nat_lit 446, nat_lit 448, nat_lit 449, nat_lit 451, nat_lit 452, nat_lit 453, nat_lit 454, nat_lit 456, nat_lit 457, nat_lit 459, nat_lit 460, nat_lit 461, nat_lit 462, nat_lit 464, nat_lit 465, nat_lit 467, nat_lit 468, nat_lit 469, nat_lit 471, nat_lit 472, nat_lit 474, nat_lit 475, nat_lit 476, nat_lit 478, nat_lit 479, nat_lit 481, nat_lit 482, nat_lit 483, nat_lit 485, nat_lit 486, nat_lit 488, nat_lit 489, nat_lit 490, nat_lit 492, nat_lit 493, nat_lit 495, nat_lit 496, nat_lit 497, nat_lit 499, nat_lit 500, nat_lit 502, nat_lit 503, nat_lit 504, nat_lit 506, nat_lit 507, nat_lit 509, nat_lit 510, nat_lit 511, nat_lit 513, nat_lit 514, nat_lit 516, nat_lit 517, nat_lit 518, nat_lit 520, nat_lit 521, nat_lit 523, nat_lit 524, nat_lit 525, nat_lit 527, nat_lit 528, nat_lit 530, nat_lit 531, nat_lit 532, nat_lit 534, nat_lit 535, nat_lit 537, nat_lit 538, nat_lit 539, nat_lit 541, nat_lit 542, nat_lit 544, nat_lit 545, nat_lit 546, nat_lit 547, nat_lit 549, nat_lit 550, nat_lit 552, nat_lit 553, nat_lit 554, nat_lit 555, nat_lit 557, nat_lit 558, nat_lit 560, nat_lit 561, nat_lit 562, nat_lit 563, nat_lit 565, nat_lit 566, nat_lit 568, nat_lit 569, nat_lit 570, nat_lit 571, nat_lit 573, nat_lit 574, nat_lit 576, nat_lit 577, nat_lit 578, nat_lit 579, nat_lit 581, nat_lit 582, nat_lit 584, nat_lit 585, nat_lit 586, nat_lit 588, nat_lit 589, nat_lit 591, nat_lit 592, nat_lit 593, nat_lit 595, nat_lit 596, nat_lit 598, nat_lit 599, nat_lit 600, nat_lit 602, nat_lit 603, nat_lit 605, nat_lit 606, nat_lit 607, nat_lit 609, nat_lit 610, nat_lit 612, nat_lit 613, nat_lit 614, nat_lit 616, nat_lit 617, nat_lit 619, nat_lit 620, nat_lit 621, nat_lit 622, nat_lit 623, nat_lit 626, nat_lit 628, nat_lit 629, nat_lit 631, nat_lit 632, nat_lit 633, nat_lit 635, nat_lit 636, nat_lit 638, nat_lit 639, nat_lit 640, nat_lit 642, nat_lit 643, nat_lit 645, nat_lit 646, nat_lit 647, nat_lit 649, nat_lit 650, nat_lit 652, nat_lit 653, nat_lit 654, nat_lit 656, nat_lit 657, nat_lit 659, nat_lit 660, nat_lit 661, nat_lit 663, nat_lit 664, nat_lit 666, nat_lit 667, nat_lit 675, nat_lit 676, nat_lit 678, nat_lit 679, nat_lit 681, nat_lit 682, nat_lit 683, nat_lit 685, nat_lit 686, nat_lit 688, nat_lit 689, nat_lit 690, nat_lit 691, nat_lit 693, nat_lit 694, nat_lit 696, nat_lit 697, nat_lit 698, nat_lit 699, nat_lit 701, nat_lit 702, nat_lit 704, nat_lit 705, nat_lit 706, nat_lit 708, nat_lit 709, nat_lit 711, nat_lit 712, nat_lit 713, nat_lit 715, nat_lit 716, nat_lit 718, nat_lit 719, nat_lit 720, nat_lit 722, nat_lit 723, nat_lit 725, nat_lit 726, nat_lit 727, nat_lit 729, nat_lit 730, nat_lit 732, nat_lit 733, nat_lit 734, nat_lit 735, nat_lit 737, nat_lit 738, nat_lit 740, nat_lit 741, nat_lit 742, nat_lit 744, nat_lit 745, nat_lit 747, nat_lit 748, nat_lit 749, nat_lit 751, nat_lit 752, nat_lit 754, nat_lit 755, nat_lit 756, nat_lit 757, nat_lit 758, nat_lit 759, nat_lit 760, nat_lit 763, nat_lit 764, nat_lit 766, nat_lit 767, nat_lit 769, nat_lit 770, nat_lit 771, nat_lit 773, nat_lit 774, nat_lit 776, nat_lit 777, nat_lit 778, nat_lit 780, nat_lit 781, nat_lit 783, nat_lit 784, nat_lit 785, nat_lit 787, nat_lit 788, nat_lit 790, nat_lit 791, nat_lit 792, nat_lit 795, nat_lit 796]

theorem KA_eq (P : Params) : KA = (KK P).map (·.1) := by rfl
noncomputable abbrev HK : Hook := kmHook KK KA KA_eq [70]
noncomputable def XT (s : Shared) : Bool := xlAt VW [] s && recOk (RowW.records PySem.Challenge.rw_ik0204_01.row.toRowW) s
noncomputable abbrev wf (w : World) (a b : Bool) : World := (w.withFollow "comprehension-iter-twice" a).withFollow "special-get-raises" b
end Mine
end
section
open PySem PySem.W
set_option maxRecDepth 100000
namespace Mine
theorem at_open (w : World) : (fencedOpening TW PW w 13000).map (fun s => (s.heap, s.gens, s.drawn, s.toks)) = some (H0 w.params, #[], {}, 318) := by
  unfold fencedOpening
  rw [PySem.W.Fast.te10274390034422433532, PySem.W.Fast.te1435165496053646825, PySem.W.Fast.te14289696077712309145]
  kernel_rfl
theorem at_size (w : World) : ((H0 w.params).isNs mainGlobals && (#[] : Array GenState).size == 0, (H0 w.params).objs.size, (H0 w.params).nsMap mainGlobals "__annotations__") = (true, 34, some (.ref 6)) := by kernel_rfl
theorem at_pre (w : World) (os : OsState) : topGo TW PW w 34 (some (.ref 6)) 12 ⟨H0 w.params, #[], {}, 318, os⟩ (topStub PW) = some ((S1 w os).abs, ⟨denote TW CW, CW, QW, [topFrame QW]⟩) := by kernel_rfl
theorem at_block (w : World) (os : OsState) : segRunT TW PW w 34 (some (.ref 6)) 1 1 (S1 w os) (blockOf BW EW CW QW [topFrame QW]) = some (.next, S1 w os, CW, QW) := by unfold blockOf; rw [PySem.W.Fast.te10110043849684766642, PySem.W.Fast.te1066825118222455980]; kernel_rfl
noncomputable def Seg1 (w : World) (os : OsState) : Prop := segRunT TW PW w 34 (some (.ref 6)) 1 1600 (S1 w os) (piecesOf (BW.take 6) EW CW QW [topFrame QW]) = some (.next, SB w os, CW, QK)
theorem seg_all (w : World) (os : OsState) : Seg1 (wf w false false) os ∧ Seg1 (wf w false true) os ∧ Seg1 (wf w true false) os ∧ Seg1 (wf w true true) os := by
  refine ⟨?_, ?_, ?_, ?_⟩ <;> (unfold Seg1 piecesOf; rw [PySem.W.Fast.te10110043849684766642, PySem.W.Fast.te12563942051412417395]; kernel_rfl)
theorem at_seg1 (w : World) (os : OsState) : Seg1 w os := by
  have e1 := World.withFollow_self w "comprehension-iter-twice"
  have e2 := World.withFollow_self w "special-get-raises"
  have x : ∃ a b, w = wf w a b := ⟨w.params.followText "comprehension-iter-twice", w.params.followText "special-get-raises", by
    exact ((congrArg (fun v => World.withFollow v "special-get-raises" (w.params.followText "special-get-raises")) e1).trans e2).symm⟩
  obtain ⟨a, b, x⟩ := x
  rw [x]
  cases a <;> cases b
  · exact (seg_all w os).1
  · exact (seg_all w os).2.1
  · exact (seg_all w os).2.2.1
  · exact (seg_all w os).2.2.2
noncomputable def goodT (w : World) (s : SharedT) : Bool := staticsOk (importedModules PW.main.body) (H0 w.params) s.abs.heap && namesBound PW s.abs.heap && gensDone s.abs && laidKept (H0 w.params) s.abs.heap
noncomputable def HSeg (n : Nat) (w : World) (s s' : SharedT) (l : List Stmt) (q q' : Pos) : Prop := segRunT TW PW w 34 (some (.ref 6)) 1 n s (piecesOf l EW CW q [topFrame QW]) = some (.next, s', CW, q')
theorem at_seg25 (w : World) (os : OsState) : HSeg 1100 w (SB w os) (SC15 w os) ((BW.drop 6).take 10) QK Q15 ∧ HSeg 900 w (SC17 w os) (SC26 w os) ((BW.drop 18).take 9) Q17 Q26 := by
  constructor <;> (unfold HSeg piecesOf; rw [PySem.W.Fast.te10110043849684766642, PySem.W.Fast.te12563942051412417395]; kernel_rfl)
theorem at_seg34 (w : World) (os : OsState) : HSeg 1300 w (SC15 w os) (SC16 w os) ((BW.drop 16).take 1) Q15 Q16 ∧ HSeg 1600 w (SC16 w os) (SC17 w os) ((BW.drop 17).take 1) Q16 Q17 := by
  constructor <;> (unfold HSeg piecesOf; rw [PySem.W.Fast.te10110043849684766642, PySem.W.Fast.te12563942051412417395]; kernel_rfl)
noncomputable def lookT (t : SharedT) (a : Addr) : Option Obj := if a < t.n then alive ((t.tree.get a).getD default) else none
noncomputable def obsT (t : SharedT) : List (Option Obj) × List (Option Obj) := (KA.map (lookT t), [70].map (lookT t))
theorem obs_at (t : SharedT) (a : Addr) : (SharedT.abs t).heap.get? a = lookT t a := by
  show (absHeap t.tree t.n t.life).get? a = _
  unfold Heap.get? lookT
  rw [absHeap_at]
  by_cases h : a < t.n
  · rw [if_pos h, if_pos h]
    generalize (t.tree.get a).getD default = o
    obtain ⟨c, d, x, sl⟩ := o
    cases x <;> rfl
  · rw [if_neg h, if_neg h]
theorem obs_eq (t : SharedT) : HK.obs t.abs = obsT t := by
  have e : (SharedT.abs t).heap.get? = lookT t := funext (obs_at t)
  show (KA.map (SharedT.abs t).heap.get?, [70].map (SharedT.abs t).heap.get?) = _
  rw [e]; rfl
theorem at_rest1 (w : World) (os : OsState) : (topRunT TW PW w 34 (some (.ref 6)) 300 (SC26 w os) (restOf (BW.drop 27) EW CW Q26 [topFrame QW])).map (fun t => (goodT w t, openSeen VW LS (importedModules PW.main.body) XT true t.abs)) = some (true, openGood VW LS) := by unfold restOf; rw [PySem.W.Fast.te12563942051412417395, PySem.W.Fast.te4187177175401517315]; kernel_rfl
theorem at_rest2 (w : World) (os : OsState) : (topRunT TW PW w 34 (some (.ref 6)) 300 (SC26 w os) (restOf (BW.drop 27) EW CW Q26 [topFrame QW])).map obsT = some (HK.val w) := by unfold restOf; rw [PySem.W.Fast.te12563942051412417395]; kernel_rfl
theorem seg_app {w : World} {n N : Nat} {s s' : SharedT} {r : Shared} {i k : Nat} {q q' : Pos} (h : HSeg n w s s' ((BW.drop i).take k) q q') (x : topRun TW PW w 34 (some (.ref 6)) N s'.abs (restOf (BW.drop (i + k)) EW CW q' [topFrame QW]) = some r) :
    topRun TW PW w 34 (some (.ref 6)) (n + N) s.abs (restOf (BW.drop i) EW CW q [topFrame QW]) = some r := by
  have r1 := piece_app (segRun_of h) (by rw [← List.drop_drop] at x; exact x)
  rw [List.take_append_drop] at r1
  exact r1
theorem left_own : LeftO PW VW LS XT HK.obs HK.val 13000 := fun w => by
  rw [PySem.W.Fast.te14364793385576792824]
  obtain ⟨⟨h, gs, d, k, os⟩, e, e'⟩ := Option.map_eq_some_iff.mp (at_open w)
  obtain ⟨rfl, rfl, rfl, rfl⟩ : h = H0 w.params ∧ gs = #[] ∧ d = {} ∧ k = 318 := by simpa only [Prod.mk.injEq] using e'
  obtain ⟨z1, z2, z3⟩ : _ ∧ _ ∧ _ := by simpa only [Prod.mk.injEq] using at_size w
  obtain ⟨t, ht, l⟩ := Option.map_eq_some_iff.mp (at_rest1 w os)
  obtain ⟨l1, l2⟩ : _ ∧ _ := by simpa only [Prod.mk.injEq] using l
  have l3 : HK.obs t.abs = HK.val w := by
    have z := at_rest2 w os
    rw [ht] at z
    exact (obs_eq t).trans (Option.some.inj z)
  have y5 := seg_app (at_seg25 w os).2 (topRunT_of ht)
  have y4 := seg_app (at_seg34 w os).2 y5
  have y3 := seg_app (at_seg34 w os).1 y4
  have y2 := seg_app (at_seg25 w os).1 y3
  have r1 := piece_app (segRun_of (at_seg1 w os)) y2
  rw [List.take_append_drop] at r1
  have r2 := piece_block (segRun_of (at_block w os)) r1
  have r3 := go_top (at_pre w os) r2
  have r := topRun_mono 6187 _ _ _ _ r3
  have tf : topFrom TW PW w 13000 ⟨H0 w.params, #[], {}, 318, os⟩ = some t.abs := by
    unfold topFrom
    dsimp only
    rw [z1, z2, z3, show (13000 : Nat) = 12 + (1 + (1600 + (1100 + (1300 + (1600 + (900 + 300)))))) + 6187 from rfl, r]
    show (match goodT w t with | true => some t.abs | false => none) = _
    rw [l1]
  unfold openEnds
  rw [e, Option.bind_some, tf, Option.map_some]
  exact congrArg some (Prod.ext l2 l3)
section
open PySem.TablesWhole
variable {α β : Type} {A : TablesWhole.Alg α} {B : TablesWhole.Alg β} {R : α → β → Prop}
structure RAlg (A : TablesWhole.Alg α) (B : TablesWhole.Alg β) (R : α → β → Prop) : Prop where
  ask : ∀ sc n p, R (A.ask sc n p) (B.ask sc n p)
  check : ∀ w sc n b, R (A.check w sc n b) (B.check w sc n b)
  enter : ∀ sc, R (A.enter sc) (B.enter sc)
  unit : R A.unit B.unit
  bad : R A.bad B.bad
  both : ∀ {a b c d}, R a c → R b d → R (A.both a b) (B.both c d)
variable (H : RAlg A B R)
include H
theorem r_map {γ : Type} (f : γ → α) (g : γ → β) (h : ∀ x, R (f x) (g x)) : ∀ l : List γ, R (A.all (l.map f)) (B.all (l.map g))
  | [] => H.unit
  | x :: l => H.both (h x) (r_map f g h l)
theorem r_bind (cx : TablesWhole.Ctx) (sc : Scope) (n : Str) (p : Option Pos) : R (A.bind cx sc n p) (B.bind cx sc n p) := H.both (H.ask ..) (H.check ..)
theorem r_opt (cx : TablesWhole.Ctx) (sc : Scope) (n : Option Str) (p : Pos) : R (A.optName cx sc n p) (B.optName cx sc n p) := by
  cases n
  · exact H.unit
  · exact r_bind H ..
theorem r_inl (f o : Scope) : R (A.inlined f o) (B.inlined f o) := by
  unfold TablesWhole.Alg.inlined
  split
  · exact H.unit
  · exact r_map H _ _ (fun _ => H.check ..) _
theorem r_names (sc : Scope) (ns : List Str) (p : Pos) : R (A.names sc ns p) (B.names sc ns p) := r_map H _ _ (fun _ => H.ask ..) _
theorem r_params (o : Scope) (p : Arguments) : R (A.params o p) (B.params o p) := r_map H _ _ (fun _ => r_bind H ..) _
theorem r_enter (ch : List Scope) (cls : Option Scope) (gl : List Str) (p o : Scope) : R (A.enterFrom ch cls gl p o) (B.enterFrom ch cls gl p o) := by
  refine H.both (H.enter _) (H.both (H.check ..) (H.both (r_map H _ _ (fun _ => H.both (H.ask ..) (H.check ..)) _) (H.both (r_map H _ _ (fun _ => H.check ..) _) (H.both ?_ (H.both ?_ (H.both ?_ H.unit))))))
  all_goals split
  · exact r_map H _ _ (fun _ => H.check ..) _
  · exact H.unit
  · exact H.unit
  · exact r_map H _ _ (fun _ => H.check ..) _
  · exact H.both (H.ask ..) (H.check ..)
  · exact H.unit

mutual
theorem r_E (cx : TablesWhole.Ctx) (sc : Scope) (hold : Option Scope) : ∀ e, R (wE A cx sc hold e) (wE B cx sc hold e)
  | .Constant .. => H.unit
  | .Name id _ => by
    show R (if (id == ("super" : Str) && sc.functionLike) = true then _ else _) (if (id == ("super" : Str) && sc.functionLike) = true then _ else _)
    cases (id == ("super" : Str) && sc.functionLike)
    · exact H.ask ..
    · exact H.both (H.ask ..) (H.ask ..)
  | .BoolOp _ vs _ => r_Es cx sc hold vs
  | .JoinedStr vs _ => r_Es cx sc hold vs
  | .List vs _ => r_Es cx sc hold vs
  | .Tuple vs _ _ => r_Es cx sc hold vs
  | .Set vs _ _ => r_Es cx sc hold vs
  | .NamedExpr t v _ => H.both (r_E cx sc hold v) (match hold, t with | none, t => r_T cx sc none t | some _, .Name .. => H.both (H.ask ..) (H.both (H.ask ..) (H.both (H.check ..) H.unit)) | some _, t => by cases t <;> first | exact H.bad | exact H.both (H.ask ..) (H.both (H.ask ..) (H.both (H.check ..) H.unit)))
  | .BinOp a _ b _ => H.both (r_E cx sc hold a) (r_E cx sc hold b)
  | .Subscript a b _ => H.both (r_E cx sc hold a) (r_E cx sc hold b)
  | .UnaryOp _ a _ => r_E cx sc hold a
  | .Attribute a _ _ => r_E cx sc hold a
  | .Starred a _ => r_E cx sc hold a
  | .Await a _ => r_E cx sc hold a
  | .YieldFrom a _ => r_E cx sc hold a
  | .Yield v _ => r_Eo cx sc hold v
  | .FormattedValue a _ s _ => H.both (r_E cx sc hold a) (r_Eo cx sc hold s)
  | .IfExp a b c _ => H.both (r_E cx sc hold a) (H.both (r_E cx sc hold b) (H.both (r_E cx sc hold c) H.unit))
  | .Compare a _ bs _ => H.both (r_E cx sc hold a) (r_Es cx sc hold bs)
  | .Call f as ks _ => H.both (r_E cx sc hold f) (H.both (r_Es cx sc hold as) (H.both (r_Ks cx sc hold ks) H.unit))
  | .Dict ks vs _ => H.both (r_Eos cx sc hold ks) (r_Es cx sc hold vs)
  | .Slice a b c _ => H.both (r_Eo cx sc hold a) (H.both (r_Eo cx sc hold b) (H.both (r_Eo cx sc hold c) H.unit))
  | .Lambda args body _ _ => H.both (r_Df cx sc hold args) (H.both (r_enter H ..) (H.both (r_params H ..) (H.both (r_E _ _ none body) H.unit)))
  | .ListComp e gs _ _ => H.both (r_enter H ..) (H.both (r_inl H ..) (H.both (r_bind H ..) (H.both (r_Gens _ _ _ _ _ _ true gs) (H.both (r_E _ _ _ e) H.unit))))
  | .SetComp e gs _ _ => H.both (r_enter H ..) (H.both (r_inl H ..) (H.both (r_bind H ..) (H.both (r_Gens _ _ _ _ _ _ true gs) (H.both (r_E _ _ _ e) H.unit))))
  | .GeneratorExp e gs _ _ => H.both (r_enter H ..) (H.both (r_bind H ..) (H.both (r_Gens _ _ _ _ _ _ true gs) (H.both (r_E _ _ _ e) H.unit)))
  | .DictComp k v gs _ _ => H.both (r_enter H ..) (H.both (r_inl H ..) (H.both (r_bind H ..) (H.both (r_Gens _ _ _ _ _ _ true gs) (H.both (r_E _ _ _ k) (H.both (r_E _ _ _ v) H.unit)))))
theorem r_T (cx : TablesWhole.Ctx) (sc : Scope) (hold : Option Scope) : ∀ e, R (wT A cx sc hold e) (wT B cx sc hold e)
  | .Name .. => r_bind H ..
  | .Tuple es _ _ => r_Ts cx sc hold es
  | .List es _ => r_Ts cx sc hold es
  | .Starred e _ => r_T cx sc hold e
  | .Attribute o _ _ => r_E cx sc hold o
  | .Subscript o i _ => H.both (r_E cx sc hold o) (r_E cx sc hold i)
  | .BoolOp .. => H.bad
  | .NamedExpr .. => H.bad
  | .BinOp .. => H.bad
  | .UnaryOp .. => H.bad
  | .Lambda .. => H.bad
  | .IfExp .. => H.bad
  | .Dict .. => H.bad
  | .Set .. => H.bad
  | .ListComp .. => H.bad
  | .SetComp .. => H.bad
  | .DictComp .. => H.bad
  | .GeneratorExp .. => H.bad
  | .Await .. => H.bad
  | .Yield .. => H.bad
  | .YieldFrom .. => H.bad
  | .Compare .. => H.bad
  | .Call .. => H.bad
  | .FormattedValue .. => H.bad
  | .JoinedStr .. => H.bad
  | .Constant .. => H.bad
  | .Slice .. => H.bad
theorem r_Es (cx : TablesWhole.Ctx) (sc : Scope) (hold : Option Scope) : ∀ e, R (wEs A cx sc hold e) (wEs B cx sc hold e)
  | [] => H.unit
  | e :: r => H.both (r_E cx sc hold e) (r_Es cx sc hold r)
theorem r_Ts (cx : TablesWhole.Ctx) (sc : Scope) (hold : Option Scope) : ∀ e, R (wTs A cx sc hold e) (wTs B cx sc hold e)
  | [] => H.unit
  | e :: r => H.both (r_T cx sc hold e) (r_Ts cx sc hold r)
theorem r_Eo (cx : TablesWhole.Ctx) (sc : Scope) (hold : Option Scope) : ∀ e, R (wEo A cx sc hold e) (wEo B cx sc hold e)
  | none => H.unit
  | some e => r_E cx sc hold e
theorem r_Eos (cx : TablesWhole.Ctx) (sc : Scope) (hold : Option Scope) : ∀ e, R (wEos A cx sc hold e) (wEos B cx sc hold e)
  | [] => H.unit
  | e :: r => H.both (r_Eo cx sc hold e) (r_Eos cx sc hold r)
theorem r_Ks (cx : TablesWhole.Ctx) (sc : Scope) (hold : Option Scope) : ∀ e, R (wKs A cx sc hold e) (wKs B cx sc hold e)
  | [] => H.unit
  | ⟨_, v, _⟩ :: r => H.both (r_E cx sc hold v) (r_Ks cx sc hold r)
theorem r_Gens (cx co : TablesWhole.Ctx) (a o : Scope) (ou hold : Option Scope) (first : Bool) : ∀ e, R (wGens A cx co a o ou hold first e) (wGens B cx co a o ou hold first e)
  | [] => H.unit
  | ⟨t, it, ifs, _⟩ :: r => H.both (match first with | true => r_E cx a ou it | false => r_E co o hold it) (H.both (r_T co o hold t) (H.both (r_Es co o hold ifs) (H.both (r_Gens cx co a o ou hold false r) H.unit)))
theorem r_Df (cx : TablesWhole.Ctx) (sc : Scope) (hold : Option Scope) : ∀ e, R (wDefaults A cx sc hold e) (wDefaults B cx sc hold e)
  | ⟨_, _, _, _, kd, _, d⟩ => H.both (r_Es cx sc hold d) (r_Eos cx sc hold kd)
end
theorem r_ArgAnns (cx : TablesWhole.Ctx) (sc : Scope) (hold : Option Scope) : ∀ e, R (wArgAnns A cx sc hold e) (wArgAnns B cx sc hold e)
  | [] => H.unit
  | ⟨_, ann, _⟩ :: r => H.both (r_Eo H cx sc hold ann) (r_ArgAnns cx sc hold r)
theorem r_ArgAnnO (cx : TablesWhole.Ctx) (sc : Scope) (hold : Option Scope) : ∀ e, R (wArgAnnO A cx sc hold e) (wArgAnnO B cx sc hold e)
  | none => H.unit
  | some ⟨_, ann, _⟩ => r_Eo H cx sc hold ann
theorem r_Anns (cx : TablesWhole.Ctx) (sc : Scope) (hold : Option Scope) : ∀ e, R (wAnns A cx sc hold e) (wAnns B cx sc hold e)
  | ⟨po, a, va, ko, _, kw, _⟩ => H.both (r_ArgAnns H cx sc hold po) (H.both (r_ArgAnns H cx sc hold a) (H.both (r_ArgAnnO H cx sc hold va) (H.both (r_ArgAnns H cx sc hold ko) (H.both (r_ArgAnnO H cx sc hold kw) H.unit))))
mutual
theorem r_P (cx : TablesWhole.Ctx) (sc : Scope) : ∀ e, R (wP A cx sc e) (wP B cx sc e)
  | .MatchValue e _ => r_E H cx sc none e
  | .MatchSingleton .. => H.unit
  | .MatchSequence ps _ => r_Ps cx sc ps
  | .MatchOr ps _ => r_Ps cx sc ps
  | .MatchMapping ks ps _ _ => H.both (r_Es H cx sc none ks) (H.both (r_Ps cx sc ps) (H.both (r_opt H ..) H.unit))
  | .MatchClass c ps _ kps _ => H.both (r_E H cx sc none c) (H.both (r_Ps cx sc ps) (H.both (r_Ps cx sc kps) H.unit))
  | .MatchStar _ _ => r_opt H ..
  | .MatchAs p _ _ => H.both (r_Po cx sc p) (r_opt H ..)
theorem r_Ps (cx : TablesWhole.Ctx) (sc : Scope) : ∀ e, R (wPs A cx sc e) (wPs B cx sc e)
  | [] => H.unit
  | e :: r => H.both (r_P cx sc e) (r_Ps cx sc r)
theorem r_Po (cx : TablesWhole.Ctx) (sc : Scope) : ∀ e, R (wPo A cx sc e) (wPo B cx sc e)
  | none => H.unit
  | some e => r_P cx sc e
end
theorem r_Lazy (ch : List Scope) (cls : Option Scope) (p : Scope) : ∀ e o, R (wLazy A ch cls p e o) (wLazy B ch cls p e o)
  | none, _ => H.unit
  | some e, some _ => H.both (r_enter H ..) (r_E H _ _ none e)
  | some _, none => H.bad
theorem r_TP (ch : List Scope) (cls : Option Scope) (ts : Scope) : ∀ e, R (wTP A ch cls ts e) (wTP B ch cls ts e)
  | .TypeVar .. => H.both (r_bind H ..) (H.both (r_Lazy H ..) (H.both (r_Lazy H ..) H.unit))
  | .ParamSpec .. => H.both (r_bind H ..) (r_Lazy H ..)
  | .TypeVarTuple .. => H.both (r_bind H ..) (r_Lazy H ..)
theorem r_TPs (ch : List Scope) (cls : Option Scope) (ts : Scope) (l : List TypeParam) : R (wTPs A ch cls ts l) (wTPs B ch cls ts l) := r_map H _ _ (r_TP H ch cls ts) l
theorem r_Items (cx : TablesWhole.Ctx) (sc : Scope) (l : List WithItem) : R (wItems A cx sc l) (wItems B cx sc l) := r_map H _ _ (fun i => H.both (r_E H ..) (match i with | ⟨_, some v⟩ => r_T H cx sc none v | ⟨_, none⟩ => H.unit)) l
theorem r_DefHead (cx : TablesWhole.Ctx) (sc : Scope) (a : Arguments) (ds : List Expr) (ret : Option Expr) (tp : List TypeParam) (own : Scope) (ts : Option Scope) (bd : Str) (pos : Pos) (gl : List Str) :
    R (wDefHead A cx sc a ds ret tp own ts bd pos gl) (wDefHead B cx sc a ds ret tp own ts bd pos gl) := by
  refine H.both (r_Es H ..) (H.both (r_Df H ..) (H.both (r_bind H ..) (H.both (r_params H ..) (H.both ?_ H.unit))))
  cases tp with
  | nil => exact H.both (r_enter H ..) (H.both (r_Anns H ..) (H.both (r_Eo H ..) H.unit))
  | cons x l =>
    cases ts with
    | none => exact H.bad
    | some t =>
      refine H.both (r_enter H ..) (H.both (r_enter H ..) (H.both (r_TPs H ..) (H.both (r_Anns H ..) (H.both (r_Eo H ..) (H.both (r_bind H ..) (H.both ?_ H.unit))))))
      show R (if (a.kw_defaults.all (·.isNone)) = true then _ else _) (if (a.kw_defaults.all (·.isNone)) = true then _ else _)
      cases a.kw_defaults.all (·.isNone)
      · exact r_bind H ..
      · exact H.unit
theorem r_ClassHead (cx : TablesWhole.Ctx) (sc : Scope) (bs : List Expr) (ks : List Keyword) (ds : List Expr) (tp : List TypeParam) (own : Scope) (ts : Option Scope) (bd : Str) (pos : Pos) (gl : List Str) :
    R (wClassHead A cx sc bs ks ds tp own ts bd pos gl) (wClassHead B cx sc bs ks ds tp own ts bd pos gl) := by
  refine H.both (r_Es H ..) (H.both (r_bind H ..) (H.both ?_ H.unit))
  cases tp with
  | nil => exact H.both (r_enter H ..) (H.both (r_Es H ..) (H.both (r_Ks H ..) H.unit))
  | cons x l =>
    cases ts with
    | none => exact H.bad
    | some t => exact H.both (r_enter H ..) (H.both (r_enter H ..) (H.both (r_TPs H ..) (H.both (r_bind H ..) (H.both (r_bind H ..) (H.both (H.ask ..) (H.both (r_bind H ..) (H.both (r_Es H ..) (H.both (r_Ks H ..) H.unit))))))))
mutual
theorem r_S (top : Scope) (cx : TablesWhole.Ctx) (sc : Scope) : ∀ e, R (wS A top cx sc e) (wS B top cx sc e)
  | .Pass _ => H.unit
  | .Break _ => H.unit
  | .Continue _ => H.unit
  | .Global ns _ => H.both (r_names H ..) (H.both (r_map H _ _ (fun _ => H.check ..) ns) (H.both (r_map H _ _ (fun _ => H.ask ..) ns) H.unit))
  | .Nonlocal ns _ => H.both (r_names H ..) (r_map H _ _ (fun _ => H.check ..) ns)
  | .Import as _ => r_map H _ _ (fun _ => r_bind H ..) as
  | .ImportFrom _ as _ _ => r_map H _ _ (fun a => by
      show R (if (a.name == ("*" : Str)) = true then _ else _) (if (a.name == ("*" : Str)) = true then _ else _)
      cases a.name == ("*" : Str)
      · exact r_bind H ..
      · exact H.unit) as
  | .Return v _ => r_Eo H cx sc none v
  | .Expr e _ => r_E H cx sc none e
  | .Raise a b _ => H.both (r_Eo H cx sc none a) (r_Eo H cx sc none b)
  | .Assert a b _ => H.both (r_E H cx sc none a) (r_Eo H cx sc none b)
  | .Assign ts v _ => H.both (r_E H cx sc none v) (r_Ts H cx sc none ts)
  | .AugAssign t _ v _ => H.both (r_T H cx sc none t) (r_E H cx sc none v)
  | .Delete ts _ => r_Ts H cx sc none ts
  | .AnnAssign t a v simple _ => H.both (by
      cases v with
      | some e => exact H.both (r_E H cx sc none e) (r_T H cx sc none t)
      | none => cases t <;> first
        | exact r_T H cx sc none _
        | (show R (if (simple == 0) = true then _ else _) (if (simple == 0) = true then _ else _)
           cases simple == 0
           · exact r_bind H ..
           · exact H.unit)) (H.both (r_E H cx sc none a) H.unit)
  | .If t b o _ => H.both (r_E H cx sc none t) (H.both (r_Ss top cx sc b) (H.both (r_Ss top cx sc o) H.unit))
  | .While t b o _ => H.both (r_E H cx sc none t) (H.both (r_Ss top cx sc b) (H.both (r_Ss top cx sc o) H.unit))
  | .For t i b o _ => H.both (r_E H cx sc none i) (H.both (r_T H cx sc none t) (H.both (r_Ss top cx sc b) (H.both (r_Ss top cx sc o) H.unit)))
  | .AsyncFor t i b o _ => H.both (r_E H cx sc none i) (H.both (r_T H cx sc none t) (H.both (r_Ss top cx sc b) (H.both (r_Ss top cx sc o) H.unit)))
  | .With items b _ => H.both (r_Items H cx sc items) (r_Ss top cx sc b)
  | .AsyncWith items b _ => H.both (r_Items H cx sc items) (r_Ss top cx sc b)
  | .Match s cs _ => H.both (r_E H cx sc none s) (r_Cs top cx sc cs)
  | .Try b hs o f _ => H.both (r_Ss top cx sc b) (H.both (r_Hs top cx sc hs) (H.both (r_Ss top cx sc o) (H.both (r_Ss top cx sc f) H.unit)))
  | .TryStar b hs o f _ => H.both (r_Ss top cx sc b) (H.both (r_Hs top cx sc hs) (H.both (r_Ss top cx sc o) (H.both (r_Ss top cx sc f) H.unit)))
  | .FunctionDef _ _ body _ _ _ _ _ _ _ => H.both (r_DefHead H ..) (r_Ss top _ _ body)
  | .AsyncFunctionDef _ _ body _ _ _ _ _ _ _ => H.both (r_DefHead H ..) (r_Ss top _ _ body)
  | .ClassDef _ _ _ body _ _ _ _ _ _ _ => H.both (r_ClassHead H ..) (r_Ss top _ _ body)
  | .TypeAlias _ tp value own ts bind pos => H.both (r_bind H ..) (H.both (r_E H _ _ none value) (H.both (by
      cases tp with
      | nil => exact r_enter H ..
      | cons x l =>
        cases ts with
        | none => exact H.bad
        | some t => exact H.both (r_enter H ..) (H.both (r_enter H ..) (H.both (r_TPs H ..) H.unit))) H.unit))
theorem r_Ss (top : Scope) (cx : TablesWhole.Ctx) (sc : Scope) : ∀ e, R (wSs A top cx sc e) (wSs B top cx sc e)
  | [] => H.unit
  | e :: r => H.both (r_S top cx sc e) (r_Ss top cx sc r)
theorem r_Hs (top : Scope) (cx : TablesWhole.Ctx) (sc : Scope) : ∀ e, R (wHs A top cx sc e) (wHs B top cx sc e)
  | [] => H.unit
  | .ExceptHandler t _ b _ :: r => H.both (r_Eo H cx sc none t) (H.both (r_opt H ..) (H.both (r_Ss top cx sc b) (H.both (r_Hs top cx sc r) H.unit)))
theorem r_Cs (top : Scope) (cx : TablesWhole.Ctx) (sc : Scope) : ∀ e, R (wCs A top cx sc e) (wCs B top cx sc e)
  | [] => H.unit
  | ⟨p, g, b⟩ :: r => H.both (r_P H cx sc p) (H.both (r_Eo H cx sc none g) (H.both (r_Ss top cx sc b) (H.both (r_Cs top cx sc r) H.unit)))
end
theorem r_Mod (m : Module) : R (wModule A m) (wModule B m) := H.both (H.enter ..) (H.both (H.check ..) (H.both (r_Ss H ..) H.unit))
end
set_option maxHeartbeats 8000000
noncomputable abbrev lw : OpenLaw := PySem.Challenge.rw_ik0204_01
noncomputable def aAll (L : List Str) : TablesWhole.Alg Bool := ⟨fun sc n p => TablesWhole.holds.ask sc n p && ((atTopAlone L).ask sc n p && (attrL n && ((n != ("vars" : Str)) && ((n != ("dir" : Str)) && (n != ("locals" : Str)))))), TablesWhole.holds.check, TablesWhole.holds.enter, true, false, fun a b => a && b⟩
theorem t_all : TablesWhole.wModule (aAll (sreNames lw.row.prog.main.body)) lw.row.prog.main = true := by rw [PySem.W.Fast.te6116379765354995101]; kernel_rfl
theorem t_of {B : TablesWhole.Alg Bool} (h1 : ∀ sc n p, (aAll (sreNames lw.row.prog.main.body)).ask sc n p = true → B.ask sc n p = true) (h2 : ∀ w sc n b, b = true → B.check w sc n b = true) (h3 : ∀ sc, B.enter sc = true) (h4 : B.unit = true) (h5 : ∀ a b, B.both a b = (a && b)) :
    TablesWhole.wModule B lw.row.prog.main = true :=
  r_Mod (R := fun a b => a = true → b = true) (A := aAll (sreNames lw.row.prog.main.body)) ⟨h1, h2, fun sc _ => h3 sc, fun _ => h4, (fun q => nomatch q), fun {a b c d} x y q => by
    rw [h5]
    obtain ⟨q1, q2⟩ := Bool.and_eq_true_iff.mp q
    rw [x q1, y q2]; rfl⟩ lw.row.prog.main t_all
theorem t_whole : TablesWhole.wModule TablesWhole.holds lw.row.prog.main = true := t_of (fun _ _ _ q => (Bool.and_eq_true_iff.mp q).1) (fun _ _ _ _ q => q) (fun _ => rfl) rfl (fun _ _ => rfl)
theorem t_sre : TablesWhole.wModule (atTopAlone (sreNames lw.row.prog.main.body)) lw.row.prog.main = true := t_of (fun _ _ _ q => (Bool.and_eq_true_iff.mp (Bool.and_eq_true_iff.mp q).2).1) (fun _ _ _ _ _ => rfl) (fun _ => rfl) rfl (fun _ _ => rfl)
theorem t_meet (ok : Scope → Str → Bool) (h : ∀ sc n p, (aAll (sreNames lw.row.prog.main.body)).ask sc n p = true → ok sc n = true) : namesMeet lw.row.prog lw.row.prog.main.body ok = true :=
  t_of (B := ⟨fun sc n _ => ok sc n, fun _ _ _ _ => true, fun _ => true, true, false, fun a b => a && b⟩) h (fun _ _ _ _ _ => rfl) (fun _ => rfl) rfl (fun _ _ => rfl)
theorem wa : sreFenced lw.row.prog.main = true := by unfold sreFenced; rw [t_sre, Bool.or_true]; kernel_rfl
theorem wg : (namesMeet lw.row.prog lw.row.prog.main.body fun _ n => attrL n) = true := t_meet _ fun _ _ _ q => (Bool.and_eq_true_iff.mp (Bool.and_eq_true_iff.mp (Bool.and_eq_true_iff.mp q).2).2).1
theorem w_no {n : Str} (h : ∀ sc x p, (aAll (sreNames lw.row.prog.main.body)).ask sc x p = true → (x != n) = true) : readsOut lw.row.prog lw.row.prog.main.body n = false := by
  unfold readsOut
  rw [t_meet _ fun sc x p q => by rw [h sc x p q, Bool.true_or], Bool.not_true]
theorem w_bare : (["vars", "dir", "locals"] : List Str).filter (readsOut lw.row.prog lw.row.prog.main.body) = [] := by
  have v : readsOut lw.row.prog lw.row.prog.main.body ("vars" : Str) = false := w_no fun _ _ _ h => (Bool.and_eq_true_iff.mp (Bool.and_eq_true_iff.mp (Bool.and_eq_true_iff.mp (Bool.and_eq_true_iff.mp h).2).2).2).1
  have d : readsOut lw.row.prog lw.row.prog.main.body ("dir" : Str) = false := w_no fun _ _ _ h => (Bool.and_eq_true_iff.mp (Bool.and_eq_true_iff.mp (Bool.and_eq_true_iff.mp (Bool.and_eq_true_iff.mp (Bool.and_eq_true_iff.mp h).2).2).2).2).1
  have l : readsOut lw.row.prog lw.row.prog.main.body ("locals" : Str) = false := w_no fun _ _ _ h => (Bool.and_eq_true_iff.mp (Bool.and_eq_true_iff.mp (Bool.and_eq_true_iff.mp (Bool.and_eq_true_iff.mp (Bool.and_eq_true_iff.mp h).2).2).2).2).2
  refine List.filter_eq_nil_iff.mpr fun a ha => ?_
  have e : readsOut lw.row.prog lw.row.prog.main.body a = false := by
    rcases List.mem_cons.mp ha with e | ha
    · rw [e]; exact v
    · rcases List.mem_cons.mp ha with e | ha
      · rw [e]; exact d
      · rcases List.mem_cons.mp ha with e | ha
        · rw [e]; exact l
        · cases ha
  rw [e]; exact Bool.false_ne_true
theorem we : noRoadLSs { strict := !(importedModules lw.row.prog.main.body).all cThrough.contains, foot := none, bare := (["vars", "dir", "locals"] : List Str).filter (readsOut lw.row.prog lw.row.prog.main.body) } lw.row.prog.main.body = true := by rw [w_bare]; kernel_rfl
theorem w_tabs : lw.row.prog.tablesWhole = true := by
  unfold Program.tablesWhole TablesWhole.wProgram
  rw [t_whole]; kernel_rfl
theorem wb : ((moduleNames lw.row.prog.main.body).isEmpty || lookedIntoSs (moduleNames lw.row.prog.main.body) lw.row.prog.main.body) = true := by kernel_rfl
theorem wc : namesResolve lw.row.prog = true := by rw [PySem.W.Fast.te8377067652309620493]; kernel_rfl
theorem wd : (lw.row.prog.boundNames.all (fun n => !worldNames.contains n)) = true := by kernel_rfl
theorem wl : looksOpen lw.row.prog = true := by unfold looksOpen; rw [wa, wb, wc, wd, we, wg]; rfl
theorem w1 : lw.row.wellSaid = true := by
  unfold OpenRow.wellSaid OpenRow.partSaid
  rw [wl]
  kernel_rfl
theorem w2 : (decide (lw.foot ≤ (behindTheImports lw.prog).length)) = true := by kernel_rfl
theorem w3 : (lw.footing.all footLine) = true := by kernel_rfl
theorem w4 : noClassBlock lw.prog lw.footing = true := by kernel_rfl
theorem w5 : (noRoadLSs { strict := true, foot := some lw.bound', writes := lw.writes, may := lw.may } lw.footing) = true := by kernel_rfl
theorem w6 : (defStands lw.about lw.above) = true := by kernel_rfl
theorem w7 : lw.namesIt = true := by kernel_rfl
theorem ws : lw.wellSaid = true := by
  unfold OpenLaw.wellSaid
  rw [w1, w2, w3, w4, w5, w6, w7]
  kernel_rfl
theorem head {d : DefRec} {kwd : List (Str × PySem.Expr)} (h1 : defOf VW PySem.Challenge.rw_ik0204_01.row.name = some (d, kwd)) (h2 : PySem.Challenge.rw_ik0204_01.row.prog.theDef PySem.Challenge.rw_ik0204_01.row.name = some (d.params, d.body, d.scope)) (h3 : kwWritten? d.params.kwonlyargs d.params.kw_defaults = some kwd) (hc : WalkO VW LS (XL VW []) HK.says PySem.Challenge.rw_ik0204_01.row.toRowW d kwd fun f vs => call f vs) : PySem.Challenge.rw_ik0204_01.Holds := by
  refine holds_law ws fun said => ?_
  refine holds_open (q := VW) (loose := LS) (Xt := XT) (XP := XL VW []) (Yf := Hook.obs HK) (Ya := Hook.val HK) (YP := Hook.says HK) (N := 13000) left_own (Hook.of HK) (Hook.keeps HK) (fun s e => xl_of s (Bool.and_eq_true_iff.mp e).1) XL.keeps h1 h2 h3 (fun s e => recFacts_of (Bool.and_eq_true_iff.mp e).2) (by rfl) (by first | assumption | decide +kernel) (by decide +kernel) ⟨rfl, rfl, rfl, rfl, rfl, w_tabs⟩ ?hw hc
  case hw => w_witness2
end Mine
end
section
open PySem PySem.W PyProof.Rows PySem.Calls
set_option maxRecDepth 100000
set_option maxHeartbeats 4000000
namespace Mine

noncomputable def LeaveP (_g : Heap) (R : Result → Shared → Prop) (v : Value) (s' : Shared) : Prop := R (.ok (.ret v)) s'

/-- what a caller holds at a call: the ground `g` (all that the callee leaves as it is), the frames, the text's own objects, the top -/
structure At (K : Frag) (p : Program) (loose : List Str) (mean : ExcName → Option Value) (mg mb : Str → Option Value) (A : Around) (base : Heap) (env : Env) (outer : List Env) (g h : Heap) : Prop where
  below : Below A base (env :: outer) g
  part : K.In g
  top : Top p loose mean mg mb g
  sub : ∀ b o, g.get? b = some o → h.get? b = some o
  size : g.objs.size ≤ h.objs.size

noncomputable def Led (g h : Heap) (l : List (Addr × Obj)) : Prop := ∀ q ∈ l, h.get? q.1 = some q.2 ∧ g.get? q.1 = none

section
variable {prog : Program} {w : World} {A₀ A : Around} {s : Shared} {base g h₀ : Heap} {outer : List Env} {L : Addr} {m : Str → Option Value} {env : Env} {news : List (Addr × Obj)} {K : Frag}
  {p : Program} {loose : List Str} {mean : ExcName → Option Value} {mg mb : Str → Option Value}
  {R : Result → Shared → Prop} {name qual : Str} {params : Arguments} {body : List Stmt} {scope : Scope} {dV kV doc pm cdv ct oc : Value} {an od : Option Addr} {osl : Array (Option Value)} {f : Addr} {args : Args} {binds : List (Str × Value)}

theorem enter_def (C : At K p loose mean mg mb A base env outer g s.heap) (NA : Led g s.heap news)
    (ho : K.lookup f = some ⟨oc, od, .func (fnOf name qual params body scope dV kV doc pm an cdv ct), osl⟩) (hcd : codeIn K cdv qual = true) (hroom : A.depth < recursionLimit)
    (hbind : BindsTo s (fnOf name qual params body scope dV kV doc pm an cdv ct) args binds) (hloc : ∀ y ∈ binds, scope.names.lookup y.1 = some .local)
    (h : ∀ L' h₁, Fr g L' h₁ (fun y => binds.reverse.lookup y) → News g L' h₁ news → Below A base (env :: outer) g → K.In g → Top p loose mean mg mb g →
      wpAny (model prog w) (A.deeper (envOf qual scope L' f cdv)) (execs body (envOf qual scope L' f cdv))
        (fun fl s' => LeaveP g R (match fl with | .ret v => v | _ => .none) s')
        (fun e s' => wpAny (model prog w) (A.deeper (envOf qual scope L' f cdv)) (leaving (envOf qual scope L' f cdv) e) (fun _ s'' => R (.error e) s'') (fun e' s'' => R (.error e') s'') s')
        { s with heap := h₁, toks := s.toks + binds.length })
    (hco : scope.isCoroutine = false := by rfl) (hgen : scope.isGenerator = false := by rfl) (hk : scope.kind = .function := by rfl)
    (hcell : ∀ x ∈ scope.names, x.2 ≠ .cell := by decide) : codeAny (model prog w) A (.call (.ref f) args) R s := by
  have X := C.part.keeps C.sub
  refine codeAny_call_def (fd := fnOf name qual params body scope dV kV doc pm an cdv ct) (body := body) (binds := binds) hroom (X _ _ ho) rfl (C.top.nolimit.keeps C.sub) (codeRec_of X hcd) rfl hbind hcell hloc (fun h₁ hns hk₁ => ?_) hco hgen hk
  exact h s.heap.objs.size h₁ ⟨hns, fun b o e => hk₁ b o (C.sub b o e), C.size⟩ (fun q hq => ⟨hk₁ _ _ (NA q hq).1, Nat.ne_of_lt (Heap.lt_size (NA q hq).1), (NA q hq).2⟩) C.below C.part C.top

/-- the caller's facts at a call, nothing of its own handed over for changes -/
theorem at_here (B : Below A₀ base outer h₀) (F : Fr h₀ L s.heap m) (X : K.In h₀) (T : Top p loose mean mg mb h₀) (hA : A.frames = some (env :: outer)) (hf : env.frame = some L) (hke : env.scope.kind = .function) :
    At K p loose mean mg mb A base env outer s.heap s.heap := by
  obtain ⟨_, B', _, _⟩ := groundX (R := fun _ _ => True) B F (news := []) (fun _ h => nomatch h) hA hf hke
  exact ⟨B', X.keeps F.keep, T.keeps F.keep, fun _ _ e => e, Nat.le_refl _⟩

theorem hideAll_size' (l : List Addr) (h : Heap) : (hideAll h l).objs.size = h.objs.size := hideAll_size l h

/-- .. with a part of its ledger handed over -/
theorem at_with {l : List (Addr × Obj)} (B : Below A₀ base outer h₀) (F : Fr h₀ L s.heap m) (X : K.In h₀) (T : Top p loose mean mg mb h₀) (N : News h₀ L s.heap l) (hA : A.frames = some (env :: outer)) (hf : env.frame = some L) (hke : env.scope.kind = .function) :
    At K p loose mean mg mb A base env outer (hideAll s.heap (l.map (·.1))) s.heap ∧ Led (hideAll s.heap (l.map (·.1))) s.heap l ∧ Fr h₀ L (hideAll s.heap (l.map (·.1))) m := by
  obtain ⟨FG, B', st, _⟩ := groundX (R := fun _ _ => True) B F N hA hf hke
  exact ⟨⟨B', X.keeps st, T.keeps st, fun b o e => of_hideAll _ e, Nat.le_of_eq (hideAll_size _ _)⟩, fun q hq => ⟨(N q hq).1, hideAll_none _ (List.mem_map_of_mem hq)⟩, FG⟩

theorem fr_after {h' : Heap} (F : Fr h₀ L s.heap m) (k : ∀ b o, s.heap.get? b = some o → h'.get? b = some o) : Fr h₀ L h' m := F.keeps k
theorem news_after {h' : Heap} (N : News h₀ L s.heap news) (k : ∀ b o, s.heap.get? b = some o → h'.get? b = some o) : News h₀ L h' news := fun q hq => ⟨k _ _ (N q hq).1, (N q hq).2⟩

/-- back at the caller: its frame, its ledger with the part changed -/
theorem back_with {l l' rest : List (Addr × Obj)} {h' : Heap} (F : Fr h₀ L s.heap m) (N : News h₀ L s.heap (l ++ rest)) (hd : ∀ q ∈ rest, q.1 ∉ l.map (·.1))
    (k : ∀ b o, (hideAll s.heap (l.map (·.1))).get? b = some o → h'.get? b = some o) (hL : Led (hideAll s.heap (l.map (·.1))) h' l') : Fr h₀ L h' m ∧ News h₀ L h' (l' ++ rest) := by
  have nm : ∀ b o, h₀.get? b = some o → b ∉ l.map (·.1) := fun b o e q => by
    obtain ⟨x, hp, rfl⟩ := List.mem_map.mp q
    rw [(N x (List.mem_append_left _ hp)).2.2] at e; cases e
  obtain ⟨oL, es, ep, hLo, r⟩ := F.ns
  have nL : L ∉ l.map (·.1) := fun q => by
    obtain ⟨x, hp, e⟩ := List.mem_map.mp q
    exact (N x (List.mem_append_left _ hp)).2.1 e
  have hLg := hideAll_get (l.map (·.1)) hLo nL
  refine ⟨⟨⟨oL, es, ep, k _ _ hLg, r⟩, fun b o e => k b o (hideAll_get _ (F.keep b o e) (nm b o e)), F.above⟩, fun q hq => ?_⟩
  rcases List.mem_append.mp hq with hq | hq
  · refine ⟨(hL q hq).1, fun e => ?_, ?_⟩
    · have := (hL q hq).2; rw [e, hLg] at this; cases this
    · cases z : h₀.get? q.1 with
      | none => rfl
      | some o =>
        have := (hL q hq).2
        rw [hideAll_get _ (F.keep _ _ z) (nm _ _ z)] at this; cases this
  · have P := N q (List.mem_append_right _ hq)
    exact ⟨k _ _ (hideAll_get _ P.1 (hd q hq)), P.2⟩
end
end Mine
end
local macro_rules | `(tactic| omega) => `(tactic| first | (law_clear; lia) | lia | omega (config := {}))
local macro_rules | `(tactic| k_room) => `(tactic| ktr_room)
section
open PySem PySem.W PyProof.Rows PySem.Calls PySem.Spec
namespace Mine
section
variable {M : Model} {A : Around} {E : Value → Shared → Prop} {env : Env} {st : Stmt} {rest : List Stmt} {Q : Flow → Shared → Prop} {hp h₀ : Heap} {gs : Array GenState} {d : Drawn} {X : Nat} {os : OsState} {L : Addr} {m : Str → Option Value} {news : List (Addr × Obj)}
/-- a statement ahead of others: the frame's map and what stands behind are named, the tokens forgotten -/
theorem execs_consM (F : Fr h₀ L hp m)
    (h : let m' := m; let qk := (fun f s' => match f with | .next => wpAny M A (execs rest env) Q E s' | f => Q f s'); ∀ tk, Fr h₀ L hp m' → wpAny M A (exec st env) qk E ⟨hp, gs, d, tk, os⟩) :
    wpAny M A (execs (st :: rest) env) Q E ⟨hp, gs, d, X, os⟩ := wpAny_execs_cons (h X F)
/-- the last statement of a block -/
theorem execs_one {s : Shared} (h : wpAny M A (exec st env) Q E s) : wpAny M A (execs [st] env) Q E s :=
  wpAny_execs_cons (wpAny_mono h (fun f _ x => by cases f <;> first | exact wpAny_execs_nil x | exact x) fun _ _ x => x)
end
theorem let_env {A : Around} {env : Env} {P : Around → Env → Prop} (h : let env9 := env; let A9 := A.deeper env9; P A9 env9) : P (A.deeper env) env := h
theorem upd_skip {m : Str → Option Value} {x y : Str} {a : Option Value} {v : Option Value} (h : m x = v) (e : ¬ x = y) : (fun z => if z = y then a else m z) x = v := (if_neg e).trans h
theorem updF_upd {d : Addr} {o : Obj} (o' : Obj) : ∀ {l : List (Addr × Obj)} {nf : Obj → List (Addr × Obj)}, UpdF d o l nf → Upd d o o' l (nf o')
  | _, _, .head h => .head h
  | _, _, .tail h r => .tail h (updF_upd o' r)
/-- an attribute set, the entries named -/
theorem set_dictL {prog : Program} {w : World} {A : Around} {E : Value → Shared → Prop} {s : Shared} {K : Frag} {x C dx L : Addr} {h₀ : Heap} {m : Str → Option Value} {news : List (Addr × Obj)} {nf : Obj → List (Addr × Obj)} {ox : Obj} {es es' : List DictEntry} {n n' : Nat} {name : Str} {v : Value}
    {Q : Unit → Shared → Prop} (F : Fr h₀ L s.heap m) (X₀ : K.In h₀) (N : News h₀ L s.heap news) (I : InstAt s.heap x ox C (some (dictOf es n))) (hd : ox.dict = some dx)
    (hs : findIn K (.ref C) "__setattr__" = some (some (.builtin "object.__setattr__"))) (hp : plainOver K C = true) (ht : takerIn K C name = some none) (hh : hasDictIn K C = true) (hl : (getL name es).isSome = true)
    (e : (putL name (PyData.keyHash w.params name) (.str name (s.toks + 1)) v es, putN name es n) = (es', n')) (U : UpdF dx (dictOf es n) news nf) (hz : es'.length ≤ 1000)
    (h : let es9 := es'; ∀ h', Fr h₀ L h' m → News h₀ L h' (nf (dictOf es9 n')) → Q () { s with heap := h', toks := s.toks + 2 }) :
    wpAny (model prog w) A (setAttr (.ref x) name v) Q E s := set_dict F X₀ N I hd hs hp ht hh hl e (updF_upd _ U) hz h
end Mine
end
section
open PySem PySem.W PyProof.Rows PySem.Calls
set_option maxRecDepth 100000
set_option maxHeartbeats 4000000
namespace Mine
theorem units_under_tc (A : Around) (C : Addr) (vals : List Value) (kw : List (Str × Value)) : (A.under (.builtin "type.__call__" ⟨.ref C :: vals, kw⟩)).units = A.units + 1 := rfl

noncomputable def afterNew (C : Addr) (pos : List Value) (kw : List (Str × Value)) (obj : Value) : Sem Fin := do
  if !(← isInstance obj (.ref C)) then rule "type.call.new-gave-other-type"; return ← ret obj
  match ← holding [obj] (callSpecial? obj "__init__" pos kw) with
  | none => ret obj
  | some r =>
    if r != .none then
      rule "type.call.init-returned-value"
      raiseError "TypeError" s!"__init__() should return None, not '{← typeNameOf r}'"
    ret obj

section
variable {prog : Program} {w : World} {A : Around} {K : Frag} {C x : Addr} {s : Shared} {h₀ : Heap} {L : Addr} {m : Str → Option Value} {news : List (Addr × Obj)} {R : Result → Shared → Prop}
  {Q : Value → Shared → Prop} {E : Value → Shared → Prop}

noncomputable def pyMadeIn (K : Frag) (C : Addr) : Bool := match K.lookup C with
  | some ⟨_, _, .cls cd, sl⟩ => !cd.abstract && !cd.hasDel && (sl.toList[4]?).join == some .none && !cd.mro.isEmpty && cd.mro.contains (.ref C) && cd.mro.contains (.type "object") &&
      specialIn K (.ref C) "__call__" == some (some (.builtin "type.__call__")) && instIn K (.ref C) (.type "type") == some true
  | _ => false

theorem new_py {rest : List Value} {kw : List (Str × Value)} {mc : Value} {pn : Addr} {fn : Addr} {more : List Value} (F : Fr h₀ L s.heap m) (X₀ : K.In h₀) (hp : pyMadeIn K C = true)
    (hm : typeIn K (.ref C) = some mc) (hr : readsIn K C mc = true) (hf : findCls K (.ref C) mc "__new__" = some (.get (.builtin "staticmethod.__get__") (.ref pn) .none (.ref C))) (hs : recIn K pn "staticmethod" = some (.ref fn :: more))
    (h : wpAny (model prog w) (A.under (.builtin "type.__call__" ⟨.ref C :: rest, kw⟩)) (call (.ref fn) (.ref C :: rest) kw)
      (fun v s₁ => wpAny (model prog w) (A.under (.builtin "type.__call__" ⟨.ref C :: rest, kw⟩)) (afterNew C rest kw v) (fun fin s' => match fin with | .done (.ret v) => Q v s' | _ => False) E s₁) E { s with toks := s.toks + 1 }) :
    wpAny (model prog w) A (call (.ref C) rest kw) Q E s := by
  have X : K.In s.heap := X₀.keeps F.keep
  unfold pyMadeIn at hp
  split at hp
  · rename_i oc od cd sl ho
    simp only [Bool.and_eq_true, Bool.not_eq_true', beq_iff_eq] at hp
    obtain ⟨⟨⟨⟨⟨⟨⟨e1, e2⟩, e3⟩, e4⟩, e5⟩, e6⟩, e7⟩, e8⟩ := hp
    have hc : clsIn K C = some cd := by unfold clsIn; rw [ho]
    have hmro : Looks (model prog w) s.heap (mroOf (.ref C)) cd.mro := (looks_clsIn X hc).andThen .now
    have made : Looks (model prog w) s.heap (Bind.madeBy (.ref C)) none := by
      obtain ⟨c, l, hl⟩ : ∃ c l, cd.mro = c :: l := by cases q : cd.mro with | nil => rw [q] at e4; cases e4 | cons c l => exact ⟨c, l, rfl⟩
      intro A Q E s k q
      unfold Bind.madeBy
      refine wpAny_bind (hmro A _ E s k ?_)
      rw [hl, List.forIn_cons]
      refine wpAny_bind (wpAny_bind (wpAny_bind (wpAny_bind (wpAny_loadPart (k _ _ (X _ _ ho)) (wpAny_pure ?_)))))
      dsimp only
      rw [← Array.getElem?_toList, e3]
      exact wpAny_pure (wpAny_pure (wpAny_pure q))
    have call_ := looks_specialIn (M := model prog w) X e7
    have typ := looks_instIn (M := model prog w) X e8
    refine wpAny_call (codeAny_of_tree ?_)
    show wpAny _ _ (callAny (.ref C) _) _ _ _
    refine nd_load (X _ _ ho) ?_
    show wpAny _ _ (callAny.viaDunder (.ref C) _) _ _ _
    unfold callAny.viaDunder
    refine wpAny_bind (call_.here ?_)
    dsimp only
    rw [tc_bind]
    refine wpAny_bind (wpAny_pure (wpAny_bind (wpAny_pure ?_)))
    refine wpAny_pure (a := Fin.again (.call (.builtin "type.__call__") ⟨.ref C :: rest, kw⟩)) (And.intro rfl ?_)
    refine codeAny_call_builtin_at (Code.quiet_builtin _ (by decide +kernel)) entry_typeCall ?_
    with_reducible refine check_slot tc_kind tc_split typ (tc_args _ _ _) ?_
    unfold Builtin.«type.__call__»
    obtain ⟨hh, g, d, t, os⟩ := s
    have ga := fun (Q : Value → Shared → Prop) (E : Value → Shared → Prop) (q : Q (.ref fn) ⟨hh, g, d, t + 1, os⟩) => cls_sm (prog := prog) (w := w) (A := A.under (.builtin "type.__call__" ⟨.ref C :: rest, kw⟩)) (s := ⟨hh, g, d, t, os⟩) (expr := false) (Q := Q) (E := E) F X₀ hm hr hf hs rfl q
    repeat (first | simp only [e4, Bool.false_eq_true, if_false] | ((fail_if_success (with_reducible show wpAny _ _ (PySem.getAttr _ _ _) _ _ _)); lk))
    refine ga _ _ ?_
    refine wpAny_bind (wpAny_holding ?_)
    refine wpAny_mono h (fun v s₁ h₁ => ?_) ?_
    · refine wpAny_mono h₁ (fun fin s' z => ?_) ?_
      · rcases fin with (_ | _ | _ | _) | _ <;> first | exact z | exact z.elim
      · exact fun _ _ z => z
    · exact fun _ _ z => z
  · cases hp

theorem after_new {ox : Obj} {od : Option Obj} {rest : List Value} {kw : List (Str × Value)} {fI : Addr} {Q' : Fin → Shared → Prop} (F : Fr h₀ L s.heap m) (X₀ : K.In h₀) (I : InstAt s.heap x ox C od)
    (hself : subIn K (.ref C) (.ref C) = some true) (hi : findIn K (.ref C) "__init__" = some (some (.ref fI))) (hf : typeIn K (.ref fI) = some (.type "function"))
    (h : wpAny (model prog w) A (call (.ref fI) (.ref x :: rest) kw) (fun r s' => r = .none ∧ Q' (.done (.ret (.ref x))) s') E s) :
    wpAny (model prog w) A (afterNew C rest kw (.ref x)) Q' E s := by
  have X : K.In s.heap := X₀.keeps F.keep
  unfold afterNew
  have i1 : Looks (model prog w) s.heap (isInstance (.ref x) (.ref C)) true := I.type.andThen (looks_subIn X hself)
  refine wpAny_bind (i1.here ?_)
  simp only [Bool.not_true, Bool.false_eq_true, if_false]
  refine wpAny_bind (wpAny_holding ?_)
  refine wpAny_bind (wpAny_bind (I.type.here ((looks_findIn X hi).here (wpAny_holding (wpAny_bind ((bind_fn X _ hf).here ?_))))))
  refine wpAny_bind (wpAny_mono h (fun r s' z => ?_) fun _ _ z => z)
  obtain ⟨rfl, z⟩ := z
  exact wpAny_pure (wpAny_pure z)

theorem obj_new {od : Option Addr} {oc : Value} {cd : ClassData} {sl : Array (Option Value)} (F : Fr h₀ L s.heap m) (N : News h₀ L s.heap news) (X₀ : K.In h₀) (ho : K.lookup C = some ⟨oc, od, .cls cd, sl⟩) (e1 : cd.abstract = false) (e2 : cd.hasDel = false)
    (typ : instIn K (.ref C) (.type "type") = some true) (top : subIn K (.ref C) (.type "object") = some true) {B0 : Value} (base : peek K ⟨prog, w.params⟩ (Bind.staticBase (.ref C)) = some B0) (made : peek K ⟨prog, w.params⟩ (Bind.madeBy B0) = some (some "object.__new__"))
    (h : ∀ x dx h', Fr h₀ L h' m → News h₀ L h' ((x, instObj C dx) :: (dx, dictOf [] 0) :: news) → (∀ p ∈ news, p.1 < dx) → dx < x → Q (.ref x) { s with heap := h' }) :
    wpAny (model prog w) A (call (.builtin "object.__new__") [.ref C] []) Q E s := by
  have X : K.In s.heap := X₀.keeps F.keep
  have N' := (N.push F emptyDict).push (F.push _) (instObj C s.heap.objs.size)
  rw [Heap.size_push] at N'
  have z := h _ s.heap.objs.size _ ((F.push _).push _) N' (fun p hp => Heap.lt_size (N p hp).1) (Nat.lt_succ_self _)
  have Ltop := looks_subIn (M := model prog w) X top
  have Ltyp := looks_instIn (M := model prog w) X typ
  have Lbase := Looks.of_peek (M := model prog w) X base
  have Lmade := Looks.of_peek (M := model prog w) X made
  have hC := X _ _ ho
  obtain ⟨hh, g, d, t, os⟩ := s
  have FF := PySem.F.objNew
  refine wpAny_call ?_
  refine codeAny_call_builtin_code (Code.quiet_builtin _ FF.quiet) ?_
  simp only [checkBuiltinCall, FF.kind, FF.split, FF.row]
  have args : Bind.checkArgs "object.__new__" ⟨.hand, "object.__new__", "__new__", .cls, []⟩ ⟨[.ref C], []⟩ = pure () := by kernel_rfl
  rw [args]
  repeat (first | simp only [bne_self_eq_false, Bool.false_eq_true, if_false] | lk)
  refine codeAny_builtin FF.entry ?_
  unfold Builtin.«object.__new__»
  have fin : ∀ A', wpAny (model prog w) A' (do
      let d ← if typeHasDict (.ref C) then some <$> alloc { cls := .type "dict", data := .dict #[] } else pure none
      ret (← newObj (.ref C) .plain d)) (fun fin s' => match fin with
        | .done f => (match (.ok f : Result) with | .ok (.ret v) => Q v s' | .ok _ => False | .error e => E e s')
        | .again c' => c'.quiet = true ∧ codeAny (model prog w) A c' (fun r s' => match r with | .ok (.ret v) => Q v s' | .ok _ => False | .error e => E e s') s') (fun e s' => E e s') ⟨hh, g, d, t, os⟩ := by
    intro A'
    show wpAny _ _ ((alloc emptyDict >>= fun x => pure (some x)) >>= _) _ _ _
    refine wpAny_bind (wpAny_bind (wpAny_alloc (wpAny_pure (wpAny_bind ?_))))
    show wpAny _ _ (newObjAsIs _ _ _) _ _ _
    unfold newObjAsIs classHasDel
    refine wpAny_bind (wpAny_alloc (wpAny_bind (wpAny_bind (wpAny_load (Heap.get?_push_of_some _ (Heap.get?_push_of_some _ hC)) (wpAny_pure ?_)))))
    rw [e2]
    refine wpAny_pure (wpAny_pure ?_)
    show Q _ _
    rw [Heap.size_push]
    exact z
  repeat (first | simp only [e1, Option.map_some, bne_self_eq_false, Bool.false_eq_true, if_false] | ((with_reducible show wpAny _ _ (_ >>= _) _ _ _); exact fin _) | lk)
end
end Mine
end
section
open PySem PySem.W PyProof.Rows PySem.Calls PySem.W.X PySem.W.XRun
set_option maxRecDepth 100000
set_option maxHeartbeats 4000000
namespace Mine
noncomputable def AllNeN (d : Addr) : List (Addr × Obj) → Prop
  | [] => True
  | p :: r => @Ne Nat p.1 d ∧ AllNeN d r
theorem allNeN_of {d : Addr} : ∀ {l : List (Addr × Obj)}, (∀ p ∈ l, p.1 ≠ d) → AllNeN d l
  | [], _ => trivial
  | p :: _, h => ⟨h p (.head _), allNeN_of fun q hq => h q (.tail _ hq)⟩
section
variable {prog : Program} {w : World} {A : Around} {s : Shared} {h₀ : Heap} {L : Addr} {m : Str → Option Value} {news : List (Addr × Obj)} {Q E : Value → Shared → Prop}
noncomputable abbrev dequeObj (k : Int) (vs : List Value) : Obj := { cls := .type "collections.deque", data := .fields (.none :: .int k 0 :: vs).toArray }
set_option hygiene false in
local macro_rules | `(tactic| x_close) => `(tactic| (exact hret _ _ _ (by assumption)))
theorem deque_x (hu : A.units + 20 < cLine) (hd : A.depth + 3 < recursionLimit) (hret : ∀ D h' t, Mem s.heap h' [] [(D, dequeObj 0 [])] → Q (.ref D) ⟨h', s.gens, s.drawn, t, s.os⟩) : wpAny (model prog w) A (call (.type "collections.deque") []) Q E s := by
  x_run

theorem mem_back {h' : Heap} {l : List (Addr × Obj)} (D : Mem s.heap h' [] l) : ∀ b o, s.heap.get? b = some o → h'.get? b = some o := fun b o e => D.keep b o e (by simp [away])
theorem mem_fresh {h' : Heap} {l : List (Addr × Obj)} (D : Mem s.heap h' [] l) : ∀ q ∈ l, h'.get? q.1 = some q.2 ∧ s.heap.get? q.1 = none := D.nw

/-- what a run of the machine has made, onto the ledger -/
theorem news_mem {h' : Heap} {l : List (Addr × Obj)} (F : Fr h₀ L s.heap m) (N : News h₀ L s.heap news) (D : Mem s.heap h' [] l) : Fr h₀ L h' m ∧ News h₀ L h' (l ++ news) := by
  have k := mem_back D
  refine ⟨F.keeps k, fun q hq => ?_⟩
  rcases List.mem_append.mp hq with hq | hq
  · have z := D.nw q hq
    obtain ⟨oL, es, ep, hL, r⟩ := F.ns
    refine ⟨z.1, fun e => ?_, ?_⟩
    · rw [e, hL] at z; cases z.2
    · cases y : h₀.get? q.1 with
      | none => rfl
      | some o => rw [F.keep _ _ y] at z; cases z.2
  · exact ⟨k _ _ (N q hq).1, (N q hq).2⟩
theorem apart_mem {h' : Heap} {D : Addr} {o : Obj} {l : List (Addr × Obj)} (N : News h₀ L s.heap news) (M : Mem s.heap h' [] l) (hD : (D, o) ∈ l) : ∀ q ∈ news, q.1 ≠ D := fun q hq e => by
  have z := (M.nw _ hD).2
  rw [← e, (N q hq).1] at z; cases z

theorem deque_new (F : Fr h₀ L s.heap m) (N : News h₀ L s.heap news) (hu : A.units + 20 < cLine) (hd : A.depth + 3 < recursionLimit)
    (h : ∀ D h' t, Fr h₀ L h' m → News h₀ L h' ((D, dequeObj 0 []) :: news) → AllNeN D news → Q (.ref D) { s with heap := h', toks := t }) : wpAny (model prog w) A (call (.type "collections.deque") []) Q E s :=
  deque_x hu hd fun D h' t M => h D h' t (news_mem F N M).1 (news_mem F N M).2 (allNeN_of (apart_mem N M (.head _)))
end
end Mine
end
section
open PySem PySem.W PyProof.Rows PySem.Calls
set_option maxRecDepth 100000
namespace Mine
noncomputable abbrev S (l : List Nat) : Str := ⟨l.toArray⟩
noncomputable abbrev ent (P : Params) (n : Str) (t : Tok) (v : Value) : DictEntry := { hash := PyData.keyHash P n, key := .str n t, val := v }
/-- a StringIO's own dict -/
noncomputable abbrev ioO (P : Params) (k : Nat → Tok) (x : Str) (p : Int) (tp : Tok) : Obj :=
  dictOf [ent P (Str.ofString "_StringIO__newline") (k 0) (.str (Str.ofString "\n") (k 1)), ent P (Str.ofString "_StringIO__buf") (k 2) (.str x (k 3)), ent P (Str.ofString "_StringIO__pos") (k 4) (.int p tp)] 3
/-- a shlex's own dict -/
noncomputable abbrev lexO (P : Params) (k : Nat → Tok) (io pb fs : Addr) (st tok : Value) : Obj :=
  dictOf [ent P (Str.ofString "instream") (k 0) (.ref io),
    ent P (Str.ofString "infile") (k 1) .none,
    ent P (Str.ofString "posix") (k 2) (.bool true),
    ent P (Str.ofString "eof") (k 3) .none,
    ent P (Str.ofString "commenters") (k 4) (.str (Str.ofString "") (k 20)),
    ent P (Str.ofString "wordchars") (k 5) (.str (Str.ofString "abcdfeghijklmnopqrstuvwxyzABCDEFGHIJKLMNOPQRSTUVWXYZ0123456789_ßàáâãäåæçèéêëìíîïðñòóôõöøùúûüýþÿÀÁÂÃÄÅÆÇÈÉÊËÌÍÎÏÐÑÒÓÔÕÖØÙÚÛÜÝÞ") (k 21)),
    ent P (Str.ofString "whitespace") (k 6) (.str (Str.ofString " \t\r\n") (k 22)),
    ent P (Str.ofString "whitespace_split") (k 7) (.bool true),
    ent P (Str.ofString "quotes") (k 8) (.str (Str.ofString "'\"") (k 23)),
    ent P (Str.ofString "escape") (k 9) (.str (Str.ofString "\\") (k 24)),
    ent P (Str.ofString "escapedquotes") (k 10) (.str (Str.ofString "\"") (k 25)),
    ent P (Str.ofString "state") (k 11) st,
    ent P (Str.ofString "pushback") (k 12) (.ref pb),
    ent P (Str.ofString "lineno") (k 13) (.int 1 (k 26)),
    ent P (Str.ofString "debug") (k 14) (.int 0 (k 27)),
    ent P (Str.ofString "token") (k 15) tok,
    ent P (Str.ofString "filestack") (k 16) (.ref fs),
    ent P (Str.ofString "source") (k 17) .none,
    ent P (Str.ofString "_punctuation_chars") (k 18) (.str (Str.ofString "") (k 28))] 19
end Mine
end
section
open PySem PySem.W PyProof.Rows PySem.Calls PySem.Builtin PySem.Builtin.Str
set_option maxRecDepth 100000
namespace Mine
theorem S_length (l : List Nat) : (S l).length = l.length := by simp [S, PySem.Str.length]
theorem S_append (l l' : List Nat) : S l ++ S l' = S (l ++ l') := by
  show (⟨l.toArray ++ l'.toArray⟩ : Str) = ⟨(l ++ l').toArray⟩
  simp
theorem S_inj {l l' : List Nat} : S l = S l' ↔ l = l' := by
  constructor
  · intro h
    have := congrArg (fun x : Str => x.cps.toList) h
    simpa [S] using this
  · rintro rfl; rfl
theorem slice_S {l : List Nat} {i j : Int} (h : 0 ≤ i ∧ i ≤ j ∧ j ≤ l.length) : Txt.slice (S l) (some i) (some j) = S ((l.drop i.toNat).take (j - i).toNat) := by
  have := beq_iff_eq.mp (slice_closes (x := S l) (i := i) (j := j) (by simpa [S] using h))
  simpa [S] using this
theorem slice_S_to {l : List Nat} {j : Int} (h : 0 ≤ j ∧ j ≤ l.length) : Txt.slice (S l) none (some j) = S (l.take j.toNat) := by
  have := beq_iff_eq.mp (slice_closes_to (x := S l) (j := j) (by simpa [S] using h))
  simpa [S] using this
theorem slice_S_from {l : List Nat} {i : Int} (h : 0 ≤ i ∧ i ≤ l.length) : Txt.slice (S l) (some i) none = S (l.drop i.toNat) := by
  have := slice_from_eq (x := S l) (i := i) (b := (l.length : Int)) h.1 (by rw [S_length]; exact h.2) (by rw [S_length])
  rw [this]
  simp only [S]
  congr 1
  rw [List.take_of_length_le]
  simp; omega
theorem slice_S_neg1 {l : List Nat} (h : 0 < l.length) : Txt.slice (S l) none (some (-1)) = S l.dropLast := by
  have e : Txt.slice (S l) none (some (-1)) = Txt.slice (S l) none (some ((l.length : Int) - 1)) := by
    unfold Txt.slice
    have : strSliceIndices none (some (-1)) 1 (S l).length = strSliceIndices none (some ((l.length : Int) - 1)) 1 (S l).length := by
      rw [S_length]
      have a : ((-1 : Int) < 0) := by decide
      have b : ¬ ((l.length : Int) - 1 < 0) := by omega
      have c : ((-1 : Int) + l.length) = (l.length : Int) - 1 := by omega
      simp only [strSliceIndices, a, b, if_true, if_false, c]
    rw [this]
  rw [e, slice_S_to (by omega), List.dropLast_eq_take]
  congr 2
  omega
theorem ofS_blank : Str.ofString " " = S [32] := by decide +kernel
theorem ofS_nil : Str.ofString "" = S [] := by decide +kernel

/-- what the read of one sign makes -/
theorem read_one {l : List Nat} {i : Nat} (h : i < l.length) : Txt.slice (Txt.slice (S l) (some (i : Int)) (some ((i : Int) + 1)) ++ Str.ofString " ") none (some (-1)) = S [l.getD i 0] := by
  rw [slice_S (by omega), ofS_blank, S_append, slice_S_neg1 (by simp)]
  congr 1
  have : ((i : Int) + 1 - i).toNat = 1 := by omega
  rw [this]
  simp only [Int.toNat_natCast, List.dropLast_concat]
  rw [List.getD_eq_getElem?_getD, List.getElem?_eq_getElem h, Option.getD_some]
  rw [List.drop_eq_getElem_cons h, List.take_succ_cons, List.take_zero]
end Mine
end
section
open PySem PySem.W PyProof.Rows PySem.Calls
set_option maxRecDepth 100000
set_option maxHeartbeats 4000000
set_option pp.deepTerms false
namespace Mine
theorem leave_led {g h' : Heap} {L : Addr} {m : Str → Option Value} {l news' : List (Addr × Obj)} (F : Fr g L h' m) (N : News g L h' news') (hs : ∀ q ∈ l, q ∈ news') : (∀ b o, g.get? b = some o → h'.get? b = some o) ∧ Led g h' l :=
  ⟨F.keep, fun q hq => ⟨(N q (hs q hq)).1, (N q (hs q hq)).2.2⟩⟩

theorem sio_read (w : World) (p : Program) (loose : List Str) (mean : ExcName → Option Value) (mg mb : Str → Option Value) (A : Around) (base g : Heap) (env : Env) (outer : List Env) (s : Shared) (Q E : Value → Shared → Prop)
    (io dio : Addr) (k : Nat → Tok) (l : List Nat) (i : Nat) (tp t1 : Tok) (hne : @Ne Nat io dio) (hx : (S l).length < 1000) (hi : i < (S l).length)
    (C : At (Mine.KK w.params) p loose mean mg mb A base env outer g s.heap) (NA : Led g s.heap [(io, instObj 623 dio), (dio, ioO w.params k (S l) i tp)]) (hdp : A.depth + 10 < recursionLimit) (hun : A.units + 100 < cLine)
    (ret : ∀ t h' tk' tp', (∀ b o, g.get? b = some o → h'.get? b = some o) → Led g h' [(io, instObj 623 dio), (dio, ioO w.params k (S l) ((i : Int) + 1) tp')] → Q (.str (S [l.getD i 0]) t) { s with heap := h', toks := tk' }) :
    wpAny (model PySem.Challenge.rw_ik0204_01.prog w) A (call (.ref 569) [.ref io, .int 1 t1]) Q E s := by
  have X := C.part
  revert X; k_fill; intro X
  obtain ⟨hd0, dp, fr, gd, un⟩ := A
  have hA := C.below.stack
  cases hA
  refine wpAny_call ?_
  k_dflt (refine' enter_def C NA ?k6 ?k7 ?k8 ?k9 ?kB ?_ ?c2 ?c3 ?c4 ?c5)
  case k6 => k_is
  case k7 => k_is
  case k8 => ktr_room
  case k9 => first | exact BindsTo.of_eq rfl | exact binds_K (C.part.keeps C.sub) rfl (by k_is) rfl rfl rfl
  case kB => exact locs rfl
  case c2 => exact rfl
  case c3 => exact rfl
  case c4 => exact rfl
  case c5 => decide
  intro L' h' F' N' B' X' T'
  (try dsimp only)
  k_fold
  show wpAny _ _ (execs (_ :: _) _) _ _ _
  repeat' (first | (k_unfold; (try dsimp only)) | ((with_reducible show wpAny _ _ (execs (_ :: _) _) _ _ _); with_reducible (with_reducible refine execs_one ?_)) | ((with_reducible show wpAny _ _ (execs (_ :: _) _) _ _ _); with_reducible (k_here; (with_reducible rename Fr _ _ _ _ => zz_kF); (with_reducible refine execs_consM zz_kF ?_); intro _ _ _ _; clear zz_kF)) | walk1 | (dsimp only; walk1) | dsimp only)
  · rename Fr _ _ _ _ => F9
    rename News _ _ _ _ => N9
    have z := leave_led (l := [(io, instObj 623 dio), (dio, ioO w.params k (S l) ((i : Int) + 1) _)]) F9 N9 (fun q hq => by
      rcases List.mem_cons.mp hq with rfl | hq
      · k_mem
      rcases List.mem_cons.mp hq with rfl | hq
      · k_mem
      · cases hq)
    rw [read_one (by rw [S_length] at hi; exact hi)]
    exact ret _ _ _ _ z.1 z.2
  · rename Fr _ _ _ _ => F9
    rename News _ _ _ _ => N9
    have e9 : ((S l).length : Int) = (i : Int) + 1 := by omega
    rw [e9] at N9
    rw [e9]
    have z := leave_led (l := [(io, instObj 623 dio), (dio, ioO w.params k (S l) ((i : Int) + 1) _)]) F9 N9 (fun q hq => by
      rcases List.mem_cons.mp hq with rfl | hq
      · k_mem
      rcases List.mem_cons.mp hq with rfl | hq
      · k_mem
      · cases hq)
    rw [read_one (by rw [S_length] at hi; exact hi)]
    exact ret _ _ _ _ z.1 z.2
theorem sio_read_end (w : World) (p : Program) (loose : List Str) (mean : ExcName → Option Value) (mg mb : Str → Option Value) (A : Around) (base g : Heap) (env : Env) (outer : List Env) (s : Shared) (Q E : Value → Shared → Prop)
    (io dio : Addr) (k : Nat → Tok) (l : List Nat) (i : Nat) (tp t1 : Tok) (hne : @Ne Nat io dio) (hx : (S l).length < 1000) (hi : i = (S l).length)
    (C : At (Mine.KK w.params) p loose mean mg mb A base env outer g s.heap) (NA : Led g s.heap [(io, instObj 623 dio), (dio, ioO w.params k (S l) i tp)]) (hdp : A.depth + 10 < recursionLimit) (hun : A.units + 100 < cLine)
    (ret : ∀ t h' tk', (∀ b o, g.get? b = some o → h'.get? b = some o) → Led g h' [(io, instObj 623 dio), (dio, ioO w.params k (S l) i tp)] → Q (.str (Str.ofString "") t) { s with heap := h', toks := tk' }) :
    wpAny (model PySem.Challenge.rw_ik0204_01.prog w) A (call (.ref 569) [.ref io, .int 1 t1]) Q E s := by
  have X := C.part
  revert X; k_fill; intro X
  obtain ⟨hd0, dp, fr, gd, un⟩ := A
  have hA := C.below.stack
  cases hA
  refine wpAny_call ?_
  k_dflt (refine' enter_def C NA ?k6 ?k7 ?k8 ?k9 ?kB ?_ ?c2 ?c3 ?c4 ?c5)
  case k6 => k_is
  case k7 => k_is
  case k8 => ktr_room
  case k9 => first | exact BindsTo.of_eq rfl | exact binds_K (C.part.keeps C.sub) rfl (by k_is) rfl rfl rfl
  case kB => exact locs rfl
  case c2 => exact rfl
  case c3 => exact rfl
  case c4 => exact rfl
  case c5 => decide
  intro L' h' F' N' B' X' T'
  (try dsimp only)
  k_fold
  show wpAny _ _ (execs (_ :: _) _) _ _ _
  repeat' (first | (k_unfold; (try dsimp only)) | ((with_reducible show wpAny _ _ (execs (_ :: _) _) _ _ _); with_reducible (with_reducible refine execs_one ?_)) | ((with_reducible show wpAny _ _ (execs (_ :: _) _) _ _ _); with_reducible (k_here; (with_reducible rename Fr _ _ _ _ => zz_kF); (with_reducible refine execs_consM zz_kF ?_); intro _ _ _ _; clear zz_kF)) | walk1 | (dsimp only; walk1) | dsimp only)
  · rename Fr _ _ _ _ => F9
    rename News _ _ _ _ => N9
    have z := leave_led (l := [(io, instObj 623 dio), (dio, ioO w.params k (S l) i tp)]) F9 N9 (fun q hq => by
      rcases List.mem_cons.mp hq with rfl | hq
      · k_mem
      rcases List.mem_cons.mp hq with rfl | hq
      · k_mem
      · cases hq)
    exact ret _ _ _ z.1 z.2
end Mine
end
section
open PySem PySem.W PyProof.Rows PySem.Calls
set_option maxRecDepth 100000
namespace Mine
/-- the reader's modes -/
inductive Md | none | blank | word | esc | q1 | q2
  deriving DecidableEq
noncomputable def Md.str : Md → Str
  | .none => Str.ofString ""
  | .blank => Str.ofString " "
  | .word => Str.ofString "a"
  | .esc => Str.ofString "\\"
  | .q1 => Str.ofString "'"
  | .q2 => Str.ofString "\""
noncomputable def Md.val (t : Tok) : Md → Value
  | .none => .none
  | .blank => .str (Str.ofString " ") t
  | .word => .str (Str.ofString "a") t
  | .esc => .str (Str.ofString "\\") t
  | .q1 => .str (Str.ofString "'") t
  | .q2 => .str (Str.ofString "\"") t
/-- what a reading of one word keeps between two signs -/
structure Ts where
  md : Md
  q : Bool
  es : Md
  tok : List Nat
noncomputable def Ts.start (md : Md) : Ts := ⟨md, false, .blank, []⟩
/-- one word off the signs: the word (or that there is none), the signs left, the mode then; none: refused -/
noncomputable def rt : Ts → List Nat → Option (Option (List Nat) × List Nat × Md)
  | t, [] => match t.md with
    | .none | .blank => some (.none, [], .none)
    | .word => some (some t.tok, [], .none)
    | _ => .none
  | t, c :: r => match t.md with
    | .none => some (.none, r, .none)
    | .blank =>
      if c = 32 then rt t r
      else if c = 92 then rt ⟨.esc, t.q, .word, t.tok⟩ r
      else if c = 39 then rt ⟨.q1, t.q, t.es, t.tok⟩ r
      else if c = 34 then rt ⟨.q2, t.q, t.es, t.tok⟩ r
      else rt ⟨.word, t.q, t.es, [c]⟩ r
    | .word =>
      if c = 32 then some (some t.tok, r, .blank)
      else if c = 92 then rt ⟨.esc, t.q, .word, t.tok⟩ r
      else if c = 39 then rt ⟨.q1, t.q, t.es, t.tok⟩ r
      else if c = 34 then rt ⟨.q2, t.q, t.es, t.tok⟩ r
      else rt ⟨.word, t.q, t.es, t.tok ++ [c]⟩ r
    | .q1 => if c = 39 then rt ⟨.word, true, t.es, t.tok⟩ r else rt ⟨.q1, true, t.es, t.tok ++ [c]⟩ r
    | .q2 =>
      if c = 34 then rt ⟨.word, true, t.es, t.tok⟩ r
      else if c = 92 then rt ⟨.esc, true, .q2, t.tok⟩ r
      else rt ⟨.q2, true, t.es, t.tok ++ [c]⟩ r
    | .esc => rt ⟨t.es, t.q, t.es, (if t.es = .q2 ∧ c ≠ 92 ∧ c ≠ 34 then t.tok ++ [92] else t.tok) ++ [c]⟩ r
/-- what holds between two signs -/
noncomputable def Ts.ok (t : Ts) : Prop :=
  ((t.md = .blank ∨ t.md = .none) → t.tok = [] ∧ t.q = false) ∧ (t.md = .word → t.tok ≠ [] ∨ t.q = true) ∧ (t.md = .esc → t.es = .word ∨ t.es = .q2) ∧ (t.es = .blank ∨ t.es = .word ∨ t.es = .q2)
noncomputable def okc (c : Nat) : Prop := c = 32 ∨ c = 97 ∨ c = 92 ∨ c = 39 ∨ c = 34 ∨ c = 91 ∨ c = 93 ∨ c = 42 ∨ c = 33 ∨ c = 45
end Mine
end
section
open PySem PySem.W PyProof.Rows PySem.Calls PySem.Builtin PySem.Builtin.Str
set_option maxRecDepth 100000
namespace Mine
section
variable {prog : Program} {w : World} {A : Around} {s : Shared} {x y : Str} {t u : Tok} {b : Bool} {c : Nat}
theorem in_lit {Q E : Value → Shared → Prop} (hb : (!(occurrences x y 0 x.length 1).isEmpty) = b) (h : Q (.bool b) s) : wpAny (model prog w) A (compareOp .In (.str y u) (.str x t)) Q E s := in_str (by rw [hb]; exact h)
theorem notIn_lit {Q E : Value → Shared → Prop} (hb : (!(occurrences x y 0 x.length 1).isEmpty) = b) (h : Q (.bool (!b)) s) : wpAny (model prog w) A (compareOp .NotIn (.str y u) (.str x t)) Q E s := notIn_str (by rw [hb]; exact h)
theorem eq_lit {Q E : Value → Shared → Prop} (hb : (x == y) = b) (h : Q (.bool b) s) : wpAny (model prog w) A (compareOp .Eq (.str x t) (.str y u)) Q E s := PyProof.Rows.eq_str (by rw [hb]; exact h)
theorem ne_lit {Q E : Value → Shared → Prop} (hb : (x == y) = b) (h : Q (.bool (!b)) s) : wpAny (model prog w) A (compareOp .NotEq (.str x t) (.str y u)) Q E s := PyProof.Rows.ne_str (by rw [show (x != y) = !b from by rw [bne, hb]]; exact h)
theorem truthy_lit {Q : Bool → Shared → Prop} {E : Value → Shared → Prop} (hs : x.length < 10000) (hb : decide (x.length = 0) = b) (h : ∀ tk, Q (!b) { s with toks := tk }) : wpAny (model prog w) A (truthy (.str x t)) Q E s :=
  SBL.truthy (by omega) (by
    have e : ((x.length : Int) != 0) = !b := by
      subst hb
      by_cases q : x.length = 0 <;> simp [q]
    rw [e]; exact h _)
theorem truthy_lit2 {Q : Bool → Shared → Prop} {E : Value → Shared → Prop} (hb : decide (x.length = 0) = b) (hs : x.length < 10000) (h : ∀ tk, Q (!b) { s with toks := tk }) : wpAny (model prog w) A (truthy (.str x t)) Q E s := truthy_lit hs hb h
theorem iadd_one {Q E : Value → Shared → Prop} (h1 : x.length < 1000000) (h : ∀ t' tk, Q (.str (x ++ S [c]) t') { s with toks := tk }) : wpAny (model prog w) A (inplaceOp .Add (.str x t) (.str (S [c]) u)) Q E s :=
  PyProof.Rows.iadd_str h (by
    have e : (S [c]).length = 1 := rfl
    rw [e, sizeLine_eq]; omega)
theorem occ_one (l : List Nat) (c : Nat) (hb : l.contains c = b) : (!(occurrences (S l) (S [c]) 0 (S l).length 1).isEmpty) = b := by
  subst hb
  rw [show (S [c]) = (⟨#[c]⟩ : Str) from rfl, StrLaws.found_one]
  simp [S, List.contains_eq_mem]
theorem one_ne {c d : Nat} (h : c ≠ d) : (S [c] == S [d]) = false := by
  simp [S_inj, h]
end
end Mine
end
section
open PySem PySem.W PyProof.Rows PySem.Calls
set_option maxRecDepth 100000
set_option maxHeartbeats 4000000
set_option pp.deepTerms false
namespace Mine
noncomputable abbrev lexLed (P : Params) (k kk : Nat → Tok) (lex dl io dio pb fs : Addr) (l : List Nat) (i : Int) (tp : Tok) (st tok : Value) : List (Addr × Obj) :=
  [(lex, instObj 758 dl), (dl, lexO P k io pb fs st tok), (io, instObj 623 dio), (dio, ioO P kk (S l) i tp)]

section
variable {w : World} {p : Program} {loose : List Str} {mean : ExcName → Option Value} {mg mb : Str → Option Value} {A A₀ : Around} {base h₀ : Heap} {env : Env} {outer : List Env} {s : Shared} {Q E : Value → Shared → Prop} {L : Addr} {m : Str → Option Value}
    {lex dl io dio pb fs : Addr} {k kk : Nat → Tok} {l : List Nat} {i : Nat} {tp t1 : Tok} {st tok : Value}

theorem news_split {k kk : Nat → Tok} {P : Params} {i' : Int} {h' : Heap} (N : News h₀ L s.heap (lexLed P k kk lex dl io dio pb fs l i tp st tok)) (F : Fr h₀ L s.heap m) {tp' : Tok}
    (n2 : @Ne Nat lex io) (n3 : @Ne Nat lex dio) (n4 : @Ne Nat dl io) (n5 : @Ne Nat dl dio)
    (kp : ∀ b o, (hideAll s.heap ([(io, instObj 623 dio), (dio, ioO P kk (S l) i tp)].map (·.1))).get? b = some o → h'.get? b = some o)
    (hL : Led (hideAll s.heap ([(io, instObj 623 dio), (dio, ioO P kk (S l) i tp)].map (·.1))) h' [(io, instObj 623 dio), (dio, ioO P kk (S l) i' tp')]) :
    Fr h₀ L h' m ∧ News h₀ L h' (lexLed P k kk lex dl io dio pb fs l i' tp' st tok) := by
  have N' : News h₀ L s.heap ([(io, instObj 623 dio), (dio, ioO P kk (S l) i tp)] ++ [(lex, instObj 758 dl), (dl, lexO P k io pb fs st tok)]) := fun q hq => N q (by
    rcases List.mem_append.mp hq with hq | hq
    · exact .tail _ (.tail _ hq)
    · rcases List.mem_cons.mp hq with rfl | hq
      · exact .head _
      · rcases List.mem_cons.mp hq with rfl | hq
        · exact .tail _ (.head _)
        · cases hq)
  obtain ⟨F2, N2⟩ := back_with F N' (fun q hq => by
    rcases List.mem_cons.mp hq with rfl | hq
    · exact fun e => by
        rcases List.mem_cons.mp e with e | e
        · exact n2 e
        · rcases List.mem_cons.mp e with e | e
          · exact n3 e
          · cases e
    · rcases List.mem_cons.mp hq with rfl | hq
      · exact fun e => by
          rcases List.mem_cons.mp e with e | e
          · exact n4 e
          · rcases List.mem_cons.mp e with e | e
            · exact n5 e
            · cases e
      · cases hq) kp hL
  refine ⟨F2, fun q hq => N2 q ?_⟩
  rcases List.mem_cons.mp hq with rfl | hq
  · exact .tail _ (.tail _ (.head _))
  rcases List.mem_cons.mp hq with rfl | hq
  · exact .tail _ (.tail _ (.tail _ (.head _)))
  rcases List.mem_cons.mp hq with rfl | hq
  · exact .head _
  rcases List.mem_cons.mp hq with rfl | hq
  · exact .tail _ (.head _)
  · cases hq

theorem read_here (B : Below A₀ base outer h₀) (F : Fr h₀ L s.heap m) (X : (Mine.KK w.params).In h₀) (T : Top p loose mean mg mb h₀) (N : News h₀ L s.heap (lexLed w.params k kk lex dl io dio pb fs l i tp st tok))
    (hA : A.frames = some (env :: outer)) (hf : env.frame = some L) (hke : env.scope.kind = .function) (hdp : A.depth + 10 < recursionLimit) (hun : A.units + 100 < cLine)
    (n2 : @Ne Nat lex io) (n3 : @Ne Nat lex dio) (n4 : @Ne Nat dl io) (n5 : @Ne Nat dl dio) (n6 : @Ne Nat io dio) (hx : (S l).length < 1000) (hi : i < (S l).length) {c : Nat} (hc : l.getD i 0 = c)
    (h : ∀ t h' tk' tp', Fr h₀ L h' m → News h₀ L h' (lexLed w.params k kk lex dl io dio pb fs l ((i : Int) + 1) tp' st tok) → Q (.str (S [c]) t) { s with heap := h', toks := tk' }) :
    wpAny (model PySem.Challenge.rw_ik0204_01.prog w) A (call (.ref 569) [.ref io, .int 1 t1]) Q E s := by
  obtain ⟨C, hL, -⟩ := at_with (l := [(io, instObj 623 dio), (dio, ioO w.params kk (S l) i tp)]) B F X T (fun q hq => N q (.tail _ (.tail _ hq))) hA hf hke
  refine sio_read w p loose mean mg mb A base _ env outer s Q E io dio kk l i tp t1 n6 hx hi C hL hdp hun fun t h' tk' tp' kp hL' => ?_
  obtain ⟨F2, N2⟩ := news_split N F n2 n3 n4 n5 kp hL'
  rw [hc]
  exact h t h' tk' tp' F2 N2

theorem read_here_end (B : Below A₀ base outer h₀) (F : Fr h₀ L s.heap m) (X : (Mine.KK w.params).In h₀) (T : Top p loose mean mg mb h₀) (N : News h₀ L s.heap (lexLed w.params k kk lex dl io dio pb fs l i tp st tok))
    (hA : A.frames = some (env :: outer)) (hf : env.frame = some L) (hke : env.scope.kind = .function) (hdp : A.depth + 10 < recursionLimit) (hun : A.units + 100 < cLine)
    (n2 : @Ne Nat lex io) (n3 : @Ne Nat lex dio) (n4 : @Ne Nat dl io) (n5 : @Ne Nat dl dio) (n6 : @Ne Nat io dio) (hx : (S l).length < 1000) (hi : i = (S l).length)
    (h : ∀ t h' tk', Fr h₀ L h' m → News h₀ L h' (lexLed w.params k kk lex dl io dio pb fs l i tp st tok) → Q (.str (Str.ofString "") t) { s with heap := h', toks := tk' }) :
    wpAny (model PySem.Challenge.rw_ik0204_01.prog w) A (call (.ref 569) [.ref io, .int 1 t1]) Q E s := by
  obtain ⟨C, hL, -⟩ := at_with (l := [(io, instObj 623 dio), (dio, ioO w.params kk (S l) i tp)]) B F X T (fun q hq => N q (.tail _ (.tail _ hq))) hA hf hke
  refine sio_read_end w p loose mean mg mb A base _ env outer s Q E io dio kk l i tp t1 n6 hx hi C hL hdp hun fun t h' tk' kp hL' => ?_
  obtain ⟨F2, N2⟩ := news_split N F n2 n3 n4 n5 kp hL'
  exact h t h' tk' F2 N2
end
end Mine
end
section
open PySem PySem.W PyProof.Rows PySem.Calls
set_option maxRecDepth 100000
set_option maxHeartbeats 4000000
set_option pp.deepTerms false
namespace Mine
section
variable {M : Model} {A : Around} {E : Value → Shared → Prop} {env : Env} {st : Stmt} {Q : Flow → Shared → Prop} {s : Shared}
/-- the last statement of a block -/
theorem execs_one0 (h : wpAny M A (exec st env) Q E s) : wpAny M A (execs [st] env) Q E s :=
  wpAny_execs_cons (wpAny_mono h (fun f _ x => by cases f <;> first | exact wpAny_execs_nil x | exact x) fun _ _ x => x)
end
section
variable {w : World} {A : Around} {E : Value → Shared → Prop} {hp h₀ : Heap} {gs : Array GenState} {d : Drawn} {tk : Nat} {os : OsState} {L a : Addr} {m : Str → Option Value} {cn : Str} {cs : Scope} {cd : Value}
  {lex dl io dio pb fs : Addr} {k kk : Nat → Tok} {l : List Nat} {i : Int} {tp : Tok} {st tok v : Value} {x nm : Str} {xp pos : Pos}
/-- an attribute of the reader, by its name in the frame -/
theorem lex_attr {Q : Value → Shared → Prop} (F : Fr h₀ L hp m) (X : (Mine.KK w.params).In h₀) (N : News h₀ L hp (lexLed w.params k kk lex dl io dio pb fs l i tp st tok)) (hv : m x = some (.ref lex))
    (hl : getL nm (match lexO w.params k io pb fs st tok with | ⟨_, _, .dict es _, _⟩ => es.toList | _ => []) = some (some v)) (h : Q v ⟨hp, gs, d, tk + 1, os⟩)
    (hg : plainGet (Mine.KK w.params) 758 nm = true) (ha : findIn (Mine.KK w.params) (.ref 758) nm = some none) (hh : handedIn v = true)
    (hk : cs.kind = .function := by with_unfolding_all rfl) (hx : (envX cn cs L a cd []).kindOf x = some .local := by with_unfolding_all rfl) (hd : (x == ("__debug__" : Str)) = false := by with_unfolding_all decide)
    (he : eval (.Attribute (.Name x xp) nm pos) (envOf cn cs L a cd) = (do
      let o ← eval (.Name x xp) (envOf cn cs L a cd)
      standAt pos.atName
      let r ← holding [o] (getAttr o nm true)
      letTemporaryGo (.Name x xp) o r
      pure r) := by with_unfolding_all rfl) :
    wpAny (model PySem.Challenge.rw_ik0204_01.prog w) A (eval (.Attribute (.Name x xp) nm pos) (envOf cn cs L a cd)) Q E ⟨hp, gs, d, tk, os⟩ := by
  refine Attribute_Name_ ?_ he
  refine nameX_L (s := ⟨hp, gs, d, tk, os⟩) F hv ?_ hk hx hd
  have I := InstAt.of_news (x := lex) (C := 758) N (List.Mem.head _) (List.Mem.tail _ (List.Mem.head _))
  have hH : hasDictIn (Mine.KK w.params) 758 = true := by kernel_rfl
  exact get_own (s := ⟨hp, gs, d, tk, os⟩) F X I hg hH ha rfl hl hh h
variable {st' tok' : Value}
theorem lex_state {Q : Unit → Shared → Prop} (F : Fr h₀ L hp m) (X : (Mine.KK w.params).In h₀) (N : News h₀ L hp (lexLed w.params k kk lex dl io dio pb fs l i tp st tok)) (n : @Ne Nat lex dl) (n4 : @Ne Nat dl io) (n5 : @Ne Nat dl dio)
    (h : ∀ h', Fr h₀ L h' m → News h₀ L h' (lexLed w.params k kk lex dl io dio pb fs l i tp st' tok) → Q () ⟨h', gs, d, tk + 2, os⟩) :
    wpAny (model PySem.Challenge.rw_ik0204_01.prog w) A (setAttr (.ref lex) (Str.ofString "state") st') Q E ⟨hp, gs, d, tk, os⟩ := by
  revert X; k_fill; intro X
  have I := InstAt.of_news (x := lex) (C := 758) N (List.Mem.head _) (List.Mem.tail _ (List.Mem.head _))
  k_dflt (refine' set_dict (s := ⟨hp, gs, d, tk, os⟩) F X N I ?k5 ?k6 ?k7 ?k8 ?k9 ?k10 ?k11 ?k12 ?k13 ?_; (case k5 => exact rfl); (case k6 => k_is); (case k7 => k_is); (case k8 => k_is); (case k9 => k_is); (case k10 => k_get); (case k11 => k_put); (case k12 => k_upd); (case k13 => exact Nat.le_of_ble_eq_true rfl); k_whole)
  exact fun h1 F1 N1 => h h1 F1 N1
theorem lex_token {Q : Unit → Shared → Prop} (F : Fr h₀ L hp m) (X : (Mine.KK w.params).In h₀) (N : News h₀ L hp (lexLed w.params k kk lex dl io dio pb fs l i tp st tok)) (n : @Ne Nat lex dl) (n4 : @Ne Nat dl io) (n5 : @Ne Nat dl dio)
    (h : ∀ h', Fr h₀ L h' m → News h₀ L h' (lexLed w.params k kk lex dl io dio pb fs l i tp st tok') → Q () ⟨h', gs, d, tk + 2, os⟩) :
    wpAny (model PySem.Challenge.rw_ik0204_01.prog w) A (setAttr (.ref lex) (Str.ofString "token") tok') Q E ⟨hp, gs, d, tk, os⟩ := by
  revert X; k_fill; intro X
  have I := InstAt.of_news (x := lex) (C := 758) N (List.Mem.head _) (List.Mem.tail _ (List.Mem.head _))
  k_dflt (refine' set_dict (s := ⟨hp, gs, d, tk, os⟩) F X N I ?k5 ?k6 ?k7 ?k8 ?k9 ?k10 ?k11 ?k12 ?k13 ?_; (case k5 => exact rfl); (case k6 => k_is); (case k7 => k_is); (case k8 => k_is); (case k9 => k_is); (case k10 => k_get); (case k11 => k_put); (case k12 => k_upd); (case k13 => exact Nat.le_of_ble_eq_true rfl); k_whole)
  exact fun h1 F1 N1 => h h1 F1 N1
end
end Mine
end
section
open PySem PySem.W PyProof.Rows PySem.Calls
set_option maxRecDepth 100000
set_option maxHeartbeats 16000000
set_option pp.deepTerms false
namespace Mine

noncomputable abbrev sSelf : Str := Str.ofString "self"
noncomputable abbrev sQuoted : Str := Str.ofString "quoted"
noncomputable abbrev sEsc : Str := Str.ofString "escapedstate"
noncomputable def tokM (lex : Addr) (q : Bool) (es : Value) (m : Str → Option Value) : Str → Option Value := fun y => if y = sEsc then some es else if y = sQuoted then some (.bool q) else if y = sSelf then some (.ref lex) else m y
theorem tokM_eq {lex : Addr} {q : Bool} {es : Value} {m : Str → Option Value} (h1 : m sSelf = some (.ref lex)) (h2 : m sQuoted = some (.bool q)) (h3 : m sEsc = some es) : m = tokM lex q es m := by
  funext y
  unfold tokM
  split
  · rename_i e; rw [e, h3]
  · split
    · rename_i e; rw [e, h2]
    · split
      · rename_i e; rw [e, h1]
      · rfl

inductive TokInv (P : Params) (k kk : Nat → Tok) (lex dl io dio pb fs : Addr) (l : List Nat) (R : Option (Option (List Nat) × List Nat × Md)) (n : Nat) (m : Str → Option Value) (nx : List (Addr × Obj)) : Prop
  | mk (t : Ts) (j : Nat) (tp ts tt te : Tok) (q1 : n = l.length - j) (q2 : j ≤ l.length) (q3 : t.ok) (q4 : (t.md = .none → j = l.length)) (q5 : t.tok.length ≤ 2 * j) (q6 : nx = lexLed P k kk lex dl io dio pb fs l j tp (t.md.val ts) (.str (S t.tok) tt)) (q7 : m sSelf = some (.ref lex)) (q8 : m sQuoted = some (.bool t.q)) (q9 : m sEsc = some (t.es.val te)) (q10 : rt t (l.drop j) = R) : TokInv P k kk lex dl io dio pb fs l R n m nx
inductive TokExit (P : Params) (k kk : Nat → Tok) (lex dl io dio pb fs : Addr) (l : List Nat) (R : Option (Option (List Nat) × List Nat × Md)) (g : Heap) (L : Addr) (s : Shared) (f : Flow) (s₃ : Shared) : Prop
  | mk (q0 : f = .next) (h' : Heap) (tk : Nat) (m' : Str → Option Value) (q : Bool) (tok : List Nat) (j : Nat) (tp ts tt : Tok) (md : Md) (q2 : s₃ = { s with heap := h', toks := tk }) (q3 : Fr g L h' m') (q4 : News g L h' (lexLed P k kk lex dl io dio pb fs l j tp (md.val ts) (.str (S tok) tt))) (q5 : j ≤ l.length) (q6 : tok.length ≤ 2 * j) (q7 : m' sSelf = some (.ref lex)) (q8 : m' sQuoted = some (.bool q)) (q9 : R = some (if tok = [] ∧ q = false then .none else some tok, l.drop j, md)) : TokExit P k kk lex dl io dio pb fs l R g L s f s₃
theorem drop_at {l : List Nat} {j c : Nat} (h : j < (S l).length) (hc : l.getD j 0 = c) : l.drop j = c :: l.drop (j + 1) := by
  rw [S_length] at h
  rw [List.drop_eq_getElem_cons h, ← hc, List.getD_eq_getElem?_getD, List.getElem?_eq_getElem h, Option.getD_some]
section
variable {P : Params} {k kk : Nat → Tok} {lex dl io dio pb fs : Addr} {l : List Nat} {R : Option (Option (List Nat) × List Nat × Md)} {g : Heap} {L : Addr} {s : Shared} {Q : Flow → Shared → Prop} {h' : Heap} {m' : Str → Option Value} {news' : List (Addr × Obj)} {j tk : Nat} {f : Flow} {tp ts tt te : Tok}
theorem turn_go (t' : Ts) (F : Fr g L h' m') (N : News g L h' news') (hf : f = .next ∨ f = .cont) (hj : j < (S l).length) (hok : t'.ok) (hm : t'.md ≠ .none) (hz : t'.tok.length ≤ 2 * (j + 1))
    (hN : news' = lexLed P k kk lex dl io dio pb fs l ((j : Int) + 1) tp (t'.md.val ts) (.str (S t'.tok) tt)) (e1 : m' sSelf = some (.ref lex)) (e2 : m' sQuoted = some (.bool t'.q)) (e3 : m' sEsc = some (t'.es.val te)) (hR : rt t' (l.drop (j + 1)) = R) :
    WhileStep2 g L s (TokInv P k kk lex dl io dio pb fs l R) Q (l.length - j) f { s with heap := h', toks := tk } := by
  rw [S_length] at hj
  have z : ∃ h₁ tk₁ m₂ news₂ n', ({ s with heap := h', toks := tk } : Shared) = { s with heap := h₁, toks := tk₁ } ∧ Fr g L h₁ m₂ ∧ News g L h₁ news₂ ∧ n' < l.length - j ∧ TokInv P k kk lex dl io dio pb fs l R n' m₂ news₂ :=
    ⟨h', tk, m', news', l.length - (j + 1), rfl, F, N, by omega, t', j + 1, tp, ts, tt, te, rfl, by omega, hok, fun e => absurd e hm, hz, hN, e1, e2, e3, hR⟩
  rcases hf with rfl | rfl <;> exact z
theorem turn_out (q : Bool) (tok : List Nat) (md : Md) (F : Fr g L h' m') (N : News g L h' news') (hj : j ≤ l.length) (hz : tok.length ≤ 2 * j) {p : Int} (hp : p = (j : Int))
    (hN : news' = lexLed P k kk lex dl io dio pb fs l p tp (md.val ts) (.str (S tok) tt)) (e1 : m' sSelf = some (.ref lex)) (e2 : m' sQuoted = some (.bool q)) (hR : R = some (if tok = [] ∧ q = false then .none else some tok, l.drop j, md)) :
    TokExit P k kk lex dl io dio pb fs l R g L s .next { s with heap := h', toks := tk } := by
  subst hp hN
  exact ⟨rfl, h', tk, m', q, tok, j, tp, ts, tt, md, rfl, F, N, hj, hz, e1, e2, hR⟩
end
theorem raisedSN_nil {base G : Heap} {l : List Env} {e : Addr} {cls : Value} {news : List (Addr × Obj)} {h : Heap} (R : RaisedSN base G l e cls news h) : RaisedSN base G l e cls [] h := by
  obtain ⟨B, a0, x1, x2, _, x3⟩ := R
  exact ⟨B, a0, x1, x2, (fun q hq => nomatch hq), x3⟩
theorem led_of {g h' : Heap} {L : Addr} {news' l' : List (Addr × Obj)} (N : News g L h' news') (e : l' = news') : Led g h' l' := by
  subst e
  exact fun q hq => ⟨(N q hq).1, (N q hq).2.2⟩
theorem sq_bs : S [92] = Str.ofString "\\" := by decide +kernel
theorem sq_q1 : S [39] = Str.ofString "'" := by decide +kernel
theorem sq_q2 : S [34] = Str.ofString "\"" := by decide +kernel
noncomputable def wcharL : List Nat := [97, 98, 99, 100, 102, 101, 103, 104, 105, 106, 107, 108, 109, 110, 111, 112, 113, 114, 115, 116, 117, 118, 119, 120, 121, 122, 65, 66, 67, 68, 69, 70, 71, 72, 73, 74, 75, 76, 77, 78, 79, 80, 81, 82, 83, 84, 85, 86, 87, 88, 89, 90, 48, 49, 50, 51, 52, 53, 54, 55, 56, 57, 95, 223, 224, 225, 226, 227, 228, 229, 230, 231, 232, 233, 234, 235, 236, 237, 238, 239, 240, 241, 242, 243, 244, 245, 246, 248, 249, 250, 251, 252, 253, 254, 255, 192, 193, 194, 195, 196, 197, 198, 199, 200, 201, 202, 203, 204, 205, 206, 207, 208, 209, 210, 211, 212, 213, 214, 216, 217, 218, 219, 220, 221, 222]
theorem wchars_eq : Str.ofString "abcdfeghijklmnopqrstuvwxyzABCDEFGHIJKLMNOPQRSTUVWXYZ0123456789_ßàáâãäåæçèéêëìíîïðñòóôõöøùúûüýþÿÀÁÂÃÄÅÆÇÈÉÊËÌÍÎÏÐÑÒÓÔÕÖØÙÚÛÜÝÞ" = S wcharL := by kernel_rfl
theorem wchars_occ (c : Nat) : (!(Builtin.Str.occurrences (Str.ofString "abcdfeghijklmnopqrstuvwxyzABCDEFGHIJKLMNOPQRSTUVWXYZ0123456789_ßàáâãäåæçèéêëìíîïðñòóôõöøùúûüýþÿÀÁÂÃÄÅÆÇÈÉÊËÌÍÎÏÐÑÒÓÔÕÖØÙÚÛÜÝÞ") (S [c]) 0 (Str.ofString "abcdfeghijklmnopqrstuvwxyzABCDEFGHIJKLMNOPQRSTUVWXYZ0123456789_ßàáâãäåæçèéêëìíîïðñòóôõöøùúûüýþÿÀÁÂÃÄÅÆÇÈÉÊËÌÍÎÏÐÑÒÓÔÕÖØÙÚÛÜÝÞ").length 1).isEmpty) = wcharL.contains c := by
  rw [wchars_eq]
  exact occ_one _ _ rfl
theorem len0 {tok : List Nat} (h : tok ≠ []) : decide ((S tok).length = 0) = false := by
  rw [S_length]; simp [h]

theorem read_token (w : World) (p : Program) (loose : List Str) (mean : ExcName → Option Value) (mg mb : Str → Option Value) (A : Around) (base g : Heap) (env : Env) (outer : List Env) (s : Shared) (Q E : Value → Shared → Prop)
    (lex dl io dio pb fs : Addr) (k kk : Nat → Tok) (l : List Nat) (i : Nat) (tp ts tt : Tok) (md : Md) (hx : (S l).length < 1000) (hi : i ≤ l.length) (hl : ∀ c ∈ l, okc c) (hmd : md = .blank ∨ (md = .none ∧ i = l.length))
    (n1 : @Ne Nat lex dl) (n2 : @Ne Nat lex io) (n3 : @Ne Nat lex dio) (n4 : @Ne Nat dl io) (n5 : @Ne Nat dl dio) (n6 : @Ne Nat io dio)
    (C : At (Mine.KK w.params) p loose mean mg mb A base env outer g s.heap) (NA : Led g s.heap (lexLed w.params k kk lex dl io dio pb fs l i tp (md.val ts) (.str (Str.ofString "") tt))) (hhd : A.handled = none) (hdp : A.depth + 20 < recursionLimit) (hun : A.units + 200 < cLine)
    (ret : ∀ t h' tk' tok rest md' tp' ts' tt', rt (Ts.start md) (l.drop i) = some (tok, rest, md') → (∀ b o, g.get? b = some o → h'.get? b = some o) →
      Led g h' (lexLed w.params k kk lex dl io dio pb fs l ((l.length - rest.length : Nat) : Int) tp' (md'.val ts') (.str (Str.ofString "") tt')) → rest = l.drop (l.length - rest.length) → rest.length ≤ l.length → Q (match tok with | some x => .str (S x) t | .none => .none) { s with heap := h', toks := tk' })
    (err : ∀ e h' tk', rt (Ts.start md) (l.drop i) = .none → RaisedSN base g (env :: outer) e (.type "ValueError") [] h' → g.UpToSlots h' → E (.ref e) { s with heap := h', toks := tk' }) :
    wpAny (model PySem.Challenge.rw_ik0204_01.prog w) A (call (.ref 726) [.ref lex]) Q E s := by
  have X := C.part
  revert X; k_fill; intro X
  obtain ⟨hd0, dp, fr, gd, un⟩ := A
  have hA := C.below.stack
  cases hA
  cases hhd
  refine wpAny_call ?_
  k_dflt (refine' enter_def C NA ?k6 ?k7 ?k8 ?k9 ?kB ?_ ?c2 ?c3 ?c4 ?c5)
  case k6 => k_is
  case k7 => k_is
  case k8 => ktr_room
  case k9 => first | exact BindsTo.of_eq rfl | exact binds_K (C.part.keeps C.sub) rfl (by k_is) rfl rfl rfl
  case kB => exact locs rfl
  case c2 => exact rfl
  case c3 => exact rfl
  case c4 => exact rfl
  case c5 => decide
  intro L' h' F' N' B' X' T'
  (try dsimp only)
  k_fold
  repeat' (first | (k_unfold; (try dsimp only)) | (with_reducible first | refine PyProof.Rows.ite_tt ?_ | refine PyProof.Rows.ite_ff ?_) | ((with_reducible show wpAny _ _ (execs (_ :: _) _) _ _ _); with_reducible (k_here; (with_reducible rename Fr _ _ _ _ => zz_kF); (with_reducible refine execs_consM zz_kF ?_); intro _ _ _ _; clear zz_kF)) | ((fail_if_success (with_reducible show wpAny _ _ (PySem.exec (Stmt.While _ _ _ _) _) _ _ _)); walk1) | ((fail_if_success (with_reducible show wpAny _ _ (PySem.exec (Stmt.While _ _ _ _) _) _ _ _)); dsimp only; (first | ((with_reducible show wpAny _ _ (execs (_ :: _) _) _ _ _); with_reducible (k_here; (with_reducible rename Fr _ _ _ _ => zz_kF); (with_reducible refine execs_consM zz_kF ?_); intro _ _ _ _; clear zz_kF)) | walk1)))
  rename Fr _ _ _ _ => FW
  rename News _ _ _ _ => NW
  refine wpAny_mono (Q := TokExit w.params k kk lex dl io dio pb fs l (rt (Ts.start md) (l.drop i)) g L' { s with heap := h', toks := s.toks }) ?_ (fun f s₃ h₃ => ?_) (fun _ _ z => z)
  · refine While_inv2 (TokInv w.params k kk lex dl io dio pb fs l (rt (Ts.start md) (l.drop i))) (n₀ := l.length - i) FW NW ⟨Ts.start md, i, tp, ts, tt, _, rfl, hi, ?_, ?_, Nat.zero_le _, ?_, rfl, rfl, rfl, rfl⟩ ?_
    · rcases hmd with rfl | ⟨rfl, _⟩ <;> simp [Ts.ok, Ts.start]
    · rcases hmd with rfl | ⟨rfl, z⟩
      · exact fun e => nomatch e
      · exact fun _ => z
    · rfl
    · clear FW NW
      rintro n m₁ nx h₁ tk₁ F₁ N₁ ⟨t, j, tp1, ts1, tt1, te1, rfl, hj, hok, hno, hz, rfl, e1, e2, e3, hR⟩
      rw [tokM_eq e1 e2 e3] at F₁
      clear e1 e2 e3
      have hx' : l.length < 1000 := by rw [S_length] at hx; exact hx
      have hz1 : (S t.tok).length < 10000 := by rw [S_length]; omega
      rcases Nat.lt_or_ge j (S l).length with hlt | hge
      · have hcl : okc (l.getD j 0) := hl _ (by rw [S_length] at hlt; rw [List.getD_eq_getElem?_getD, List.getElem?_eq_getElem hlt]; exact List.getElem_mem _)
        obtain ⟨c, hcv⟩ : ∃ c, l.getD j 0 = c := ⟨_, rfl⟩
        rw [hcv] at hcl
        rw [drop_at hlt hcv] at hR
        have h10 : (S [c] == Str.ofString "\n") = false := by rcases hcl with rfl | rfl | rfl | rfl | rfl | rfl | rfl | rfl | rfl | rfl <;> decide +kernel
        show wpAny _ _ _ _ _ _
        k_fold
        repeat' (first | (k_unfold; (try dsimp only)) | (with_reducible first | refine PyProof.Rows.ite_tt ?_ | refine PyProof.Rows.ite_ff ?_) | ((with_reducible show wpAny _ _ (call (Value.ref _) _ _) _ _ _); with_reducible (k_here; k_dflt (first | (refine' read_here_end ?k1_g1a ?k2_g1a ?k3_g1a ?k4_g1a ?k5_g1a ?kA_g1a ?zz_kF_g1a ?kK_g1a ?k6_g1a ?k7_g1a ?a2_g1a ?a3_g1a ?a4_g1a ?a5_g1a ?a6_g1a ?k8_g1a ?k9_g1a ?_; (case kA_g1a => exact rfl); (case zz_kF_g1a => exact rfl); (case kK_g1a => exact rfl); (case k1_g1a => k_asm); (case k2_g1a => k_asm); (case k3_g1a => k_asm); (case k4_g1a => k_asm); (case k5_g1a => k_asm); (case k6_g1a => ktr_room); (case k7_g1a => ktr_units); (case a2_g1a => assumption); (case a3_g1a => assumption); (case a4_g1a => assumption); (case a5_g1a => assumption); (case a6_g1a => assumption); (case k8_g1a => assumption); (case k9_g1a => assumption); k_whole; intro zz_tq zz_hq zz_tkq zz_Fq zz_Nq) | (refine' read_here ?k1_g1a ?k2_g1a ?k3_g1a ?k4_g1a ?k5_g1a ?kA_g1a ?zz_kF_g1a ?kK_g1a ?k6_g1a ?k7_g1a ?a2_g1a ?a3_g1a ?a4_g1a ?a5_g1a ?a6_g1a ?k8_g1a ?k9_g1a ?kc_g1a ?_; (case kA_g1a => exact rfl); (case zz_kF_g1a => exact rfl); (case kK_g1a => exact rfl); (case k1_g1a => k_asm); (case k2_g1a => k_asm); (case k3_g1a => k_asm); (case k4_g1a => k_asm); (case k5_g1a => k_asm); (case k6_g1a => ktr_room); (case k7_g1a => ktr_units); (case a2_g1a => assumption); (case a3_g1a => assumption); (case a4_g1a => assumption); (case a5_g1a => assumption); (case a6_g1a => assumption); (case k8_g1a => assumption); (case k9_g1a => assumption); (case kc_g1a => assumption); k_whole; intro _ _ _ _ _ _)))) | ((with_reducible show wpAny _ _ (compareOp CmpOp.Eq (Value.str _ _) (Value.str _ _)) _ _ _); with_reducible (k_here; first | (refine eq_lit (by with_reducible assumption) ?_) | (refine eq_lit (b := true) (by decide +kernel) ?_) | (refine eq_lit (b := false) (by decide +kernel) ?_))) | ((with_reducible show wpAny _ _ (eval (Expr.Attribute (Expr.Name _ _) _ _) _) _ _ _); with_reducible (k_here; (refine' lex_attr (by k_dflt k_asm) (by k_dflt k_asm) (by with_reducible assumption) (by k_dflt (exact rfl)) (by k_dflt k_get) ?_ (by k_dflt k_is) (by k_dflt k_is) (by k_dflt k_handed); k_whole))) | ((with_reducible show wpAny _ _ (execs (_ :: _) _) _ _ _); with_reducible (with_reducible refine execs_one ?_)) | ((with_reducible show wpAny _ _ (execs (_ :: _) _) _ _ _); with_reducible (k_here; (with_reducible rename Fr _ _ _ _ => zz_kF); (with_reducible refine execs_consM zz_kF ?_); intro _ _ _ _; clear zz_kF)) | walk1 | (dsimp only; walk1) | dsimp only)
        obtain ⟨md1, q1, es1, tok1⟩ := t
        with_reducible rename Fr _ _ _ _ => F2
        with_reducible rename News _ _ _ _ => N2
        try clear N₁
        try clear F₁
        dsimp only at hno hz hz1 hR
        have hj1 : j + 1 ≤ l.length := by
          rw [S_length] at hlt
          exact hlt
        have hz2 : tok1.length ≤ 2 * (j + 1) := by omega
        have hes : es1 = .blank ∨ es1 = .word ∨ es1 = .q2 := hok.2.2.2
        cases md1
        case none => exact absurd (hno rfl) (by rw [S_length] at hlt; omega)
        case word =>
          dsimp only [Md.val] at N2
          show wpAny _ _ _ _ _ _
          repeat' (first | (k_unfold; (try dsimp only)) | (with_reducible first | refine PyProof.Rows.ite_tt ?_ | refine PyProof.Rows.ite_ff ?_) | ((with_reducible show wpAny _ _ (compareOp CmpOp.Eq (Value.str _ _) (Value.str _ _)) _ _ _); with_reducible (k_here; first | (refine eq_lit (by with_reducible assumption) ?_) | (refine eq_lit (b := true) (by decide +kernel) ?_) | (refine eq_lit (b := false) (by decide +kernel) ?_))) | ((with_reducible show wpAny _ _ (compareOp CmpOp.In (Value.str _ _) (Value.str _ _)) _ _ _); with_reducible (k_here; first | (refine in_lit (by with_reducible assumption) ?_) | (refine in_lit (b := true) (by with_reducible refine (wchars_occ _).trans ?_; decide +kernel) ?_) | (refine in_lit (b := false) (by with_reducible refine (wchars_occ _).trans ?_; decide +kernel) ?_) | (refine in_lit (b := true) (by decide +kernel) ?_) | (refine in_lit (b := false) (by decide +kernel) ?_))) | ((with_reducible show wpAny _ _ (eval (Expr.Attribute (Expr.Name _ _) _ _) _) _ _ _); with_reducible (k_here; (refine' lex_attr (by k_dflt k_asm) (by k_dflt k_asm) (by with_reducible assumption) (by k_dflt (exact rfl)) (by k_dflt k_get) ?_ (by k_dflt k_is) (by k_dflt k_is) (by k_dflt k_handed); k_whole))) | ((with_reducible show wpAny _ _ (execs (_ :: _) _) _ _ _); with_reducible (with_reducible refine execs_one ?_)) | ((with_reducible show wpAny _ _ (truthy (Value.str _ _)) _ _ _); (k_here; first | (refine' truthy_lit2 ?h2_g2e ?h1_g2e ?_; (case h2_g2e => with_reducible assumption); (case h1_g2e => assumption); intro zz_tkq) | (refine' truthy_lit (b := false) ?h1_g2e ?h2_g2e ?_; (case h1_g2e => decide +kernel); (case h2_g2e => exact rfl); intro zz_tkq) | (refine' truthy_lit (b := true) ?h1_g2e ?h2_g2e ?_; (case h1_g2e => decide +kernel); (case h2_g2e => exact rfl); intro zz_tkq) | (refine' truthy_lit2 (b := false) ?h2_g2e ?h1_g2e ?_; (case h2_g2e => exact rfl); (case h1_g2e => exact Nat.le_of_ble_eq_true rfl); intro _))) | ((fail_if_success (with_reducible show wpAny _ _ (PySem.compareOp _ (Value.str (S [c]) _) _) _ _ _)); walk1) | ((fail_if_success (with_reducible show wpAny _ _ (PySem.compareOp _ (Value.str (S [c]) _) _) _ _ _)); dsimp only; walk1) | dsimp only)
          with_reducible rename Fr _ _ _ _ => F2
          with_reducible rename News _ _ _ _ => N2
          replace N2 := fun q hq => N2 q (List.mem_cons_of_mem _ hq)
          rcases hcl with rfl | rfl | rfl | rfl | rfl | hoth
          · by_cases htk : tok1 = []
            · have hq1 : q1 = true := (hok.2.1 rfl).resolve_left (fun h => h htk)
              subst htk hq1
              show wpAny _ _ _ _ _ _
              repeat' (first | (k_unfold; (try dsimp only)) | (with_reducible first | refine PyProof.Rows.ite_tt ?_ | refine PyProof.Rows.ite_ff ?_) | ((with_reducible show wpAny _ _ (compareOp CmpOp.In (Value.str _ _) (Value.str _ _)) _ _ _); with_reducible (k_here; first | (refine in_lit (by with_reducible assumption) ?_) | (refine in_lit (b := true) (by with_reducible refine (wchars_occ _).trans ?_; decide +kernel) ?_) | (refine in_lit (b := false) (by with_reducible refine (wchars_occ _).trans ?_; decide +kernel) ?_) | (refine in_lit (b := true) (by decide +kernel) ?_) | (refine in_lit (b := false) (by decide +kernel) ?_))) | ((with_reducible show wpAny _ _ (eval (Expr.Attribute (Expr.Name _ _) _ _) _) _ _ _); with_reducible (k_here; (refine' lex_attr (by k_dflt k_asm) (by k_dflt k_asm) (by with_reducible assumption) (by k_dflt (exact rfl)) (by k_dflt k_get) ?_ (by k_dflt k_is) (by k_dflt k_is) (by k_dflt k_handed); k_whole))) | ((with_reducible show wpAny _ _ (execs (_ :: _) _) _ _ _); with_reducible (with_reducible refine execs_one ?_)) | ((with_reducible show wpAny _ _ (execs (_ :: _) _) _ _ _); with_reducible (k_here; (with_reducible rename Fr _ _ _ _ => zz_kF); (with_reducible refine execs_consM zz_kF ?_); intro _ _ _ _; clear zz_kF)) | walk1 | (dsimp only; walk1) | dsimp only)
              with_reducible rename Fr _ _ _ _ => F9
              with_reducible rename News _ _ _ _ => N9
              exact turn_out (j := j + 1) true [] .blank F9 N9 hj1 hz2 (by simp) rfl rfl rfl (by rw [← hR]; simp [rt])
            · have htk2 := len0 htk
              show wpAny _ _ _ _ _ _
              repeat' (first | (k_unfold; (try dsimp only)) | (with_reducible first | refine PyProof.Rows.ite_tt ?_ | refine PyProof.Rows.ite_ff ?_) | ((with_reducible show wpAny _ _ (compareOp CmpOp.In (Value.str _ _) (Value.str _ _)) _ _ _); with_reducible (k_here; first | (refine in_lit (by with_reducible assumption) ?_) | (refine in_lit (b := true) (by with_reducible refine (wchars_occ _).trans ?_; decide +kernel) ?_) | (refine in_lit (b := false) (by with_reducible refine (wchars_occ _).trans ?_; decide +kernel) ?_) | (refine in_lit (b := true) (by decide +kernel) ?_) | (refine in_lit (b := false) (by decide +kernel) ?_))) | ((with_reducible show wpAny _ _ (eval (Expr.Attribute (Expr.Name _ _) _ _) _) _ _ _); with_reducible (k_here; ((refine' lex_attr ?F_g4b ?X_g4b ?N_g4b ?v_g4b ?e_g4b ?_ ?g_g4b ?a_g4b ?h_g4b); k_dflt ((case F_g4b => k_asm); (case X_g4b => k_asm); (case N_g4b => with_reducible assumption); (case v_g4b => rfl); (case e_g4b => k_get); (case g_g4b => k_is); (case a_g4b => k_is); (case h_g4b => k_handed); k_whole)))) | ((with_reducible show wpAny _ _ (execs (_ :: _) _) _ _ _); with_reducible (with_reducible refine execs_one ?_)) | ((with_reducible show wpAny _ _ (execs (_ :: _) _) _ _ _); with_reducible (k_here; (with_reducible rename Fr _ _ _ _ => zz_kF); (with_reducible refine execs_consM zz_kF ?_); intro _ _ _ _; clear zz_kF)) | ((with_reducible show wpAny _ _ (truthy (Value.str _ _)) _ _ _); with_reducible (k_here; first | (refine' truthy_lit2 ?h2_g4e ?h1_g4e ?_; (case h2_g4e => with_reducible assumption); (case h1_g4e => assumption); intro zz_tkq) | (refine' truthy_lit (b := false) ?h1_g4e ?h2_g4e ?_; (case h1_g4e => decide +kernel); (case h2_g4e => exact rfl); intro zz_tkq) | (refine' truthy_lit (b := true) ?h1_g4e ?h2_g4e ?_; (case h1_g4e => decide +kernel); (case h2_g4e => exact rfl); intro zz_tkq) | (refine' truthy_lit2 (b := false) ?h2_g4e ?h1_g4e ?_; (case h2_g4e => exact rfl); (case h1_g4e => exact Nat.le_of_ble_eq_true rfl); intro _))) | walk1 | (dsimp only; walk1) | dsimp only)
              with_reducible rename Fr _ _ _ _ => F9
              with_reducible rename News _ _ _ _ => N9
              exact turn_out (j := j + 1) q1 tok1 .blank F9 N9 hj1 hz2 (by simp) rfl rfl rfl (by rw [← hR]; simp [rt, htk])
          · show wpAny _ _ _ _ _ _
            repeat' (first | (k_unfold; (try dsimp only)) | (with_reducible first | refine PyProof.Rows.ite_tt ?_ | refine PyProof.Rows.ite_ff ?_) | ((with_reducible show wpAny _ _ (compareOp CmpOp.Eq (Value.str _ _) (Value.str _ _)) _ _ _); with_reducible (k_here; first | (refine eq_lit (by with_reducible assumption) ?_) | (refine eq_lit (b := true) (by decide +kernel) ?_) | (refine eq_lit (b := false) (by decide +kernel) ?_))) | ((with_reducible show wpAny _ _ (compareOp CmpOp.In (Value.str _ _) (Value.str _ _)) _ _ _); with_reducible (k_here; first | (refine in_lit (by with_reducible assumption) ?_) | (refine in_lit (b := true) (by with_reducible refine (wchars_occ _).trans ?_; decide +kernel) ?_) | (refine in_lit (b := false) (by with_reducible refine (wchars_occ _).trans ?_; decide +kernel) ?_) | (refine in_lit (b := true) (by decide +kernel) ?_) | (refine in_lit (b := false) (by decide +kernel) ?_))) | ((with_reducible show wpAny _ _ (execs (_ :: _) _) _ _ _); with_reducible (with_reducible refine execs_one ?_)) | ((with_reducible show wpAny _ _ (inplaceOp Operator.Add (Value.str _ _) (Value.str _ _)) _ _ _); with_reducible (k_here; (refine' iadd_one ?h1_g5d ?_; (case h1_g5d => omega); intro _ _))) | walk1 | (dsimp only; walk1) | dsimp only)
            with_reducible rename Fr _ _ _ _ => F9
            with_reducible rename News _ _ _ _ => N9
            rw [S_append] at N9
            exact turn_go ⟨.word, q1, es1, tok1 ++ [97]⟩ F9 N9 (by first | exact .inl rfl | exact .inr rfl) hlt (by exact ⟨by simp, by simp, by simp, hes⟩) (by intro e; cases e) (by simp only [List.length_append, List.length_cons, List.length_nil]; omega) rfl rfl rfl rfl (by exact hR)
          · show wpAny _ _ _ _ _ _
            repeat' (first | (k_unfold; (try dsimp only)) | (with_reducible first | refine PyProof.Rows.ite_tt ?_ | refine PyProof.Rows.ite_ff ?_) | ((with_reducible show wpAny _ _ (compareOp CmpOp.Eq (Value.str _ _) (Value.str _ _)) _ _ _); with_reducible (k_here; first | (refine eq_lit (by with_reducible assumption) ?_) | (refine eq_lit (b := true) (by decide +kernel) ?_) | (refine eq_lit (b := false) (by decide +kernel) ?_))) | ((with_reducible show wpAny _ _ (compareOp CmpOp.In (Value.str _ _) (Value.str _ _)) _ _ _); with_reducible (k_here; first | (refine in_lit (by with_reducible assumption) ?_) | (refine in_lit (b := true) (by with_reducible refine (wchars_occ _).trans ?_; decide +kernel) ?_) | (refine in_lit (b := false) (by with_reducible refine (wchars_occ _).trans ?_; decide +kernel) ?_) | (refine in_lit (b := true) (by decide +kernel) ?_) | (refine in_lit (b := false) (by decide +kernel) ?_))) | ((with_reducible show wpAny _ _ (execs (_ :: _) _) _ _ _); with_reducible (with_reducible refine execs_one ?_)) | ((with_reducible show wpAny _ _ (execs (_ :: _) _) _ _ _); with_reducible (k_here; (with_reducible rename Fr _ _ _ _ => zz_kF); (with_reducible refine execs_consM zz_kF ?_); intro _ _ _ _; clear zz_kF)) | ((with_reducible show wpAny _ _ (setAttr (Value.ref _) _ _) _ _ _); with_reducible (k_here; (with_reducible first | (refine lex_state (by k_asm) (by k_asm) (by with_reducible assumption) (by assumption) (by assumption) (by assumption) ?_) | (refine lex_token (by k_asm) (by k_asm) (by with_reducible assumption) (by assumption) (by assumption) (by assumption) ?_)); intro _ _ _; (try k_sweep))) | walk1 | (dsimp only; walk1) | dsimp only)
            with_reducible rename Fr _ _ _ _ => F9
            with_reducible rename News _ _ _ _ => N9
            rw [sq_bs] at N9
            exact turn_go ⟨.esc, q1, .word, tok1⟩ F9 N9 (by first | exact .inl rfl | exact .inr rfl) hlt (by exact ⟨by simp, by simp, by simp, .inr (.inl rfl)⟩) (by intro e; cases e) (by simp only [List.length_append, List.length_cons, List.length_nil]; omega) rfl rfl rfl rfl (by exact hR)
          · show wpAny _ _ _ _ _ _
            repeat' (first | (k_unfold; (try dsimp only)) | (with_reducible first | refine PyProof.Rows.ite_tt ?_ | refine PyProof.Rows.ite_ff ?_) | ((with_reducible show wpAny _ _ (compareOp CmpOp.Eq (Value.str _ _) (Value.str _ _)) _ _ _); with_reducible (k_here; first | (refine eq_lit (by with_reducible assumption) ?_) | (refine eq_lit (b := true) (by decide +kernel) ?_) | (refine eq_lit (b := false) (by decide +kernel) ?_))) | ((with_reducible show wpAny _ _ (compareOp CmpOp.In (Value.str _ _) (Value.str _ _)) _ _ _); with_reducible (k_here; first | (refine in_lit (by with_reducible assumption) ?_) | (refine in_lit (b := true) (by with_reducible refine (wchars_occ _).trans ?_; decide +kernel) ?_) | (refine in_lit (b := false) (by with_reducible refine (wchars_occ _).trans ?_; decide +kernel) ?_) | (refine in_lit (b := true) (by decide +kernel) ?_) | (refine in_lit (b := false) (by decide +kernel) ?_))) | ((with_reducible show wpAny _ _ (execs (_ :: _) _) _ _ _); with_reducible (with_reducible refine execs_one ?_)) | walk1 | (dsimp only; walk1) | dsimp only)
            with_reducible rename Fr _ _ _ _ => F9
            with_reducible rename News _ _ _ _ => N9
            rw [sq_q1] at N9
            exact turn_go ⟨.q1, q1, es1, tok1⟩ F9 N9 (by first | exact .inl rfl | exact .inr rfl) hlt (by exact ⟨by simp, by simp, by simp, hes⟩) (by intro e; cases e) (by simp only [List.length_append, List.length_cons, List.length_nil]; omega) rfl rfl rfl rfl (by exact hR)
          · show wpAny _ _ _ _ _ _
            repeat' (first | (k_unfold; (try dsimp only)) | (with_reducible first | refine PyProof.Rows.ite_tt ?_ | refine PyProof.Rows.ite_ff ?_) | ((with_reducible show wpAny _ _ (compareOp CmpOp.Eq (Value.str _ _) (Value.str _ _)) _ _ _); with_reducible (k_here; first | (refine eq_lit (by with_reducible assumption) ?_) | (refine eq_lit (b := true) (by decide +kernel) ?_) | (refine eq_lit (b := false) (by decide +kernel) ?_))) | ((with_reducible show wpAny _ _ (compareOp CmpOp.In (Value.str _ _) (Value.str _ _)) _ _ _); with_reducible (k_here; first | (refine in_lit (by with_reducible assumption) ?_) | (refine in_lit (b := true) (by with_reducible refine (wchars_occ _).trans ?_; decide +kernel) ?_) | (refine in_lit (b := false) (by with_reducible refine (wchars_occ _).trans ?_; decide +kernel) ?_) | (refine in_lit (b := true) (by decide +kernel) ?_) | (refine in_lit (b := false) (by decide +kernel) ?_))) | ((with_reducible show wpAny _ _ (execs (_ :: _) _) _ _ _); with_reducible (with_reducible refine execs_one ?_)) | walk1 | (dsimp only; walk1) | dsimp only)
            with_reducible rename Fr _ _ _ _ => F9
            with_reducible rename News _ _ _ _ => N9
            rw [sq_q2] at N9
            exact turn_go ⟨.q2, q1, es1, tok1⟩ F9 N9 (by first | exact .inl rfl | exact .inr rfl) hlt (by exact ⟨by simp, by simp, by simp, hes⟩) (by intro e; cases e) (by simp only [List.length_append, List.length_cons, List.length_nil]; omega) rfl rfl rfl rfl (by exact hR)
          · have iW : (!(Builtin.Str.occurrences (Str.ofString " \t\r\n") (S [c]) 0 (Str.ofString " \t\r\n").length 1).isEmpty) = false := by rcases hoth with rfl | rfl | rfl | rfl | rfl <;> decide +kernel
            have iC : (!(Builtin.Str.occurrences (Str.ofString "") (S [c]) 0 (Str.ofString "").length 1).isEmpty) = false := by rcases hoth with rfl | rfl | rfl | rfl | rfl <;> decide +kernel
            have iE : (!(Builtin.Str.occurrences (Str.ofString "\\") (S [c]) 0 (Str.ofString "\\").length 1).isEmpty) = false := by rcases hoth with rfl | rfl | rfl | rfl | rfl <;> decide +kernel
            have iQ : (!(Builtin.Str.occurrences (Str.ofString "'\"") (S [c]) 0 (Str.ofString "'\"").length 1).isEmpty) = false := by rcases hoth with rfl | rfl | rfl | rfl | rfl <;> decide +kernel
            have iA : (!(Builtin.Str.occurrences (Str.ofString "abcdfeghijklmnopqrstuvwxyzABCDEFGHIJKLMNOPQRSTUVWXYZ0123456789_ßàáâãäåæçèéêëìíîïðñòóôõöøùúûüýþÿÀÁÂÃÄÅÆÇÈÉÊËÌÍÎÏÐÑÒÓÔÕÖØÙÚÛÜÝÞ") (S [c]) 0 (Str.ofString "abcdfeghijklmnopqrstuvwxyzABCDEFGHIJKLMNOPQRSTUVWXYZ0123456789_ßàáâãäåæçèéêëìíîïðñòóôõöøùúûüýþÿÀÁÂÃÄÅÆÇÈÉÊËÌÍÎÏÐÑÒÓÔÕÖØÙÚÛÜÝÞ").length 1).isEmpty) = false := by rw [wchars_occ]; rcases hoth with rfl | rfl | rfl | rfl | rfl <;> decide +kernel
            have o1 : c ≠ 32 ∧ c ≠ 92 ∧ c ≠ 39 ∧ c ≠ 34 := by rcases hoth with rfl | rfl | rfl | rfl | rfl <;> decide
            show wpAny _ _ _ _ _ _
            repeat' (first | (k_unfold; (try dsimp only)) | (with_reducible first | refine PyProof.Rows.ite_tt ?_ | refine PyProof.Rows.ite_ff ?_) | ((with_reducible show wpAny _ _ (compareOp CmpOp.Eq (Value.str _ _) (Value.str _ _)) _ _ _); with_reducible (k_here; first | (refine eq_lit (by with_reducible assumption) ?_) | (refine eq_lit (b := true) (by decide +kernel) ?_) | (refine eq_lit (b := false) (by decide +kernel) ?_))) | ((with_reducible show wpAny _ _ (compareOp CmpOp.In (Value.str _ _) (Value.str _ _)) _ _ _); with_reducible (k_here; first | (refine in_lit (by with_reducible assumption) ?_) | (refine in_lit (b := true) (by with_reducible refine (wchars_occ _).trans ?_; decide +kernel) ?_) | (refine in_lit (b := false) (by with_reducible refine (wchars_occ _).trans ?_; decide +kernel) ?_) | (refine in_lit (b := true) (by decide +kernel) ?_) | (refine in_lit (b := false) (by decide +kernel) ?_))) | ((with_reducible show wpAny _ _ (eval (Expr.Attribute (Expr.Name _ _) _ _) _) _ _ _); with_reducible (k_here; ((refine' lex_attr ?F_g9c ?X_g9c ?N_g9c ?v_g9c ?e_g9c ?_ ?g_g9c ?a_g9c ?h_g9c); k_dflt ((case F_g9c => k_asm); (case X_g9c => k_asm); (case N_g9c => with_reducible assumption); (case v_g9c => rfl); (case e_g9c => k_get); (case g_g9c => k_is); (case a_g9c => k_is); (case h_g9c => k_handed); k_whole)))) | ((with_reducible show wpAny _ _ (execs (_ :: _) _) _ _ _); with_reducible (with_reducible refine execs_one ?_)) | ((with_reducible show wpAny _ _ (inplaceOp Operator.Add (Value.str _ _) (Value.str _ _)) _ _ _); with_reducible (k_here; (refine' iadd_one ?h1_g9e ?_; (case h1_g9e => omega); intro _ _))) | ((with_reducible show wpAny _ _ (setAttr (Value.ref _) _ _) _ _ _); with_reducible (k_here; (with_reducible first | (refine lex_state (by k_asm) (by k_asm) (by with_reducible assumption) (by assumption) (by assumption) (by assumption) ?_) | (refine lex_token (by k_asm) (by k_asm) (by with_reducible assumption) (by assumption) (by assumption) (by assumption) ?_)); intro _ _ _; (try k_sweep))) | walk1 | (dsimp only; walk1) | dsimp only)
            with_reducible rename Fr _ _ _ _ => F9
            with_reducible rename News _ _ _ _ => N9
            rw [S_append] at N9
            exact turn_go ⟨.word, q1, es1, tok1 ++ [c]⟩ F9 N9 (by first | exact .inl rfl | exact .inr rfl) hlt (by exact ⟨by simp, by simp, by simp, hes⟩) (by intro e; cases e) (by simp only [List.length_append, List.length_cons, List.length_nil]; omega) rfl rfl rfl rfl (by simpa [rt, o1] using hR)
        case q1 =>
          dsimp only [Md.val] at N2
          show wpAny _ _ _ _ _ _
          repeat' (first | (k_unfold; (try dsimp only)) | (with_reducible first | refine PyProof.Rows.ite_tt ?_ | refine PyProof.Rows.ite_ff ?_) | ((with_reducible show wpAny _ _ (compareOp CmpOp.Eq (Value.str _ _) (Value.str _ _)) _ _ _); with_reducible (k_here; first | (refine eq_lit (by with_reducible assumption) ?_) | (refine eq_lit (b := true) (by decide +kernel) ?_) | (refine eq_lit (b := false) (by decide +kernel) ?_))) | ((with_reducible show wpAny _ _ (compareOp CmpOp.In (Value.str _ _) (Value.str _ _)) _ _ _); with_reducible (k_here; first | (refine in_lit (by with_reducible assumption) ?_) | (refine in_lit (b := true) (by with_reducible refine (wchars_occ _).trans ?_; decide +kernel) ?_) | (refine in_lit (b := false) (by with_reducible refine (wchars_occ _).trans ?_; decide +kernel) ?_) | (refine in_lit (b := true) (by decide +kernel) ?_) | (refine in_lit (b := false) (by decide +kernel) ?_))) | ((with_reducible show wpAny _ _ (eval (Expr.Attribute (Expr.Name _ _) _ _) _) _ _ _); with_reducible (k_here; (refine' lex_attr (by k_dflt k_asm) (by k_dflt k_asm) (by with_reducible assumption) (by k_dflt (exact rfl)) (by k_dflt k_get) ?_ (by k_dflt k_is) (by k_dflt k_is) (by k_dflt k_handed); k_whole))) | ((with_reducible show wpAny _ _ (execs (_ :: _) _) _ _ _); with_reducible (with_reducible refine execs_one ?_)) | ((with_reducible show wpAny _ _ (execs (_ :: _) _) _ _ _); with_reducible (k_here; (with_reducible rename Fr _ _ _ _ => zz_kF); (with_reducible refine execs_consM zz_kF ?_); intro _ _ _ _; clear zz_kF)) | ((with_reducible show wpAny _ _ (truthy (Value.str _ _)) _ _ _); (k_here; first | (refine' truthy_lit2 ?h2_g10f ?h1_g10f ?_; (case h2_g10f => with_reducible assumption); (case h1_g10f => assumption); intro zz_tkq) | (refine' truthy_lit (b := false) ?h1_g10f ?h2_g10f ?_; (case h1_g10f => decide +kernel); (case h2_g10f => exact rfl); intro zz_tkq) | (refine' truthy_lit (b := true) ?h1_g10f ?h2_g10f ?_; (case h1_g10f => decide +kernel); (case h2_g10f => exact rfl); intro zz_tkq) | (refine' truthy_lit2 (b := false) ?h2_g10f ?h1_g10f ?_; (case h2_g10f => exact rfl); (case h1_g10f => exact Nat.le_of_ble_eq_true rfl); intro _))) | ((fail_if_success (with_reducible show wpAny _ _ (PySem.compareOp _ (Value.str (S [c]) _) _) _ _ _)); walk1) | ((fail_if_success (with_reducible show wpAny _ _ (PySem.compareOp _ (Value.str (S [c]) _) _) _ _ _)); dsimp only; walk1) | dsimp only)
          by_cases h39 : c = 39
          · subst h39
            show wpAny _ _ _ _ _ _
            repeat' (first | (k_unfold; (try dsimp only)) | (with_reducible first | refine PyProof.Rows.ite_tt ?_ | refine PyProof.Rows.ite_ff ?_) | ((with_reducible show wpAny _ _ (compareOp CmpOp.Eq (Value.str _ _) (Value.str _ _)) _ _ _); with_reducible (k_here; first | (refine eq_lit (by with_reducible assumption) ?_) | (refine eq_lit (b := true) (by decide +kernel) ?_) | (refine eq_lit (b := false) (by decide +kernel) ?_))) | ((with_reducible show wpAny _ _ (eval (Expr.Attribute (Expr.Name _ _) _ _) _) _ _ _); with_reducible (k_here; ((refine' lex_attr ?F_g11b ?X_g11b ?N_g11b ?v_g11b ?e_g11b ?_ ?g_g11b ?a_g11b ?h_g11b); k_dflt ((case F_g11b => k_asm); (case X_g11b => k_asm); (case N_g11b => with_reducible assumption); (case v_g11b => rfl); (case e_g11b => k_get); (case g_g11b => k_is); (case a_g11b => k_is); (case h_g11b => k_handed); k_whole)))) | ((with_reducible show wpAny _ _ (execs (_ :: _) _) _ _ _); with_reducible (with_reducible refine execs_one ?_)) | ((with_reducible show wpAny _ _ (setAttr (Value.ref _) _ _) _ _ _); with_reducible (k_here; (with_reducible first | (refine lex_state (by k_asm) (by k_asm) (by with_reducible assumption) (by assumption) (by assumption) (by assumption) ?_) | (refine lex_token (by k_asm) (by k_asm) (by with_reducible assumption) (by assumption) (by assumption) (by assumption) ?_)); intro _ _ _; (try k_sweep))) | walk1 | (dsimp only; walk1) | dsimp only)
            with_reducible rename Fr _ _ _ _ => F9
            with_reducible rename News _ _ _ _ => N9
            exact turn_go ⟨.word, true, es1, tok1⟩ F9 N9 (by first | exact .inl rfl | exact .inr rfl) hlt (by exact ⟨by simp, fun _ => .inr rfl, by simp, hes⟩) (by intro e; cases e) (by simp only [List.length_append, List.length_cons, List.length_nil]; omega) rfl rfl rfl rfl (by exact hR)
          have e39 : (S [c] == Str.ofString "'") = false := one_ne h39
          by_cases h92 : c = 92
          · subst h92
            show wpAny _ _ _ _ _ _
            repeat' (first | (k_unfold; (try dsimp only)) | (with_reducible first | refine PyProof.Rows.ite_tt ?_ | refine PyProof.Rows.ite_ff ?_) | ((with_reducible show wpAny _ _ (compareOp CmpOp.Eq (Value.str _ _) (Value.str _ _)) _ _ _); with_reducible (k_here; first | (refine eq_lit (by with_reducible assumption) ?_) | (refine eq_lit (b := true) (by decide +kernel) ?_) | (refine eq_lit (b := false) (by decide +kernel) ?_))) | ((with_reducible show wpAny _ _ (compareOp CmpOp.In (Value.str _ _) (Value.str _ _)) _ _ _); with_reducible (k_here; first | (refine in_lit (by with_reducible assumption) ?_) | (refine in_lit (b := true) (by with_reducible refine (wchars_occ _).trans ?_; decide +kernel) ?_) | (refine in_lit (b := false) (by with_reducible refine (wchars_occ _).trans ?_; decide +kernel) ?_) | (refine in_lit (b := true) (by decide +kernel) ?_) | (refine in_lit (b := false) (by decide +kernel) ?_))) | ((with_reducible show wpAny _ _ (eval (Expr.Attribute (Expr.Name _ _) _ _) _) _ _ _); with_reducible (k_here; (refine' lex_attr (by k_dflt k_asm) (by k_dflt k_asm) (by with_reducible assumption) (by k_dflt (exact rfl)) (by k_dflt k_get) ?_ (by k_dflt k_is) (by k_dflt k_is) (by k_dflt k_handed); k_whole))) | ((with_reducible show wpAny _ _ (execs (_ :: _) _) _ _ _); with_reducible (with_reducible refine execs_one ?_)) | ((with_reducible show wpAny _ _ (inplaceOp Operator.Add (Value.str _ _) (Value.str _ _)) _ _ _); with_reducible (k_here; (refine' iadd_one ?h1_g12e ?_; (case h1_g12e => omega); intro _ _))) | ((with_reducible show wpAny _ _ (setAttr (Value.ref _) _ _) _ _ _); with_reducible (k_here; (with_reducible first | (refine lex_state (by k_asm) (by k_asm) (by with_reducible assumption) (by assumption) (by assumption) (by assumption) ?_) | (refine lex_token (by k_asm) (by k_asm) (by with_reducible assumption) (by assumption) (by assumption) (by assumption) ?_)); intro _ _ _; (try k_sweep))) | walk1 | (dsimp only; walk1) | dsimp only)
            with_reducible rename Fr _ _ _ _ => F9
            with_reducible rename News _ _ _ _ => N9
            rw [S_append] at N9
            exact turn_go ⟨.q1, true, es1, tok1 ++ [92]⟩ F9 N9 (by first | exact .inl rfl | exact .inr rfl) hlt (by exact ⟨by simp, by simp, by simp, hes⟩) (by intro e; cases e) (by simp only [List.length_append, List.length_cons, List.length_nil]; omega) rfl rfl rfl rfl (by exact hR)
          · have iE : (!(Builtin.Str.occurrences (Str.ofString "\\") (S [c]) 0 (Str.ofString "\\").length 1).isEmpty) = false := occ_one [92] c (by simpa using h92)
            show wpAny _ _ _ _ _ _
            repeat' (first | (k_unfold; (try dsimp only)) | (with_reducible first | refine PyProof.Rows.ite_tt ?_ | refine PyProof.Rows.ite_ff ?_) | ((with_reducible show wpAny _ _ (compareOp CmpOp.Eq (Value.str _ _) (Value.str _ _)) _ _ _); with_reducible (k_here; first | (refine eq_lit (by with_reducible assumption) ?_) | (refine eq_lit (b := true) (by decide +kernel) ?_) | (refine eq_lit (b := false) (by decide +kernel) ?_))) | ((with_reducible show wpAny _ _ (compareOp CmpOp.In (Value.str _ _) (Value.str _ _)) _ _ _); with_reducible (k_here; first | (refine in_lit (by with_reducible assumption) ?_) | (refine in_lit (b := true) (by with_reducible refine (wchars_occ _).trans ?_; decide +kernel) ?_) | (refine in_lit (b := false) (by with_reducible refine (wchars_occ _).trans ?_; decide +kernel) ?_) | (refine in_lit (b := true) (by decide +kernel) ?_) | (refine in_lit (b := false) (by decide +kernel) ?_))) | ((with_reducible show wpAny _ _ (eval (Expr.Attribute (Expr.Name _ _) _ _) _) _ _ _); with_reducible (k_here; (refine' lex_attr (by k_dflt k_asm) (by k_dflt k_asm) (by with_reducible assumption) (by k_dflt (exact rfl)) (by k_dflt k_get) ?_ (by k_dflt k_is) (by k_dflt k_is) (by k_dflt k_handed); k_whole))) | ((with_reducible show wpAny _ _ (execs (_ :: _) _) _ _ _); with_reducible (with_reducible refine execs_one ?_)) | ((with_reducible show wpAny _ _ (inplaceOp Operator.Add (Value.str _ _) (Value.str _ _)) _ _ _); with_reducible (k_here; (refine' iadd_one ?h1_g13e ?_; (case h1_g13e => omega); intro _ _))) | ((with_reducible show wpAny _ _ (setAttr (Value.ref _) _ _) _ _ _); with_reducible (k_here; (with_reducible first | (refine lex_state (by k_asm) (by k_asm) (by with_reducible assumption) (by assumption) (by assumption) (by assumption) ?_) | (refine lex_token (by k_asm) (by k_asm) (by with_reducible assumption) (by assumption) (by assumption) (by assumption) ?_)); intro _ _ _; (try k_sweep))) | walk1 | (dsimp only; walk1) | dsimp only)
            with_reducible rename Fr _ _ _ _ => F9
            with_reducible rename News _ _ _ _ => N9
            rw [S_append] at N9
            exact turn_go ⟨.q1, true, es1, tok1 ++ [c]⟩ F9 N9 (by first | exact .inl rfl | exact .inr rfl) hlt (by exact ⟨by simp, by simp, by simp, hes⟩) (by intro e; cases e) (by simp only [List.length_append, List.length_cons, List.length_nil]; omega) rfl rfl rfl rfl (by simpa [rt, h39] using hR)
        case q2 =>
          dsimp only [Md.val] at N2
          show wpAny _ _ _ _ _ _
          repeat' (first | (k_unfold; (try dsimp only)) | (with_reducible first | refine PyProof.Rows.ite_tt ?_ | refine PyProof.Rows.ite_ff ?_) | ((with_reducible show wpAny _ _ (compareOp CmpOp.Eq (Value.str _ _) (Value.str _ _)) _ _ _); with_reducible (k_here; first | (refine eq_lit (by with_reducible assumption) ?_) | (refine eq_lit (b := true) (by decide +kernel) ?_) | (refine eq_lit (b := false) (by decide +kernel) ?_))) | ((with_reducible show wpAny _ _ (compareOp CmpOp.In (Value.str _ _) (Value.str _ _)) _ _ _); with_reducible (k_here; first | (refine in_lit (by with_reducible assumption) ?_) | (refine in_lit (b := true) (by with_reducible refine (wchars_occ _).trans ?_; decide +kernel) ?_) | (refine in_lit (b := false) (by with_reducible refine (wchars_occ _).trans ?_; decide +kernel) ?_) | (refine in_lit (b := true) (by decide +kernel) ?_) | (refine in_lit (b := false) (by decide +kernel) ?_))) | ((with_reducible show wpAny _ _ (eval (Expr.Attribute (Expr.Name _ _) _ _) _) _ _ _); with_reducible (k_here; (refine' lex_attr (by k_dflt k_asm) (by k_dflt k_asm) (by with_reducible assumption) (by k_dflt (exact rfl)) (by k_dflt k_get) ?_ (by k_dflt k_is) (by k_dflt k_is) (by k_dflt k_handed); k_whole))) | ((with_reducible show wpAny _ _ (execs (_ :: _) _) _ _ _); with_reducible (with_reducible refine execs_one ?_)) | ((with_reducible show wpAny _ _ (execs (_ :: _) _) _ _ _); with_reducible (k_here; (with_reducible rename Fr _ _ _ _ => zz_kF); (with_reducible refine execs_consM zz_kF ?_); intro _ _ _ _; clear zz_kF)) | ((with_reducible show wpAny _ _ (truthy (Value.str _ _)) _ _ _); (k_here; first | (refine' truthy_lit2 ?h2_g14f ?h1_g14f ?_; (case h2_g14f => with_reducible assumption); (case h1_g14f => assumption); intro zz_tkq) | (refine' truthy_lit (b := false) ?h1_g14f ?h2_g14f ?_; (case h1_g14f => decide +kernel); (case h2_g14f => exact rfl); intro zz_tkq) | (refine' truthy_lit (b := true) ?h1_g14f ?h2_g14f ?_; (case h1_g14f => decide +kernel); (case h2_g14f => exact rfl); intro zz_tkq) | (refine' truthy_lit2 (b := false) ?h2_g14f ?h1_g14f ?_; (case h2_g14f => exact rfl); (case h1_g14f => exact Nat.le_of_ble_eq_true rfl); intro _))) | ((fail_if_success (with_reducible show wpAny _ _ (PySem.compareOp _ (Value.str (S [c]) _) _) _ _ _)); walk1) | ((fail_if_success (with_reducible show wpAny _ _ (PySem.compareOp _ (Value.str (S [c]) _) _) _ _ _)); dsimp only; walk1) | dsimp only)
          by_cases h34 : c = 34
          · subst h34
            show wpAny _ _ _ _ _ _
            repeat' (first | (k_unfold; (try dsimp only)) | (with_reducible first | refine PyProof.Rows.ite_tt ?_ | refine PyProof.Rows.ite_ff ?_) | ((with_reducible show wpAny _ _ (compareOp CmpOp.Eq (Value.str _ _) (Value.str _ _)) _ _ _); with_reducible (k_here; first | (refine eq_lit (by with_reducible assumption) ?_) | (refine eq_lit (b := true) (by decide +kernel) ?_) | (refine eq_lit (b := false) (by decide +kernel) ?_))) | ((with_reducible show wpAny _ _ (eval (Expr.Attribute (Expr.Name _ _) _ _) _) _ _ _); with_reducible (k_here; ((refine' lex_attr ?F_g15b ?X_g15b ?N_g15b ?v_g15b ?e_g15b ?_ ?g_g15b ?a_g15b ?h_g15b); k_dflt ((case F_g15b => k_asm); (case X_g15b => k_asm); (case N_g15b => with_reducible assumption); (case v_g15b => rfl); (case e_g15b => k_get); (case g_g15b => k_is); (case a_g15b => k_is); (case h_g15b => k_handed); k_whole)))) | ((with_reducible show wpAny _ _ (execs (_ :: _) _) _ _ _); with_reducible (with_reducible refine execs_one ?_)) | ((with_reducible show wpAny _ _ (setAttr (Value.ref _) _ _) _ _ _); with_reducible (k_here; (with_reducible first | (refine lex_state (by k_asm) (by k_asm) (by with_reducible assumption) (by assumption) (by assumption) (by assumption) ?_) | (refine lex_token (by k_asm) (by k_asm) (by with_reducible assumption) (by assumption) (by assumption) (by assumption) ?_)); intro _ _ _; (try k_sweep))) | walk1 | (dsimp only; walk1) | dsimp only)
            with_reducible rename Fr _ _ _ _ => F9
            with_reducible rename News _ _ _ _ => N9
            exact turn_go ⟨.word, true, es1, tok1⟩ F9 N9 (by first | exact .inl rfl | exact .inr rfl) hlt (by exact ⟨by simp, fun _ => .inr rfl, by simp, hes⟩) (by intro e; cases e) (by simp only [List.length_append, List.length_cons, List.length_nil]; omega) rfl rfl rfl rfl (by exact hR)
          have e34 : (S [c] == Str.ofString "\"") = false := one_ne h34
          by_cases h92 : c = 92
          · subst h92
            show wpAny _ _ _ _ _ _
            repeat' (first | (k_unfold; (try dsimp only)) | (with_reducible first | refine PyProof.Rows.ite_tt ?_ | refine PyProof.Rows.ite_ff ?_) | ((with_reducible show wpAny _ _ (compareOp CmpOp.Eq (Value.str _ _) (Value.str _ _)) _ _ _); with_reducible (k_here; first | (refine eq_lit (by with_reducible assumption) ?_) | (refine eq_lit (b := true) (by decide +kernel) ?_) | (refine eq_lit (b := false) (by decide +kernel) ?_))) | ((with_reducible show wpAny _ _ (compareOp CmpOp.In (Value.str _ _) (Value.str _ _)) _ _ _); with_reducible (k_here; first | (refine in_lit (by with_reducible assumption) ?_) | (refine in_lit (b := true) (by with_reducible refine (wchars_occ _).trans ?_; decide +kernel) ?_) | (refine in_lit (b := false) (by with_reducible refine (wchars_occ _).trans ?_; decide +kernel) ?_) | (refine in_lit (b := true) (by decide +kernel) ?_) | (refine in_lit (b := false) (by decide +kernel) ?_))) | ((with_reducible show wpAny _ _ (eval (Expr.Attribute (Expr.Name _ _) _ _) _) _ _ _); with_reducible (k_here; (refine' lex_attr (by k_dflt k_asm) (by k_dflt k_asm) (by with_reducible assumption) (by k_dflt (exact rfl)) (by k_dflt k_get) ?_ (by k_dflt k_is) (by k_dflt k_is) (by k_dflt k_handed); k_whole))) | ((with_reducible show wpAny _ _ (execs (_ :: _) _) _ _ _); with_reducible (with_reducible refine execs_one ?_)) | ((with_reducible show wpAny _ _ (execs (_ :: _) _) _ _ _); with_reducible (k_here; (with_reducible rename Fr _ _ _ _ => zz_kF); (with_reducible refine execs_consM zz_kF ?_); intro _ _ _ _; clear zz_kF)) | ((with_reducible show wpAny _ _ (setAttr (Value.ref _) _ _) _ _ _); with_reducible (k_here; (with_reducible first | (refine lex_state (by k_asm) (by k_asm) (by with_reducible assumption) (by assumption) (by assumption) (by assumption) ?_) | (refine lex_token (by k_asm) (by k_asm) (by with_reducible assumption) (by assumption) (by assumption) (by assumption) ?_)); intro _ _ _; (try k_sweep))) | walk1 | (dsimp only; walk1) | dsimp only)
            with_reducible rename Fr _ _ _ _ => F9
            with_reducible rename News _ _ _ _ => N9
            rw [sq_bs] at N9
            exact turn_go ⟨.esc, true, .q2, tok1⟩ F9 N9 (by first | exact .inl rfl | exact .inr rfl) hlt (by exact ⟨by simp, by simp, by simp, .inr (.inr rfl)⟩) (by intro e; cases e) (by simp only [List.length_append, List.length_cons, List.length_nil]; omega) rfl rfl rfl rfl (by exact hR)
          · have iE : (!(Builtin.Str.occurrences (Str.ofString "\\") (S [c]) 0 (Str.ofString "\\").length 1).isEmpty) = false := occ_one [92] c (by simpa using h92)
            show wpAny _ _ _ _ _ _
            repeat' (first | (k_unfold; (try dsimp only)) | (with_reducible first | refine PyProof.Rows.ite_tt ?_ | refine PyProof.Rows.ite_ff ?_) | ((with_reducible show wpAny _ _ (compareOp CmpOp.Eq (Value.str _ _) (Value.str _ _)) _ _ _); with_reducible (k_here; first | (refine eq_lit (by with_reducible assumption) ?_) | (refine eq_lit (b := true) (by decide +kernel) ?_) | (refine eq_lit (b := false) (by decide +kernel) ?_))) | ((with_reducible show wpAny _ _ (compareOp CmpOp.In (Value.str _ _) (Value.str _ _)) _ _ _); with_reducible (k_here; first | (refine in_lit (by with_reducible assumption) ?_) | (refine in_lit (b := true) (by with_reducible refine (wchars_occ _).trans ?_; decide +kernel) ?_) | (refine in_lit (b := false) (by with_reducible refine (wchars_occ _).trans ?_; decide +kernel) ?_) | (refine in_lit (b := true) (by decide +kernel) ?_) | (refine in_lit (b := false) (by decide +kernel) ?_))) | ((with_reducible show wpAny _ _ (eval (Expr.Attribute (Expr.Name _ _) _ _) _) _ _ _); with_reducible (k_here; (refine' lex_attr (by k_dflt k_asm) (by k_dflt k_asm) (by with_reducible assumption) (by k_dflt (exact rfl)) (by k_dflt k_get) ?_ (by k_dflt k_is) (by k_dflt k_is) (by k_dflt k_handed); k_whole))) | ((with_reducible show wpAny _ _ (execs (_ :: _) _) _ _ _); with_reducible (with_reducible refine execs_one ?_)) | ((with_reducible show wpAny _ _ (inplaceOp Operator.Add (Value.str _ _) (Value.str _ _)) _ _ _); with_reducible (k_here; (refine' iadd_one ?h1_g17e ?_; (case h1_g17e => omega); intro _ _))) | ((with_reducible show wpAny _ _ (setAttr (Value.ref _) _ _) _ _ _); with_reducible (k_here; (with_reducible first | (refine lex_state (by k_asm) (by k_asm) (by with_reducible assumption) (by assumption) (by assumption) (by assumption) ?_) | (refine lex_token (by k_asm) (by k_asm) (by with_reducible assumption) (by assumption) (by assumption) (by assumption) ?_)); intro _ _ _; (try k_sweep))) | walk1 | (dsimp only; walk1) | dsimp only)
            with_reducible rename Fr _ _ _ _ => F9
            with_reducible rename News _ _ _ _ => N9
            rw [S_append] at N9
            exact turn_go ⟨.q2, true, es1, tok1 ++ [c]⟩ F9 N9 (by first | exact .inl rfl | exact .inr rfl) hlt (by exact ⟨by simp, by simp, by simp, hes⟩) (by intro e; cases e) (by simp only [List.length_append, List.length_cons, List.length_nil]; omega) rfl rfl rfl rfl (by simpa [rt, h34, h92] using hR)
        case esc =>
          dsimp only [Md.val] at N2
          rcases hok.2.2.1 rfl with rfl | rfl
          · try dsimp only [Md.val] at F2
            · show wpAny _ _ _ _ _ _
              repeat' (first | (k_unfold; (try dsimp only)) | (with_reducible first | refine PyProof.Rows.ite_tt ?_ | refine PyProof.Rows.ite_ff ?_) | ((with_reducible show wpAny _ _ (compareOp CmpOp.Eq (Value.str _ _) (Value.str _ _)) _ _ _); with_reducible (k_here; first | (refine eq_lit (by with_reducible assumption) ?_) | (refine eq_lit (b := true) (by decide +kernel) ?_) | (refine eq_lit (b := false) (by decide +kernel) ?_))) | ((with_reducible show wpAny _ _ (compareOp CmpOp.In (Value.str _ _) (Value.str _ _)) _ _ _); with_reducible (k_here; first | (refine in_lit (by with_reducible assumption) ?_) | (refine in_lit (b := true) (by with_reducible refine (wchars_occ _).trans ?_; decide +kernel) ?_) | (refine in_lit (b := false) (by with_reducible refine (wchars_occ _).trans ?_; decide +kernel) ?_) | (refine in_lit (b := true) (by decide +kernel) ?_) | (refine in_lit (b := false) (by decide +kernel) ?_))) | ((with_reducible show wpAny _ _ (eval (Expr.Attribute (Expr.Name _ _) _ _) _) _ _ _); with_reducible (k_here; (refine' lex_attr (by k_dflt k_asm) (by k_dflt k_asm) (by with_reducible assumption) (by k_dflt (exact rfl)) (by k_dflt k_get) ?_ (by k_dflt k_is) (by k_dflt k_is) (by k_dflt k_handed); k_whole))) | ((with_reducible show wpAny _ _ (execs (_ :: _) _) _ _ _); with_reducible (with_reducible refine execs_one ?_)) | ((with_reducible show wpAny _ _ (execs (_ :: _) _) _ _ _); with_reducible (k_here; (with_reducible rename Fr _ _ _ _ => zz_kF); (with_reducible refine execs_consM zz_kF ?_); intro _ _ _ _; clear zz_kF)) | ((with_reducible show wpAny _ _ (inplaceOp Operator.Add (Value.str _ _) (Value.str _ _)) _ _ _); with_reducible (k_here; (refine' iadd_one ?h1_g18f ?_; (case h1_g18f => omega); intro _ _))) | ((with_reducible show wpAny _ _ (setAttr (Value.ref _) _ _) _ _ _); with_reducible (k_here; (with_reducible first | (refine lex_state (by k_asm) (by k_asm) (by with_reducible assumption) (by assumption) (by assumption) (by assumption) ?_) | (refine lex_token (by k_asm) (by k_asm) (by with_reducible assumption) (by assumption) (by assumption) (by assumption) ?_)); intro _ _ _; (try k_sweep))) | ((with_reducible show wpAny _ _ (truthy (Value.str _ _)) _ _ _); (k_here; first | (refine' truthy_lit2 ?h2_g18h ?h1_g18h ?_; (case h2_g18h => with_reducible assumption); (case h1_g18h => assumption); intro zz_tkq) | (refine' truthy_lit (b := false) ?h1_g18h ?h2_g18h ?_; (case h1_g18h => decide +kernel); (case h2_g18h => exact rfl); intro zz_tkq) | (refine' truthy_lit (b := true) ?h1_g18h ?h2_g18h ?_; (case h1_g18h => decide +kernel); (case h2_g18h => exact rfl); intro zz_tkq) | (refine' truthy_lit2 (b := false) ?h2_g18h ?h1_g18h ?_; (case h2_g18h => exact rfl); (case h1_g18h => exact Nat.le_of_ble_eq_true rfl); intro _))) | walk1 | (dsimp only; walk1) | dsimp only [Md.val])
              with_reducible rename Fr _ _ _ _ => F9
              with_reducible rename News _ _ _ _ => N9
              rw [S_append] at N9
              exact turn_go ⟨.word, q1, .word, tok1 ++ [c]⟩ F9 N9 (by first | exact .inl rfl | exact .inr rfl) hlt (by exact ⟨by simp, by simp, by simp, hes⟩) (by intro e; cases e) (by simp only [List.length_append, List.length_cons, List.length_nil]; omega) rfl rfl rfl rfl (by simpa [rt] using hR)
          · try dsimp only [Md.val] at F2
            by_cases h92 : c = 92
            · subst h92
              show wpAny _ _ _ _ _ _
              repeat' (first | (k_unfold; (try dsimp only)) | (with_reducible first | refine PyProof.Rows.ite_tt ?_ | refine PyProof.Rows.ite_ff ?_) | ((with_reducible show wpAny _ _ (compareOp CmpOp.Eq (Value.str _ _) (Value.str _ _)) _ _ _); with_reducible (k_here; first | (refine eq_lit (by with_reducible assumption) ?_) | (refine eq_lit (b := true) (by decide +kernel) ?_) | (refine eq_lit (b := false) (by decide +kernel) ?_))) | ((with_reducible show wpAny _ _ (compareOp CmpOp.In (Value.str _ _) (Value.str _ _)) _ _ _); with_reducible (k_here; first | (refine in_lit (by with_reducible assumption) ?_) | (refine in_lit (b := true) (by with_reducible refine (wchars_occ _).trans ?_; decide +kernel) ?_) | (refine in_lit (b := false) (by with_reducible refine (wchars_occ _).trans ?_; decide +kernel) ?_) | (refine in_lit (b := true) (by decide +kernel) ?_) | (refine in_lit (b := false) (by decide +kernel) ?_))) | ((with_reducible show wpAny _ _ (compareOp CmpOp.NotEq (Value.str _ _) (Value.str _ _)) _ _ _); with_reducible (k_here; first | (refine ne_lit (by with_reducible assumption) ?_) | (refine ne_lit (b := true) (by decide +kernel) ?_) | (refine ne_lit (b := false) (by decide +kernel) ?_))) | ((with_reducible show wpAny _ _ (eval (Expr.Attribute (Expr.Name _ _) _ _) _) _ _ _); with_reducible (k_here; (refine' lex_attr (by k_dflt k_asm) (by k_dflt k_asm) (by with_reducible assumption) (by k_dflt (exact rfl)) (by k_dflt k_get) ?_ (by k_dflt k_is) (by k_dflt k_is) (by k_dflt k_handed); k_whole))) | ((with_reducible show wpAny _ _ (execs (_ :: _) _) _ _ _); with_reducible (with_reducible refine execs_one ?_)) | ((with_reducible show wpAny _ _ (execs (_ :: _) _) _ _ _); with_reducible (k_here; (with_reducible rename Fr _ _ _ _ => zz_kF); (with_reducible refine execs_consM zz_kF ?_); intro _ _ _ _; clear zz_kF)) | ((with_reducible show wpAny _ _ (inplaceOp Operator.Add (Value.str _ _) (Value.str _ _)) _ _ _); with_reducible (k_here; (refine' iadd_one ?h1_g19g ?_; (case h1_g19g => omega); intro _ _))) | ((with_reducible show wpAny _ _ (setAttr (Value.ref _) _ _) _ _ _); with_reducible (k_here; (with_reducible first | (refine lex_state (by k_asm) (by k_asm) (by with_reducible assumption) (by assumption) (by assumption) (by assumption) ?_) | (refine lex_token (by k_asm) (by k_asm) (by with_reducible assumption) (by assumption) (by assumption) (by assumption) ?_)); intro _ _ _; (try k_sweep))) | walk1 | (dsimp only; walk1) | dsimp only [Md.val])
              with_reducible rename Fr _ _ _ _ => F9
              with_reducible rename News _ _ _ _ => N9
              rw [S_append] at N9
              exact turn_go ⟨.q2, q1, .q2, tok1 ++ [92]⟩ F9 N9 (by first | exact .inl rfl | exact .inr rfl) hlt (by exact ⟨by simp, by simp, by simp, hes⟩) (by intro e; cases e) (by simp only [List.length_append, List.length_cons, List.length_nil]; omega) rfl rfl rfl rfl (by simpa [rt] using hR)
            have e92 : (S [c] == Str.ofString "\\") = false := one_ne h92
            by_cases h34 : c = 34
            · subst h34
              show wpAny _ _ _ _ _ _
              repeat' (first | (k_unfold; (try dsimp only)) | (with_reducible first | refine PyProof.Rows.ite_tt ?_ | refine PyProof.Rows.ite_ff ?_) | ((with_reducible show wpAny _ _ (compareOp CmpOp.Eq (Value.str _ _) (Value.str _ _)) _ _ _); with_reducible (k_here; first | (refine eq_lit (by with_reducible assumption) ?_) | (refine eq_lit (b := true) (by decide +kernel) ?_) | (refine eq_lit (b := false) (by decide +kernel) ?_))) | ((with_reducible show wpAny _ _ (compareOp CmpOp.In (Value.str _ _) (Value.str _ _)) _ _ _); with_reducible (k_here; first | (refine in_lit (by with_reducible assumption) ?_) | (refine in_lit (b := true) (by with_reducible refine (wchars_occ _).trans ?_; decide +kernel) ?_) | (refine in_lit (b := false) (by with_reducible refine (wchars_occ _).trans ?_; decide +kernel) ?_) | (refine in_lit (b := true) (by decide +kernel) ?_) | (refine in_lit (b := false) (by decide +kernel) ?_))) | ((with_reducible show wpAny _ _ (compareOp CmpOp.NotEq (Value.str _ _) (Value.str _ _)) _ _ _); with_reducible (k_here; first | (refine ne_lit (by with_reducible assumption) ?_) | (refine ne_lit (b := true) (by decide +kernel) ?_) | (refine ne_lit (b := false) (by decide +kernel) ?_))) | ((with_reducible show wpAny _ _ (eval (Expr.Attribute (Expr.Name _ _) _ _) _) _ _ _); with_reducible (k_here; (refine' lex_attr (by k_dflt k_asm) (by k_dflt k_asm) (by with_reducible assumption) (by k_dflt (exact rfl)) (by k_dflt k_get) ?_ (by k_dflt k_is) (by k_dflt k_is) (by k_dflt k_handed); k_whole))) | ((with_reducible show wpAny _ _ (execs (_ :: _) _) _ _ _); with_reducible (with_reducible refine execs_one ?_)) | ((with_reducible show wpAny _ _ (execs (_ :: _) _) _ _ _); with_reducible (k_here; (with_reducible rename Fr _ _ _ _ => zz_kF); (with_reducible refine execs_consM zz_kF ?_); intro _ _ _ _; clear zz_kF)) | ((with_reducible show wpAny _ _ (inplaceOp Operator.Add (Value.str _ _) (Value.str _ _)) _ _ _); with_reducible (k_here; (refine' iadd_one ?h1_g20g ?_; (case h1_g20g => omega); intro _ _))) | ((with_reducible show wpAny _ _ (setAttr (Value.ref _) _ _) _ _ _); with_reducible (k_here; (with_reducible first | (refine lex_state (by k_asm) (by k_asm) (by with_reducible assumption) (by assumption) (by assumption) (by assumption) ?_) | (refine lex_token (by k_asm) (by k_asm) (by with_reducible assumption) (by assumption) (by assumption) (by assumption) ?_)); intro _ _ _; (try k_sweep))) | walk1 | (dsimp only; walk1) | dsimp only [Md.val])
              with_reducible rename Fr _ _ _ _ => F9
              with_reducible rename News _ _ _ _ => N9
              rw [S_append] at N9
              exact turn_go ⟨.q2, q1, .q2, tok1 ++ [34]⟩ F9 N9 (by first | exact .inl rfl | exact .inr rfl) hlt (by exact ⟨by simp, by simp, by simp, hes⟩) (by intro e; cases e) (by simp only [List.length_append, List.length_cons, List.length_nil]; omega) rfl rfl rfl rfl (by simpa [rt] using hR)
            have e34 : (S [c] == Str.ofString "\"") = false := one_ne h34
            · have hz3 : (S tok1 ++ Str.ofString "\\").length < 10001 := by rw [← sq_bs, S_append, S_length]; rw [S_length] at hz1; simp only [List.length_append, List.length_cons, List.length_nil]; omega
              show wpAny _ _ _ _ _ _
              repeat' (first | (k_unfold; (try dsimp only)) | (with_reducible first | refine PyProof.Rows.ite_tt ?_ | refine PyProof.Rows.ite_ff ?_) | ((with_reducible show wpAny _ _ (compareOp CmpOp.Eq (Value.str _ _) (Value.str _ _)) _ _ _); with_reducible (k_here; first | (refine eq_lit (by with_reducible assumption) ?_) | (refine eq_lit (b := true) (by decide +kernel) ?_) | (refine eq_lit (b := false) (by decide +kernel) ?_))) | ((with_reducible show wpAny _ _ (compareOp CmpOp.In (Value.str _ _) (Value.str _ _)) _ _ _); with_reducible (k_here; first | (refine in_lit (by with_reducible assumption) ?_) | (refine in_lit (b := true) (by with_reducible refine (wchars_occ _).trans ?_; decide +kernel) ?_) | (refine in_lit (b := false) (by with_reducible refine (wchars_occ _).trans ?_; decide +kernel) ?_) | (refine in_lit (b := true) (by decide +kernel) ?_) | (refine in_lit (b := false) (by decide +kernel) ?_))) | ((with_reducible show wpAny _ _ (compareOp CmpOp.NotEq (Value.str _ _) (Value.str _ _)) _ _ _); with_reducible (k_here; first | (refine ne_lit (by with_reducible assumption) ?_) | (refine ne_lit (b := true) (by decide +kernel) ?_) | (refine ne_lit (b := false) (by decide +kernel) ?_))) | ((with_reducible show wpAny _ _ (eval (Expr.Attribute (Expr.Name _ _) _ _) _) _ _ _); with_reducible (k_here; (refine' lex_attr (by k_dflt k_asm) (by k_dflt k_asm) (by with_reducible assumption) (by k_dflt (exact rfl)) (by k_dflt k_get) ?_ (by k_dflt k_is) (by k_dflt k_is) (by k_dflt k_handed); k_whole))) | ((with_reducible show wpAny _ _ (execs (_ :: _) _) _ _ _); with_reducible (with_reducible refine execs_one ?_)) | ((with_reducible show wpAny _ _ (execs (_ :: _) _) _ _ _); with_reducible (k_here; (with_reducible rename Fr _ _ _ _ => zz_kF); (with_reducible refine execs_consM zz_kF ?_); intro _ _ _ _; clear zz_kF)) | ((with_reducible show wpAny _ _ (inplaceOp Operator.Add (Value.str _ _) (Value.str _ _)) _ _ _); with_reducible (k_here; (refine' iadd_one ?h1_g21g ?_; (case h1_g21g => omega); intro _ _))) | ((with_reducible show wpAny _ _ (setAttr (Value.ref _) _ _) _ _ _); with_reducible (k_here; (with_reducible first | (refine lex_state (by k_asm) (by k_asm) (by with_reducible assumption) (by assumption) (by assumption) (by assumption) ?_) | (refine lex_token (by k_asm) (by k_asm) (by with_reducible assumption) (by assumption) (by assumption) (by assumption) ?_)); intro _ _ _; (try k_sweep))) | ((with_reducible show wpAny _ _ (truthy (Value.str _ _)) _ _ _); (k_here; first | (refine' truthy_lit2 ?h2_g21i ?h1_g21i ?_; (case h2_g21i => with_reducible assumption); (case h1_g21i => assumption); intro zz_tkq) | (refine' truthy_lit (b := false) ?h1_g21i ?h2_g21i ?_; (case h1_g21i => decide +kernel); (case h2_g21i => exact rfl); intro zz_tkq) | (refine' truthy_lit (b := true) ?h1_g21i ?h2_g21i ?_; (case h1_g21i => decide +kernel); (case h2_g21i => exact rfl); intro zz_tkq) | (refine' truthy_lit2 (b := false) ?h2_g21i ?h1_g21i ?_; (case h2_g21i => exact rfl); (case h1_g21i => exact Nat.le_of_ble_eq_true rfl); intro _))) | walk1 | (dsimp only; walk1) | dsimp only [Md.val])
              with_reducible rename Fr _ _ _ _ => F9
              with_reducible rename News _ _ _ _ => N9
              rw [← sq_bs, S_append, S_append] at N9
              exact turn_go ⟨.q2, q1, .q2, tok1 ++ [92] ++ [c]⟩ F9 N9 (by first | exact .inl rfl | exact .inr rfl) hlt (by exact ⟨by simp, by simp, by simp, hes⟩) (by intro e; cases e) (by simp only [List.length_append, List.length_cons, List.length_nil]; omega) rfl rfl rfl rfl (by simpa [rt, h34, h92] using hR)
        case blank =>
          dsimp only [Md.val] at N2
          obtain ⟨rfl, rfl⟩ := hok.1 (.inl rfl)
          show wpAny _ _ _ _ _ _
          repeat' (first | (k_unfold; (try dsimp only)) | (with_reducible first | refine PyProof.Rows.ite_tt ?_ | refine PyProof.Rows.ite_ff ?_) | ((with_reducible show wpAny _ _ (compareOp CmpOp.Eq (Value.str _ _) (Value.str _ _)) _ _ _); with_reducible (k_here; first | (refine eq_lit (by with_reducible assumption) ?_) | (refine eq_lit (b := true) (by decide +kernel) ?_) | (refine eq_lit (b := false) (by decide +kernel) ?_))) | ((with_reducible show wpAny _ _ (eval (Expr.Attribute (Expr.Name _ _) _ _) _) _ _ _); with_reducible (k_here; (refine' lex_attr (by k_dflt k_asm) (by k_dflt k_asm) (by with_reducible assumption) (by k_dflt (exact rfl)) (by k_dflt k_get) ?_ (by k_dflt k_is) (by k_dflt k_is) (by k_dflt k_handed); k_whole))) | ((with_reducible show wpAny _ _ (execs (_ :: _) _) _ _ _); with_reducible (with_reducible refine execs_one ?_)) | ((with_reducible show wpAny _ _ (truthy (Value.str _ _)) _ _ _); (k_here; first | (refine' truthy_lit2 ?h2_g22d ?h1_g22d ?_; (case h2_g22d => with_reducible assumption); (case h1_g22d => assumption); intro zz_tkq) | (refine' truthy_lit (b := false) ?h1_g22d ?h2_g22d ?_; (case h1_g22d => decide +kernel); (case h2_g22d => exact rfl); intro zz_tkq) | (refine' truthy_lit (b := true) ?h1_g22d ?h2_g22d ?_; (case h1_g22d => decide +kernel); (case h2_g22d => exact rfl); intro zz_tkq) | (refine' truthy_lit2 (b := false) ?h2_g22d ?h1_g22d ?_; (case h2_g22d => exact rfl); (case h1_g22d => exact Nat.le_of_ble_eq_true rfl); intro _))) | ((fail_if_success (with_reducible show wpAny _ _ (PySem.compareOp _ (Value.str (S [c]) _) _) _ _ _)); walk1) | ((fail_if_success (with_reducible show wpAny _ _ (PySem.compareOp _ (Value.str (S [c]) _) _) _ _ _)); dsimp only; walk1) | dsimp only)
          rcases hcl with rfl | rfl | rfl | rfl | rfl | hoth
          · show wpAny _ _ _ _ _ _
            repeat' (first | (k_unfold; (try dsimp only)) | (with_reducible first | refine PyProof.Rows.ite_tt ?_ | refine PyProof.Rows.ite_ff ?_) | ((with_reducible show wpAny _ _ (compareOp CmpOp.In (Value.str _ _) (Value.str _ _)) _ _ _); with_reducible (k_here; first | (refine in_lit (by with_reducible assumption) ?_) | (refine in_lit (b := true) (by with_reducible refine (wchars_occ _).trans ?_; decide +kernel) ?_) | (refine in_lit (b := false) (by with_reducible refine (wchars_occ _).trans ?_; decide +kernel) ?_) | (refine in_lit (b := true) (by decide +kernel) ?_) | (refine in_lit (b := false) (by decide +kernel) ?_))) | ((with_reducible show wpAny _ _ (eval (Expr.Attribute (Expr.Name _ _) _ _) _) _ _ _); with_reducible (k_here; (refine' lex_attr (by k_dflt k_asm) (by k_dflt k_asm) (by with_reducible assumption) (by k_dflt (exact rfl)) (by k_dflt k_get) ?_ (by k_dflt k_is) (by k_dflt k_is) (by k_dflt k_handed); k_whole))) | ((with_reducible show wpAny _ _ (execs (_ :: _) _) _ _ _); with_reducible (with_reducible refine execs_one ?_)) | ((with_reducible show wpAny _ _ (execs (_ :: _) _) _ _ _); with_reducible (k_here; (with_reducible rename Fr _ _ _ _ => zz_kF); (with_reducible refine execs_consM zz_kF ?_); intro _ _ _ _; clear zz_kF)) | walk1 | (dsimp only; walk1) | dsimp only)
            with_reducible rename Fr g L' _ _ => F2
            with_reducible rename News g L' _ _ => N2
            exact turn_go ⟨.blank, false, es1, []⟩ F2 N2 (by first | exact .inl rfl | exact .inr rfl) hlt (by exact ⟨by simp, by simp, by simp, hes⟩) (by intro e; cases e) (by simp only [List.length_append, List.length_cons, List.length_nil]; omega) rfl rfl rfl rfl (by exact hR)
          · show wpAny _ _ _ _ _ _
            repeat' (first | (k_unfold; (try dsimp only)) | (with_reducible first | refine PyProof.Rows.ite_tt ?_ | refine PyProof.Rows.ite_ff ?_) | ((with_reducible show wpAny _ _ (compareOp CmpOp.In (Value.str _ _) (Value.str _ _)) _ _ _); with_reducible (k_here; first | (refine in_lit (by with_reducible assumption) ?_) | (refine in_lit (b := true) (by with_reducible refine (wchars_occ _).trans ?_; decide +kernel) ?_) | (refine in_lit (b := false) (by with_reducible refine (wchars_occ _).trans ?_; decide +kernel) ?_) | (refine in_lit (b := true) (by decide +kernel) ?_) | (refine in_lit (b := false) (by decide +kernel) ?_))) | ((with_reducible show wpAny _ _ (eval (Expr.Attribute (Expr.Name _ _) _ _) _) _ _ _); with_reducible (k_here; (refine' lex_attr (by k_dflt k_asm) (by k_dflt k_asm) (by with_reducible assumption) (by k_dflt (exact rfl)) (by k_dflt k_get) ?_ (by k_dflt k_is) (by k_dflt k_is) (by k_dflt k_handed); k_whole))) | ((with_reducible show wpAny _ _ (execs (_ :: _) _) _ _ _); with_reducible (with_reducible refine execs_one ?_)) | ((with_reducible show wpAny _ _ (execs (_ :: _) _) _ _ _); with_reducible (k_here; (with_reducible rename Fr _ _ _ _ => zz_kF); (with_reducible refine execs_consM zz_kF ?_); intro _ _ _ _; clear zz_kF)) | ((with_reducible show wpAny _ _ (setAttr (Value.ref _) _ _) _ _ _); with_reducible (k_here; (with_reducible first | (refine lex_state (by k_asm) (by k_asm) (by with_reducible assumption) (by assumption) (by assumption) (by assumption) ?_) | (refine lex_token (by k_asm) (by k_asm) (by with_reducible assumption) (by assumption) (by assumption) (by assumption) ?_)); intro _ _ _; (try k_sweep))) | walk1 | (dsimp only; walk1) | dsimp only)
            with_reducible rename Fr _ _ _ _ => F9
            with_reducible rename News _ _ _ _ => N9
            exact turn_go ⟨.word, false, es1, [97]⟩ F9 N9 (by first | exact .inl rfl | exact .inr rfl) hlt (by exact ⟨by simp, by simp, by simp, hes⟩) (by intro e; cases e) (by simp only [List.length_append, List.length_cons, List.length_nil]; omega) rfl rfl rfl rfl (by exact hR)
          · show wpAny _ _ _ _ _ _
            repeat' (first | (k_unfold; (try dsimp only)) | (with_reducible first | refine PyProof.Rows.ite_tt ?_ | refine PyProof.Rows.ite_ff ?_) | ((with_reducible show wpAny _ _ (compareOp CmpOp.In (Value.str _ _) (Value.str _ _)) _ _ _); with_reducible (k_here; first | (refine in_lit (by with_reducible assumption) ?_) | (refine in_lit (b := true) (by with_reducible refine (wchars_occ _).trans ?_; decide +kernel) ?_) | (refine in_lit (b := false) (by with_reducible refine (wchars_occ _).trans ?_; decide +kernel) ?_) | (refine in_lit (b := true) (by decide +kernel) ?_) | (refine in_lit (b := false) (by decide +kernel) ?_))) | ((with_reducible show wpAny _ _ (eval (Expr.Attribute (Expr.Name _ _) _ _) _) _ _ _); with_reducible (k_here; (refine' lex_attr (by k_dflt k_asm) (by k_dflt k_asm) (by with_reducible assumption) (by k_dflt (exact rfl)) (by k_dflt k_get) ?_ (by k_dflt k_is) (by k_dflt k_is) (by k_dflt k_handed); k_whole))) | ((with_reducible show wpAny _ _ (execs (_ :: _) _) _ _ _); with_reducible (with_reducible refine execs_one ?_)) | ((with_reducible show wpAny _ _ (execs (_ :: _) _) _ _ _); with_reducible (k_here; (with_reducible rename Fr _ _ _ _ => zz_kF); (with_reducible refine execs_consM zz_kF ?_); intro _ _ _ _; clear zz_kF)) | ((with_reducible show wpAny _ _ (setAttr (Value.ref _) _ _) _ _ _); with_reducible (k_here; (with_reducible first | (refine lex_state (by k_asm) (by k_asm) (by with_reducible assumption) (by assumption) (by assumption) (by assumption) ?_) | (refine lex_token (by k_asm) (by k_asm) (by with_reducible assumption) (by assumption) (by assumption) (by assumption) ?_)); intro _ _ _; (try k_sweep))) | walk1 | (dsimp only; walk1) | dsimp only)
            with_reducible rename Fr _ _ _ _ => F9
            with_reducible rename News _ _ _ _ => N9
            rw [sq_bs] at N9
            exact turn_go ⟨.esc, false, .word, []⟩ F9 N9 (by first | exact .inl rfl | exact .inr rfl) hlt (by exact ⟨by simp, by simp, by simp, .inr (.inl rfl)⟩) (by intro e; cases e) (by simp only [List.length_append, List.length_cons, List.length_nil]; omega) rfl rfl rfl rfl (by exact hR)
          · show wpAny _ _ _ _ _ _
            repeat' (first | (k_unfold; (try dsimp only)) | (with_reducible first | refine PyProof.Rows.ite_tt ?_ | refine PyProof.Rows.ite_ff ?_) | ((with_reducible show wpAny _ _ (compareOp CmpOp.In (Value.str _ _) (Value.str _ _)) _ _ _); with_reducible (k_here; first | (refine in_lit (by with_reducible assumption) ?_) | (refine in_lit (b := true) (by with_reducible refine (wchars_occ _).trans ?_; decide +kernel) ?_) | (refine in_lit (b := false) (by with_reducible refine (wchars_occ _).trans ?_; decide +kernel) ?_) | (refine in_lit (b := true) (by decide +kernel) ?_) | (refine in_lit (b := false) (by decide +kernel) ?_))) | ((with_reducible show wpAny _ _ (eval (Expr.Attribute (Expr.Name _ _) _ _) _) _ _ _); with_reducible (k_here; (refine' lex_attr (by k_dflt k_asm) (by k_dflt k_asm) (by with_reducible assumption) (by k_dflt (exact rfl)) (by k_dflt k_get) ?_ (by k_dflt k_is) (by k_dflt k_is) (by k_dflt k_handed); k_whole))) | ((with_reducible show wpAny _ _ (execs (_ :: _) _) _ _ _); with_reducible (with_reducible refine execs_one ?_)) | ((with_reducible show wpAny _ _ (execs (_ :: _) _) _ _ _); with_reducible (k_here; (with_reducible rename Fr _ _ _ _ => zz_kF); (with_reducible refine execs_consM zz_kF ?_); intro _ _ _ _; clear zz_kF)) | ((with_reducible show wpAny _ _ (setAttr (Value.ref _) _ _) _ _ _); with_reducible (k_here; (with_reducible first | (refine lex_state (by k_asm) (by k_asm) (by with_reducible assumption) (by assumption) (by assumption) (by assumption) ?_) | (refine lex_token (by k_asm) (by k_asm) (by with_reducible assumption) (by assumption) (by assumption) (by assumption) ?_)); intro _ _ _; (try k_sweep))) | walk1 | (dsimp only; walk1) | dsimp only)
            with_reducible rename Fr _ _ _ _ => F9
            with_reducible rename News _ _ _ _ => N9
            rw [sq_q1] at N9
            exact turn_go ⟨.q1, false, es1, []⟩ F9 N9 (by first | exact .inl rfl | exact .inr rfl) hlt (by exact ⟨by simp, by simp, by simp, hes⟩) (by intro e; cases e) (by simp only [List.length_append, List.length_cons, List.length_nil]; omega) rfl rfl rfl rfl (by exact hR)
          · show wpAny _ _ _ _ _ _
            repeat' (first | (k_unfold; (try dsimp only)) | (with_reducible first | refine PyProof.Rows.ite_tt ?_ | refine PyProof.Rows.ite_ff ?_) | ((with_reducible show wpAny _ _ (compareOp CmpOp.In (Value.str _ _) (Value.str _ _)) _ _ _); with_reducible (k_here; first | (refine in_lit (by with_reducible assumption) ?_) | (refine in_lit (b := true) (by with_reducible refine (wchars_occ _).trans ?_; decide +kernel) ?_) | (refine in_lit (b := false) (by with_reducible refine (wchars_occ _).trans ?_; decide +kernel) ?_) | (refine in_lit (b := true) (by decide +kernel) ?_) | (refine in_lit (b := false) (by decide +kernel) ?_))) | ((with_reducible show wpAny _ _ (eval (Expr.Attribute (Expr.Name _ _) _ _) _) _ _ _); with_reducible (k_here; (refine' lex_attr (by k_dflt k_asm) (by k_dflt k_asm) (by with_reducible assumption) (by k_dflt (exact rfl)) (by k_dflt k_get) ?_ (by k_dflt k_is) (by k_dflt k_is) (by k_dflt k_handed); k_whole))) | ((with_reducible show wpAny _ _ (execs (_ :: _) _) _ _ _); with_reducible (with_reducible refine execs_one ?_)) | ((with_reducible show wpAny _ _ (execs (_ :: _) _) _ _ _); with_reducible (k_here; (with_reducible rename Fr _ _ _ _ => zz_kF); (with_reducible refine execs_consM zz_kF ?_); intro _ _ _ _; clear zz_kF)) | ((with_reducible show wpAny _ _ (setAttr (Value.ref _) _ _) _ _ _); with_reducible (k_here; (with_reducible first | (refine lex_state (by k_asm) (by k_asm) (by with_reducible assumption) (by assumption) (by assumption) (by assumption) ?_) | (refine lex_token (by k_asm) (by k_asm) (by with_reducible assumption) (by assumption) (by assumption) (by assumption) ?_)); intro _ _ _; (try k_sweep))) | walk1 | (dsimp only; walk1) | dsimp only)
            with_reducible rename Fr _ _ _ _ => F9
            with_reducible rename News _ _ _ _ => N9
            rw [sq_q2] at N9
            exact turn_go ⟨.q2, false, es1, []⟩ F9 N9 (by first | exact .inl rfl | exact .inr rfl) hlt (by exact ⟨by simp, by simp, by simp, hes⟩) (by intro e; cases e) (by simp only [List.length_append, List.length_cons, List.length_nil]; omega) rfl rfl rfl rfl (by exact hR)
          · have iW : (!(Builtin.Str.occurrences (Str.ofString " \t\r\n") (S [c]) 0 (Str.ofString " \t\r\n").length 1).isEmpty) = false := by rcases hoth with rfl | rfl | rfl | rfl | rfl <;> decide +kernel
            have iC : (!(Builtin.Str.occurrences (Str.ofString "") (S [c]) 0 (Str.ofString "").length 1).isEmpty) = false := by rcases hoth with rfl | rfl | rfl | rfl | rfl <;> decide +kernel
            have iE : (!(Builtin.Str.occurrences (Str.ofString "\\") (S [c]) 0 (Str.ofString "\\").length 1).isEmpty) = false := by rcases hoth with rfl | rfl | rfl | rfl | rfl <;> decide +kernel
            have iQ : (!(Builtin.Str.occurrences (Str.ofString "'\"") (S [c]) 0 (Str.ofString "'\"").length 1).isEmpty) = false := by rcases hoth with rfl | rfl | rfl | rfl | rfl <;> decide +kernel
            have iA : (!(Builtin.Str.occurrences (Str.ofString "abcdfeghijklmnopqrstuvwxyzABCDEFGHIJKLMNOPQRSTUVWXYZ0123456789_ßàáâãäåæçèéêëìíîïðñòóôõöøùúûüýþÿÀÁÂÃÄÅÆÇÈÉÊËÌÍÎÏÐÑÒÓÔÕÖØÙÚÛÜÝÞ") (S [c]) 0 (Str.ofString "abcdfeghijklmnopqrstuvwxyzABCDEFGHIJKLMNOPQRSTUVWXYZ0123456789_ßàáâãäåæçèéêëìíîïðñòóôõöøùúûüýþÿÀÁÂÃÄÅÆÇÈÉÊËÌÍÎÏÐÑÒÓÔÕÖØÙÚÛÜÝÞ").length 1).isEmpty) = false := by rw [wchars_occ]; rcases hoth with rfl | rfl | rfl | rfl | rfl <;> decide +kernel
            have o1 : c ≠ 32 ∧ c ≠ 92 ∧ c ≠ 39 ∧ c ≠ 34 := by rcases hoth with rfl | rfl | rfl | rfl | rfl <;> decide
            show wpAny _ _ _ _ _ _
            repeat' (first | (k_unfold; (try dsimp only)) | (with_reducible first | refine PyProof.Rows.ite_tt ?_ | refine PyProof.Rows.ite_ff ?_) | ((with_reducible show wpAny _ _ (compareOp CmpOp.In (Value.str _ _) (Value.str _ _)) _ _ _); with_reducible (k_here; first | (refine in_lit (by with_reducible assumption) ?_) | (refine in_lit (b := true) (by with_reducible refine (wchars_occ _).trans ?_; decide +kernel) ?_) | (refine in_lit (b := false) (by with_reducible refine (wchars_occ _).trans ?_; decide +kernel) ?_) | (refine in_lit (b := true) (by decide +kernel) ?_) | (refine in_lit (b := false) (by decide +kernel) ?_))) | ((with_reducible show wpAny _ _ (eval (Expr.Attribute (Expr.Name _ _) _ _) _) _ _ _); with_reducible (k_here; (refine' lex_attr (by k_dflt k_asm) (by k_dflt k_asm) (by with_reducible assumption) (by k_dflt (exact rfl)) (by k_dflt k_get) ?_ (by k_dflt k_is) (by k_dflt k_is) (by k_dflt k_handed); k_whole))) | ((with_reducible show wpAny _ _ (execs (_ :: _) _) _ _ _); with_reducible (with_reducible refine execs_one ?_)) | ((with_reducible show wpAny _ _ (execs (_ :: _) _) _ _ _); with_reducible (k_here; (with_reducible rename Fr _ _ _ _ => zz_kF); (with_reducible refine execs_consM zz_kF ?_); intro _ _ _ _; clear zz_kF)) | ((with_reducible show wpAny _ _ (setAttr (Value.ref _) _ _) _ _ _); with_reducible (k_here; (with_reducible first | (refine lex_state (by k_asm) (by k_asm) (by with_reducible assumption) (by assumption) (by assumption) (by assumption) ?_) | (refine lex_token (by k_asm) (by k_asm) (by with_reducible assumption) (by assumption) (by assumption) (by assumption) ?_)); intro _ _ _; (try k_sweep))) | walk1 | (dsimp only; walk1) | dsimp only)
            with_reducible rename Fr _ _ _ _ => F9
            with_reducible rename News _ _ _ _ => N9
            exact turn_go ⟨.word, false, es1, [c]⟩ F9 N9 (by first | exact .inl rfl | exact .inr rfl) hlt (by exact ⟨by simp, by simp, by simp, hes⟩) (by intro e; cases e) (by simp only [List.length_append, List.length_cons, List.length_nil]; omega) rfl rfl rfl rfl (by simpa [rt, o1] using hR)

      · have hj2 : j = (S l).length := by
          rw [S_length] at hge ⊢
          omega
        rw [List.drop_eq_nil_of_le (by rw [S_length] at hj2; omega)] at hR
        show wpAny _ _ _ _ _ _
        k_fold
        repeat' (first | (k_unfold; (try dsimp only)) | (with_reducible first | refine PyProof.Rows.ite_tt ?_ | refine PyProof.Rows.ite_ff ?_) | ((with_reducible show wpAny _ _ (call (Value.ref _) _ _) _ _ _); with_reducible (k_here; k_dflt (first | (refine' read_here_end ?k1_g29a ?k2_g29a ?k3_g29a ?k4_g29a ?k5_g29a ?kA_g29a ?zz_kF_g29a ?kK_g29a ?k6_g29a ?k7_g29a ?a2_g29a ?a3_g29a ?a4_g29a ?a5_g29a ?a6_g29a ?k8_g29a ?k9_g29a ?_; (case kA_g29a => exact rfl); (case zz_kF_g29a => exact rfl); (case kK_g29a => exact rfl); (case k1_g29a => k_asm); (case k2_g29a => k_asm); (case k3_g29a => k_asm); (case k4_g29a => k_asm); (case k5_g29a => k_asm); (case k6_g29a => ktr_room); (case k7_g29a => ktr_units); (case a2_g29a => assumption); (case a3_g29a => assumption); (case a4_g29a => assumption); (case a5_g29a => assumption); (case a6_g29a => assumption); (case k8_g29a => assumption); (case k9_g29a => assumption); k_whole; intro zz_tq zz_hq zz_tkq zz_Fq zz_Nq) | (refine' read_here ?k1_g29a ?k2_g29a ?k3_g29a ?k4_g29a ?k5_g29a ?kA_g29a ?zz_kF_g29a ?kK_g29a ?k6_g29a ?k7_g29a ?a2_g29a ?a3_g29a ?a4_g29a ?a5_g29a ?a6_g29a ?k8_g29a ?k9_g29a ?kc_g29a ?_; (case kA_g29a => exact rfl); (case zz_kF_g29a => exact rfl); (case kK_g29a => exact rfl); (case k1_g29a => k_asm); (case k2_g29a => k_asm); (case k3_g29a => k_asm); (case k4_g29a => k_asm); (case k5_g29a => k_asm); (case k6_g29a => ktr_room); (case k7_g29a => ktr_units); (case a2_g29a => assumption); (case a3_g29a => assumption); (case a4_g29a => assumption); (case a5_g29a => assumption); (case a6_g29a => assumption); (case k8_g29a => assumption); (case k9_g29a => assumption); (case kc_g29a => assumption); k_whole; intro _ _ _ _ _ _)))) | ((with_reducible show wpAny _ _ (compareOp CmpOp.Eq (Value.str _ _) (Value.str _ _)) _ _ _); with_reducible (k_here; first | (refine eq_lit (by with_reducible assumption) ?_) | (refine eq_lit (b := true) (by decide +kernel) ?_) | (refine eq_lit (b := false) (by decide +kernel) ?_))) | ((with_reducible show wpAny _ _ (eval (Expr.Attribute (Expr.Name _ _) _ _) _) _ _ _); with_reducible (k_here; (refine' lex_attr (by k_dflt k_asm) (by k_dflt k_asm) (by with_reducible assumption) (by k_dflt (exact rfl)) (by k_dflt k_get) ?_ (by k_dflt k_is) (by k_dflt k_is) (by k_dflt k_handed); k_whole))) | ((with_reducible show wpAny _ _ (execs (_ :: _) _) _ _ _); with_reducible (with_reducible refine execs_one ?_)) | ((with_reducible show wpAny _ _ (execs (_ :: _) _) _ _ _); with_reducible (k_here; (with_reducible rename Fr _ _ _ _ => zz_kF); (with_reducible refine execs_consM zz_kF ?_); intro _ _ _ _; clear zz_kF)) | walk1 | (dsimp only; walk1) | dsimp only)
        obtain ⟨md1, q1, es1, tok1⟩ := t
        with_reducible rename Fr _ _ _ _ => F2
        with_reducible rename News _ _ _ _ => N2
        try clear N₁
        try clear F₁
        dsimp only at hno hz hz1 hR
        cases md1
        case none =>
          dsimp only [Md.val] at N2
          obtain ⟨rfl, rfl⟩ := hok.1 (.inr rfl)
          show wpAny _ _ _ _ _ _
          repeat' (first | (k_unfold; (try dsimp only)) | (with_reducible first | refine PyProof.Rows.ite_tt ?_ | refine PyProof.Rows.ite_ff ?_) | ((with_reducible show wpAny _ _ (execs (_ :: _) _) _ _ _); with_reducible (with_reducible refine execs_one ?_)) | ((with_reducible show wpAny _ _ (execs (_ :: _) _) _ _ _); with_reducible (k_here; (with_reducible rename Fr _ _ _ _ => zz_kF); (with_reducible refine execs_consM zz_kF ?_); intro _ _ _ _; clear zz_kF)) | ((with_reducible show wpAny _ _ (setAttr (Value.ref _) _ _) _ _ _); with_reducible (k_here; (with_reducible first | (refine lex_state (by k_asm) (by k_asm) (by with_reducible assumption) (by assumption) (by assumption) (by assumption) ?_) | (refine lex_token (by k_asm) (by k_asm) (by with_reducible assumption) (by assumption) (by assumption) (by assumption) ?_)); intro _ _ _; (try k_sweep))) | walk1 | (dsimp only; walk1) | dsimp only)
          with_reducible rename Fr _ _ _ _ => F9
          with_reducible rename News _ _ _ _ => N9
          exact turn_out (j := j) (ts := 0) false [] .none F9 N9 hj (by first | exact hz | exact Nat.zero_le _) rfl rfl rfl rfl (by rw [← hR, List.drop_eq_nil_of_le (by rw [S_length] at hj2; omega)]; simp [rt])
        case blank =>
          dsimp only [Md.val] at N2
          obtain ⟨rfl, rfl⟩ := hok.1 (.inl rfl)
          show wpAny _ _ _ _ _ _
          repeat' (first | (k_unfold; (try dsimp only)) | (with_reducible first | refine PyProof.Rows.ite_tt ?_ | refine PyProof.Rows.ite_ff ?_) | ((with_reducible show wpAny _ _ (compareOp CmpOp.Eq (Value.str _ _) (Value.str _ _)) _ _ _); with_reducible (k_here; first | (refine eq_lit (by with_reducible assumption) ?_) | (refine eq_lit (b := true) (by decide +kernel) ?_) | (refine eq_lit (b := false) (by decide +kernel) ?_))) | ((with_reducible show wpAny _ _ (eval (Expr.Attribute (Expr.Name _ _) _ _) _) _ _ _); with_reducible (k_here; ((refine' lex_attr ?F_g31b ?X_g31b ?N_g31b ?v_g31b ?e_g31b ?_ ?g_g31b ?a_g31b ?h_g31b); k_dflt ((case F_g31b => k_asm); (case X_g31b => k_asm); (case N_g31b => with_reducible assumption); (case v_g31b => rfl); (case e_g31b => k_get); (case g_g31b => k_is); (case a_g31b => k_is); (case h_g31b => k_handed); k_whole)))) | ((with_reducible show wpAny _ _ (execs (_ :: _) _) _ _ _); with_reducible (with_reducible refine execs_one ?_)) | ((with_reducible show wpAny _ _ (execs (_ :: _) _) _ _ _); with_reducible (k_here; (with_reducible rename Fr _ _ _ _ => zz_kF); (with_reducible refine execs_consM zz_kF ?_); intro _ _ _ _; clear zz_kF)) | ((with_reducible show wpAny _ _ (setAttr (Value.ref _) _ _) _ _ _); with_reducible (k_here; (with_reducible first | (refine lex_state (by k_asm) (by k_asm) (by with_reducible assumption) (by assumption) (by assumption) (by assumption) ?_) | (refine lex_token (by k_asm) (by k_asm) (by with_reducible assumption) (by assumption) (by assumption) (by assumption) ?_)); intro _ _ _; (try k_sweep))) | walk1 | (dsimp only; walk1) | dsimp only)
          with_reducible rename Fr _ _ _ _ => F9
          with_reducible rename News _ _ _ _ => N9
          exact turn_out (j := j) (ts := 0) false [] .none F9 N9 hj (by first | exact hz | exact Nat.zero_le _) rfl rfl rfl rfl (by rw [← hR, List.drop_eq_nil_of_le (by rw [S_length] at hj2; omega)]; simp [rt])
        case word =>
          dsimp only [Md.val] at N2
          show wpAny _ _ _ _ _ _
          repeat' (first | (k_unfold; (try dsimp only)) | (with_reducible first | refine PyProof.Rows.ite_tt ?_ | refine PyProof.Rows.ite_ff ?_) | ((with_reducible show wpAny _ _ (compareOp CmpOp.Eq (Value.str _ _) (Value.str _ _)) _ _ _); with_reducible (k_here; first | (refine eq_lit (by with_reducible assumption) ?_) | (refine eq_lit (b := true) (by decide +kernel) ?_) | (refine eq_lit (b := false) (by decide +kernel) ?_))) | ((with_reducible show wpAny _ _ (compareOp CmpOp.In (Value.str _ _) (Value.str _ _)) _ _ _); with_reducible (k_here; first | (refine in_lit (by with_reducible assumption) ?_) | (refine in_lit (b := true) (by with_reducible refine (wchars_occ _).trans ?_; decide +kernel) ?_) | (refine in_lit (b := false) (by with_reducible refine (wchars_occ _).trans ?_; decide +kernel) ?_) | (refine in_lit (b := true) (by decide +kernel) ?_) | (refine in_lit (b := false) (by decide +kernel) ?_))) | ((with_reducible show wpAny _ _ (eval (Expr.Attribute (Expr.Name _ _) _ _) _) _ _ _); with_reducible (k_here; (refine' lex_attr (by k_dflt k_asm) (by k_dflt k_asm) (by with_reducible assumption) (by k_dflt (exact rfl)) (by k_dflt k_get) ?_ (by k_dflt k_is) (by k_dflt k_is) (by k_dflt k_handed); k_whole))) | ((with_reducible show wpAny _ _ (execs (_ :: _) _) _ _ _); with_reducible (with_reducible refine execs_one ?_)) | ((with_reducible show wpAny _ _ (execs (_ :: _) _) _ _ _); with_reducible (k_here; (with_reducible rename Fr _ _ _ _ => zz_kF); (with_reducible refine execs_consM zz_kF ?_); intro _ _ _ _; clear zz_kF)) | walk1 | (dsimp only; walk1) | dsimp only)
          with_reducible rename Fr _ _ _ _ => F9
          with_reducible rename News _ _ _ _ => N9
          replace N9 := fun q hq => N9 q (List.mem_cons_of_mem _ hq)
          exact turn_out (j := j) (ts := 0) q1 tok1 .none F9 N9 hj (by first | exact hz | exact Nat.zero_le _) rfl rfl rfl rfl (by rw [← hR, List.drop_eq_nil_of_le (by rw [S_length] at hj2; omega)]; have := hok.2.1 rfl; simp [rt]; intro e; simpa [e] using this)
        case q1 =>
          dsimp only [Md.val] at N2
          show wpAny _ _ _ _ _ _
          repeat' (first | (k_unfold; (try dsimp only)) | (with_reducible first | refine PyProof.Rows.ite_tt ?_ | refine PyProof.Rows.ite_ff ?_) | ((with_reducible show wpAny _ _ (compareOp CmpOp.Eq (Value.str _ _) (Value.str _ _)) _ _ _); with_reducible (k_here; first | (refine eq_lit (by with_reducible assumption) ?_) | (refine eq_lit (b := true) (by decide +kernel) ?_) | (refine eq_lit (b := false) (by decide +kernel) ?_))) | ((with_reducible show wpAny _ _ (compareOp CmpOp.In (Value.str _ _) (Value.str _ _)) _ _ _); with_reducible (k_here; first | (refine in_lit (by with_reducible assumption) ?_) | (refine in_lit (b := true) (by with_reducible refine (wchars_occ _).trans ?_; decide +kernel) ?_) | (refine in_lit (b := false) (by with_reducible refine (wchars_occ _).trans ?_; decide +kernel) ?_) | (refine in_lit (b := true) (by decide +kernel) ?_) | (refine in_lit (b := false) (by decide +kernel) ?_))) | ((with_reducible show wpAny _ _ (eval (Expr.Attribute (Expr.Name _ _) _ _) _) _ _ _); with_reducible (k_here; (refine' lex_attr (by k_dflt k_asm) (by k_dflt k_asm) (by with_reducible assumption) (by k_dflt (exact rfl)) (by k_dflt k_get) ?_ (by k_dflt k_is) (by k_dflt k_is) (by k_dflt k_handed); k_whole))) | ((with_reducible show wpAny _ _ (execs (_ :: _) _) _ _ _); with_reducible (with_reducible refine execs_one ?_)) | ((with_reducible show wpAny _ _ (execs (_ :: _) _) _ _ _); with_reducible (k_here; (with_reducible rename Fr _ _ _ _ => zz_kF); (with_reducible refine execs_consM zz_kF ?_); intro _ _ _ _; clear zz_kF)) | ((with_reducible show wpAny _ _ (leaving _ (Value.ref _)) _ _ _); (k_here; (refine' leave_newS ?k1_g33f ?k2_g33f ?k3_g33f ?k4_g33f ?_; (case k2_g33f => assumption); (case k1_g33f => assumption); (case k3_g33f => k_asm); (case k4_g33f => k_asm); k_whole; intro _ zz_Rq _ zz_Uq; (try dsimp only at zz_Rq zz_Uq ⊢)))) | walk1 | (dsimp only; walk1) | dsimp only)
          exact err _ _ _ (by rw [← hR]; rfl) (raisedSN_nil (by assumption)) (by assumption)
        case q2 =>
          dsimp only [Md.val] at N2
          show wpAny _ _ _ _ _ _
          repeat' (first | (k_unfold; (try dsimp only)) | (with_reducible first | refine PyProof.Rows.ite_tt ?_ | refine PyProof.Rows.ite_ff ?_) | ((with_reducible show wpAny _ _ (compareOp CmpOp.Eq (Value.str _ _) (Value.str _ _)) _ _ _); with_reducible (k_here; first | (refine eq_lit (by with_reducible assumption) ?_) | (refine eq_lit (b := true) (by decide +kernel) ?_) | (refine eq_lit (b := false) (by decide +kernel) ?_))) | ((with_reducible show wpAny _ _ (compareOp CmpOp.In (Value.str _ _) (Value.str _ _)) _ _ _); with_reducible (k_here; first | (refine in_lit (by with_reducible assumption) ?_) | (refine in_lit (b := true) (by with_reducible refine (wchars_occ _).trans ?_; decide +kernel) ?_) | (refine in_lit (b := false) (by with_reducible refine (wchars_occ _).trans ?_; decide +kernel) ?_) | (refine in_lit (b := true) (by decide +kernel) ?_) | (refine in_lit (b := false) (by decide +kernel) ?_))) | ((with_reducible show wpAny _ _ (eval (Expr.Attribute (Expr.Name _ _) _ _) _) _ _ _); with_reducible (k_here; (refine' lex_attr (by k_dflt k_asm) (by k_dflt k_asm) (by with_reducible assumption) (by k_dflt (exact rfl)) (by k_dflt k_get) ?_ (by k_dflt k_is) (by k_dflt k_is) (by k_dflt k_handed); k_whole))) | ((with_reducible show wpAny _ _ (execs (_ :: _) _) _ _ _); with_reducible (with_reducible refine execs_one ?_)) | ((with_reducible show wpAny _ _ (execs (_ :: _) _) _ _ _); with_reducible (k_here; (with_reducible rename Fr _ _ _ _ => zz_kF); (with_reducible refine execs_consM zz_kF ?_); intro _ _ _ _; clear zz_kF)) | ((with_reducible show wpAny _ _ (leaving _ (Value.ref _)) _ _ _); (k_here; (refine' leave_newS ?k1_g34f ?k2_g34f ?k3_g34f ?k4_g34f ?_; (case k2_g34f => assumption); (case k1_g34f => assumption); (case k3_g34f => k_asm); (case k4_g34f => k_asm); k_whole; intro _ zz_Rq _ zz_Uq; (try dsimp only at zz_Rq zz_Uq ⊢)))) | walk1 | (dsimp only; walk1) | dsimp only)
          exact err _ _ _ (by rw [← hR]; rfl) (raisedSN_nil (by assumption)) (by assumption)
        case esc =>
          dsimp only [Md.val] at N2
          show wpAny _ _ _ _ _ _
          repeat' (first | (k_unfold; (try dsimp only)) | (with_reducible first | refine PyProof.Rows.ite_tt ?_ | refine PyProof.Rows.ite_ff ?_) | ((with_reducible show wpAny _ _ (compareOp CmpOp.Eq (Value.str _ _) (Value.str _ _)) _ _ _); with_reducible (k_here; first | (refine eq_lit (by with_reducible assumption) ?_) | (refine eq_lit (b := true) (by decide +kernel) ?_) | (refine eq_lit (b := false) (by decide +kernel) ?_))) | ((with_reducible show wpAny _ _ (compareOp CmpOp.In (Value.str _ _) (Value.str _ _)) _ _ _); with_reducible (k_here; first | (refine in_lit (by with_reducible assumption) ?_) | (refine in_lit (b := true) (by with_reducible refine (wchars_occ _).trans ?_; decide +kernel) ?_) | (refine in_lit (b := false) (by with_reducible refine (wchars_occ _).trans ?_; decide +kernel) ?_) | (refine in_lit (b := true) (by decide +kernel) ?_) | (refine in_lit (b := false) (by decide +kernel) ?_))) | ((with_reducible show wpAny _ _ (eval (Expr.Attribute (Expr.Name _ _) _ _) _) _ _ _); with_reducible (k_here; (refine' lex_attr (by k_dflt k_asm) (by k_dflt k_asm) (by with_reducible assumption) (by k_dflt (exact rfl)) (by k_dflt k_get) ?_ (by k_dflt k_is) (by k_dflt k_is) (by k_dflt k_handed); k_whole))) | ((with_reducible show wpAny _ _ (execs (_ :: _) _) _ _ _); with_reducible (with_reducible refine execs_one ?_)) | ((with_reducible show wpAny _ _ (execs (_ :: _) _) _ _ _); with_reducible (k_here; (with_reducible rename Fr _ _ _ _ => zz_kF); (with_reducible refine execs_consM zz_kF ?_); intro _ _ _ _; clear zz_kF)) | ((with_reducible show wpAny _ _ (leaving _ (Value.ref _)) _ _ _); (k_here; (refine' leave_newS ?k1_g35f ?k2_g35f ?k3_g35f ?k4_g35f ?_; (case k2_g35f => assumption); (case k1_g35f => assumption); (case k3_g35f => k_asm); (case k4_g35f => k_asm); k_whole; intro _ zz_Rq _ zz_Uq; (try dsimp only at zz_Rq zz_Uq ⊢)))) | walk1 | (dsimp only; walk1) | dsimp only)
          exact err _ _ _ (by rw [← hR]; rfl) (raisedSN_nil (by assumption)) (by assumption)

  · obtain ⟨rfl, h₁, tk₁, m₁, q₁, tok₁, j₁, tp₁, ts₁, tt₁, md₁, rfl, F₁, N₁, hj₁, hz₁, e1, e2, hR⟩ := h₃
    clear FW NW
    have em : m₁ = fun y => if y = sQuoted then some (.bool q₁) else if y = sSelf then some (.ref lex) else m₁ y := by
      funext y
      split
      · rename_i e; rw [e, e2]
      · split
        · rename_i e; rw [e, e1]
        · rfl
    rw [em] at F₁
    clear em
    have hz2 : (S tok₁).length < 10000 := by rw [S_length]; rw [S_length] at hx; omega
    have hd : (l.drop j₁).length = l.length - j₁ := List.length_drop
    have hj3 : l.length - (l.length - j₁) = j₁ := by omega
    rcases q₁ with _ | _
    · by_cases htk : tok₁ = []
      · subst htk
        dsimp only
        repeat' (first | (k_unfold; (try dsimp only)) | (with_reducible first | refine PyProof.Rows.ite_tt ?_ | refine PyProof.Rows.ite_ff ?_) | ((with_reducible show wpAny _ _ (compareOp CmpOp.Eq (Value.str _ _) (Value.str _ _)) _ _ _); with_reducible (k_here; first | (refine eq_lit (by with_reducible assumption) ?_) | (refine eq_lit (b := true) (by decide +kernel) ?_) | (refine eq_lit (b := false) (by decide +kernel) ?_))) | ((with_reducible show wpAny _ _ (eval (Expr.Attribute (Expr.Name _ _) _ _) _) _ _ _); with_reducible (k_here; (refine' lex_attr (by k_dflt k_asm) (by k_dflt k_asm) (by with_reducible assumption) (by k_dflt (exact rfl)) (by k_dflt k_get) ?_ (by k_dflt k_is) (by k_dflt k_is) (by k_dflt k_handed); k_whole))) | ((with_reducible show wpAny _ _ (execs (_ :: _) _) _ _ _); with_reducible (with_reducible refine execs_one ?_)) | ((with_reducible show wpAny _ _ (execs (_ :: _) _) _ _ _); with_reducible (k_here; (with_reducible rename Fr _ _ _ _ => zz_kF); (with_reducible refine execs_consM zz_kF ?_); intro _ _ _ _; clear zz_kF)) | ((with_reducible show wpAny _ _ (setAttr (Value.ref _) _ _) _ _ _); with_reducible (k_here; (with_reducible first | (refine lex_state (by k_asm) (by k_asm) (by with_reducible assumption) (by assumption) (by assumption) (by assumption) ?_) | (refine lex_token (by k_asm) (by k_asm) (by with_reducible assumption) (by assumption) (by assumption) (by assumption) ?_)); intro _ _ _; (try k_sweep))) | walk1 | (dsimp only; walk1) | dsimp only)
        with_reducible rename Fr _ _ _ _ => F9
        with_reducible rename News _ _ _ _ => N9
        exact ret 0 _ _ .none (l.drop j₁) md₁ _ _ _ (by rw [hR]; simp) F9.keep (led_of N9 (by rw [hd, hj3])) (by rw [hd, hj3]) (by rw [hd]; omega)
      · have htk2 := len0 htk
        have htk3 : (S tok₁ == Str.ofString "") = false := by rw [ofS_nil]; simp [S_inj, htk]
        dsimp only
        repeat' (first | (k_unfold; (try dsimp only)) | (with_reducible first | refine PyProof.Rows.ite_tt ?_ | refine PyProof.Rows.ite_ff ?_) | ((with_reducible show wpAny _ _ (compareOp CmpOp.Eq (Value.str _ _) (Value.str _ _)) _ _ _); with_reducible (k_here; first | (refine eq_lit (by with_reducible assumption) ?_) | (refine eq_lit (b := true) (by decide +kernel) ?_) | (refine eq_lit (b := false) (by decide +kernel) ?_))) | ((with_reducible show wpAny _ _ (eval (Expr.Attribute (Expr.Name _ _) _ _) _) _ _ _); with_reducible (k_here; (refine' lex_attr (by k_dflt k_asm) (by k_dflt k_asm) (by with_reducible assumption) (by k_dflt (exact rfl)) (by k_dflt k_get) ?_ (by k_dflt k_is) (by k_dflt k_is) (by k_dflt k_handed); k_whole))) | ((with_reducible show wpAny _ _ (execs (_ :: _) _) _ _ _); with_reducible (with_reducible refine execs_one ?_)) | ((with_reducible show wpAny _ _ (execs (_ :: _) _) _ _ _); with_reducible (k_here; (with_reducible rename Fr _ _ _ _ => zz_kF); (with_reducible refine execs_consM zz_kF ?_); intro _ _ _ _; clear zz_kF)) | ((with_reducible show wpAny _ _ (setAttr (Value.ref _) _ _) _ _ _); with_reducible (k_here; (with_reducible first | (refine lex_state (by k_asm) (by k_asm) (by with_reducible assumption) (by assumption) (by assumption) (by assumption) ?_) | (refine lex_token (by k_asm) (by k_asm) (by with_reducible assumption) (by assumption) (by assumption) (by assumption) ?_)); intro _ _ _; (try k_sweep))) | walk1 | (dsimp only; walk1) | dsimp only)
        with_reducible rename Fr _ _ _ _ => F9
        with_reducible rename News _ _ _ _ => N9
        exact ret tt₁ _ _ (some tok₁) (l.drop j₁) md₁ _ _ _ (by rw [hR]; simp [htk]) F9.keep (led_of N9 (by rw [hd, hj3])) (by rw [hd, hj3]) (by rw [hd]; omega)
    · dsimp only
      repeat' (first | (k_unfold; (try dsimp only)) | (with_reducible first | refine PyProof.Rows.ite_tt ?_ | refine PyProof.Rows.ite_ff ?_) | ((with_reducible show wpAny _ _ (eval (Expr.Attribute (Expr.Name _ _) _ _) _) _ _ _); with_reducible (k_here; (refine' lex_attr (by k_dflt k_asm) (by k_dflt k_asm) (by with_reducible assumption) (by k_dflt (exact rfl)) (by k_dflt k_get) ?_ (by k_dflt k_is) (by k_dflt k_is) (by k_dflt k_handed); k_whole))) | ((with_reducible show wpAny _ _ (execs (_ :: _) _) _ _ _); with_reducible (with_reducible refine execs_one ?_)) | ((with_reducible show wpAny _ _ (execs (_ :: _) _) _ _ _); with_reducible (k_here; (with_reducible rename Fr _ _ _ _ => zz_kF); (with_reducible refine execs_consM zz_kF ?_); intro _ _ _ _; clear zz_kF)) | ((with_reducible show wpAny _ _ (setAttr (Value.ref _) _ _) _ _ _); with_reducible (k_here; (with_reducible first | (refine lex_state (by k_asm) (by k_asm) (by with_reducible assumption) (by assumption) (by assumption) (by assumption) ?_) | (refine lex_token (by k_asm) (by k_asm) (by with_reducible assumption) (by assumption) (by assumption) (by assumption) ?_)); intro _ _ _; (try k_sweep))) | walk1 | (dsimp only; walk1) | dsimp only)
      with_reducible rename Fr _ _ _ _ => F9
      with_reducible rename News _ _ _ _ => N9
      exact ret tt₁ _ _ (some tok₁) (l.drop j₁) md₁ _ _ _ (by rw [hR]; simp) F9.keep (led_of N9 (by rw [hd, hj3])) (by rw [hd, hj3]) (by rw [hd]; omega)
end Mine
end
section
open PySem PySem.W PyProof.Rows PySem.Calls PySem.W.X PySem.W.XRun
set_option maxRecDepth 100000
set_option maxHeartbeats 4000000
namespace Mine
section
variable {prog : Program} {w : World} {A : Around} {s : Shared} {a : Addr} {E : Value → Shared → Prop}
set_option hygiene false in
local macro_rules | `(tactic| x_close) => `(tactic| (exact hret _ _))
theorem len_deque {Q : Value → Shared → Prop} (ho : s.heap.get? a = some ⟨.type "collections.deque", none, .fields #[.none, .int 0 0], #[]⟩) (hret : ∀ t k, Q (.int 0 t) { s with toks := k }) :
    wpAny (model prog w) A (runValue (.builtin "len" ⟨[.ref a], []⟩)) Q E s := by
  x_run
theorem look_bool : typeLookup (.type "collections.deque") "__bool__" = pure none := by rw [typeLookup_type, builtinLookup_eq_fast]; kernel_rfl
theorem look_len : typeLookup (.type "collections.deque") "__len__" = pure (some (.builtin "collections.deque.__len__")) := by rw [typeLookup_type, builtinLookup_eq_fast]; kernel_rfl
theorem truthy_deque {Q : Bool → Shared → Prop} (ho : s.heap.get? a = some ⟨.type "collections.deque", none, .fields #[.none, .int 0 0], #[]⟩) (h : ∀ k, Q false { s with toks := k }) :
    wpAny (model prog w) A (truthy (.ref a)) Q E s := by
  have hT : s.TypeIs (.ref a) "collections.deque" := ⟨_, ho, rfl⟩
  unfold truthy
  refine wpAny_bind (wpAny_callSpecial?_none (name := Str.ofString "__bool__") hT look_bool ?_)
  refine wpAny_bind (wpAny_specialOf (name := Str.ofString "__len__") hT look_len ?_)
  exact wpAny_bind (len_deque ho fun t k => wpAny_pure (h k))
end
end Mine
end
section
open PySem PySem.W PyProof.Rows PySem.Calls
set_option maxRecDepth 100000
set_option maxHeartbeats 4000000
set_option pp.deepTerms false
namespace Mine
noncomputable def tokVal (t : Tok) : Option (List Nat) → Value
  | .none => .none
  | some x => .str (S x) t
section
variable {w : World} {p : Program} {loose : List Str} {mean : ExcName → Option Value} {mg mb : Str → Option Value} {A A₀ : Around} {base h₀ : Heap} {env : Env} {outer : List Env} {s : Shared} {Q E : Value → Shared → Prop} {L : Addr} {m : Str → Option Value}
    {lex dl io dio pb fs : Addr} {k kk : Nat → Tok} {l : List Nat} {i : Nat} {tp ts tt : Tok} {md : Md}
theorem tok_here (B : Below A₀ base outer h₀) (F : Fr h₀ L s.heap m) (X : (Mine.KK w.params).In h₀) (T : Top p loose mean mg mb h₀) (N : News h₀ L s.heap (lexLed w.params k kk lex dl io dio pb fs l i tp (md.val ts) (.str (Str.ofString "") tt)))
    (hA : A.frames = some (env :: outer)) (hf : env.frame = some L) (hke : env.scope.kind = .function) (hhd : A.handled = none) (hdp : A.depth + 20 < recursionLimit) (hun : A.units + 200 < cLine)
    (hx : (S l).length < 1000) (hi : i ≤ l.length) (hl : ∀ c ∈ l, okc c) (hmd : md = .blank ∨ (md = .none ∧ i = l.length))
    (n1 : @Ne Nat lex dl) (n2 : @Ne Nat lex io) (n3 : @Ne Nat lex dio) (n4 : @Ne Nat dl io) (n5 : @Ne Nat dl dio) (n6 : @Ne Nat io dio)
    (h : ∀ t h' tk' tok rest md' tp' ts' tt', rt (Ts.start md) (l.drop i) = some (tok, rest, md') → Fr h₀ L h' m →
      News h₀ L h' (lexLed w.params k kk lex dl io dio pb fs l ((l.length - rest.length : Nat) : Int) tp' (md'.val ts') (.str (Str.ofString "") tt')) → rest = l.drop (l.length - rest.length) → rest.length ≤ l.length → Q (tokVal t tok) { s with heap := h', toks := tk' })
    (err : ∀ e h' tk' g₂, rt (Ts.start md) (l.drop i) = .none → Fr h₀ L g₂ m → RaisedSN base g₂ (env :: outer) e (.type "ValueError") [] h' → g₂.UpToSlots h' → E (.ref e) { s with heap := h', toks := tk' }) :
    wpAny (model PySem.Challenge.rw_ik0204_01.prog w) A (call (.ref 726) [.ref lex]) Q E s := by
  obtain ⟨C, hL, FG⟩ := at_with B F X T N hA hf hke
  refine read_token w p loose mean mg mb A base _ env outer s Q E lex dl io dio pb fs k kk l i tp ts tt md hx hi hl hmd n1 n2 n3 n4 n5 n6 C hL hhd hdp hun (fun t h' tk' tok rest md' tp' ts' tt' hR kp hL' e1 e2 => ?_) fun e h' tk' hR R U => err e h' tk' _ hR FG R U
  obtain ⟨F2, N2⟩ := back_with (rest := []) F (by rw [List.append_nil]; exact N) (fun q hq => nomatch hq) kp hL'
  rw [List.append_nil] at N2
  have z := h t h' tk' tok rest md' tp' ts' tt' hR F2 N2 e1 e2
  cases tok <;> exact z
end

theorem get_token (w : World) (p : Program) (loose : List Str) (mean : ExcName → Option Value) (mg mb : Str → Option Value) (A : Around) (base g : Heap) (env : Env) (outer : List Env) (s : Shared) (Q E : Value → Shared → Prop)
    (lex dl io dio pb fs : Addr) (k kk : Nat → Tok) (l : List Nat) (i : Nat) (tp ts tt : Tok) (md : Md) (hx : (S l).length < 1000) (hi : i ≤ l.length) (hl : ∀ c ∈ l, okc c) (hmd : md = .blank ∨ (md = .none ∧ i = l.length))
    (n1 : @Ne Nat lex dl) (n2 : @Ne Nat lex io) (n3 : @Ne Nat lex dio) (n4 : @Ne Nat dl io) (n5 : @Ne Nat dl dio) (n6 : @Ne Nat io dio)
    (C : At (Mine.KK w.params) p loose mean mg mb A base env outer g s.heap) (NA : Led g s.heap (lexLed w.params k kk lex dl io dio pb fs l i tp (md.val ts) (.str (Str.ofString "") tt))) (hpb : g.get? pb = some ⟨.type "collections.deque", none, .fields #[.none, .int 0 0], #[]⟩) (hfs : g.get? fs = some ⟨.type "collections.deque", none, .fields #[.none, .int 0 0], #[]⟩) (hhd : A.handled = none) (hdp : A.depth + 30 < recursionLimit) (hun : A.units + 300 < cLine)
    (ret : ∀ t h' tk' tok rest md' tp' ts' tt', rt (Ts.start md) (l.drop i) = some (tok, rest, md') → (∀ b o, g.get? b = some o → h'.get? b = some o) →
      Led g h' (lexLed w.params k kk lex dl io dio pb fs l ((l.length - rest.length : Nat) : Int) tp' (md'.val ts') (.str (Str.ofString "") tt')) → rest = l.drop (l.length - rest.length) → rest.length ≤ l.length → Q (tokVal t tok) { s with heap := h', toks := tk' })
    (err : ∀ e h' tk', rt (Ts.start md) (l.drop i) = .none → RaisedSN base g (env :: outer) e (.type "ValueError") [] h' → g.UpToSlots h' → E (.ref e) { s with heap := h', toks := tk' }) :
    wpAny (model PySem.Challenge.rw_ik0204_01.prog w) A (call (.ref 719) [.ref lex]) Q E s := by
  have X := C.part
  revert X; k_fill; intro X
  obtain ⟨hd0, dp, fr, gd, un⟩ := A
  have hA := C.below.stack
  cases hA
  cases hhd
  refine wpAny_call ?_
  k_dflt (refine' enter_def C NA ?k6 ?k7 ?k8 ?k9 ?kB ?_ ?c2 ?c3 ?c4 ?c5)
  case k6 => k_is
  case k7 => k_is
  case k8 => ktr_room
  case k9 => first | exact BindsTo.of_eq rfl | exact binds_K (C.part.keeps C.sub) rfl (by k_is) rfl rfl rfl
  case kB => exact locs rfl
  case c2 => exact rfl
  case c3 => exact rfl
  case c4 => exact rfl
  case c5 => decide
  intro L' h' F' N' B' X' T'
  (try dsimp only)
  k_fold
  repeat' (first | (k_unfold; (try dsimp only)) | ((with_reducible show wpAny _ _ (call (Value.ref _) _ _) _ _ _); with_reducible (k_here; k_dflt (refine' tok_here ?k1_g0a ?k2_g0a ?k3_g0a ?k4_g0a ?k5_g0a ?kA_g0a ?kF_g0a ?kK_g0a ?kh_g0a ?k6_g0a ?k7_g0a ?k8_g0a ?k9_g0a ?k10_g0a ?k11_g0a ?a1_g0a ?a2_g0a ?a3_g0a ?a4_g0a ?a5_g0a ?a6_g0a ?ko_g0a ?ke_g0a; (case kA_g0a => exact rfl); (case kF_g0a => exact rfl); (case kK_g0a => exact rfl); (case kh_g0a => exact rfl); (case k1_g0a => k_asm); (case k2_g0a => k_asm); (case k3_g0a => k_asm); (case k4_g0a => k_asm); (case k5_g0a => k_asm); (case k6_g0a => ktr_room); (case k7_g0a => ktr_units); (case a1_g0a => assumption); (case a2_g0a => assumption); (case a3_g0a => assumption); (case a4_g0a => assumption); (case a5_g0a => assumption); (case a6_g0a => assumption); (case k8_g0a => assumption); (case k9_g0a => assumption); (case k10_g0a => assumption); (case k11_g0a => assumption); k_whole; (case' ko_g0a => intro t9 h9 tk9 tok9 rest9 md9 tp9 ts9 tt9 hR9 F9 N9 e91 e92); (case' ke_g0a => intro e9 h9 tk9 g9 hR9 FG9 R9 U9)))) | ((with_reducible show wpAny _ _ (leaving _ (Value.ref _)) _ _ _); with_reducible (k_here; k_dflt (refine' leave_onSN ?k1_g0b ?k2_g0b ?k3_g0b ?k4_g0b ?_; (case k3_g0b => assumption); (case k1_g0b => assumption); (case k2_g0b => assumption); (case k4_g0b => assumption); k_whole; intro _ zz_Rq _ zz_Uq; (try dsimp only at zz_Rq zz_Uq ⊢)))) | ((with_reducible show wpAny _ _ (truthy (Value.ref _)) _ _ _); with_reducible (k_here; (with_reducible rename Fr _ _ _ _ => kF); k_dflt (first | (refine truthy_deque (Fr.keep kF _ _ hpb) ?_) | (refine truthy_deque (Fr.keep kF _ _ hfs) ?_)); intro tk')) | ((fail_if_success (with_reducible show wpAny _ _ (PySem.exec (Stmt.While _ _ _ _) _) _ _ _)); walk1) | ((fail_if_success (with_reducible show wpAny _ _ (PySem.exec (Stmt.While _ _ _ _) _) _ _ _)); dsimp only; (first | ((with_reducible show wpAny _ _ (call (Value.ref _) _ _) _ _ _); with_reducible (k_here; k_dflt (refine' tok_here ?k1_g0a ?k2_g0a ?k3_g0a ?k4_g0a ?k5_g0a ?kA_g0a ?kF_g0a ?kK_g0a ?kh_g0a ?k6_g0a ?k7_g0a ?k8_g0a ?k9_g0a ?k10_g0a ?k11_g0a ?a1_g0a ?a2_g0a ?a3_g0a ?a4_g0a ?a5_g0a ?a6_g0a ?ko_g0a ?ke_g0a; (case kA_g0a => exact rfl); (case kF_g0a => exact rfl); (case kK_g0a => exact rfl); (case kh_g0a => exact rfl); (case k1_g0a => k_asm); (case k2_g0a => k_asm); (case k3_g0a => k_asm); (case k4_g0a => k_asm); (case k5_g0a => k_asm); (case k6_g0a => ktr_room); (case k7_g0a => ktr_units); (case a1_g0a => assumption); (case a2_g0a => assumption); (case a3_g0a => assumption); (case a4_g0a => assumption); (case a5_g0a => assumption); (case a6_g0a => assumption); (case k8_g0a => assumption); (case k9_g0a => assumption); (case k10_g0a => assumption); (case k11_g0a => assumption); k_whole; (case' ko_g0a => intro t9 h9 tk9 tok9 rest9 md9 tp9 ts9 tt9 hR9 F9 N9 e91 e92); (case' ke_g0a => intro e9 h9 tk9 g9 hR9 FG9 R9 U9)))) | ((with_reducible show wpAny _ _ (leaving _ (Value.ref _)) _ _ _); with_reducible (k_here; k_dflt (refine' leave_onSN ?k1_g0b ?k2_g0b ?k3_g0b ?k4_g0b ?_; (case k3_g0b => assumption); (case k1_g0b => assumption); (case k2_g0b => assumption); (case k4_g0b => assumption); k_whole; intro _ zz_Rq _ zz_Uq; (try dsimp only at zz_Rq zz_Uq ⊢)))) | ((with_reducible show wpAny _ _ (truthy (Value.ref _)) _ _ _); with_reducible (k_here; (with_reducible rename Fr _ _ _ _ => kF); k_dflt (first | (refine truthy_deque (Fr.keep kF _ _ hpb) ?_) | (refine truthy_deque (Fr.keep kF _ _ hfs) ?_)); intro tk')) | walk1)))
  any_goals (exact err _ _ _ hR9 (by assumption) (by assumption))
  with_reducible rename Fr _ _ _ _ => F0
  with_reducible rename News _ _ _ _ => N0
  rcases tok9 with _ | x9
  all_goals (try dsimp only [tokVal] at F0)
  all_goals refine While_inv2 (fun n m nx => m = _ ∧ nx = _) (n₀ := 0) F0 N0 ⟨rfl, rfl⟩ ?_
  all_goals rintro n m₁ nx h₁ tk₁ F₁ N₁ ⟨rfl, rfl⟩
  all_goals clear F0 N0
  all_goals show wpAny _ _ _ _ _ _
  all_goals k_fold
  all_goals (repeat' (first | (k_unfold; (try dsimp only)) | ((with_reducible show wpAny _ _ (truthy (Value.ref _)) _ _ _); with_reducible (k_here; (with_reducible rename Fr _ _ _ _ => kF); k_dflt (first | (refine truthy_deque (Fr.keep kF _ _ hpb) ?_) | (refine truthy_deque (Fr.keep kF _ _ hfs) ?_)); intro tk')) | walk1 | (dsimp only; walk1) | dsimp only [tokVal]))
  all_goals with_reducible rename Fr _ _ _ _ => F9
  all_goals with_reducible rename News _ _ _ _ => N9
  · exact ret t9 _ _ .none rest9 md9 _ _ _ hR9 F9.keep (led_of N9 rfl) e91 e92
  · exact ret t9 _ _ (some x9) rest9 md9 _ _ _ hR9 F9.keep (led_of N9 rfl) e91 e92
end Mine
end
section
open PySem PySem.W PyProof.Rows PySem.Calls
set_option maxRecDepth 100000
set_option maxHeartbeats 4000000
set_option pp.deepTerms false
namespace Mine
section
variable {w : World} {p : Program} {loose : List Str} {mean : ExcName → Option Value} {mg mb : Str → Option Value} {A A₀ : Around} {base h₀ : Heap} {env : Env} {outer : List Env} {s : Shared} {Q E : Value → Shared → Prop} {L : Addr} {m : Str → Option Value}
    {lex dl io dio pb fs : Addr} {k kk : Nat → Tok} {l : List Nat} {i : Nat} {tp ts tt : Tok} {md : Md}
theorem get_here (B : Below A₀ base outer h₀) (F : Fr h₀ L s.heap m) (X : (Mine.KK w.params).In h₀) (T : Top p loose mean mg mb h₀) (N : News h₀ L s.heap (lexLed w.params k kk lex dl io dio pb fs l i tp (md.val ts) (.str (Str.ofString "") tt)))
    (hA : A.frames = some (env :: outer)) (hf : env.frame = some L) (hke : env.scope.kind = .function) (hhd : A.handled = none) (hdp : A.depth + 30 < recursionLimit) (hun : A.units + 300 < cLine)
    (hx : (S l).length < 1000) (hi : i ≤ l.length) (hl : ∀ c ∈ l, okc c) (hmd : md = .blank ∨ (md = .none ∧ i = l.length))
    (n1 : @Ne Nat lex dl) (n2 : @Ne Nat lex io) (n3 : @Ne Nat lex dio) (n4 : @Ne Nat dl io) (n5 : @Ne Nat dl dio) (n6 : @Ne Nat io dio)
    (hpb : h₀.get? pb = some ⟨.type "collections.deque", none, .fields #[.none, .int 0 0], #[]⟩) (hfs : h₀.get? fs = some ⟨.type "collections.deque", none, .fields #[.none, .int 0 0], #[]⟩)
    (h : ∀ t h' tk' tok rest md' tp' ts' tt', rt (Ts.start md) (l.drop i) = some (tok, rest, md') → Fr h₀ L h' m →
      News h₀ L h' (lexLed w.params k kk lex dl io dio pb fs l ((l.length - rest.length : Nat) : Int) tp' (md'.val ts') (.str (Str.ofString "") tt')) → rest = l.drop (l.length - rest.length) → rest.length ≤ l.length → Q (tokVal t tok) { s with heap := h', toks := tk' })
    (err : ∀ e h' tk' g₂, rt (Ts.start md) (l.drop i) = .none → Fr h₀ L g₂ m → RaisedSN base g₂ (env :: outer) e (.type "ValueError") [] h' → g₂.UpToSlots h' → E (.ref e) { s with heap := h', toks := tk' }) :
    wpAny (model PySem.Challenge.rw_ik0204_01.prog w) A (call (.ref 719) [.ref lex]) Q E s := by
  obtain ⟨C, hL, FG⟩ := at_with B F X T N hA hf hke
  refine get_token w p loose mean mg mb A base _ env outer s Q E lex dl io dio pb fs k kk l i tp ts tt md hx hi hl hmd n1 n2 n3 n4 n5 n6 C hL (FG.keep _ _ hpb) (FG.keep _ _ hfs) hhd hdp hun (fun t h' tk' tok rest md' tp' ts' tt' hR kp hL' e1 e2 => ?_) fun e h' tk' hR R U => err e h' tk' _ hR FG R U
  obtain ⟨F2, N2⟩ := back_with (rest := []) F (by rw [List.append_nil]; exact N) (fun q hq => nomatch hq) kp hL'
  rw [List.append_nil] at N2
  exact h t h' tk' tok rest md' tp' ts' tt' hR F2 N2 e1 e2
end
theorem next_token (w : World) (p : Program) (loose : List Str) (mean : ExcName → Option Value) (mg mb : Str → Option Value) (A : Around) (base g : Heap) (env : Env) (outer : List Env) (s : Shared) (Q E : Value → Shared → Prop)
    (lex dl io dio pb fs : Addr) (k kk : Nat → Tok) (l : List Nat) (i : Nat) (tp ts tt : Tok) (md : Md) (hx : (S l).length < 1000) (hi : i ≤ l.length) (hl : ∀ c ∈ l, okc c) (hmd : md = .blank ∨ (md = .none ∧ i = l.length))
    (n1 : @Ne Nat lex dl) (n2 : @Ne Nat lex io) (n3 : @Ne Nat lex dio) (n4 : @Ne Nat dl io) (n5 : @Ne Nat dl dio) (n6 : @Ne Nat io dio)
    (C : At (Mine.KK w.params) p loose mean mg mb A base env outer g s.heap) (NA : Led g s.heap (lexLed w.params k kk lex dl io dio pb fs l i tp (md.val ts) (.str (Str.ofString "") tt))) (hpb : g.get? pb = some ⟨.type "collections.deque", none, .fields #[.none, .int 0 0], #[]⟩) (hfs : g.get? fs = some ⟨.type "collections.deque", none, .fields #[.none, .int 0 0], #[]⟩) (hhd : A.handled = none) (hdp : A.depth + 40 < recursionLimit) (hun : A.units + 400 < cLine)
    (ret : ∀ t h' tk' x rest md' tp' ts' tt', rt (Ts.start md) (l.drop i) = some (some x, rest, md') → (∀ b o, g.get? b = some o → h'.get? b = some o) →
      Led g h' (lexLed w.params k kk lex dl io dio pb fs l ((l.length - rest.length : Nat) : Int) tp' (md'.val ts') (.str (Str.ofString "") tt')) → rest = l.drop (l.length - rest.length) → rest.length ≤ l.length → Q (.str (S x) t) { s with heap := h', toks := tk' })
    (stop : ∀ e t h' tk' rest md', rt (Ts.start md) (l.drop i) = some (.none, rest, md') → RaisedS base g (env :: outer) e (.type "StopIteration") t [] [] h' → g.UpToSlots h' → E (.ref e) { s with heap := h', toks := tk' })
    (err : ∀ e h' tk', rt (Ts.start md) (l.drop i) = .none → RaisedSN base g (env :: outer) e (.type "ValueError") [] h' → g.UpToSlots h' → E (.ref e) { s with heap := h', toks := tk' }) :
    wpAny (model PySem.Challenge.rw_ik0204_01.prog w) A (call (.ref 755) [.ref lex]) Q E s := by
  have X := C.part
  revert X; k_fill; intro X
  obtain ⟨hd0, dp, fr, gd, un⟩ := A
  have hA := C.below.stack
  cases hA
  cases hhd
  refine wpAny_call ?_
  k_dflt (refine' enter_def C NA ?k6 ?k7 ?k8 ?k9 ?kB ?_ ?c2 ?c3 ?c4 ?c5)
  case k6 => k_is
  case k7 => k_is
  case k8 => ktr_room
  case k9 => first | exact BindsTo.of_eq rfl | exact binds_K (C.part.keeps C.sub) rfl (by k_is) rfl rfl rfl
  case kB => exact locs rfl
  case c2 => exact rfl
  case c3 => exact rfl
  case c4 => exact rfl
  case c5 => decide
  intro L' h' F' N' B' X' T'
  (try dsimp only)
  k_fold
  repeat' (first | (k_unfold; (try dsimp only)) | ((with_reducible show wpAny _ _ (call (Value.ref _) _ _) _ _ _); with_reducible (k_here; k_dflt (refine' get_here ?k1_g0a ?k2_g0a ?k3_g0a ?k4_g0a ?k5_g0a ?kA_g0a ?kF_g0a ?kK_g0a ?kh_g0a ?k6_g0a ?k7_g0a ?k8_g0a ?k9_g0a ?k10_g0a ?k11_g0a ?a1_g0a ?a2_g0a ?a3_g0a ?a4_g0a ?a5_g0a ?a6_g0a ?b1_g0a ?b2_g0a ?ko_g0a ?ke_g0a; (case kA_g0a => exact rfl); (case kF_g0a => exact rfl); (case kK_g0a => exact rfl); (case kh_g0a => exact rfl); (case k1_g0a => k_asm); (case k2_g0a => k_asm); (case k3_g0a => k_asm); (case k4_g0a => k_asm); (case k5_g0a => k_asm); (case k6_g0a => ktr_room); (case k7_g0a => ktr_units); (case a1_g0a => assumption); (case a2_g0a => assumption); (case a3_g0a => assumption); (case a4_g0a => assumption); (case a5_g0a => assumption); (case a6_g0a => assumption); (case b1_g0a => assumption); (case b2_g0a => assumption); (case k8_g0a => assumption); (case k9_g0a => assumption); (case k10_g0a => assumption); (case k11_g0a => assumption); k_whole; (case' ko_g0a => intro t9 h9 tk9 tok9 rest9 md9 tp9 ts9 tt9 hR9 F9 N9 e91 e92); (case' ke_g0a => intro e9 h9 tk9 g9 hR9 FG9 R9 U9)))) | ((with_reducible show wpAny _ _ (leaving _ (Value.ref _)) _ _ _); with_reducible (k_here; k_dflt (first | (refine' leave_onSN ?k1_g0b ?k2_g0b ?k3_g0b ?k4_g0b ?_; (case k3_g0b => assumption); (case k1_g0b => assumption); (case k2_g0b => assumption); (case k4_g0b => assumption); k_whole; intro zz_hq zz_Rq _ zz_Uq; (try dsimp only at zz_Rq zz_Uq ⊢)) | (refine' leave_raiseS (news := []) ?k1_g0b (Heap.MadeExc.of (by assumption)) ?k3_g0b ?k4_g0b ?_; (case k1_g0b => assumption); (case k3_g0b => assumption); (case k4_g0b => exact fun q hq => nomatch hq); k_whole; intro _ _ zz_Rq _ zz_Uq; (try dsimp only at zz_Rq zz_Uq ⊢))))) | ((fail_if_success (with_reducible show wpAny _ _ (compareOp .Eq _ _) _ _ _)); walk1) | ((fail_if_success (with_reducible show wpAny _ _ (compareOp .Eq _ _) _ _ _)); dsimp only; (first | ((with_reducible show wpAny _ _ (call (Value.ref _) _ _) _ _ _); with_reducible (k_here; k_dflt (refine' get_here ?k1_g0a ?k2_g0a ?k3_g0a ?k4_g0a ?k5_g0a ?kA_g0a ?kF_g0a ?kK_g0a ?kh_g0a ?k6_g0a ?k7_g0a ?k8_g0a ?k9_g0a ?k10_g0a ?k11_g0a ?a1_g0a ?a2_g0a ?a3_g0a ?a4_g0a ?a5_g0a ?a6_g0a ?b1_g0a ?b2_g0a ?ko_g0a ?ke_g0a; (case kA_g0a => exact rfl); (case kF_g0a => exact rfl); (case kK_g0a => exact rfl); (case kh_g0a => exact rfl); (case k1_g0a => k_asm); (case k2_g0a => k_asm); (case k3_g0a => k_asm); (case k4_g0a => k_asm); (case k5_g0a => k_asm); (case k6_g0a => ktr_room); (case k7_g0a => ktr_units); (case a1_g0a => assumption); (case a2_g0a => assumption); (case a3_g0a => assumption); (case a4_g0a => assumption); (case a5_g0a => assumption); (case a6_g0a => assumption); (case b1_g0a => assumption); (case b2_g0a => assumption); (case k8_g0a => assumption); (case k9_g0a => assumption); (case k10_g0a => assumption); (case k11_g0a => assumption); k_whole; (case' ko_g0a => intro t9 h9 tk9 tok9 rest9 md9 tp9 ts9 tt9 hR9 F9 N9 e91 e92); (case' ke_g0a => intro e9 h9 tk9 g9 hR9 FG9 R9 U9)))) | ((with_reducible show wpAny _ _ (leaving _ (Value.ref _)) _ _ _); with_reducible (k_here; k_dflt (first | (refine' leave_onSN ?k1_g0b ?k2_g0b ?k3_g0b ?k4_g0b ?_; (case k3_g0b => assumption); (case k1_g0b => assumption); (case k2_g0b => assumption); (case k4_g0b => assumption); k_whole; intro zz_hq zz_Rq _ zz_Uq; (try dsimp only at zz_Rq zz_Uq ⊢)) | (refine' leave_raiseS (news := []) ?k1_g0b (Heap.MadeExc.of (by assumption)) ?k3_g0b ?k4_g0b ?_; (case k1_g0b => assumption); (case k3_g0b => assumption); (case k4_g0b => exact fun q hq => nomatch hq); k_whole; intro _ _ zz_Rq _ zz_Uq; (try dsimp only at zz_Rq zz_Uq ⊢))))) | walk1)))
  any_goals (exact err _ _ _ hR9 (by assumption) (by assumption))
  rcases tok9 with _ | x9
  all_goals dsimp only [tokVal]
  all_goals (repeat' (first | (k_unfold; (try dsimp only)) | ((with_reducible show wpAny _ _ (leaving _ (Value.ref _)) _ _ _); with_reducible (k_here; k_dflt (first | (refine' leave_onSN ?k1_g1a ?k2_g1a ?k3_g1a ?k4_g1a ?_; (case k3_g1a => assumption); (case k1_g1a => assumption); (case k2_g1a => assumption); (case k4_g1a => assumption); k_whole; intro zz_hq zz_Rq _ zz_Uq; (try dsimp only at zz_Rq zz_Uq ⊢)) | (refine' leave_raiseS (news := []) ?k1_g1a (Heap.MadeExc.of (by assumption)) ?k3_g1a ?k4_g1a ?_; (case k1_g1a => assumption); (case k3_g1a => assumption); (case k4_g1a => exact fun q hq => nomatch hq); k_whole; intro _ _ zz_Rq _ zz_Uq; (try dsimp only at zz_Rq zz_Uq ⊢))))) | walk1 | (dsimp only; walk1) | dsimp only))
  · exact stop _ _ _ _ rest9 md9 hR9 (by assumption) (by assumption)
  · with_reducible rename Fr _ _ _ _ => F0
    with_reducible rename News _ _ _ _ => N0
    exact ret t9 _ _ x9 rest9 md9 _ _ _ hR9 F0.keep (led_of N0 rfl) e91 e92
end Mine
end
section
open PySem PySem.W PyProof.Rows PySem.Calls
set_option maxRecDepth 100000
namespace Mine
theorem rt_word : ∀ (r : List Nat) (t : Ts) (x rest : List Nat) (md : Md), rt t r = some (some x, rest, md) → rest.length ≤ r.length ∧ (md = .blank ∨ (md = .none ∧ rest = [])) ∧ t.md ≠ .none
  | [], t, x, rest, md, h => by
    obtain ⟨m, q, es, tok⟩ := t
    cases m <;> simp [rt] at h
    obtain ⟨_, rfl, rfl⟩ := h
    exact ⟨Nat.le_refl _, .inr ⟨rfl, rfl⟩, by simp⟩
  | c :: r, t, x, rest, md, h => by
    obtain ⟨m, q, es, tok⟩ := t
    have go : ∀ t', rt t' r = some (some x, rest, md) → m ≠ .none → rest.length ≤ (c :: r).length ∧ (md = .blank ∨ (md = .none ∧ rest = [])) ∧ (⟨m, q, es, tok⟩ : Ts).md ≠ .none := fun t' e n => by
      obtain ⟨a, b, _⟩ := rt_word r t' x rest md e
      exact ⟨Nat.le_succ_of_le a, b, n⟩
    cases m <;> simp only [rt] at h
    · simp at h
    · repeat' (first | exact go _ h (by simp) | split at h)
    · repeat' (first | exact go _ h (by simp) | (simp only [Option.some.injEq, Prod.mk.injEq] at h; obtain ⟨_, rfl, rfl⟩ := h; exact ⟨Nat.le_succ _, .inl rfl, by simp⟩) | split at h)
    · repeat' (first | exact go _ h (by simp) | split at h)
    · repeat' (first | exact go _ h (by simp) | split at h)
    · repeat' (first | exact go _ h (by simp) | split at h)
theorem rt_less {r : List Nat} {t : Ts} {x rest : List Nat} {md : Md} (h : rt t r = some (some x, rest, md)) (hb : t.md = .blank) : rest.length < r.length := by
  obtain ⟨m, q, es, tok⟩ := t
  dsimp only at hb
  subst hb
  cases r with
  | nil => simp [rt] at h
  | cons c r =>
    simp only [rt] at h
    repeat' (first | exact Nat.lt_succ_of_le (rt_word _ _ _ _ _ h).1 | split at h)
/-- all words off the signs -/
noncomputable def words : Nat → Md → List Nat → Option (List (List Nat))
  | 0, _, _ => some []
  | n + 1, md, r => match rt (Ts.start md) r with
    | .none => .none
    | some (.none, _, _) => some []
    | some (some x, rest, md') => (words n md' rest).map (x :: ·)
/-- text values with these signs -/
noncomputable def Strs : List Value → List (List Nat) → Prop
  | [], [] => True
  | v :: vs, x :: xs => (∃ t, v = .str (S x) t) ∧ Strs vs xs
  | _, _ => False
end Mine
end
section
open PySem PySem.W PyProof.Rows PySem.Calls
set_option maxRecDepth 100000
set_option maxHeartbeats 4000000
set_option pp.deepTerms false
namespace Mine
noncomputable abbrev listO (acc : Array Value) (c : Nat) : Obj := { cls := .type "list", dict := none, data := .seq acc c, slots := #[] }
noncomputable abbrev dqO : Obj := ⟨.type "collections.deque", none, .fields #[.none, .int 0 0], #[]⟩
theorem stop_self : isSubtype (.type "StopIteration") (.type "StopIteration") = pure true := by rw [isSubtype_type]; kernel_rfl
theorem value_stop : isSubtype (.type "ValueError") (.type "StopIteration") = pure false := by rw [isSubtype_type]; kernel_rfl
theorem lex_next {P : Params} {h : Heap} (X : (Mine.KK P).In h) : findIn (Mine.KK P) (.ref 758) "__next__" = some (some (.ref 755)) := by
  have h : PySem.Challenge.rw_ik0204_01 = PySem.Challenge.rw_ik0204_01 → findIn (Mine.KK P) (.ref 758) "__next__" = some (some (.ref 755)) := by
    k_fill
    intro _
    k_is
  exact h rfl
theorem lex_next_fn {P : Params} {h : Heap} (X : (Mine.KK P).In h) : isFn (Mine.KK P) (.ref 755) = true := by
  have h : PySem.Challenge.rw_ik0204_01 = PySem.Challenge.rw_ik0204_01 → isFn (Mine.KK P) (.ref 755) = true := by
    k_fill
    intro _
    k_is
  exact h rfl
section
variable {w : World} {p : Program} {loose : List Str} {mean : ExcName → Option Value} {mg mb : Str → Option Value} {A A₀ : Around} {base h₀ : Heap} {outer : List Env} {L a : Addr} {name : Str} {scope : Scope} {cd : Value} {m : Str → Option Value}
    {lex dl io dio pb fs Sx : Addr} {k kk : Nat → Tok} {l : List Nat} {rest : List (Addr × Obj)} {RR : Result → Shared → Prop} {res : Value}
theorem lex_loop (B : Below A₀ base outer h₀) (X : (Mine.KK w.params).In h₀) (T : Top p loose mean mg mb h₀)
    (hA : A.frames = some (envOf name scope L a cd :: outer)) (hke : scope.kind = .function) (hhd : A.handled = none) (hdp : A.depth + 40 < recursionLimit) (hun : A.units + 500 < cLine)
    (hx : (S l).length < 1000) (hl : ∀ c ∈ l, okc c)
    (n1 : @Ne Nat lex dl) (n2 : @Ne Nat lex io) (n3 : @Ne Nat lex dio) (n4 : @Ne Nat dl io) (n5 : @Ne Nat dl dio) (n6 : @Ne Nat io dio)
    (hpb : (pb, dqO) ∈ rest) (hfs : (fs, dqO) ∈ rest) (hS : Sx ∉ [lex, dl, io, dio]) (hr : ∀ q ∈ rest, q.1 ∉ [lex, dl, io, dio]) (hrS : ∀ q ∈ rest, @Ne Nat q.1 Sx) :
    ∀ (n i : Nat) (md : Md) (s : Shared) (tp ts tt : Tok) (acc : Array Value) (c : Nat), l.length - i < n → i ≤ l.length → acc.size ≤ i → (md = .blank ∨ (md = .none ∧ i = l.length)) →
    Fr h₀ L s.heap m → News h₀ L s.heap (lexLed w.params k kk lex dl io dio pb fs l i tp (md.val ts) (.str (Str.ofString "") tt) ++ (Sx, listO acc c) :: rest) →
    (∀ xs h' tk' c' (acc' : Array Value) vs h₁, words n md (l.drop i) = some xs → acc'.toList = acc.toList ++ vs → Strs vs xs → KtsTurn (outer.filterMap (·.frame)) h₀ h₁ → Below A₀ base outer h₁ → Fr h₁ L h' m → News h₁ L h' [(Sx, listO acc' c')] → RR (.ok (.ret res)) { s with heap := h', toks := tk' }) →
    (∀ e h' tk' g₂, words n md (l.drop i) = .none → Fr h₀ L g₂ m → RaisedSN base g₂ (envOf name scope L a cd :: outer) e (.type "ValueError") [] h' → g₂.UpToSlots h' → RR (.error (.ref e)) { s with heap := h', toks := tk' }) →
    codeAny (model PySem.Challenge.rw_ik0204_01.prog w) A (.builtin "list.extend.loop" ⟨[.ref Sx, .ref lex, res], []⟩) RR s
  | 0, _, _, _, _, _, _, _, _, hn, _, _, _, _, _, _, _ => absurd hn (Nat.not_lt_zero _)
  | n + 1, i, md, s, tp, ts, tt, acc, c, hn, hi, hac, hmd, F, N, ok, bad => by
    have NL : News h₀ L s.heap (lexLed w.params k kk lex dl io dio pb fs l i tp (md.val ts) (.str (Str.ofString "") tt)) := fun q hq => N q (List.mem_append_left _ hq)
    have hNS := N (Sx, listO acc c) (List.mem_append_right _ (.head _))
    have hd : ∀ q ∈ (Sx, listO acc c) :: rest, q.1 ∉ (lexLed w.params k kk lex dl io dio pb fs l i tp (md.val ts) (.str (Str.ofString "") tt)).map (·.1) := fun q hq => by
      rcases List.mem_cons.mp hq with rfl | hq
      · exact hS
      · exact hr q hq
    refine codeAny_builtin PySem.F.entry_extend_loop ?_
    rw [Around.under_plainId PySem.F.plain_extend_loop _]
    show wpAny _ A.in1 (pyNext (.ref lex) >>= _) _ _ _
    refine wpAny_bind ?_
    refine owit_next F X (ox := instObj 758 dl) (od := some (lexO w.params k io pb fs (md.val ts) (.str (Str.ofString "") tt))) ⟨(NL _ (.head _)).1, rfl, rfl, (NL _ (.tail _ (.head _))).1⟩ (lex_next X) (lex_next_fn X) ?_
    obtain ⟨C, hL, FG⟩ := at_with (A := A.in1) B F X T NL hA rfl hke
    have gg : ∀ q ∈ (Sx, listO acc c) :: rest, (hideAll s.heap ((lexLed w.params k kk lex dl io dio pb fs l i tp (md.val ts) (.str (Str.ofString "") tt)).map (·.1))).get? q.1 = some q.2 := fun q hq => hideAll_get _ (N q (List.mem_append_right _ hq)).1 (hd q hq)
    have gSx := gg (Sx, listO acc c) (.head _)
    have gpb := gg (pb, dqO) (.tail _ hpb)
    have gfs := gg (fs, dqO) (.tail _ hfs)
    refine next_token w p loose mean mg mb A.in1 base _ _ outer s _ _ lex dl io dio pb fs k kk l i tp ts tt md hx hi hl hmd n1 n2 n3 n4 n5 n6 C hL gpb gfs hhd hdp (by show A.units + 1 + 400 < cLine; omega) (fun t h' tk' x r md' tp' ts' tt' hR kp hL' e1 e2 => ?_) (fun e t h' tk' r md' hR R U => ?_) (fun e h' tk' hR R U => ?_)
    · obtain ⟨F2, N2⟩ := back_with F N hd kp hL'
      have hmb := rt_word _ _ _ _ _ hR
      have hmdb : md = .blank := by
        rcases hmd with e | ⟨e, _⟩
        · exact e
        · exact absurd (show (Ts.start md).md = .none from e) hmb.2.2
      have hlt := rt_less hR hmdb
      rw [List.length_drop] at hlt
      have hS2 := (N2 (Sx, listO acc c) (List.mem_append_right _ (.head _))).1
      rw [S_length] at hx
      have hn2 : sizeLine = sizeLine := rfl
      dsimp only
      show wpAny _ A.in1 (updateSeq Sx (·.push (.str (S x) t)) >>= _) _ _ _
      refine wpAny_bind ?_
      obtain ⟨c', upd⟩ : ∃ c', (h'.update Sx (Obj.mapSeq (·.push (Value.str (S x) t)))).get? Sx = some (listO (acc.push (Value.str (S x) t)) c') := ⟨_, Heap.get?_update_self (Obj.mapSeq (·.push (Value.str (S x) t))) hS2 rfl⟩
      have oth : ∀ b o, (hideAll h' ([(Sx, listO acc c)].map (·.1))).get? b = some o → (h'.update Sx (Obj.mapSeq (·.push (Value.str (S x) t)))).get? b = some o := fun b o e => by
        have nb : b ≠ Sx := fun z => by
          rw [z, show (hideAll h' ([(Sx, listO acc c)].map (·.1))).get? Sx = none from hideAll_none _ (List.Mem.head _)] at e
          cases e
        rw [Heap.get?_update_other _ _ (Ne.symm nb)]
        exact of_hideAll _ e
      have N2' : News h₀ L h' ([(Sx, listO acc c)] ++ (lexLed w.params k kk lex dl io dio pb fs l ((l.length - r.length : Nat) : Int) tp' (md'.val ts') (.str (Str.ofString "") tt') ++ rest)) := fun q hq => N2 q (by
        rcases List.mem_append.mp hq with hq | hq
        · rcases List.mem_cons.mp hq with rfl | hq
          · exact List.mem_append_right _ (.head _)
          · cases hq
        · rcases List.mem_append.mp hq with hq | hq
          · exact List.mem_append_left _ hq
          · exact List.mem_append_right _ (.tail _ hq))
      refine wpAny_updateSeq hS2 rfl (wpAny_pure ⟨plainId_quiet PySem.F.plain_extend_loop _, ?_⟩) (Nat.le_trans (Nat.le_trans hac hi) (by unfold sizeLine; omega)) (by show (acc.push _).size ≤ sizeLine + 1; rw [Array.size_push]; unfold sizeLine; omega)
      obtain ⟨F3, N3⟩ := back_with (s := { s with heap := h', toks := tk' }) (l' := [(Sx, listO (acc.push (Value.str (S x) t)) c')]) F2 N2' (fun q hq e => by
        have e' : q.1 = Sx := by
          rcases List.mem_cons.mp e with e | e
          · exact e
          · cases e
        rcases List.mem_append.mp hq with hq | hq
        · refine hS ?_
          rw [← e']
          exact List.mem_map_of_mem (f := (·.1)) hq
        · exact hrS q hq e') oth (fun q hq => by
        rcases List.mem_cons.mp hq with rfl | hq
        · exact ⟨upd, hideAll_none _ (List.Mem.head _)⟩
        · cases hq)
      refine lex_loop B X T hA hke hhd hdp hun (by rw [S_length]; exact hx) hl n1 n2 n3 n4 n5 n6 hpb hfs hS hr hrS n (l.length - r.length) md' _ tp' ts' tt' (acc.push (Value.str (S x) t)) c' (by omega) (by omega) (by rw [Array.size_push]; omega) ?_ F3 (fun q hq => N3 q ?_) ?_ ?_
      · rcases hmb.2.1 with e | ⟨e, e'⟩
        · exact .inl e
        · exact .inr ⟨e, by rw [e']; rfl⟩
      · rcases List.mem_append.mp hq with hq | hq
        · exact List.mem_append_right _ (List.mem_append_left _ hq)
        · rcases List.mem_cons.mp hq with rfl | hq
          · exact List.mem_append_left _ (.head _)
          · exact List.mem_append_right _ (List.mem_append_right _ hq)
      · intro xs h2 tk2 c2 acc2 vs h1 hw ha hs T1 B1 F1 N1
        rw [← e1] at hw
        exact ok (x :: xs) h2 tk2 c2 acc2 (Value.str (S x) t :: vs) h1 (by simp only [words, hR, hw, Option.map_some]) (by rw [ha, Array.toList_push, List.append_assoc]; rfl) ⟨⟨t, rfl⟩, hs⟩ T1 B1 F1 N1
      · intro e h2 tk2 g2 hw
        rw [← e1] at hw
        exact bad e h2 tk2 g2 (by simp only [words, hR, hw, Option.map_none])
    · obtain ⟨⟨Bh, hB, hBG, _, hfl, _⟩, _⟩ := R
      obtain ⟨ob, hob, hobc⟩ := hfl.there
      unfold OwitStop
      refine wpAny_isInstance (show Shared.TypeIs _ _ _ from ⟨ob, hob, hobc⟩) stop_self ?_
      rw [if_pos rfl]
      obtain ⟨g', T', F', B'⟩ := kts_ground B FG hBG hfl.1 U
      refine wpAny_pure (ok [] h' tk' c acc [] g' (by simp only [words, hR]) (by rw [List.append_nil]) trivial T' B' F' fun q hq => ?_)
      rcases List.mem_cons.mp hq with rfl | hq
      · refine ⟨hfl.1 _ _ (hBG _ _ gSx fun hm => ?_), hNS.2.1, T'.none_ _ hNS.2.2⟩
        rcases kts_mem hm with z | z
        · exact hNS.2.1 z
        · obtain ⟨_, o, ho, _⟩ := B.frames.mem z
          rw [hNS.2.2] at ho
          cases ho
      · cases hq
    · have R0 := R
      obtain ⟨Bh, a0, hB, hBG, _, hfl⟩ := R
      obtain ⟨ob, hob, hobc⟩ := hfl.there
      unfold OwitStop
      refine wpAny_isInstance (show Shared.TypeIs _ _ _ from ⟨ob, hob, hobc⟩) value_stop ?_
      rw [if_neg (by decide)]
      exact bad e h' tk' _ (by simp only [words, hR]) FG R0 U
end
end Mine
end
section
open PySem PySem.W PyProof.Rows PySem.Calls
set_option maxRecDepth 100000
set_option maxHeartbeats 4000000
set_option pp.deepTerms false
namespace Mine
theorem iter_self (w : World) (p : Program) (loose : List Str) (mean : ExcName → Option Value) (mg mb : Str → Option Value) (A : Around) (base g : Heap) (env : Env) (outer : List Env) (s : Shared) (Q E : Value → Shared → Prop) (lex : Addr)
    (C : At (Mine.KK w.params) p loose mean mg mb A base env outer g s.heap) (hhd : A.handled = none) (hdp : A.depth + 10 < recursionLimit) (hun : A.units + 100 < cLine)
    (ret : ∀ h' tk', (∀ b o, g.get? b = some o → h'.get? b = some o) → Q (.ref lex) { s with heap := h', toks := tk' }) :
    wpAny (model PySem.Challenge.rw_ik0204_01.prog w) A (call (.ref 748) [.ref lex]) Q E s := by
  have NA : Led g s.heap [] := fun q hq => nomatch hq
  have X := C.part
  revert X; k_fill; intro X
  obtain ⟨hd0, dp, fr, gd, un⟩ := A
  have hA := C.below.stack
  cases hA
  cases hhd
  refine wpAny_call ?_
  k_dflt (refine' enter_def (news := []) C NA ?k6 ?k7 ?k8 ?k9 ?kB ?_ ?c2 ?c3 ?c4 ?c5)
  case k6 => k_is
  case k7 => k_is
  case k8 => ktr_room
  case k9 => first | exact BindsTo.of_eq rfl | exact binds_K (C.part.keeps C.sub) rfl (by k_is) rfl rfl rfl
  case kB => exact locs rfl
  case c2 => exact rfl
  case c3 => exact rfl
  case c4 => exact rfl
  case c5 => decide
  intro L' h' F' N' B' X' T'
  (try dsimp only)
  k_fold
  repeat' (first | (k_unfold; (try dsimp only)) | walk1 | (dsimp only; walk1) | dsimp only)
  with_reducible rename Fr _ _ _ _ => F0
  exact ret _ _ F0.keep
end Mine
end
section
open PySem PySem.W PyProof.Rows PySem.Calls
set_option maxRecDepth 100000
set_option maxHeartbeats 4000000
set_option pp.deepTerms false
namespace Mine
theorem lex_is {P : Params} : findIn (Mine.KK P) (.ref 758) "__iter__" = some (some (.ref 748)) ∧ isFn (Mine.KK P) (.ref 748) = true ∧ findIn (Mine.KK P) (.ref 758) "__len__" = some none ∧ findIn (Mine.KK P) (.ref 758) "__length_hint__" = some none := by
  have h : PySem.Challenge.rw_ik0204_01 = PySem.Challenge.rw_ik0204_01 → findIn (Mine.KK P) (.ref 758) "__iter__" = some (some (.ref 748)) ∧ isFn (Mine.KK P) (.ref 748) = true ∧ findIn (Mine.KK P) (.ref 758) "__len__" = some none ∧ findIn (Mine.KK P) (.ref 758) "__length_hint__" = some none := by
    k_fill
    intro _
    refine ⟨?_, ?_, ?_, ?_⟩ <;> k_is
  exact h rfl
section
variable {w : World} {p : Program} {loose : List Str} {mean : ExcName → Option Value} {mg mb : Str → Option Value} {A A₀ : Around} {base h₀ : Heap} {outer : List Env} {L a : Addr} {name : Str} {scope : Scope} {cd : Value} {m : Str → Option Value}
    {lex dl io dio pb fs : Addr} {k kk : Nat → Tok} {l : List Nat} {rest : List (Addr × Obj)} {s : Shared} {Q E : Value → Shared → Prop} {tp ts tt : Tok}
theorem list_lex (B : Below A₀ base outer h₀) (X : (Mine.KK w.params).In h₀) (T : Top p loose mean mg mb h₀)
    (hA : A.frames = some (envOf name scope L a cd :: outer)) (hke : scope.kind = .function) (hhd : A.handled = none) (hdp : A.depth + 60 < recursionLimit) (hun : A.units + 600 < cLine)
    (hx : (S l).length < 1000) (hl : ∀ c ∈ l, okc c)
    (n1 : @Ne Nat lex dl) (n2 : @Ne Nat lex io) (n3 : @Ne Nat lex dio) (n4 : @Ne Nat dl io) (n5 : @Ne Nat dl dio) (n6 : @Ne Nat io dio)
    (hpb : (pb, dqO) ∈ rest) (hfs : (fs, dqO) ∈ rest) (hr : ∀ q ∈ rest, q.1 ∉ [lex, dl, io, dio])
    (F : Fr h₀ L s.heap m) (N : News h₀ L s.heap (lexLed w.params k kk lex dl io dio pb fs l (0 : Nat) tp (.str (Str.ofString " ") ts) (.str (Str.ofString "") tt) ++ rest))
    (ok : ∀ xs h' tk' c' (acc' : Array Value) h₁ Sx, words (l.length + 1) .blank l = some xs → Strs acc'.toList xs → KtsTurn (outer.filterMap (·.frame)) h₀ h₁ → Below A₀ base outer h₁ → Fr h₁ L h' m → News h₁ L h' [(Sx, listO acc' c')] → Q (.ref Sx) { s with heap := h', toks := tk' })
    (bad : ∀ e h' tk' g₂, words (l.length + 1) .blank l = .none → Fr h₀ L g₂ m → RaisedSN base g₂ (envOf name scope L a cd :: outer) e (.type "ValueError") [] h' → g₂.UpToSlots h' → E (.ref e) { s with heap := h', toks := tk' }) :
    wpAny (model PySem.Challenge.rw_ik0204_01.prog w) A (call (.type "list") [.ref lex]) Q E s := by
  obtain ⟨i1, i2, i3, i4⟩ := lex_is (P := w.params)
  have below : ∀ q ∈ lexLed w.params k kk lex dl io dio pb fs l (0 : Nat) tp (.str (Str.ofString " ") ts) (.str (Str.ofString "") tt) ++ rest, q.1 < s.heap.objs.size := fun q hq => Heap.lt_size (N q hq).1
  have keep1 : ∀ b o, s.heap.get? b = some o → (s.heap.push { cls := .type "list", data := .seq #[] }).get? b = some o := fun b o e => Heap.get?_push_of_some _ e
  refine callType_codes (Q₁ := fun obj s₁ => obj = .ref s.heap.objs.size ∧ s₁ = { s with heap := s.heap.push { cls := .type "list", data := .seq #[] } }) PySem.F.called_list (PySem.F.typeCall_list_1 _) PySem.F.entry_list_init
    (code_list_new _ ⟨rfl, rfl⟩) fun obj s₁ h₁ => ?_
  obtain ⟨rfl, rfl⟩ := h₁
  have hS : (s.heap.push { cls := .type "list", data := .seq #[] }).get? s.heap.objs.size = some { cls := .type "list", data := .seq #[] } := Heap.get?_push_size _ rfl
  refine ⟨⟨_, hS, rfl⟩, PySem.F.args_list_init_2 _ _, ?_⟩
  show wpAny _ A.in1.in1 (do let old ← Builtin.List.listItems (.ref s.heap.objs.size); Builtin.List.listUpdate (.ref s.heap.objs.size) (fun _ => #[]); letGo old.toList.reverse; Builtin.List.listExtendWith (.ref s.heap.objs.size) (.ref lex) .none) _ _ _
  refine wpAny_bind ?_
  unfold Builtin.List.listItems
  refine wpAny_bind (wpAny_seqItems hS rfl (wpAny_pure ?_))
  show wpAny _ A.in1.in1 (updateSeq s.heap.objs.size (fun _ => #[]) >>= fun _ => letGo (#[] : Array Value).toList.reverse >>= fun _ => Builtin.List.listExtendWith (.ref s.heap.objs.size) (.ref lex) .none) _ _ _
  refine wpAny_bind (wpAny_updateSeq hS rfl ?_)
  have hS₂ := Heap.get?_update_self (Obj.mapSeq (fun _ => (#[] : Array Value))) hS rfl
  have keep2 : ∀ b o, s.heap.get? b = some o → ((s.heap.push { cls := .type "list", data := .seq #[] }).update s.heap.objs.size (Obj.mapSeq (fun _ => (#[] : Array Value)))).get? b = some o :=
    fun b o e => (Heap.get?_update_other _ _ (Nat.ne_of_gt (Heap.lt_size e))).trans (keep1 b o e)
  refine wpAny_bind (wpAny_letGo ?_)
  generalize (s.heap.push { cls := .type "list", data := .seq #[] }).update s.heap.objs.size (Obj.mapSeq (fun _ => (#[] : Array Value))) = h2 at *
  have nS : ∀ b o, s.heap.get? b = some o → b ≠ s.heap.objs.size := fun b o e => Nat.ne_of_lt (Heap.lt_size e)
  have hlx := N _ (List.mem_append_left _ (.head _))
  have hdl := N _ (List.mem_append_left _ (.tail _ (.head _)))
  have hSl : s.heap.objs.size ≠ lex := Ne.symm (nS _ _ hlx.1)
  have hSL : s.heap.objs.size ≠ L := by
    obtain ⟨oL, _, _, hLo, _⟩ := F.ns
    exact Ne.symm (nS _ _ hLo)
  have hS0 : h₀.get? s.heap.objs.size = none := by
    cases z : h₀.get? s.heap.objs.size with
    | none => rfl
    | some o => exact absurd rfl (nS _ _ (F.keep _ _ z))
  generalize s.heap.objs.size = Sx at *
  have I2 : InstAt h2 lex (instObj 758 dl) 758 (some (lexO w.params k io pb fs (.str (Str.ofString " ") ts) (.str (Str.ofString "") tt))) := ⟨keep2 _ _ hlx.1, rfl, rfl, keep2 _ _ hdl.1⟩
  have F2 := F.keeps keep2
  unfold Builtin.List.listExtendWith
  refine wpAny_bind (I2.type.here ?_)
  have e1 : Builtin.List.listSameRef (.ref Sx) (.ref lex) = false := by simp [Builtin.List.listSameRef, hSl]
  have e2 : (Value.ref 758 == Value.type "list") = false := by decide
  have e3 : (Value.ref 758 == Value.type "tuple") = false := by decide
  simp only [e1, e2, e3, Bool.or_false, Bool.false_eq_true, if_false]
  refine wpAny_bind (owit_iter F2 X I2 i1 i2 ?_)
  refine iter_self w p loose mean mg mb A.in1.in1 base _ (envOf name scope L a cd) outer _ _ _ lex (at_here B F2 X T hA rfl hke) hhd (by show A.depth + 10 < recursionLimit; omega) (by show A.units + 1 + 1 + 100 < cLine; omega) fun h3 tk3 keep3 => ?_
  have F3 := F2.keeps keep3
  have I3 : InstAt h3 lex (instObj 758 dl) 758 (some (lexO w.params k io pb fs (.str (Str.ofString " ") ts) (.str (Str.ofString "") tt))) := ⟨keep3 _ _ (keep2 _ _ hlx.1), rfl, rfl, keep3 _ _ (keep2 _ _ hdl.1)⟩
  refine owit_it F3 X I3 (lex_next X) ?_
  refine wpAny_bind (wpAny_holding ?_)
  unfold Builtin.List.listLengthHint
  refine wpAny_bind (wpAny_bind (I3.type.here ((looks_findIn (X.keeps F3.keep) i3).here ?_)))
  show wpAny _ A.in1.in1 (specialOf (Value.ref lex) (Str.ofString "__length_hint__") >>= _) _ _ _
  refine wpAny_bind (wpAny_bind (I3.type.here ((looks_findIn (X.keeps F3.keep) i4).here ?_)))
  refine wpAny_pure ?_
  show wpAny _ A.in1.in1 (rule "list.extend.makes-room" >>= fun _ => Builtin.List.listTouch (.ref Sx) >>= fun _ =>
    again (.builtin "list.extend.loop" ⟨[.ref Sx, .ref lex, .none], []⟩)) _ _ _
  refine wpAny_bind (wpAny_rule ?_)
  refine wpAny_bind ?_
  show wpAny _ A.in1.in1 (updateSeq Sx (·.push .none) >>= fun _ => updateSeq Sx (·.pop)) _ _ _
  have hS₃ := keep3 _ _ hS₂
  refine wpAny_bind (wpAny_updateSeq hS₃ rfl ?_)
  have hS₄ := Heap.get?_update_self (Obj.mapSeq (·.push Value.none)) hS₃ rfl
  refine wpAny_updateSeq (hz := by seq_fits) hS₄ rfl ?_
  have hS₅ := Heap.get?_update_self (Obj.mapSeq (·.pop)) hS₄ rfl
  have keep5 : ∀ b o, s.heap.get? b = some o → ((h3.update Sx (Obj.mapSeq (·.push Value.none))).update Sx (Obj.mapSeq (·.pop))).get? b = some o :=
    fun b o e => (Heap.get?_update_other _ _ (Ne.symm (nS b o e))).trans ((Heap.get?_update_other _ _ (Ne.symm (nS b o e))).trans (keep3 b o (keep2 b o e)))
  refine wpAny_pure ⟨plainId_quiet PySem.F.plain_extend_loop _, ?_⟩
  have hnot : Sx ∉ [lex, dl, io, dio] := fun hm => by
    have : ∃ o, s.heap.get? Sx = some o := by
      have hio := N _ (List.mem_append_left _ (.tail _ (.tail _ (.head _))))
      have hdio := N _ (List.mem_append_left _ (.tail _ (.tail _ (.tail _ (.head _)))))
      rcases List.mem_cons.mp hm with e | hm
      · exact ⟨_, by rw [e]; exact hlx.1⟩
      rcases List.mem_cons.mp hm with e | hm
      · exact ⟨_, by rw [e]; exact hdl.1⟩
      rcases List.mem_cons.mp hm with e | hm
      · exact ⟨_, by rw [e]; exact hio.1⟩
      rcases List.mem_cons.mp hm with e | hm
      · exact ⟨_, by rw [e]; exact hdio.1⟩
      · cases hm
    obtain ⟨o, e⟩ := this
    exact nS _ _ e rfl
  obtain ⟨c5, N5⟩ : ∃ c5, News h₀ L ((h3.update Sx (Obj.mapSeq (·.push Value.none))).update Sx (Obj.mapSeq (·.pop))) (lexLed w.params k kk lex dl io dio pb fs l (0 : Nat) tp (Md.blank.val ts) (.str (Str.ofString "") tt) ++ (Sx, listO #[] c5) :: rest) := ⟨_, fun q hq => by
    rcases List.mem_append.mp hq with hq | hq
    · have z := N q (List.mem_append_left _ hq)
      exact ⟨keep5 _ _ z.1, z.2⟩
    · rcases List.mem_cons.mp hq with rfl | hq
      · exact ⟨hS₅, hSL, hS0⟩
      · have z := N q (List.mem_append_right _ hq)
        exact ⟨keep5 _ _ z.1, z.2⟩⟩
  refine lex_loop (A := A.in1) (Sx := Sx) (pb := pb) (fs := fs) (io := io) (dio := dio) (dl := dl) (k := k) (kk := kk) (l := l) (rest := rest) B X T hA hke hhd (by show A.depth + 40 < recursionLimit; omega) (by show A.units + 1 + 500 < cLine; omega) hx hl n1 n2 n3 n4 n5 n6 hpb hfs hnot hr (fun q hq => nS _ _ (N q (List.mem_append_right _ hq)).1) (l.length + 1) 0 .blank _ tp ts tt #[] c5 (by omega) (Nat.zero_le _) (Nat.le_refl _) (.inl rfl) (F.keeps keep5) N5 ?_ ?_
  · intro xs h' tk' c' acc' vs h₁ hw ha hs T1 B1 F1 N1
    exact ⟨rfl, ok xs h' tk' c' acc' h₁ Sx hw (by rw [ha]; exact hs) T1 B1 F1 N1⟩
  · intro e h' tk' g2 hw FG R U
    exact bad e h' tk' g2 hw FG R U
end
end Mine
end
section
open PySem PySem.W PyProof.Rows PySem.Calls
set_option maxRecDepth 100000
set_option maxHeartbeats 4000000
set_option pp.deepTerms false
namespace Mine
section
variable {w : World} {p : Program} {loose : List Str} {mean : ExcName → Option Value} {mg mb : Str → Option Value} {A A₀ : Around} {base h₀ : Heap} {outer : List Env} {L a : Addr} {name : Str} {scope : Scope} {cd : Value} {m : Str → Option Value}
    {lex dl io dio pb fs : Addr} {l : List Nat} {news : List (Addr × Obj)} {s : Shared} {Q E : Value → Shared → Prop} {tp ts tt t0 t1 t2 t3 t4 t5 t6 t7 t8 t9 t10 t11 t12 t13 t14 t15 t16 t17 t18 t20 t21 t22 t23 t24 t25 t26 t27 t28 u0 u1 u2 u3 u4 : Tok}
theorem apart_of {x y : Addr} {ox oy : Obj} (N : News h₀ L s.heap news) (m1 : (x, ox) ∈ news) (m2 : (y, oy) ∈ news) (h : ox ≠ oy) : @Ne Nat x y := fun e => h (by
  have z := (N _ m1).1
  have z' := (N _ m2).1
  dsimp only at z z'
  rw [e, z'] at z
  exact (Option.some.inj z).symm)
theorem list_lex' (B : Below A₀ base outer h₀) (X : (Mine.KK w.params).In h₀) (T : Top p loose mean mg mb h₀)
    (hA : A.frames = some (envOf name scope L a cd :: outer)) (hke : scope.kind = .function) (hhd : A.handled = none) (hdp : A.depth + 60 < recursionLimit) (hun : A.units + 600 < cLine)
    (hx : (S l).length < 1000) (hl : ∀ c ∈ l, okc c)
    (F : Fr h₀ L s.heap m) (N : News h₀ L s.heap news) (m1 : (lex, instObj 758 dl) ∈ news)
    (m2 : (dl, dictOf [ent w.params (Str.ofString "instream") t0 (.ref io),
    ent w.params (Str.ofString "infile") t1 .none,
    ent w.params (Str.ofString "posix") t2 (.bool true),
    ent w.params (Str.ofString "eof") t3 .none,
    ent w.params (Str.ofString "commenters") t4 (.str (Str.ofString "") t20),
    ent w.params (Str.ofString "wordchars") t5 (.str (Str.ofString "abcdfeghijklmnopqrstuvwxyzABCDEFGHIJKLMNOPQRSTUVWXYZ0123456789_ßàáâãäåæçèéêëìíîïðñòóôõöøùúûüýþÿÀÁÂÃÄÅÆÇÈÉÊËÌÍÎÏÐÑÒÓÔÕÖØÙÚÛÜÝÞ") t21),
    ent w.params (Str.ofString "whitespace") t6 (.str (Str.ofString " \t\r\n") t22),
    ent w.params (Str.ofString "whitespace_split") t7 (.bool true),
    ent w.params (Str.ofString "quotes") t8 (.str (Str.ofString "'\"") t23),
    ent w.params (Str.ofString "escape") t9 (.str (Str.ofString "\\") t24),
    ent w.params (Str.ofString "escapedquotes") t10 (.str (Str.ofString "\"") t25),
    ent w.params (Str.ofString "state") t11 (.str (Str.ofString " ") ts),
    ent w.params (Str.ofString "pushback") t12 (.ref pb),
    ent w.params (Str.ofString "lineno") t13 (.int 1 t26),
    ent w.params (Str.ofString "debug") t14 (.int 0 t27),
    ent w.params (Str.ofString "token") t15 (.str (Str.ofString "") tt),
    ent w.params (Str.ofString "filestack") t16 (.ref fs),
    ent w.params (Str.ofString "source") t17 .none,
    ent w.params (Str.ofString "_punctuation_chars") t18 (.str (Str.ofString "") t28)] 19) ∈ news)
    (m3 : (io, instObj 623 dio) ∈ news) (m4 : (dio, dictOf [ent w.params (Str.ofString "_StringIO__newline") u0 (.str (Str.ofString "\n") u1), ent w.params (Str.ofString "_StringIO__buf") u2 (.str (S l) u3), ent w.params (Str.ofString "_StringIO__pos") u4 (.int 0 tp)] 3) ∈ news) (m5 : (pb, dequeObj 0 []) ∈ news) (m6 : (fs, dequeObj 0 []) ∈ news)
    (ok : ∀ xs h' tk' c' (acc' : Array Value) h₁ Sx, words (l.length + 1) .blank l = some xs → Strs acc'.toList xs → KtsTurn (outer.filterMap (·.frame)) h₀ h₁ → Below A₀ base outer h₁ → Fr h₁ L h' m → News h₁ L h' [(Sx, listO acc' c')] → Q (.ref Sx) { s with heap := h', toks := tk' })
    (bad : ∀ e h' tk' g₂, words (l.length + 1) .blank l = .none → Fr h₀ L g₂ m → RaisedSN base g₂ (envOf name scope L a cd :: outer) e (.type "ValueError") [] h' → g₂.UpToSlots h' → E (.ref e) { s with heap := h', toks := tk' }) :
    wpAny (model PySem.Challenge.rw_ik0204_01.prog w) A (call (.type "list") [.ref lex]) Q E s := by
  have cl : ∀ {a b : Obj}, a.cls ≠ b.cls → a ≠ b := fun h e => h (congrArg Obj.cls e)
  have q1 := fun {x o} (m7 : (x, o) ∈ news) (h : o.cls ≠ (instObj 758 dl).cls) => apart_of N m7 m1 (cl h)
  have q2 := fun {x o} (m7 : (x, o) ∈ news) (h : o.cls ≠ .type "dict") => apart_of N m7 m2 (cl h)
  have q3 := fun {x o} (m7 : (x, o) ∈ news) (h : o.cls ≠ (instObj 623 dio).cls) => apart_of N m7 m3 (cl h)
  have q4 := fun {x o} (m7 : (x, o) ∈ news) (h : o.cls ≠ .type "dict") => apart_of N m7 m4 (cl h)
  refine list_lex (k := fun n => [t0, t1, t2, t3, t4, t5, t6, t7, t8, t9, t10, t11, t12, t13, t14, t15, t16, t17, t18, 0, t20, t21, t22, t23, t24, t25, t26, t27, t28].getD n 0) (kk := fun n => [u0, u1, u2, u3, u4].getD n 0) (dl := dl) (io := io) (dio := dio) (pb := pb) (fs := fs) (l := l) (tp := tp) (ts := ts) (tt := tt) (rest := [(pb, dqO), (fs, dqO)]) B X T hA hke hhd hdp hun hx hl (q2 m1 (by simp)) (q3 m1 (by simp)) (q4 m1 (by simp)) (q3 m2 (by simp)) ?_ (q4 m3 (by simp)) (.head _) (.tail _ (.head _)) (fun q hq => ?_) F (fun q hq => ?_) ok bad
  · refine apart_of N m2 m4 fun e => ?_
    have := congrArg Obj.data e
    simp at this
  · have go : ∀ x, (x, dqO) ∈ news → x ∉ [lex, dl, io, dio] := fun x m7 hm => by
      rcases List.mem_cons.mp hm with e | hm
      · exact q1 m7 (by simp) e
      rcases List.mem_cons.mp hm with e | hm
      · exact q2 m7 (by simp) e
      rcases List.mem_cons.mp hm with e | hm
      · exact q3 m7 (by simp) e
      rcases List.mem_cons.mp hm with e | hm
      · exact q4 m7 (by simp) e
      · cases hm
    rcases List.mem_cons.mp hq with rfl | hq
    · exact go _ m5
    rcases List.mem_cons.mp hq with rfl | hq
    · exact go _ m6
    · cases hq
  · rcases List.mem_append.mp hq with hq | hq
    · rcases List.mem_cons.mp hq with rfl | hq
      · exact N _ m1
      rcases List.mem_cons.mp hq with rfl | hq
      · exact N _ m2
      rcases List.mem_cons.mp hq with rfl | hq
      · exact N _ m3
      rcases List.mem_cons.mp hq with rfl | hq
      · exact N _ m4
      · cases hq
    · rcases List.mem_cons.mp hq with rfl | hq
      · exact N _ m5
      rcases List.mem_cons.mp hq with rfl | hq
      · exact N _ m6
      · cases hq
end
end Mine
end
section
open PySem PySem.W PyProof.Rows PySem.Calls
set_option maxRecDepth 100000
set_option maxHeartbeats 4000000
set_option pp.deepTerms false
namespace Mine

theorem split_words (w : World) (p : Program) (loose : List Str) (mean : ExcName → Option Value) (mg mb : Str → Option Value) (A : Around) (base g : Heap) (env : Env) (outer : List Env) (s : Shared) (Q E : Value → Shared → Prop) (l : List Nat) (tx : Tok)
    (hx : (S l).length < 1000) (hl : ∀ c ∈ l, okc c)
    (C : At (Mine.KK w.params) p loose mean mg mb A base env outer g s.heap) (hhd : A.handled = none) (hdp : A.depth + 80 < recursionLimit) (hun : A.units + 700 < cLine)
    (ret : ∀ xs h' tk' c' (acc' : Array Value) g₁ R, words (l.length + 1) .blank l = some xs → Strs acc'.toList xs → KtsTurn ((env :: outer).filterMap (·.frame)) g g₁ → Below A base (env :: outer) g₁ → (∀ b o, g₁.get? b = some o → h'.get? b = some o) → g₁.objs.size ≤ h'.objs.size → h'.get? R = some (listO acc' c') → g₁.get? R = none → Q (.ref R) { s with heap := h', toks := tk' })
    (err : ∀ e h' tk', words (l.length + 1) .blank l = .none → RaisedSN base g (env :: outer) e (.type "ValueError") [] h' → g.UpToSlots h' → E (.ref e) { s with heap := h', toks := tk' }) :
    wpAny (model PySem.Challenge.rw_ik0204_01.prog w) A (call (.ref 770) [.str (S l) tx]) Q E s := by
  have NA : Led g s.heap [] := fun q hq => nomatch hq
  have X := C.part
  revert X; k_fill; intro X
  obtain ⟨hd0, dp, fr, gd, un⟩ := A
  have hA := C.below.stack
  cases hA
  cases hhd
  dsimp only at hdp hun
  refine wpAny_call ?_
  k_dflt (refine' enter_def (news := []) C NA ?k6 ?k7 ?k8 ?k9 ?kB ?_ ?c2 ?c3 ?c4 ?c5)
  case k6 => k_is
  case k7 => k_is
  case k8 => ktr_room
  case k9 => first | exact BindsTo.of_eq rfl | exact binds_K (C.part.keeps C.sub) rfl (by k_is) rfl rfl rfl
  case kB => exact locs rfl
  case c2 => exact rfl
  case c3 => exact rfl
  case c4 => exact rfl
  case c5 => decide
  intro L' h' F' N' B' X' T'
  (try dsimp only)
  k_fold
  show wpAny _ _ (execs (_ :: _) _) _ _ _
  repeat' (first | (k_unfold; (try dsimp only)) | ((with_reducible show wpAny _ _ (afterNew _ _ _ _) _ _ _); with_reducible (k_here; k_dflt (refine' after_new ?k1_g0a ?k2_g0a ?k3_g0a ?k4_g0a ?k5_g0a ?k6_g0a ?_; (case k1_g0a => k_asm); (case k2_g0a => k_asm); (case k3_g0a => k_inst); (case k4_g0a => k_is); (case k5_g0a => k_is); (case k6_g0a => k_is); k_whole))) | ((with_reducible show wpAny _ _ (call (Value.builtin "object.__new__") _ _) _ _ _); with_reducible (k_here; k_dflt (refine' obj_new (B0 := Value.type "object") ?k1_g0b ?k2_g0b ?k3_g0b ?k4_g0b ?k5_g0b ?k6_g0b ?k7_g0b ?k8_g0b ?k9_g0b ?k10_g0b ?_; (case k1_g0b => k_asm); (case k2_g0b => k_asm); (case k3_g0b => k_asm); (case k4_g0b => k_is); (case k5_g0b => exact rfl); (case k6_g0b => exact rfl); (case k7_g0b => k_is); (case k8_g0b => k_is); (case k9_g0b => kernel_rfl); (case k10_g0b => kernel_rfl); k_whole; intro _ _ _ _ _ zz_l1 zz_l2; (try k_lt zz_l1); (try k_lt2 zz_l2); (try k_sweep)))) | ((with_reducible show wpAny _ _ (call (Value.ref _) _ _) _ _ _); with_reducible (k_here; k_dflt (refine' new_py ?k1_g0c ?k2_g0c ?k3_g0c ?k4_g0c ?k5_g0c ?k6_g0c ?k7_g0c ?_; (case k1_g0c => k_asm); (case k2_g0c => k_asm); (case k3_g0c => kernel_rfl); (case k4_g0c => k_is); (case k5_g0c => k_is); (case k6_g0c => k_is); (case k7_g0c => k_is); k_whole))) | ((with_reducible show wpAny _ _ (call (Value.type "collections.deque") _ _) _ _ _); with_reducible (k_here; k_dflt (refine' deque_new (by k_asm) (by k_asm) (by (simp only [units_under_tc, units_in1, units_deeper, Around.mark_units]; omega)) (by ktr_room) ?_; k_whole; intro _ _ _ _ _ zz_l1; (try simp only [AllNeN, and_true] at zz_l1); (try k_sweep)))) | ((with_reducible show wpAny _ _ (call (Value.type "list") _ _) _ _ _); with_reducible (k_here; k_dflt (refine' list_lex' ?k1_g0e ?k2_g0e ?k3_g0e ?kA_g0e ?kK_g0e ?kh_g0e ?k6_g0e ?k7_g0e ?k8_g0e ?k9_g0e ?kF_g0e ?kN_g0e ?m1_g0e ?m2_g0e ?m3_g0e ?m4_g0e ?m5_g0e ?m6_g0e ?ko_g0e ?ke_g0e; (case kA_g0e => exact rfl); (case kK_g0e => exact rfl); (case kh_g0e => exact rfl); (case k1_g0e => assumption); (case k2_g0e => k_asm); (case k3_g0e => k_asm); (case k6_g0e => ktr_room); (case k7_g0e => ktr_units); (case k8_g0e => assumption); (case k9_g0e => assumption); (case kF_g0e => k_asm); (case kN_g0e => k_asm); (case m1_g0e => repeat (first | exact List.Mem.head _ | refine List.Mem.tail _ ?_)); (case m2_g0e => repeat (first | exact List.Mem.head _ | refine List.Mem.tail _ ?_)); (case m3_g0e => repeat (first | exact List.Mem.head _ | refine List.Mem.tail _ ?_)); (case m4_g0e => repeat (first | exact List.Mem.head _ | refine List.Mem.tail _ ?_)); (case m5_g0e => repeat (first | exact List.Mem.head _ | refine List.Mem.tail _ ?_)); (case m6_g0e => repeat (first | exact List.Mem.head _ | refine List.Mem.tail _ ?_)); k_whole; (case' ko_g0e => intro xs9 h9 tk9 c9 acc9 g9 R9 hw9 hs9 T9 B9 F9 N9); (case' ke_g0e => intro e9 h9 tk9 g9 hw9 FG9 RR9 U9)))) | ((with_reducible show wpAny _ _ (execs (_ :: _) _) _ _ _); with_reducible (with_reducible refine execs_one ?_)) | ((with_reducible show wpAny _ _ (execs (_ :: _) _) _ _ _); with_reducible (k_here; (with_reducible rename Fr _ _ _ _ => zz_kF); (with_reducible refine execs_consM zz_kF ?_); intro _ _ _ _; clear zz_kF)) | ((with_reducible show wpAny _ _ (leaving _ (Value.ref _)) _ _ _); with_reducible (k_here; k_dflt (refine' leave_onSN ?k1_g0h ?k2_g0h ?k3_g0h ?k4_g0h ?_; (case k3_g0h => assumption); (case k1_g0h => assumption); (case k2_g0h => assumption); (case k4_g0h => assumption); k_whole; intro _ zz_Rq _ zz_Uq; (try dsimp only at zz_Rq zz_Uq ⊢)))) | ((with_reducible show wpAny _ _ (setAttr (Value.ref _) _ _) _ _ _); with_reducible (k_here; k_dflt (refine' set_dictL (by k_asm) (by k_asm) (by k_asm) (by k_inst) rfl (by k_is) (by k_is) (by k_is) (by k_is) (by k_get) (by k_put) (by k_updF) (by exact Nat.le_of_ble_eq_true rfl) ?_; k_whole; intro _ _ _ zz_Nq; (try dsimp only at zz_Nq); (try k_sweep)))) | walk1 | (dsimp only; walk1) | dsimp only)
  · exact err _ _ _ hw9 (by assumption) (by assumption)
  · exact ret xs9 _ _ c9 acc9 g9 R9 hw9 hs9 T9 B9 F9.keep (by obtain ⟨oL, _, _, hLo, _⟩ := F9.ns; exact Nat.le_of_lt (Nat.lt_of_le_of_lt F9.above (Heap.lt_size hLo))) (N9 _ (.head _)).1 (N9 _ (.head _)).2.2
end Mine
end
section
open PySem PySem.W PyProof.Rows PySem.Calls
set_option maxRecDepth 100000
set_option maxHeartbeats 4000000
set_option pp.deepTerms false
namespace Mine
section
variable {w : World} {p : Program} {loose : List Str} {mean : ExcName → Option Value} {mg mb : Str → Option Value} {A A₀ : Around} {base h₀ H₁ h' : Heap} {outer : List Env} {L a : Addr} {name : Str} {scope : Scope} {cd : Value} {m : Str → Option Value} {news : List (Addr × Obj)} {s : Shared}
/-- back at a caller whose callee has turned the frames -/
theorem turn_back (B : Below A₀ base outer h₀) (F : Fr h₀ L s.heap m) (N : News h₀ L s.heap news) (T : KtsTurn ((envOf name scope L a cd :: outer).filterMap (·.frame)) s.heap H₁) (k : ∀ b o, H₁.get? b = some o → h'.get? b = some o) :
    ∃ g', KtsTurn (outer.filterMap (·.frame)) h₀ g' ∧ Below A₀ base outer g' ∧ Fr g' L h' m ∧ News g' L h' news ∧ ∀ b o, H₁.get? b = none → h'.get? b = some o → g'.get? b = none ∧ b ≠ L := by
  obtain ⟨g', T', F', B'⟩ := kts_ground (name := name) (scope := scope) (a := a) (cd := cd) B F T.other k (fun b o e _ => by
    obtain ⟨sl, hs⟩ := T.up e
    exact ⟨sl, k _ _ hs⟩)
  refine ⟨g', T', B', F', fun q hq => ?_, fun b o e _ => ?_⟩
  · have z := N q hq
    refine ⟨k _ _ (T.other _ _ z.1 fun hm => ?_), z.2.1, T'.none_ _ z.2.2⟩
    rcases kts_mem hm with y | y
    · exact z.2.1 y
    · obtain ⟨_, o, ho, _⟩ := B.frames.mem y
      rw [z.2.2] at ho
      cases ho
  · have hs : s.heap.get? b = none := by
      cases q : s.heap.get? b with
      | none => rfl
      | some o =>
        obtain ⟨sl, y⟩ := T.up q
        rw [e] at y
        cases y
    refine ⟨T'.none_ _ ?_, fun z => ?_⟩
    · cases q : h₀.get? b with
      | none => rfl
      | some o =>
        have y := F.keep _ _ q
        rw [hs] at y
        cases y
    · obtain ⟨oL, _, _, hLo, _⟩ := F.ns
      rw [z, hLo] at hs
      cases hs
variable {Q E : Value → Shared → Prop} {l : List Nat} {tx : Tok}
theorem split_here (B : Below A₀ base outer h₀) (F : Fr h₀ L s.heap m) (X : (Mine.KK w.params).In h₀) (T : Top p loose mean mg mb h₀) (N : News h₀ L s.heap news)
    (hA : A.frames = some (envOf name scope L a cd :: outer)) (hke : scope.kind = .function) (hhd : A.handled = none) (hdp : A.depth + 80 < recursionLimit) (hun : A.units + 700 < cLine)
    (hx : (S l).length < 1000) (hl : ∀ c ∈ l, okc c)
    (ret : ∀ xs h' tk' c' (acc' : Array Value) g₁ R, words (l.length + 1) .blank l = some xs → Strs acc'.toList xs → KtsTurn (outer.filterMap (·.frame)) h₀ g₁ → Below A₀ base outer g₁ → Fr g₁ L h' m → News g₁ L h' ((R, listO acc' c') :: news) → Q (.ref R) { s with heap := h', toks := tk' })
    (err : ∀ e h' tk' g₂, words (l.length + 1) .blank l = .none → Fr h₀ L g₂ m → RaisedSN base g₂ (envOf name scope L a cd :: outer) e (.type "ValueError") [] h' → g₂.UpToSlots h' → E (.ref e) { s with heap := h', toks := tk' }) :
    wpAny (model PySem.Challenge.rw_ik0204_01.prog w) A (call (.ref 770) [.str (S l) tx]) Q E s := by
  have C := at_here B F X T hA (env := envOf name scope L a cd) rfl hke
  refine split_words w p loose mean mg mb A base _ _ outer s Q E l tx hx hl C hhd hdp hun (fun xs h' tk' c' acc' g₁ R hw hs T1 B1 k1 _ hR hR0 => ?_) fun e h' tk' hw R U => err e h' tk' _ hw F R U
  obtain ⟨g', T', B', F', N', no⟩ := turn_back (name := name) (scope := scope) (a := a) (cd := cd) B F N T1 k1
  refine ret xs h' tk' c' acc' g' R hw hs T' B' F' fun q hq => ?_
  rcases List.mem_cons.mp hq with rfl | hq
  · have z := no _ _ hR0 hR
    exact ⟨hR, z.2, z.1⟩
  · exact N' q hq
end
end Mine
end
section
open PySem PySem.W PyProof.Rows PySem.Calls
set_option maxRecDepth 100000
set_option maxHeartbeats 4000000
set_option pp.deepTerms false
namespace Mine
theorem fr_size {g h : Heap} {L : Addr} {m : Str → Option Value} (F : Fr g L h m) : g.objs.size ≤ h.objs.size := by
  obtain ⟨oL, _, _, hLo, _⟩ := F.ns
  exact Nat.le_of_lt (Nat.lt_of_le_of_lt F.above (Heap.lt_size hLo))
theorem law_read (w : World) (p : Program) (loose : List Str) (mean : ExcName → Option Value) (mg mb : Str → Option Value) (A : Around) (base g : Heap) (env : Env) (outer : List Env) (s : Shared) (Q E : Value → Shared → Prop) (l : List Nat) (tx : Tok)
    (hx : (S l).length < 1000) (hl : ∀ c ∈ l, okc c)
    (C : At (Mine.KK w.params) p loose mean mg mb A base env outer g s.heap) (XB : (Mine.KK w.params).In base) (TB : Top p loose mean mg mb base) (D : KtsDicts ((env :: outer).filterMap (·.frame)) g)
    (hhd : A.handled = none) (hdp : A.depth + 100 < recursionLimit) (hun : A.units + 800 < cLine)
    (ret : ∀ xs h' tk' c' (acc' : Array Value) g₁ R, words (l.length + 1) .blank l = some xs → Strs acc'.toList xs → KtsTurn ((env :: outer).filterMap (·.frame)) g g₁ → Below A base (env :: outer) g₁ → (∀ b o, g₁.get? b = some o → h'.get? b = some o) → g₁.objs.size ≤ h'.objs.size → h'.get? R = some (listO acc' c') → g₁.get? R = none → Q (.ref R) { s with heap := h', toks := tk' })
    (bad : ∀ h' tk' g₁, words (l.length + 1) .blank l = .none → KtsTurn ((env :: outer).filterMap (·.frame)) g g₁ → Below A base (env :: outer) g₁ → (∀ b o, g₁.get? b = some o → h'.get? b = some o) → g₁.objs.size ≤ h'.objs.size → Q .none { s with heap := h', toks := tk' }) :
    wpAny (model PySem.Challenge.rw_ik0204_01.prog w) A (call (.ref 777) [.str (S l) tx]) Q E s := by
  have NA : Led g s.heap [] := fun q hq => nomatch hq
  have X := C.part
  revert X; k_fill; intro X
  obtain ⟨hd0, dp, fr, gd, un⟩ := A
  have hA := C.below.stack
  cases hA
  cases hhd
  dsimp only at hdp hun
  refine wpAny_call ?_
  k_dflt (refine' enter_def (news := []) C NA ?k6 ?k7 ?k8 ?k9 ?kB ?_ ?c2 ?c3 ?c4 ?c5)
  case k6 => k_is
  case k7 => k_is
  case k8 => ktr_room
  case k9 => first | exact BindsTo.of_eq rfl | exact binds_K (C.part.keeps C.sub) rfl (by k_is) rfl rfl rfl
  case kB => exact locs rfl
  case c2 => exact rfl
  case c3 => exact rfl
  case c4 => exact rfl
  case c5 => decide
  intro L' h' F' N' B' X' T'
  (try dsimp only)
  k_fold
  repeat' (first | (k_unfold; (try dsimp only)) | ((with_reducible show wpAny _ _ (call (Value.ref _) _ _) _ _ _); with_reducible (k_here; k_dflt (refine' split_here ?k1_g0a ?kF_g0a ?k2_g0a ?k3_g0a ?kN_g0a ?kA_g0a ?kK_g0a ?kh_g0a ?k6_g0a ?k7_g0a ?k8_g0a ?k9_g0a ?ko_g0a ?ke_g0a; (case kA_g0a => exact rfl); (case kK_g0a => exact rfl); (case kh_g0a => exact rfl); (case k1_g0a => assumption); (case k2_g0a => k_asm); (case k3_g0a => k_asm); (case k6_g0a => ktr_room); (case k7_g0a => ktr_units); (case k8_g0a => assumption); (case k9_g0a => assumption); (case kF_g0a => k_asm); (case kN_g0a => k_asm); k_whole; (case' ko_g0a => intro xs9 h9 tk9 c9 acc9 g9 R9 hw9 hs9 T9 B9 F9 N9); (case' ke_g0a => intro e9 h9 tk9 g9 hw9 FG9 RR9 U9)))) | walk1 | (dsimp only; walk1) | dsimp only)
  · with_reducible rename Fr _ _ _ _ => F8
    exact bad _ _ _ hw9 (by assumption) (by assumption) F8.keep (fr_size F8)
  · exact ret xs9 _ _ c9 acc9 g9 R9 hw9 hs9 T9 B9 F9.keep (fr_size F9) (N9 _ (.head _)).1 (N9 _ (.head _)).2.2
end Mine
end
section
open PySem PySem.W PyProof.Rows PySem.Calls
set_option maxRecDepth 100000
namespace Mine
theorem item_at {l : List Nat} {i : Nat} (h : i < l.length) : Txt.item (S l) (i : Int) = S [l.getD i 0] := by
  rw [PyProof.Rows.item_meets (n := l.getD i 0) (Int.natCast_nonneg i) (by simp [h])]
theorem item_blank {l : List Nat} {i : Nat} (h : i < l.length) : (Txt.item (S l) (i : Int) == Str.ofString " ") = decide (l.getD i 0 = 32) := by
  rw [item_at h, ofS_blank]
  by_cases e : l.getD i 0 = 32
  · rw [e]; decide +kernel
  · simp only [e, decide_false]
    exact beq_eq_false_iff_ne.mpr fun z => e (by have := S_inj.mp z; simpa using this)
end Mine
end
section
open PySem PySem.W PyProof.Rows PySem.Calls
set_option maxRecDepth 100000
set_option maxHeartbeats 4000000
set_option pp.deepTerms false
namespace Mine
noncomputable abbrev sS : Str := Str.ofString "s"
noncomputable abbrev sLpos : Str := Str.ofString "lpos"
noncomputable abbrev sAmount : Str := Str.ofString "amount"
theorem stripM_eq {m : Str → Option Value} {a b c : Value} (e1 : m sLpos = some a) (e2 : m sAmount = some b) (e3 : m sS = some c) : m = fun y => if y = sLpos then some a else if y = sAmount then some b else if y = sS then some c else m y := by
  funext y
  split
  · rename_i e; rw [e, e1]
  · split
    · rename_i e; rw [e, e2]
    · split
      · rename_i e; rw [e, e3]
      · rfl
/-- between two turns of the first loop -/
inductive StripInv (l : List Nat) (am : Nat) (tx : Tok) (n : Nat) (m : Str → Option Value) (nx : List (Addr × Obj)) : Prop
  | mk (i : Nat) (v u : Int) (tl ta : Tok) (q1 : nx = []) (q2 : n = am - i) (q3 : i ≤ am) (q4 : i ≤ l.length) (q5 : (∀ j, j < i → l.getD j 0 = 32)) (q6 : v = i) (q7 : u = ((am - i : Nat) : Int)) (q8 : m sLpos = some (.int v tl)) (q9 : m sAmount = some (.int u ta)) (q10 : m sS = some (.str (S l) tx)) : StripInv l am tx n m nx
/-- after the first loop -/
inductive StripOut (l : List Nat) (am : Nat) (tx : Tok) (g : Heap) (L : Addr) (s : Shared) (f : Flow) (s₃ : Shared) : Prop
  | mk (q0 : f = .next) (h' : Heap) (tk : Nat) (m : Str → Option Value) (i : Nat) (v u : Int) (tl ta : Tok) (q2 : s₃ = { s with heap := h', toks := tk }) (q3 : Fr g L h' m) (q4 : News g L h' []) (q5 : i ≤ am) (q6 : i ≤ l.length) (q7 : (∀ j, j < i → l.getD j 0 = 32)) (q8 : (i = am ∨ (i < l.length ∧ l.getD i 0 ≠ 32))) (q9 : v = ((i : Nat) : Int)) (q10 : u = ((am - i : Nat) : Int)) (q11 : m sLpos = some (.int v tl)) (q12 : m sAmount = some (.int u ta)) (q13 : m sS = some (.str (S l) tx)) : StripOut l am tx g L s f s₃
noncomputable abbrev sRpos : Str := Str.ofString "rpos"
theorem stripM2_eq {m : Str → Option Value} {a b c d : Value} (e1 : m sLpos = some a) (e2 : m sAmount = some b) (e3 : m sS = some c) (e4 : m sRpos = some d) : m = fun y => if y = sLpos then some a else if y = sAmount then some b else if y = sS then some c else if y = sRpos then some d else m y := by
  funext y
  split
  · rename_i e; rw [e, e1]
  · split
    · rename_i e; rw [e, e2]
    · split
      · rename_i e; rw [e, e3]
      · split
        · rename_i e; rw [e, e4]
        · rfl
/-- between two turns of the second loop: `k` blanks behind are gone -/
inductive Strip2Inv (l : List Nat) (am i : Nat) (tx : Tok) (n : Nat) (m : Str → Option Value) (nx : List (Addr × Obj)) : Prop
  | mk (k : Nat) (v u r : Int) (tl ta tr : Tok) (q1 : nx = []) (q2 : n = am - i - k) (q3 : k ≤ am - i) (q4 : (i < am → i + k < l.length)) (q5 : (∀ j, j < k → l.getD (l.length - 1 - j) 0 = 32)) (q6 : v = i) (q7 : u = ((am - i - k : Nat) : Int)) (q8 : r = (l.length : Int) - 1 - k) (q9 : m sLpos = some (.int v tl)) (q10 : m sAmount = some (.int u ta)) (q11 : m sS = some (.str (S l) tx)) (q12 : m sRpos = some (.int r tr)) : Strip2Inv l am i tx n m nx
/-- what is taken off: `i` blanks ahead, `k` behind -/
noncomputable def Stripped (l : List Nat) (am i k : Nat) : Prop :=
  i ≤ am ∧ k ≤ am - i ∧ i + k ≤ l.length ∧ (∀ j, j < i → l.getD j 0 = 32) ∧ (i = am ∨ (i < l.length ∧ l.getD i 0 ≠ 32)) ∧ (∀ j, j < k → l.getD (l.length - 1 - j) 0 = 32) ∧ (k = am - i ∨ (k < l.length ∧ l.getD (l.length - 1 - k) 0 ≠ 32))
inductive Strip2Out (l : List Nat) (am i : Nat) (tx : Tok) (g : Heap) (L : Addr) (s : Shared) (f : Flow) (s₃ : Shared) : Prop
  | mk (q0 : f = .next) (h' : Heap) (tk : Nat) (m : Str → Option Value) (k : Nat) (v r : Int) (tl tr ta : Tok) (u : Int) (q2 : s₃ = { s with heap := h', toks := tk }) (q3 : Fr g L h' m) (q4 : News g L h' []) (q5 : Stripped l am i k) (q6 : v = ((i : Nat) : Int)) (q7 : r = (l.length : Int) - 1 - k) (q8 : m sLpos = some (.int v tl)) (q9 : m sAmount = some (.int u ta)) (q10 : m sS = some (.str (S l) tx)) (q11 : m sRpos = some (.int r tr)) : Strip2Out l am i tx g L s f s₃
theorem strip_padding (w : World) (p : Program) (loose : List Str) (mean : ExcName → Option Value) (mg mb : Str → Option Value) (A : Around) (base g : Heap) (env : Env) (outer : List Env) (s : Shared) (Q E : Value → Shared → Prop) (l : List Nat) (am : Nat) (tx ta : Tok)
    (hx : (S l).length < 1000) (ham : am ≤ 3)
    (C : At (Mine.KK w.params) p loose mean mg mb A base env outer g s.heap)
    (hhd : A.handled = none) (hdp : A.depth + 20 < recursionLimit) (hun : A.units + 200 < cLine)
    (ret : ∀ i k t h' tk', Stripped l am i k → (∀ b o, g.get? b = some o → h'.get? b = some o) → Q (.str (S ((l.drop i).take (l.length - i - k))) t) { s with heap := h', toks := tk' })
    (err : ∀ e h' tk', (l.length < am ∧ ∀ j, j < l.length → l.getD j 0 = 32) → RaisedSN base g (env :: outer) e (.type "IndexError") [] h' → g.UpToSlots h' → E (.ref e) { s with heap := h', toks := tk' }) :
    wpAny (model PySem.Challenge.rw_ik0204_01.prog w) A (call (.ref 51) [.str (S l) tx, .int am ta]) Q E s := by
  have NA : Led g s.heap [] := fun q hq => nomatch hq
  have X := C.part
  revert X; k_fill; intro X
  obtain ⟨hd0, dp, fr, gd, un⟩ := A
  have hA := C.below.stack
  cases hA
  cases hhd
  dsimp only at hdp hun
  refine wpAny_call ?_
  k_dflt (refine' enter_def (news := []) C NA ?k6 ?k7 ?k8 ?k9 ?kB ?_ ?c2 ?c3 ?c4 ?c5)
  case k6 => k_is
  case k7 => k_is
  case k8 => ktr_room
  case k9 => first | exact BindsTo.of_eq rfl | exact binds_K (C.part.keeps C.sub) rfl (by k_is) rfl rfl rfl
  case kB => exact locs rfl
  case c2 => exact rfl
  case c3 => exact rfl
  case c4 => exact rfl
  case c5 => decide
  intro L' h' F' N' B' X' T'
  (try dsimp only)
  k_fold
  repeat' (first | (k_unfold; (try dsimp only)) | ((fail_if_success (with_reducible show wpAny _ _ (PySem.exec (Stmt.While _ _ _ _) _) _ _ _)); walk1) | ((fail_if_success (with_reducible show wpAny _ _ (PySem.exec (Stmt.While _ _ _ _) _) _ _ _)); dsimp only; walk1))
  with_reducible rename Fr _ _ _ _ => FW
  with_reducible rename News _ _ _ _ => NW
  refine wpAny_mono (Q := StripOut l am tx g L' { s with heap := h', toks := s.toks }) ?_ (fun f s₃ h₃ => ?_) (fun _ _ z => z)
  · refine While_inv2 (StripInv l am tx) (n₀ := am) FW NW ⟨0, _, _, _, _, rfl, rfl, Nat.zero_le _, Nat.zero_le _, fun j h => absurd h (Nat.not_lt_zero _), ?_, ?_, rfl, rfl, rfl⟩ ?_
    · rfl
    · rfl
    clear FW NW
    rintro n m₁ nx h₁ tk₁ F₁ N₁ ⟨i, v, u, tl, ta1, rfl, rfl, hi, hil, hb, hv, hu, e1, e2, e3⟩
    rw [stripM_eq e1 e2 e3] at F₁
    clear e1 e2 e3
    have hx' : l.length < 1000 := by rw [S_length] at hx; exact hx
    show wpAny _ _ _ _ _ _
    k_fold
    repeat' (first | (k_unfold; (try dsimp only)) | ((with_reducible show wpAny _ _ (leaving _ (Value.ref _)) _ _ _); with_reducible (k_here; k_dflt (refine' leave_newS ?k1_g1a (by first | assumption | exact Heap.MadeExc.newExc (by assumption)) ?k3_g1a ?k4_g1a ?_; (case k1_g1a => assumption); (case k3_g1a => assumption); (case k4_g1a => exact News.nil); k_whole; intro h9 R9 _ U9; (try dsimp only at R9 U9 ⊢)))) | walk1 | (dsimp only; walk1) | dsimp only)
    · have hv2 : v < -((S l).length : Int) ∨ ((S l).length : Int) ≤ v := by assumption
      have hu2 : u ≠ 0 := by assumption
      rw [S_length] at hv2
      exact err _ _ _ ⟨by omega, fun j hj => hb j (by omega)⟩ R9 U9
    · have hu2 : u ≠ 0 := by assumption
      have hv2 : v < ((S l).length : Int) := by assumption
      have hi2 : (Txt.item (S l) v == Str.ofString " ") = true := by assumption
      rw [S_length] at hv2
      have hil2 : i < l.length := by omega
      rw [hv, item_blank hil2] at hi2
      with_reducible rename Fr _ _ _ _ => F9
      with_reducible rename News _ _ _ _ => N9
      refine ⟨_, _, _, _, am - (i + 1), rfl, F9, N9, by omega, i + 1, _, _, _, _, rfl, rfl, by omega, by omega, fun j hj => ?_, ?_, ?_, rfl, rfl, rfl⟩
      · rcases Nat.lt_or_ge j i with h | h
        · exact hb j h
        · have : j = i := by omega
          rw [this]
          exact of_decide_eq_true hi2
      · omega
      · omega
    · have hu2 : u ≠ 0 := by assumption
      have hv2 : v < ((S l).length : Int) := by assumption
      have hi2 : (Txt.item (S l) v == Str.ofString " ") = false := by assumption
      rw [S_length] at hv2
      have hil2 : i < l.length := by omega
      rw [hv, item_blank hil2] at hi2
      exact ⟨rfl, _, _, _, i, v, u, tl, ta1, rfl, F₁, N₁, hi, hil, hb, .inr ⟨hil2, of_decide_eq_false hi2⟩, hv, hu, rfl, rfl, rfl⟩
    · have hu2 : u = 0 := by assumption
      exact ⟨rfl, _, _, _, i, v, u, tl, ta1, rfl, F₁, N₁, hi, hil, hb, .inl (by omega), hv, hu, rfl, rfl, rfl⟩
  · obtain ⟨rfl, h₁, tk₁, m₁, i, v, u, tl, ta1, rfl, F₁, N₁, hi, hil, hb, hend, hv, hu, e1, e2, e3⟩ := h₃
    clear FW NW
    rw [stripM_eq e1 e2 e3] at F₁
    clear e1 e2 e3
    have hx' : l.length < 1000 := by rw [S_length] at hx; exact hx
    dsimp only
    repeat' (first | (k_unfold; (try dsimp only)) | ((fail_if_success (with_reducible show wpAny _ _ (PySem.exec (Stmt.While _ _ _ _) _) _ _ _)); walk1) | ((fail_if_success (with_reducible show wpAny _ _ (PySem.exec (Stmt.While _ _ _ _) _) _ _ _)); dsimp only; walk1))
    with_reducible rename Fr _ _ _ _ => FW
    with_reducible rename News _ _ _ _ => NW
    refine wpAny_mono (Q := Strip2Out l am i tx g L' { s with heap := h₁, toks := tk₁ }) ?_ (fun f s₃ h₃ => ?_) (fun _ _ z => z)
    · refine While_inv2 (Strip2Inv l am i tx) (n₀ := am - i) FW NW ⟨0, v, u, _, _, _, _, rfl, rfl, Nat.zero_le _, fun h => by omega, fun j h => absurd h (Nat.not_lt_zero _), hv, hu, ?_, rfl, rfl, rfl, rfl⟩ ?_
      · rw [S_length]; omega
      clear FW NW
      rintro n m₂ nx h₂ tk₂ F₂ N₂ ⟨k, v, u, r, tl, ta2, tr, rfl, rfl, hk, hik, hbk, hv, hu, hr, e1, e2, e3, e4⟩
      rw [stripM2_eq e1 e2 e3 e4] at F₂
      clear e1 e2 e3 e4
      show wpAny _ _ _ _ _ _
      k_fold
      repeat' (first | (k_unfold; (try dsimp only)) | ((with_reducible show wpAny _ _ (leaving _ (Value.ref _)) _ _ _); with_reducible (k_here; k_dflt (refine' leave_newS ?k1_g3a (by first | assumption | exact Heap.MadeExc.newExc (by assumption)) ?k3_g3a ?k4_g3a ?_; (case k1_g3a => assumption); (case k3_g3a => assumption); (case k4_g3a => exact News.nil); k_whole; intro h9 R9 _ U9; (try dsimp only at R9 U9 ⊢)))) | walk1 | (dsimp only; walk1) | dsimp only)
      · have hv2 : r < -((S l).length : Int) ∨ ((S l).length : Int) ≤ r := by assumption
        have hu2 : u ≠ 0 := by assumption
        rw [S_length] at hv2
        exfalso
        omega
      · have hu2 : u ≠ 0 := by assumption
        have hi2 : (Txt.item (S l) r == Str.ofString " ") = true := by assumption
        have hrn : r = ((l.length - 1 - k : Nat) : Int) := by omega
        rw [hrn, item_blank (by omega)] at hi2
        have hi3 := of_decide_eq_true hi2
        have hne : l.getD i 0 ≠ 32 := (hend.resolve_left (by omega)).2
        have hki : l.length - 1 - k ≠ i := fun e => hne (by rw [← e]; exact hi3)
        with_reducible rename Fr _ _ _ _ => F9
        with_reducible rename News _ _ _ _ => N9
        refine ⟨_, _, _, _, am - i - (k + 1), rfl, F9, N9, by omega, k + 1, _, _, _, _, _, _, rfl, rfl, by omega, fun h => by omega, fun j hj => ?_, hv, ?_, ?_, rfl, rfl, rfl, rfl⟩
        · rcases Nat.lt_or_ge j k with h | h
          · exact hbk j h
          · have : j = k := by omega
            rw [this]
            exact hi3
        · omega
        · omega
      · have hu2 : u ≠ 0 := by assumption
        have hi2 : (Txt.item (S l) r == Str.ofString " ") = false := by assumption
        have hrn : r = ((l.length - 1 - k : Nat) : Int) := by omega
        rw [hrn, item_blank (by omega)] at hi2
        exact ⟨rfl, _, _, _, k, v, r, tl, tr, ta2, u, rfl, F₂, N₂, ⟨hi, hk, by omega, hb, hend, hbk, .inr ⟨by omega, of_decide_eq_false hi2⟩⟩, hv, hr, rfl, rfl, rfl, rfl⟩
      · have hu2 : u = 0 := by assumption
        exact ⟨rfl, _, _, _, k, v, r, tl, tr, ta2, u, rfl, F₂, N₂, ⟨hi, hk, by omega, hb, hend, hbk, .inl (by omega)⟩, hv, hr, rfl, rfl, rfl, rfl⟩
    · obtain ⟨rfl, h₂, tk₂, m₂, k, v2, r, tl2, tr, ta2, u2, rfl, F₂, N₂, hst, hv2, hr, e1, e2, e3, e4⟩ := h₃
      clear FW NW
      rw [stripM2_eq e1 e2 e3 e4] at F₂
      clear e1 e2 e3 e4
      dsimp only
      repeat' (first | (k_unfold; (try dsimp only)) | walk1 | (dsimp only; walk1) | dsimp only)
      with_reducible rename Fr _ _ _ _ => F9
      have hsl : Txt.slice (S l) (some v2) (some (r + 1)) = S ((l.drop i).take (l.length - i - k)) := by
        have h3 := hst.2.2.1
        have e1 : r + 1 = ((l.length - k : Nat) : Int) := by omega
        rw [hv2, e1, slice_S (by omega), Int.toNat_natCast]
        congr 2
        omega
      rw [hsl]
      exact ret i k _ _ _ hst F9.keep
end Mine
end
section
open PySem PySem.W PyProof.Rows PySem.Calls
set_option maxRecDepth 100000
set_option maxHeartbeats 4000000
set_option pp.deepTerms false
namespace Mine
section
variable {w : World} {p : Program} {loose : List Str} {mean : ExcName → Option Value} {mg mb : Str → Option Value} {A A₀ : Around} {base h₀ H₁ h' : Heap} {outer : List Env} {L a : Addr} {name : Str} {scope : Scope} {cd : Value} {m : Str → Option Value} {news : List (Addr × Obj)} {s : Shared}
variable {Q E : Value → Shared → Prop} {l : List Nat} {am : Nat} {tx ta : Tok}
theorem strip_here (B : Below A₀ base outer h₀) (F : Fr h₀ L s.heap m) (X : (Mine.KK w.params).In h₀) (T : Top p loose mean mg mb h₀) (N : News h₀ L s.heap news)
    (hA : A.frames = some (envOf name scope L a cd :: outer)) (hke : scope.kind = .function) (hhd : A.handled = none) (hdp : A.depth + 20 < recursionLimit) (hun : A.units + 200 < cLine)
    (hx : (S l).length < 1000) (ham : am ≤ 3)
    (ret : ∀ i k t h' tk', Stripped l am i k → Fr h₀ L h' m → News h₀ L h' news → Q (.str (S ((l.drop i).take (l.length - i - k))) t) { s with heap := h', toks := tk' })
    (err : ∀ e h' tk' g₂, (l.length < am ∧ ∀ j, j < l.length → l.getD j 0 = 32) → Fr h₀ L g₂ m → RaisedSN base g₂ (envOf name scope L a cd :: outer) e (.type "IndexError") [] h' → g₂.UpToSlots h' → E (.ref e) { s with heap := h', toks := tk' }) :
    wpAny (model PySem.Challenge.rw_ik0204_01.prog w) A (call (.ref 51) [.str (S l) tx, .int am ta]) Q E s := by
  have C := at_here B F X T hA (env := envOf name scope L a cd) rfl hke
  exact strip_padding w p loose mean mg mb A base _ _ outer s Q E l am tx ta hx ham C hhd hdp hun (fun i k t h' tk' hs kp => ret i k t h' tk' hs (fr_after F kp) (news_after N kp)) fun e h' tk' hw R U => err e h' tk' _ hw F R U
end
theorem law_bare (w : World) (p : Program) (loose : List Str) (mean : ExcName → Option Value) (mg mb : Str → Option Value) (A : Around) (base g : Heap) (env : Env) (outer : List Env) (s : Shared) (Q E : Value → Shared → Prop) (l : List Nat) (am : Nat) (tx ta : Tok)
    (hx : (S l).length < 1000) (ham : am ≤ 3)
    (C : At (Mine.KK w.params) p loose mean mg mb A base env outer g s.heap) (XB : (Mine.KK w.params).In base) (TB : Top p loose mean mg mb base) (D : KtsDicts ((env :: outer).filterMap (·.frame)) g)
    (hhd : A.handled = none) (hdp : A.depth + 40 < recursionLimit) (hun : A.units + 300 < cLine)
    (ret : ∀ i k t h' tk', Stripped l am i k → (∀ b o, g.get? b = some o → h'.get? b = some o) → Q (.str (S ((l.drop i).take (l.length - i - k))) t) { s with heap := h', toks := tk' })
    (bad : ∀ h' tk' g₁, (l.length < am ∧ ∀ j, j < l.length → l.getD j 0 = 32) → KtsTurn ((env :: outer).filterMap (·.frame)) g g₁ → Below A base (env :: outer) g₁ → (∀ b o, g₁.get? b = some o → h'.get? b = some o) → g₁.objs.size ≤ h'.objs.size → Q .none { s with heap := h', toks := tk' }) :
    wpAny (model PySem.Challenge.rw_ik0204_01.prog w) A (call (.ref 784) [.str (S l) tx, .int am ta]) Q E s := by
  have NA : Led g s.heap [] := fun q hq => nomatch hq
  have X := C.part
  revert X; k_fill; intro X
  obtain ⟨hd0, dp, fr, gd, un⟩ := A
  have hA := C.below.stack
  cases hA
  cases hhd
  dsimp only at hdp hun
  refine wpAny_call ?_
  k_dflt (refine' enter_def (news := []) C NA ?k6 ?k7 ?k8 ?k9 ?kB ?_ ?c2 ?c3 ?c4 ?c5)
  case k6 => k_is
  case k7 => k_is
  case k8 => ktr_room
  case k9 => first | exact BindsTo.of_eq rfl | exact binds_K (C.part.keeps C.sub) rfl (by k_is) rfl rfl rfl
  case kB => exact locs rfl
  case c2 => exact rfl
  case c3 => exact rfl
  case c4 => exact rfl
  case c5 => decide
  intro L' h' F' N' B' X' T'
  (try dsimp only)
  k_fold
  repeat' (first | (k_unfold; (try dsimp only)) | ((with_reducible show wpAny _ _ (call (Value.ref _) _ _) _ _ _); with_reducible (k_here; k_dflt (refine' strip_here ?k1_g0a ?kF_g0a ?k2_g0a ?k3_g0a ?kN_g0a ?kA_g0a ?kK_g0a ?kh_g0a ?k6_g0a ?k7_g0a ?k8_g0a ?k9_g0a ?ko_g0a ?ke_g0a; (case kA_g0a => exact rfl); (case kK_g0a => exact rfl); (case kh_g0a => exact rfl); (case k1_g0a => assumption); (case k2_g0a => k_asm); (case k3_g0a => k_asm); (case k6_g0a => ktr_room); (case k7_g0a => ktr_units); (case k8_g0a => assumption); (case k9_g0a => assumption); (case kF_g0a => k_asm); (case kN_g0a => k_asm); k_whole; (case' ko_g0a => intro i9 k9 t9 h9 tk9 hs9 F9 N9); (case' ke_g0a => intro e9 h9 tk9 g9 hw9 FG9 RR9 U9)))) | walk1 | (dsimp only; walk1) | dsimp only)
  · with_reducible rename Fr _ _ _ _ => F8
    exact bad _ _ _ hw9 (by assumption) (by assumption) F8.keep (fr_size F8)
  · exact ret i9 k9 t9 _ _ hs9 F9.keep
end Mine
end
section
open PySem PySem.W PyProof.Rows PySem.Calls PySem.Builtin.Str
set_option maxRecDepth 100000
set_option maxHeartbeats 4000000
namespace Mine
section
variable {prog : Program} {w : World} {A : Around} {s : Shared} {E : Value → Shared → Prop} {d : Addr} {f : Int → Option Value} {c : Nat} {x : Str} {tx : Tok}
theorem table_hit {Q : Mapped → Shared → Prop} (hm : s.heap.MapOf (intKind prog w) d f) (hv : f c = some (.str x tx)) (h : ∀ tk, Q (.text x) { s with toks := tk }) :
    wpAny (model prog w) A (tableLookup (.ref d) c) Q E s := by
  unfold tableLookup
  refine wpAny_bind (wpAny_attempt (wpAny_bind (wpAny_mkInt (wpAny_getItem_of (intKind_is _ _ _ _) hm hv ?_))))
  show wpAny _ _ ((pure none : Sem (Option Int)) >>= _) _ _ _
  refine wpAny_bind (wpAny_pure ?_)
  refine wpAny_bind (wpAny_pure ?_)
  exact wpAny_pure (h _)
theorem key_lookup : isSubtype (.type "KeyError") (.type "LookupError") = pure true := by rw [isSubtype_type]; kernel_rfl
theorem newExc_type {h h' : Heap} {e : Addr} {C : String} (x : Heap.NewExc h h' e C) (s : Shared) (t : Tok) : ({ s with heap := h', toks := t } : Shared).TypeIs (.ref e) C := by
  obtain ⟨_, _, o, _, ho, hc, _⟩ := x
  exact ⟨_, ho, hc⟩
theorem table_miss {Q : Mapped → Shared → Prop} (hd : (d == sysModules) = false) (hh : A.handled = none) (hm : s.heap.MapOf (intKind prog w) d f) (hv : f c = none) (h : ∀ h' tk, (∀ b o, s.heap.get? b = some o → h'.get? b = some o) → Q .keep { s with heap := h', toks := tk }) :
    wpAny (model prog w) A (tableLookup (.ref d) c) Q E s := by
  unfold tableLookup
  refine wpAny_bind (wpAny_attempt (wpAny_bind (wpAny_mkInt (wpAny_getItem_missing_of (intKind_is _ _ _ _) hd hh hm hv fun h' e x => ?_))))
  refine wpAny_bind (wpAny_isInstance (newExc_type x _ _) key_lookup ?_)
  show wpAny _ _ (rule _ >>= _) _ _ _
  exact wpAny_bind (wpAny_rule (wpAny_pure (h _ _ x.keeps)))
end
end Mine
end
section
open PySem PySem.W PyProof.Rows PySem.Calls PySem.Builtin PySem.Builtin.Str
set_option maxRecDepth 100000
set_option maxHeartbeats 4000000
namespace Mine
section
variable {prog : Program} {w : World} {A : Around} {s : Shared} {Q E : Value → Shared → Prop} {d : Addr} {f : Int → Option Value} {c : Nat} {x : List Nat} {tx t : Tok}
theorem isStr (c : Nat) : s.TypeIs (.str (S [c]) t) "str" := rfl
theorem not_long {n : Nat} (h : n < 1000000) : tooLong n = false := by
  unfold tooLong
  rw [sizeLine_eq]
  simp only [gt_iff_lt, decide_eq_false_iff_not]
  omega
theorem trans_hit (hm : s.heap.MapOf (intKind prog w) d f) (hc : c < 128) (hv : f c = some (.str (S x) tx)) (hx : 2 ≤ x.length) (hx2 : x.length < 1000) (h : ∀ t' tk, Q (.str (S x) t') { s with toks := tk }) :
    wpAny (model prog w) A (call (.builtin "str.translate") [.str (S [c]) t, .ref d]) Q E s := by
  refine wpAny_call_entry PySem.F.slot_str_translate (isStr c) PySem.F.entry_str_translate ?_ (PySem.F.args_str_translate_2 _ _)
  unfold Builtin.«str.translate»
  refine wpAny_bind (wpAny_pure ?_)
  dsimp only
  have e1 : ((S [c]).length == 0) = false := rfl
  have e3 : (#[c] : Array Nat).all (· < 128) = true := by simp [hc]
  have e4 : ((S x).length == 1) = false := by rw [S_length]; simp; omega
  rw [e1, e3]
  simp only [Bool.false_eq_true, if_false]
  refine wpAny_bind ?_
  rw [show (#[c] : Array Nat) = [c].toArray from rfl, List.forIn_toArray]
  simp only [List.forIn_cons, List.forIn_nil, List.lookup_nil, not_long (show 0 < 1000000 by decide), Bool.false_eq_true, if_false, if_true]
  refine wpAny_bind (wpAny_bind (table_hit hm hv fun tk => ?_))
  simp only [e4, Bool.false_and, Bool.false_eq_true, if_false]
  refine wpAny_bind (wpAny_pure ?_)
  dsimp only
  refine wpAny_bind (wpAny_rule ?_)
  refine wpAny_bind (table_hit (s := { s with toks := tk }) hm hv fun tk => ?_)
  dsimp only
  refine wpAny_pure ?_
  dsimp only
  refine wpAny_pure ?_
  dsimp only
  rw [S_length, not_long (by omega)]
  simp only [Bool.false_eq_true, if_false]
  have e5 : (⟨List.foldl (fun acc (p : Str) => acc ++ p.cps) #[] [S x].reverse⟩ : Str) = S x := by simp [S]
  rw [e5]
  refine wpAny_bind (wpAny_mkStr ?_ (by rw [S_length, sizeLine_eq]; omega))
  exact wpAny_pure ⟨_, rfl, h _ _⟩
theorem trans_miss (hm : s.heap.MapOf (intKind prog w) d f) (hd : (d == sysModules) = false) (hh : A.handled = none) (hc : c < 128) (hv : f c = none) (h : ∀ t' h' tk, (∀ b o, s.heap.get? b = some o → h'.get? b = some o) → Q (.str (S [c]) t') { s with heap := h', toks := tk }) :
    wpAny (model prog w) A (call (.builtin "str.translate") [.str (S [c]) t, .ref d]) Q E s := by
  refine wpAny_call_entry PySem.F.slot_str_translate (isStr c) PySem.F.entry_str_translate ?_ (PySem.F.args_str_translate_2 _ _)
  unfold Builtin.«str.translate»
  refine wpAny_bind (wpAny_pure ?_)
  dsimp only
  have e1 : ((S [c]).length == 0) = false := rfl
  have e3 : (#[c] : Array Nat).all (· < 128) = true := by simp [hc]
  rw [e1, e3]
  simp only [Bool.false_eq_true, if_false]
  refine wpAny_bind ?_
  rw [show (#[c] : Array Nat) = [c].toArray from rfl, List.forIn_toArray]
  simp only [List.forIn_cons, List.forIn_nil, List.lookup_nil, not_long (show 0 < 1000000 by decide), Bool.false_eq_true, if_false, if_true]
  refine wpAny_bind (wpAny_bind (table_miss hd (by exact hh) hm hv fun h' tk kp => ?_))
  dsimp only
  refine wpAny_pure ?_
  dsimp only
  refine wpAny_pure ?_
  dsimp only
  rw [not_long (by omega)]
  simp only [Bool.false_eq_true, if_false]
  have e5 : (⟨List.foldl (fun acc (p : Str) => acc ++ p.cps) #[] [(⟨#[c]⟩ : Str)].reverse⟩ : Str) = S [c] := by simp [S]
  rw [e5]
  refine wpAny_bind (wpAny_mkStr ?_ (by rw [S_length, sizeLine_eq]; simp))
  exact wpAny_pure ⟨_, rfl, h _ _ _ kp⟩
end
end Mine
end
section
open PySem PySem.W PyProof.Rows PySem.Calls PySem.Builtin PySem.Builtin.Str
set_option maxRecDepth 100000
set_option maxHeartbeats 4000000
namespace Mine
noncomputable def tabIs (K : Frag) (d : Addr) (c : Nat) (r : Option Str) : Bool := match K.lookup d with
  | some ⟨.type "dict", none, .dict es _, sl⟩ => sl.isEmpty && es.all (fun e => match e.key with | .int k _ => e.hash == hashInt k | _ => false) && (match findBy Value.isInt es (c : Int), r with | some (.str x _), some y => x == y | none, none => true | _, _ => false)
  | _ => false
noncomputable def TabSays (f : Int → Option Value) (c : Nat) : Option Str → Prop
  | none => f (c : Int) = none
  | some y => ∃ t, f (c : Int) = some (.str y t)
theorem mapOf_of {prog : Program} {w : World} {K : Frag} {h : Heap} {d : Addr} {c : Nat} {r : Option Str} (X : K.In h) (e : tabIs K d c r = true) :
    ∃ f, h.MapOf (intKind prog w) d f ∧ TabSays f c r := by
  unfold tabIs at e
  split at e
  · rename_i es ep sl hk
    simp only [Bool.and_eq_true] at e
    obtain ⟨⟨e0, e1⟩, e2⟩ := e
    have hsl : sl = #[] := Array.isEmpty_iff.mp e0
    subst hsl
    refine ⟨findBy Value.isInt es, ⟨_, es, ep, X _ _ hk, ⟨rfl, rfl, rfl⟩, rfl, fun e he => ?_, fun k => rfl⟩, ?_⟩
    · obtain ⟨i, hi, rfl⟩ := Array.mem_iff_getElem.mp he
      have z := Array.all_eq_true.mp e1 i hi
      split at z
      · rename_i k t hkey
        exact ⟨k, by rw [hkey]; exact intKind_is prog w k t, beq_iff_eq.mp z⟩
      · cases z
    · split at e2
      · rename_i x t y hf
        rw [beq_iff_eq.mp e2] at hf
        exact ⟨t, hf⟩
      · rename_i hf
        exact hf
      · cases e2
  · cases e
end Mine
end
section
open PySem PySem.W PyProof.Rows PySem.Calls
set_option maxRecDepth 100000
set_option maxHeartbeats 4000000
set_option pp.deepTerms false
namespace Mine
/-- what the escape of one sign is -/
noncomputable def esc (c : Nat) : List Nat := if c = 32 ∨ c = 92 ∨ c = 91 ∨ c = 93 ∨ c = 42 ∨ c = 45 then [92, c] else [c]
noncomputable def okcE (c : Nat) : Prop := c = 32 ∨ c = 97 ∨ c = 92 ∨ c = 39 ∨ c = 34 ∨ c = 93 ∨ c = 33 ∨ c = 45
section
variable {M : Model} {A : Around} {E : Value → Shared → Prop} {s : Shared} {x : Str} {t : Tok} {pl : Sem Bool} {Q : Value × List Value → Shared → Prop}
theorem gm_translate (h : Q (.builtin "str.translate", [.str x t]) s) : wpAny M A (getMethod (.str x t) "translate" pl) Q E s := by
  with_reducible exact GM.of (.str x t) (typeIs_str _ _ _) PySem.F.slot_str_translate PySem.F.type_str_translate GM.noRef h
end
section
variable {prog : Program} {w : World} {A : Around} {s : Shared} {h₀ : Heap} {L : Addr} {m : Str → Option Value} {news : List (Addr × Obj)} {Q E : Value → Shared → Prop} {c : Nat} {t : Tok}
theorem esc_tab (P : Params) (h : okcE c) : tabIs (Mine.KK P) 58 c (if (esc c).length = 1 then none else some (S (esc c))) = true := by
  rcases h with rfl | rfl | rfl | rfl | rfl | rfl | rfl | rfl <;> kernel_rfl
theorem tr_here (F : Fr h₀ L s.heap m) (X : (Mine.KK w.params).In h₀) (N : News h₀ L s.heap news) (hh : A.handled = none) (hc : okcE c)
    (h : ∀ t' h' tk, Fr h₀ L h' m → News h₀ L h' news → Q (.str (S (esc c)) t') { s with heap := h', toks := tk }) :
    wpAny (model prog w) A (call (.builtin "str.translate") [.str (S [c]) t, .ref 58]) Q E s := by
  obtain ⟨f, hm, hv⟩ := mapOf_of (prog := prog) (w := w) (X.keeps F.keep) (esc_tab w.params hc)
  have h128 : c < 128 := by unfold okcE at hc; omega
  by_cases e : (esc c).length = 1
  · rw [if_pos e] at hv
    have e2 : esc c = [c] := by
      unfold esc at e ⊢
      split
      · rename_i q; rw [if_pos q] at e; cases e
      · rfl
    rw [e2] at h
    exact trans_miss hm rfl hh h128 hv fun t' h' tk kp => h t' h' tk (fr_after F kp) (news_after N kp)
  · rw [if_neg e] at hv
    obtain ⟨u, hv⟩ := hv
    have e2 : esc c = [92, c] := by
      unfold esc at e ⊢
      split
      · rfl
      · rename_i q; rw [if_neg q] at e; exact absurd rfl e
    rw [e2] at h hv
    exact trans_hit hm h128 hv (by simp) (by simp) fun t' tk => h t' s.heap tk F N
end
theorem escape_one (w : World) (p : Program) (loose : List Str) (mean : ExcName → Option Value) (mg mb : Str → Option Value) (A : Around) (base g : Heap) (env : Env) (outer : List Env) (s : Shared) (Q E : Value → Shared → Prop) (tx : Tok) (c : Nat) (hc : okcE c)
    (C : At (Mine.KK w.params) p loose mean mg mb A base env outer g s.heap)
    (hhd : A.handled = none) (hdp : A.depth + 20 < recursionLimit) (hun : A.units + 200 < cLine)
    (ret : ∀ t h' tk', (∀ b o, g.get? b = some o → h'.get? b = some o) → Q (.str (S (esc c)) t) { s with heap := h', toks := tk' }) :
    wpAny (model PySem.Challenge.rw_ik0204_01.prog w) A (call (.ref 68) [.str (S [c]) tx]) Q E s := by
  have NA : Led g s.heap [] := fun q hq => nomatch hq
  have X := C.part
  revert X; k_fill; intro X
  obtain ⟨hd0, dp, fr, gd, un⟩ := A
  have hA := C.below.stack
  cases hA
  cases hhd
  dsimp only at hdp hun
  refine wpAny_call ?_
  k_dflt (refine' enter_def (news := []) C NA ?k6 ?k7 ?k8 ?k9 ?kB ?_ ?c2 ?c3 ?c4 ?c5)
  case k6 => k_is
  case k7 => k_is
  case k8 => ktr_room
  case k9 => first | exact BindsTo.of_eq rfl | exact binds_K (C.part.keeps C.sub) rfl (by k_is) rfl rfl rfl
  case kB => exact locs rfl
  case c2 => exact rfl
  case c3 => exact rfl
  case c4 => exact rfl
  case c5 => decide
  intro L' h' F' N' B' X' T'
  (try dsimp only)
  k_fold
  repeat' (first | (k_unfold; (try dsimp only)) | ((with_reducible show wpAny _ _ (call (Value.builtin "str.translate") _ _) _ _ _); with_reducible (k_here; k_dflt (refine' tr_here ?F_g0a ?X_g0a ?N_g0a ?hh_g0a ?hc_g0a ?_; (case F_g0a => k_asm); (case X_g0a => k_asm); (case N_g0a => k_asm); (case hh_g0a => rfl); (case hc_g0a => assumption); k_whole); intro _ _ _ _ _)) | ((with_reducible show wpAny _ _ (getMethod (Value.str _ _) _ _) _ _ _); with_reducible (k_here; with_reducible refine gm_translate ?_)) | walk1 | (dsimp only; walk1) | dsimp only)
  all_goals with_reducible rename Fr _ _ _ _ => F9
  all_goals exact ret _ _ _ F9.keep
end Mine
end
section
open PySem PySem.W PyProof.Rows PySem.Calls PySem.W.X PySem.W.XRun
set_option maxRecDepth 100000
set_option maxHeartbeats 4000000
namespace Mine
section
variable {prog : Program} {w : World} {A : Around} {s : Shared} {h₀ : Heap} {L R : Addr} {m : Str → Option Value} {news : List (Addr × Obj)} {Q E : Value → Shared → Prop} {tk : Tok}
noncomputable abbrev boundApp (R : Addr) : Obj := { cls := .type "builtin_function_or_method", data := .fields #[.builtin "list.append", .ref R] }
set_option hygiene false in
local macro_rules | `(tactic| x_close) => `(tactic| (exact hret _ _ _ (by assumption)))
theorem getapp_x (hu : A.units + 20 < cLine) (hd : A.depth + 3 < recursionLimit) (ho : s.heap.get? R = some ⟨.type "list", none, .seq #[] 0, #[]⟩) (hret : ∀ D h' t, Mem s.heap h' [] [(D, boundApp R)] → Q (.ref D) ⟨h', s.gens, s.drawn, t, s.os⟩) : wpAny (model prog w) A (call (.builtin "list.__getattribute__") [.ref R, .str "append" tk]) Q E s := by
  x_run
theorem handedOut_ref (D : Addr) : handedOut (.ref D) = pure (.ref D) := rfl
theorem getapp_any {e : Bool} (hu : A.units + 20 < cLine) (hd : A.depth + 3 < recursionLimit) (ho : s.heap.get? R = some ⟨.type "list", none, .seq #[] 0, #[]⟩) (hret : ∀ D h' t, Mem s.heap h' [] [(D, boundApp R)] → Q (.ref D) ⟨h', s.gens, s.drawn, t, s.os⟩) : wpAny (model prog w) A (getAttr (.ref R) "append" e) Q E s := by
  obtain ⟨h, g, d, t, os⟩ := s
  have hT : (⟨h, g, d, t + 1, os⟩ : Shared).TypeIs (.ref R) "list" := ⟨_, ho, rfl⟩
  unfold getAttr
  refine wpAny_bind (wpAny_mkText ?_)
  unfold getAttrBy
  refine wpAny_holding (wpAny_bind (wpAny_typeOf hT (wpAny_bind (wpAny_of_eq PySem.F.slot_list_getattribute.lookup ?_))))
  dsimp only
  show wpAny _ _ (getAttrByItsOwn _ _ _ _ _ _) _ _ _
  unfold getAttrByItsOwn
  refine wpAny_bind (wpAny_pure ?_)
  refine wpAny_bind (wpAny_attempt (wpAny_holding ?_))
  unfold callGetattribute
  rw [show (e && onTheHeap (Value.builtin "list.__getattribute__")) = false from by cases e <;> rfl]
  show wpAny _ _ (boundAndCalled _ _ _) _ _ _
  unfold boundAndCalled
  refine wpAny_bind (wpAny_of_eq (PySem.F.slot_list_getattribute.bind _) ?_)
  refine getapp_x hu hd ho fun D h' t M => ?_
  show wpAny _ _ (handedOut (.ref D)) _ _ _
  rw [handedOut_ref]
  exact wpAny_pure (hret D h' t M)
theorem getapp (F : Fr h₀ L s.heap m) (N : News h₀ L s.heap news) (hu : A.units + 20 < cLine) (hd : A.depth + 3 < recursionLimit) {e : Bool} (ho : (R, (⟨.type "list", none, .seq #[] 0, #[]⟩ : Obj)) ∈ news)
    (h : ∀ D h' t, Fr h₀ L h' m → News h₀ L h' ((D, boundApp R) :: news) → AllNeN D news → Q (.ref D) { s with heap := h', toks := t }) : wpAny (model prog w) A (getAttr (.ref R) "append" e) Q E s :=
  getapp_any hu hd (N _ ho).1 fun D h' t M => h D h' t (news_mem F N M).1 (news_mem F N M).2 (allNeN_of (apart_mem N M (.head _)))
end
end Mine
end
section
open PySem PySem.W PyProof.Rows PySem.Calls
set_option maxRecDepth 100000
set_option maxHeartbeats 4000000
namespace Mine
section
variable {prog : Program} {w : World} {A : Around} {s : Shared} {h₀ : Heap} {L R B : Addr} {m : Str → Option Value} {news news' : List (Addr × Obj)} {Q E : Value → Shared → Prop} {x : Value} {its : Array Value} {n : Nat}
theorem list_no_module : isSubtype (.type "list") (.type "module") = pure false := by rw [isSubtype_type]; kernel_rfl
theorem kind_append : builtinKind "list.append" = some .method := by decide +kernel
theorem sig_append : Manifest.signature? "list.append" = some ⟨.oneArg, "list.append", "append", .self, [⟨"object", .posOnly, true⟩]⟩ := by rw [PySem.W.Fast.signatureY_eq]; kernel_rfl
theorem add_at (hB : s.heap.get? B = some (boundApp R)) (hR : s.heap.get? R = some (W.listOf its n)) (h : ∀ h', Heap.SameBut R s.heap h' → h'.get? R = some (W.listOf (its.push x) (n + 1)) → Q .none { s with heap := h' }) (hsz : its.size ≤ sizeLine) : wpAny (model prog w) A (call (.ref B) [x]) Q E s := by
  have hT : s.TypeIs (.ref R) "list" := ⟨_, hR, rfl⟩
  refine wpAny_call (codeAny_of_tree ?_)
  show wpAny _ _ (callAny (.ref B) _) _ _ _
  refine nd_load hB ?_
  show wpAny _ _ (checkBoundCall "list.append" ⟨[.ref R, x], []⟩ >>= fun _ => again (.builtin "list.append" ⟨[.ref R, x], []⟩)) _ _ _
  refine wpAny_bind ?_
  unfold checkBoundCall
  rw [sig_append, kind_append]
  dsimp only
  rw [if_neg (by decide)]
  refine wpAny_bind (wpAny_isInstance hT list_no_module ?_)
  rw [show (Manifest.varargsMethods.contains "list.append" || false) = false from by decide +kernel]
  simp only [Bool.false_eq_true, if_false]
  refine wpAny_bind (wpAny_bind (nd_load hR (wpAny_pure ?_)))
  refine wpAny_pure ?_
  rw [if_neg Bool.false_ne_true]
  refine wpAny_bind (wpAny_typeOf hT ?_)
  dsimp only
  refine wpAny_of_eq (a := ()) (by kernel_rfl) ?_
  refine wpAny_pure (And.intro (Code.quiet_builtin _ (by decide +kernel)) (codeAny_builtin PySem.F.entry_list_append ?_))
  show wpAny _ _ (updateSeq R (·.push x) >>= fun _ => ret .none) _ _ _
  refine wpAny_bind (wpAny_updateSeq hR rfl (wpAny_pure ?_) hsz)
  refine h _ (Heap.SameBut.update ..) ?_
  rw [Heap.get?_update_self _ hR (by rw [Obj.mapSeq_push_plain]; rfl), Obj.mapSeq_push_plain]
theorem add_K (F : Fr h₀ L s.heap m) (N : News h₀ L s.heap news) (hB : (B, boundApp R) ∈ news) (U : Upd R (W.listOf its n) (W.listOf (its.push x) (n + 1)) news news')
    (h : ∀ h', Fr h₀ L h' m → News h₀ L h' news' → Q .none { s with heap := h' }) (hsz : its.size ≤ sizeLine) : wpAny (model prog w) A (call (.ref B) [x]) Q E s := by
  obtain ⟨pre, post, rfl, rfl, a, b⟩ := U.split
  have z := N (R, W.listOf its n) (List.mem_append.mpr (.inr (.head _)))
  exact add_at (N _ hB).1 z.1 (fun h' hs ho' => h h' (F.change hs z.2.1 z.2.2) (news_set N a b hs ho')) hsz
noncomputable def BAt (B R : Addr) (h : Heap) : Prop := h.get? B = some (boundApp R)
theorem BAt.of {h : Heap} (N : News h₀ L h news) (hB : (B, boundApp R) ∈ news) : BAt B R h := (N _ hB).1
theorem keeps_B {M : Model} (h : Heap) (X : BAt B R h) : ∃ k, (k = Keeper.frame ∨ k = Keeper.machine ∨ k = Keeper.boundFrame) ∧ Looks M h (keeperOf (.ref B)) k :=
  ⟨.machine, .inr (.inl rfl), (Looks.ld (part := none) X).andThen .now⟩
theorem callWith_B {M : Model} {pos : Pos} {first : List Value} {env : Env} {e : Expr} {rest : List Expr} (N : News h₀ L s.heap news) (hB : (B, boundApp R) ∈ news) (h : wpAny M A (spliced (backTo pos (starEach (e :: rest) env))) (fun vs s₁ => BAt B R s₁.heap ∧ wpAny M A (call (.ref B) (first ++ vs)) Q E s₁) E s)
    (he : starEach (e :: rest) env = (false, eval e env) :: starEach rest env := by rfl) (hplain : (backTo pos (starEach rest env)).any (·.1) = false := by rfl) :
    wpAny M A (callWith pos (.ref B) first (backTo pos (starEach (e :: rest) env)) []) Q E s := by
  rw [he] at h ⊢
  exact callWith_of (P := BAt B R) (by show ((false || (backTo pos (starEach rest env)).any (·.1)) || false) = false; rw [hplain]; rfl) keeps_B (evalArgs_plain h)
end
end Mine
end
section
open PySem PySem.W PyProof.Rows PySem.Calls
set_option maxRecDepth 100000
namespace Mine
/-- the first place from `k` on, of a right bracket -/
noncomputable def nextBr : Nat → List Nat → Option Nat
  | _, [] => none
  | 0, c :: r => if c = 93 then some 0 else (nextBr 0 r).map (· + 1)
  | k + 1, _ :: r => (nextBr k r).map (· + 1)
/-- where the search for the right bracket begins -/
noncomputable def brFrom (r : List Nat) : Nat :=
  let j := if r.head? = some 33 then 1 else 0
  if r[j]? = some 93 then j + 1 else j
noncomputable def brEnd (r : List Nat) : Option Nat := nextBr (brFrom r) r
/-- the first place from `k` on, of a minus -/
noncomputable def nextDash : Nat → List Nat → Option Nat
  | _, [] => none
  | 0, c :: r => if c = 45 then some 0 else (nextDash 0 r).map (· + 1)
  | k + 1, _ :: r => (nextDash k r).map (· + 1)
/-- the last chunk joined to those before it -/
noncomputable def lastChunk (acc : List (List Nat)) (y : List Nat) : List (List Nat) := if y ≠ [] then acc ++ [y] else acc.dropLast ++ [acc.getLastD [] ++ [45]]
/-- the chunks of a bracket's text: `i` begins the next one, the search for a minus goes from `k` -/
noncomputable def cut : Nat → List Nat → List (List Nat) → Nat → Nat → List (List Nat)
  | 0, x, acc, i, _ => lastChunk acc (x.drop i)
  | n + 1, x, acc, i, k => match nextDash k x with
    | none => lastChunk acc (x.drop i)
    | some d => cut n x (acc ++ [(x.drop i).take (d - i)]) (d + 1) (d + 3)
/-- the ranges that go backward are taken out -/
noncomputable def merge : List (List Nat) → List (List Nat)
  | [] => []
  | c :: r => match merge r with
    | [] => [c]
    | d :: r' => if d.headD 0 < c.getLastD 0 then (c.dropLast ++ d.tail) :: r' else c :: d :: r'
noncomputable abbrev bs1 : Str := Str.ofString "\\"
noncomputable abbrev bs2 : Str := Str.ofString "\\\\"
noncomputable abbrev dash1 : Str := Str.ofString "-"
noncomputable abbrev dash2 : Str := Str.ofString "\\-"
noncomputable def repl (x y z : Str) : Str := Txt.replace x y z
noncomputable def chunksOf (x : List Nat) : List (List Nat) := merge (cut x.length x [] 0 (if x.head? = some 33 then 2 else 1))
/-- a bracket's text, the special signs escaped -/
noncomputable def stuffOf (x : List Nat) : Str :=
  if x.contains 45 then Txt.join dash1 ((chunksOf x).map fun y => repl (repl (S y) bs1 bs2) dash1 dash2) else repl (S x) bs1 bs2
/-- a bracket's item, out of its escaped text -/
noncomputable def finish (st : Str) : Str :=
  if st.length = 0 then Str.ofString "(?!)" else if (st == Str.ofString "!") = true then Str.ofString "."
  else Str.ofString "[" ++ (if (Txt.item st 0 == Str.ofString "!") = true then Str.ofString "^" ++ Txt.slice st (some 1) none
    else if (Str.ofString "^" == Txt.item st 0 || Str.ofString "[" == Txt.item st 0) = true then Str.ofString "\\" ++ st else st) ++ Str.ofString "]"
noncomputable def itemOf (x : List Nat) : Str := finish (stuffOf x)
/-- what `_translate` makes of the signs left, behind what it has made -/
noncomputable def trans : Nat → List (Option Str) → List Nat → List (Option Str)
  | 0, acc, _ => acc
  | _ + 1, acc, [] => acc
  | n + 1, acc, c :: r =>
    if c = 42 then trans n (if acc.getLast? = some none then acc else acc ++ [none]) r
    else if c = 91 then match brEnd r with
      | none => trans n (acc ++ [some (Str.ofString "\\[")]) r
      | some k => trans n (acc ++ [some (itemOf (r.take k))]) (r.drop (k + 1))
    else trans n (acc ++ [some (S (esc c))]) r
noncomputable def ItemV : Option Str → Value → Prop
  | none, v => v = .none
  | some x, v => ∃ t, v = .str x t
inductive ItemsV : List (Option Str) → List Value → Prop
  | nil : ItemsV [] []
  | cons {a : Option Str} {v : Value} {as : List (Option Str)} {vs : List Value} : ItemV a v → ItemsV as vs → ItemsV (a :: as) (v :: vs)
theorem ItemsV.snoc {as : List (Option Str)} {vs : List Value} {a : Option Str} {v : Value} (h : ItemsV as vs) (hv : ItemV a v) : ItemsV (as ++ [a]) (vs ++ [v]) := by
  induction h with
  | nil => exact .cons hv .nil
  | cons h1 _ ih => exact .cons h1 ih
theorem ItemsV.length {as : List (Option Str)} {vs : List Value} (h : ItemsV as vs) : as.length = vs.length := by
  induction h with
  | nil => rfl
  | cons _ _ ih => simp [ih]
theorem ItemsV.last {as : List (Option Str)} {vs : List Value} (h : ItemsV as vs) : (as = [] ∧ vs = []) ∨ ∃ as' a vs' v, as = as' ++ [a] ∧ vs = vs' ++ [v] ∧ ItemV a v := by
  induction h with
  | nil => exact .inl ⟨rfl, rfl⟩
  | @cons a v as vs h1 h2 ih =>
    rcases ih with ⟨rfl, rfl⟩ | ⟨as', a', vs', v', rfl, rfl, h3⟩
    · exact .inr ⟨[], a, [], v, rfl, rfl, h1⟩
    · exact .inr ⟨a :: as', a', v :: vs', v', rfl, rfl, h3⟩
section
variable {prog : Program} {w : World} {A : Around} {E : Value → Shared → Prop} {Q : Flow → Shared → Prop} {s : Shared} {env : Env}
theorem with_toksQ {M : Model} {α : Type} {t : Sem α} {Q : α → Shared → Prop} {n : Nat} (hn : n ≤ s.toks) (h : wpAny M A t (fun a s' => n ≤ s'.toks → Q a s') E s) : wpAny M A t Q E s :=
  wpAny_with_toks hn (wpAny_mono h (fun _ _ x => x) fun _ _ x _ => x)
theorem cutT {M : Model} {α : Type} {t : Sem α} {Q : α → Shared → Prop} (R : α → Shared → Prop) (hn : 1 ≤ s.toks) (h : wpAny M A t (fun a s' => 1 ≤ s'.toks → R a s') E s) (k : ∀ a s', R a s' → Q a s') : wpAny M A t Q E s :=
  wpAny_mono (with_toksQ (n := 1) hn h) k fun _ _ x => x
/-- a statement ahead of others, the tokens never nought -/
theorem execs_consT {M : Model} {st : Stmt} {rest : List Stmt} {hp : Heap} {gs : Array GenState} {d : Drawn} {X : Nat} {os : OsState} (hn : 1 ≤ X)
    (h : ∀ tk, 1 ≤ tk → wpAny M A (exec st env) (fun f s' => 1 ≤ s'.toks → match f with | .next => wpAny M A (execs rest env) Q E s' | f => Q f s') E ⟨hp, gs, d, tk, os⟩) :
    wpAny M A (execs (st :: rest) env) Q E ⟨hp, gs, d, X, os⟩ := wpAny_execs_cons (with_toksQ (n := 1) hn (h X hn))
theorem execs_consTM {M : Model} {st : Stmt} {rest : List Stmt} {hp h₀ : Heap} {gs : Array GenState} {d : Drawn} {X : Nat} {os : OsState} {L : Addr} {m : Str → Option Value} (F : Fr h₀ L hp m) (hn : 1 ≤ X)
    (h : let m' := m; let qk := (fun f s' => 1 ≤ s'.toks → match f with | .next => wpAny M A (execs rest env) Q E s' | f => Q f s'); ∀ tk, 1 ≤ tk → Fr h₀ L hp m' → wpAny M A (exec st env) qk E ⟨hp, gs, d, tk, os⟩) :
    wpAny M A (execs (st :: rest) env) Q E ⟨hp, gs, d, X, os⟩ := wpAny_execs_cons (with_toksQ (n := 1) hn (h X hn F))
/-- where a turn's end goes on -/
inductive TurnEnd (J : Nat → Shared → Prop) (n : Nat) (s : Shared) : Prop
  | mk (n' : Nat) (q1 : n' < n) (q2 : J n' s) : TurnEnd J n s
/-- a while over the whole state -/
theorem While_S {test : Expr} {body : List Stmt} {pos : Pos} (J : Nat → Shared → Prop) {n₀ : Nat} (h0 : J n₀ s)
    (turn : ∀ n s₁, J n s₁ → wpAny (model prog w) A (isTrue test env (eval test env)) (fun b s₂ =>
        if b = true then wpAny (model prog w) A (execs body env) (fun f s₃ => match f with
          | .next | .cont => TurnEnd J n s₃
          | .brk => Q .next s₃
          | .ret v => Q (.ret v) s₃) E s₂ else Q .next s₂) E s₁)
    (hE : PassesOwn (model prog w) A env E := by passes_own) :
    wpAny (model prog w) A (exec (.While test body [] pos) env) Q E s := by
  refine wpAny_While (codeAny_whileLoop J ?_ n₀ h0)
  intro n s' J₁
  refine wpAny_mono (turn n s' J₁) (fun b s₂ h₂ => ?_) hE
  cases b with
  | false =>
    simp only [Bool.false_eq_true, if_false] at h₂ ⊢
    exact wpAny_execs_nil h₂
  | true =>
    simp only [if_true] at h₂ ⊢
    refine wpAny_mono h₂ (fun f s₃ h₃ => ?_) hE
    cases f with
    | next => exact (fun ⟨n', a, b⟩ => ⟨n', a, b⟩ : TurnEnd J n s₃ → ∃ n', n' < n ∧ J n' s₃) h₃
    | cont => exact (fun ⟨n', a, b⟩ => ⟨n', a, b⟩ : TurnEnd J n s₃ → ∃ n', n' < n ∧ J n' s₃) h₃
    | brk => exact h₃
    | ret v => exact h₃
end
end Mine
end
section
open PySem PySem.W PyProof.Rows PySem.Calls PySem.Builtin PySem.Builtin.Str PySem.StrLaws
set_option maxRecDepth 100000
set_option maxHeartbeats 4000000
namespace Mine
/-- the first hit in a range that ends ahead of the text's end -/
theorem occ_to (x y : Str) (lo hi : Nat) :
    (occurrences x y lo hi 1 = [] ∧ ∀ i, lo ≤ i → ¬ StrLaws.At x y hi i) ∨
    ∃ i r, occurrences x y lo hi 1 = i :: r ∧ lo ≤ i ∧ StrLaws.At x y hi i ∧ ∀ k, lo ≤ k → k < i → ¬ StrLaws.At x y hi k := by
  rw [occ_eq]
  rcases occ_first x y hi 1 (Nat.le_refl _) (List.range' lo (hi + 1 - lo)) lo (fun i h => (List.mem_range'_1.mp h).1) with ⟨h0, hn⟩ | ⟨pre, a, post, e, h0, ha, hn⟩
  · exact .inl ⟨by rw [h0], fun i h1 h2 => hn i (by have := h2.1; rw [List.mem_range'_1]; omega) h2⟩
  · have hs := range'_split_from e
    generalize (forIn (List.range' lo (hi + 1 - lo)) ((#[] : Array Nat), lo) (occBody x y hi 1)).run.fst = arr at h0
    cases hL : arr.toList with
    | nil =>
      have h1 : arr.toList[0]? = some a := by simpa using h0
      rw [hL] at h1; cases h1
    | cons b t =>
      have h1 : arr.toList[0]? = some a := by simpa using h0
      rw [hL] at h1
      cases h1
      exact .inr ⟨a, t, rfl, hs.1, ha, fun k h1 h2 => hn k (hs.2 k h1 h2)⟩
theorem at_one {l : List Nat} {c hi i : Nat} (hhi : hi ≤ l.length) : StrLaws.At (S l) (S [c]) hi i ↔ i < hi ∧ l[i]? = some c := by
  have z := subAt_one (S l) c i
  have e : (S [c]).length = 1 := rfl
  have e2 : (S l).length = l.length := S_length l
  show (i + (S [c]).length ≤ hi ∧ subAt (S l) (S [c]) i = true) ↔ _
  constructor
  · rintro ⟨h1, h2⟩
    exact ⟨by omega, z.mp ⟨by show i + (S [c]).length ≤ _; omega, h2⟩⟩
  · rintro ⟨h1, h2⟩
    exact ⟨by omega, (z.mpr h2).2⟩
/-- the place of the first minus in a part of a text -/
noncomputable def dashIn (l : List Nat) (k j : Nat) (r : Int) : Prop :=
  (r = -1 ∧ ∀ i, k ≤ i → i < j → l[i]? ≠ some 45) ∨ ∃ d : Nat, r = d ∧ k ≤ d ∧ d < j ∧ l[d]? = some 45 ∧ ∀ i, k ≤ i → i < d → l[i]? ≠ some 45
theorem nextDash_spec : ∀ (k : Nat) (x : List Nat), (nextDash k x = none ∧ ∀ i, k ≤ i → x[i]? ≠ some 45) ∨ ∃ d, nextDash k x = some d ∧ k ≤ d ∧ x[d]? = some 45 ∧ ∀ i, k ≤ i → i < d → x[i]? ≠ some 45
  | k, [] => by cases k <;> exact .inl ⟨rfl, fun i _ h => by simp at h⟩
  | 0, c :: r => by
    unfold nextDash
    by_cases hc : c = 45
    · rw [if_pos hc]
      exact .inr ⟨0, rfl, Nat.le_refl _, by rw [hc]; rfl, fun i _ h => absurd h (Nat.not_lt_zero _)⟩
    · rw [if_neg hc]
      rcases nextDash_spec 0 r with ⟨e, h⟩ | ⟨d, e, h1, h2, h3⟩
      · rw [e]
        refine .inl ⟨rfl, fun i _ z => ?_⟩
        cases i with
        | zero => exact hc (by simpa using z)
        | succ i => exact h i (Nat.zero_le _) (by simpa using z)
      · rw [e]
        refine .inr ⟨d + 1, rfl, Nat.zero_le _, by simpa using h2, fun i _ hi z => ?_⟩
        cases i with
        | zero => exact hc (by simpa using z)
        | succ i => exact h3 i (Nat.zero_le _) (by omega) (by simpa using z)
  | k + 1, c :: r => by
    unfold nextDash
    rcases nextDash_spec k r with ⟨e, h⟩ | ⟨d, e, h1, h2, h3⟩
    · rw [e]
      refine .inl ⟨rfl, fun i hi z => ?_⟩
      cases i with
      | zero => omega
      | succ i => exact h i (by omega) (by simpa using z)
    · rw [e]
      refine .inr ⟨d + 1, rfl, by omega, by simpa using h2, fun i hk hi z => ?_⟩
      cases i with
      | zero => omega
      | succ i => exact h3 i (by omega) (by omega) (by simpa using z)
theorem nextBr_spec : ∀ (k : Nat) (x : List Nat), (nextBr k x = none ∧ ∀ i, k ≤ i → x[i]? ≠ some 93) ∨ ∃ d, nextBr k x = some d ∧ k ≤ d ∧ x[d]? = some 93 ∧ ∀ i, k ≤ i → i < d → x[i]? ≠ some 93
  | k, [] => by cases k <;> exact .inl ⟨rfl, fun i _ h => by simp at h⟩
  | 0, c :: r => by
    unfold nextBr
    by_cases hc : c = 93
    · rw [if_pos hc]
      exact .inr ⟨0, rfl, Nat.le_refl _, by rw [hc]; rfl, fun i _ h => absurd h (Nat.not_lt_zero _)⟩
    · rw [if_neg hc]
      rcases nextBr_spec 0 r with ⟨e, h⟩ | ⟨d, e, h1, h2, h3⟩
      · rw [e]
        refine .inl ⟨rfl, fun i _ z => ?_⟩
        cases i with
        | zero => exact hc (by simpa using z)
        | succ i => exact h i (Nat.zero_le _) (by simpa using z)
      · rw [e]
        refine .inr ⟨d + 1, rfl, Nat.zero_le _, by simpa using h2, fun i _ hi z => ?_⟩
        cases i with
        | zero => exact hc (by simpa using z)
        | succ i => exact h3 i (Nat.zero_le _) (by omega) (by simpa using z)
  | k + 1, c :: r => by
    unfold nextBr
    rcases nextBr_spec k r with ⟨e, h⟩ | ⟨d, e, h1, h2, h3⟩
    · rw [e]
      refine .inl ⟨rfl, fun i hi z => ?_⟩
      cases i with
      | zero => omega
      | succ i => exact h i (by omega) (by simpa using z)
    · rw [e]
      refine .inr ⟨d + 1, rfl, by omega, by simpa using h2, fun i hk hi z => ?_⟩
      cases i with
      | zero => omega
      | succ i => exact h3 i (by omega) (by omega) (by simpa using z)
theorem brFrom_yes {l : List Nat} {o j : Nat} (h : j = o + if l[o]? = some 33 then 1 else 0) (h2 : l[j]? = some 93) : o + brFrom (l.drop o) = j + 1 := by
  unfold brFrom
  rw [List.head?_drop]
  dsimp only
  rw [List.getElem?_drop, ← h, if_pos h2, ← Nat.add_assoc, ← h]
theorem brFrom_no {l : List Nat} {o j : Nat} (h : j = o + if l[o]? = some 33 then 1 else 0) (h2 : l[j]? ≠ some 93) : o + brFrom (l.drop o) = j := by
  unfold brFrom
  rw [List.head?_drop]
  dsimp only
  rw [List.getElem?_drop, ← h, if_neg h2, ← h]
theorem brEnd_none {l : List Nat} {o : Nat} (h : ∀ i, o + brFrom (l.drop o) ≤ i → l[i]? ≠ some 93) : brEnd (l.drop o) = none := by
  rcases nextBr_spec (brFrom (l.drop o)) (l.drop o) with ⟨e, _⟩ | ⟨d, e, h1, h2, _⟩
  · exact e
  · rw [List.getElem?_drop] at h2
    exact absurd h2 (h _ (by omega))
theorem brEnd_some {l : List Nat} {o j : Nat} (h0 : o + brFrom (l.drop o) ≤ j) (h1 : l[j]? = some 93) (h : ∀ i, o + brFrom (l.drop o) ≤ i → i < j → l[i]? ≠ some 93) : brEnd (l.drop o) = some (j - o) := by
  rcases nextBr_spec (brFrom (l.drop o)) (l.drop o) with ⟨_, hn⟩ | ⟨d, e, d1, d2, d3⟩
  · have z := hn (j - o) (by omega)
    rw [List.getElem?_drop, show o + (j - o) = j by omega] at z
    exact absurd h1 z
  · rw [List.getElem?_drop] at d2
    have e2 : d = j - o := by
      rcases Nat.lt_trichotomy d (j - o) with q | q | q
      · exact absurd d2 (h (o + d) (by omega) (by omega))
      · exact q
      · have z := d3 (j - o) (by omega) q
        rw [List.getElem?_drop, show o + (j - o) = j by omega] at z
        exact absurd h1 z
    rw [← e2]
    exact e
theorem part_at {l : List Nat} {o j i : Nat} (hi : o + i < j) : ((l.drop o).take (j - o))[i]? = l[o + i]? := by
  rw [List.getElem?_take, if_pos (by omega), List.getElem?_drop]
theorem part_none {l : List Nat} {o j i : Nat} (hi : j ≤ o + i) : ((l.drop o).take (j - o))[i]? = none := by
  rw [List.getElem?_take, if_neg (by omega)]
theorem dash_part {l : List Nat} {o j k : Nat} {r : Int} (h : dashIn l (o + k) j r) :
    (r < 0 ∧ nextDash k ((l.drop o).take (j - o)) = none) ∨ ∃ d, r = ((o + d : Nat) : Int) ∧ o + d < j ∧ k ≤ d ∧ nextDash k ((l.drop o).take (j - o)) = some d := by
  rcases nextDash_spec k ((l.drop o).take (j - o)) with ⟨e, hn⟩ | ⟨d, e, h1, h2, h3⟩
  · rcases h with ⟨rfl, _⟩ | ⟨d, rfl, d1, d2, d3, d4⟩
    · exact .inl ⟨by omega, e⟩
    · exfalso
      refine hn (d - o) (by omega) ?_
      rw [part_at (by omega), show o + (d - o) = d by omega]
      exact d3
  · have hd : o + d < j := by
      rcases Nat.lt_or_ge (o + d) j with q | q
      · exact q
      · rw [part_none q] at h2; cases h2
    rw [part_at hd] at h2
    rcases h with ⟨rfl, hn⟩ | ⟨d', rfl, d1, d2, d3, d4⟩
    · exact absurd h2 (hn (o + d) (by omega) hd)
    · have e1 : d' = o + d := by
        rcases Nat.lt_trichotomy d' (o + d) with q | q | q
        · exfalso
          refine h3 (d' - o) (by omega) (by omega) ?_
          rw [part_at (by omega), show o + (d' - o) = d' by omega]
          exact d3
        · exact q
        · exact absurd h2 (d4 (o + d) (by omega) q)
      exact .inr ⟨d, by rw [e1], hd, h1, e⟩
theorem repl_len (x y z : Str) : (repl x y z).length ≤ x.length + (x.length + 1) * z.length := by
  unfold repl Txt.replace
  split
  · exact Nat.le_add_right _ _
  · have h1 := StrLaws.occ_length_le x y 0 x.length (x.length + 1)
    have hy : (glued y (partsBetween x (occurrences x y 0 x.length (x.length + 1)) y.length)).length = x.length := by rw [StrLaws.glued_between_self]
    rw [size_glued, length_partsBetween, Nat.add_sub_cancel] at hy
    rw [size_glued, length_partsBetween, Nat.add_sub_cancel]
    have h2 : (occurrences x y 0 x.length (x.length + 1)).length * z.length ≤ (x.length + 1) * z.length := Nat.mul_le_mul_right _ h1
    omega
section
variable {prog : Program} {w : World} {A : Around} {s : Shared} {Q E : Value → Shared → Prop} {l : List Nat} {k j : Int} {t u a b : Tok}
theorem gives_find4 (x y : Str) (i e : Int) (t u v z : Tok) (h0 : 0 ≤ i) (h1 : 0 ≤ e) (h2 : e.toNat ≤ x.length) : Gives («str.find» ⟨[.str x t, .str y u, .int i v, .int e z], []⟩) (.int (match occurrences x y i.toNat e.toNat 1 with | k :: _ => (k : Int) | [] => -1)) := by
  have e1 : (max 0 (if i < 0 then i + x.length else i)).toNat = i.toNat := by rw [if_neg (by omega), Int.max_eq_right h0]
  have e2 : min (max 0 (if e < 0 then e + x.length else e)).toNat x.length = e.toNat := by rw [if_neg (by omega), Int.max_eq_right h1]; exact Nat.min_eq_left h2
  show Gives (match occurrences x y (max 0 (if i < 0 then i + x.length else i)).toNat (min (max 0 (if e < 0 then e + x.length else e)).toNat x.length) 1 with | k :: _ => retInt k | [] => (do rule "str.find.not-found"; retInt (-1))) _
  rw [e1, e2]
  cases occurrences x y i.toNat e.toNat 1 with
  | nil => exact .rule (.of_eq rfl)
  | cons k _ => exact .of_eq rfl
theorem find4 (h0 : 0 ≤ k) (h1 : 0 ≤ j) (h2 : j.toNat ≤ l.length) (h : ∀ r t' tk, dashIn l k.toNat j.toNat r → Q (.int r t') { s with toks := tk }) :
    wpAny (model prog w) A (call (.builtin "str.find") [.str (S l) t, .str (S [45]) u, .int k a, .int j b]) Q E s := by
  refine call_gives PySem.F.slot_str_find (typeIs_str _ _ _) PySem.F.entry_str_find (PySem.F.args_str_find_4 _ _ _ _) (gives_find4 (S l) (S [45]) k j t u a b h0 h1 (by rw [S_length]; exact h2)) (h _ _ _ ?_)
  rcases occ_to (S l) (S [45]) k.toNat j.toNat with ⟨e, hn⟩ | ⟨i, r, e, h3, h4, h5⟩
  · rw [e]
    exact .inl ⟨rfl, fun i hi hj z => hn i hi ((at_one (c := 45) h2).mpr ⟨hj, z⟩)⟩
  · rw [e]
    have z := (at_one (c := 45) h2).mp h4
    exact .inr ⟨i, rfl, h3, z.1, z.2, fun v hv hvi y => h5 v hv hvi ((at_one (c := 45) h2).mpr ⟨by omega, y⟩)⟩
end
end Mine
end
section
open PySem PySem.W PyProof.Rows PySem.Calls PySem.Builtin PySem.Builtin.Re
set_option maxRecDepth 100000
set_option maxHeartbeats 4000000
namespace Mine
/-- the words of the program's one pattern -/
noncomputable abbrev reCode : Array Nat := #[14, 14, 4, 1, 1, 9, 0, 64, 0, 1342177280, 0, 0, 0, 0, 0, 17, 0, 13, 11, 9, 0, 64, 0, 1342177280, 0, 0, 0, 0, 0, 17, 1, 1]
theorem not_in {c : Nat} (h : okc c) (seen : Sre.Seen) : ∃ seen', Sre.inSet reCode c reCode.size 5 true seen = .ok (false, seen') := by
  rcases h with rfl | rfl | rfl | rfl | rfl | rfl | rfl | rfl | rfl | rfl <;> exact ⟨_, rfl⟩
theorem admitted_none (m : Sre.M) (hc : m.code = reCode) (ht : ∀ i, i < m.lim → okc (m.text.getD i 0)) : ∀ (fuel s : Nat) (seen : Sre.Seen), ∃ seen', Sre.M.admitted m fuel s seen = .ok (none, seen')
  | 0, s, seen => ⟨_, rfl⟩
  | fuel + 1, s, seen => by
    unfold Sre.M.admitted
    by_cases h : s ≥ m.lim
    · rw [if_pos h]; exact ⟨_, rfl⟩
    · rw [if_neg h, hc]
      obtain ⟨s1, e1⟩ := not_in (ht s (by omega)) seen
      rw [e1]
      exact admitted_none m hc ht fuel (s + 1) s1
theorem attempt_no (m : Sre.M) (hc : m.code = reCode) (ht : ∀ i, i < m.lim → okc (m.text.getD i 0)) (hf : m.frames = []) (ho : m.outcome = none) (s : Nat) (b : Bool) :
    (m.attemptFrom s b).answer = some false ∧ (m.attemptFrom s b).frames = [] ∧ (m.attemptFrom s b).outcome = none := by
  have e1 : m.hasFirstSet = true := by unfold Sre.M.hasFirstSet; rw [hc]; rfl
  obtain ⟨seen', e2⟩ := admitted_none m hc ht (m.lim + 1 - s) s m.seen
  unfold Sre.M.attemptFrom
  rw [e1, e2]
  exact ⟨rfl, hf, ho⟩
theorem search_no {text : Array Nat} (ht : ∀ i, i < text.size → okc (text.getD i 0)) : ∃ m, Sre.forSearch reCode text 1 0 text.size false = m ∧ m.answer = some false ∧ m.frames = [] ∧ m.outcome = none := by
  refine ⟨_, rfl, ?_⟩
  unfold Sre.forSearch
  dsimp only
  split
  · exact ⟨rfl, rfl, rfl⟩
  · exact attempt_no _ rfl ht rfl rfl 0 true
theorem run_no {m : Sre.M} (h1 : m.answer = some false) (h2 : m.frames = []) (h3 : m.outcome = none) : m.runFor 4 = { m with outcome := some .failed } := by
  have e : m.step = { m with outcome := some .failed } := by
    unfold Sre.M.step
    rw [h3, h1, h2]
    rfl
  show (if m.outcome.isSome then m else Sre.M.runFor 3 m.step) = _
  rw [h3, e]
  rfl
section
variable {M : Model} {A : Around} {E : Value → Shared → Prop} {s : Shared}
theorem rules_skip {f : Nat → Bool} {g : Nat → String} {Q : PUnit → Shared → Prop} (h : Q ⟨⟩ s) : ∀ l : List Nat, wpAny M A (forIn (m := Sem) l PUnit.unit (fun i _ => if f i = true then do rule (g i); pure (ForInStep.yield PUnit.unit) else pure (ForInStep.yield PUnit.unit))) Q E s
  | [] => wpAny_pure h
  | i :: l => by
    rw [List.forIn_cons]
    refine wpAny_bind ?_
    by_cases q : f i = true
    · rw [if_pos q]
      exact wpAny_bind (wpAny_rule (wpAny_pure (rules_skip h l)))
    · rw [if_neg q]
      exact wpAny_pure (rules_skip h l)
theorem runToEnd_no {m : Sre.M} {Q : Option Sre.M → Shared → Prop} (h1 : m.answer = some false) (h2 : m.frames = []) (h3 : m.outcome = none) (h : Q none s) : wpAny M A (reRunToEnd m) Q E s := by
  unfold reRunToEnd
  have e : reDrive (2 ^ 64) m = pure { m with outcome := some .failed } := by
    show reDrive ((2 ^ 64 - 1) + 1) m = _
    unfold reDrive
    rw [show reTurnSteps = 4 from rfl, run_no h1 h2 h3]
    rfl
  rw [e]
  refine wpAny_bind (wpAny_pure ?_)
  refine wpAny_bind (rules_skip ?_ _)
  exact wpAny_pure h
end
end Mine
end
section
open PySem PySem.W PyProof.Rows PySem.Calls PySem.Builtin PySem.Builtin.Re
set_option maxRecDepth 100000
set_option maxHeartbeats 4000000
namespace Mine
noncomputable abbrev patO (t u : Tok) (a : Addr) : Obj := { cls := .type "re.Pattern", data := .fields #[.str (Str.ofString "([&~|])") t, .int 32 u, .int 1 0, .none, .none, .ref a, .int 0 0] }
theorem plain_pat : PlainAttrs "re.Pattern" :=
  ⟨⟨"object.__getattribute__", by rw [typeLookup_type, builtinLookup_eq_fast]; kernel_rfl, F.canon_object_ga⟩, by rw [typeLookup_type, builtinLookup_eq_fast]; kernel_rfl⟩
theorem slot_sub : Slot "re.Pattern" "sub" "re.Pattern.sub" :=
  .of (owner := "re.Pattern") (n := "sub") (by rw [typeLookup_type, builtinLookup_eq_fast]; kernel_rfl) (by decide +kernel) (by decide +kernel) (by decide +kernel)
    (.inr (by rw [PySem.W.Fast.findY_eq]; kernel_rfl)) (by rw [isSubtype_type]; kernel_rfl)
theorem type_sub : typeOf (.builtin "re.Pattern.sub") = pure (.type "method_descriptor") := by show builtinType _ = _; rw [builtinType_eq_fast]; kernel_rfl
theorem entry_sub : entryFor table "re.Pattern.sub" = some Builtin.«re.Pattern.sub» := entryFor_of_tree (by kernel_rfl)
theorem entry_loop : entryFor table "re.Pattern.sub.loop" = some Builtin.«re.Pattern.sub.loop» := entryFor_of_tree (by kernel_rfl)
theorem fn_call : typeLookup (.type "function") "__call__" = pure (some (.builtin "function.__call__")) := by rw [typeLookup_type, builtinLookup_eq_fast]; kernel_rfl
theorem str_no_barr : isSubtype (.type "str") (.type "bytearray") = pure false := by rw [isSubtype_type]; kernel_rfl
section
variable {prog : Program} {w : World} {A : Around} {s : Shared} {E : Value → Shared → Prop} {a b lam : Addr} {t u ty : Tok} {y : Str} {its : Array Value} {n : Nat}
theorem target {Q : ReTarget → Shared → Prop} (hp : s.heap.get? a = some (patO t u b)) {o : Obj} (hb : s.heap.get? b = some o) (hd : o.data = .seq its n) (hi : (its.map reRawOf).map (·.toNat) = reCode)
    (h : Q { pattern := .ref a, string := .str y ty, code := reCode, text := y.cps, kind := 0, groups := 1, pos := 0, lim := y.cps.size } s) : wpAny (model prog w) A (reWholeTarget (.ref a) (.str y ty)) Q E s := by
  unfold reWholeTarget
  refine wpAny_bind (wpAny_bind (wpAny_load hp (wpAny_pure ?_)))
  refine wpAny_bind (wpAny_pure ?_)
  dsimp only
  have e6 : reRawNat ((#[.str (Str.ofString "([&~|])") t, .int 32 u, .int 1 0, .none, .none, .ref b, .int 0 0] : Array Value).getD 6 .none) = 0 := rfl
  rw [e6, if_neg (by decide), if_neg (by decide)]
  refine wpAny_bind (wpAny_pure ?_)
  refine wpAny_bind (wpAny_bind (wpAny_bind (wpAny_load hb ?_)))
  rw [hd]
  refine wpAny_pure (wpAny_pure ?_)
  refine wpAny_pure ?_
  show Q { pattern := .ref a, string := .str y ty, code := (its.map reRawOf).map (·.toNat), text := y.cps, kind := 0, groups := 1, pos := 0, lim := y.cps.size } s
  rw [hi]
  exact h
theorem slice_all' {x : Array Nat} (h : x.size = 0) : (⟨x.extract 0 0⟩ : Str).length = 0 := by simp [Str.length]
theorem slice_all (x : Array Nat) : x.extract 0 x.size = x := by simp
theorem join_same {Q : Value → Shared → Prop} {p : Addr} {j : Str} {tj tx : Tok} {c : Nat} (hp : s.heap.get? p = some ⟨.type "list", none, .seq #[.str y tx] c, #[]⟩) (h : Q (.str y tx) s) : wpAny (model prog w) A (call (.builtin "str.join") [.str j tj, .ref p]) Q E s := by
  refine wpAny_call_entry PySem.F.slot_str_join (typeIs_str _ _ _) PySem.F.entry_str_join ?_ (PySem.F.args_str_join_2 _ _)
  unfold Builtin.«str.join»
  refine wpAny_bind (wpAny_pure ?_)
  dsimp only
  refine wpAny_bind (wpAny_typeOf (T := "list") ⟨_, hp, rfl⟩ ?_)
  rw [if_pos (by decide)]
  refine wpAny_bind (wpAny_bind (wpAny_bind (wpAny_load hp (wpAny_pure ?_))))
  dsimp only
  refine wpAny_pure ?_
  dsimp only
  refine wpAny_bind (wpAny_pure ?_)
  dsimp only
  rw [show Str.isExactStr (.str y tx) = true from rfl, if_pos rfl]
  exact wpAny_bind (wpAny_rule (wpAny_pure ⟨_, rfl, h⟩))
theorem loop_no {Q : Fin → Shared → Prop} (hp : s.heap.get? a = some (patO t u b)) {o : Obj} (hb : s.heap.get? b = some o) (hd : o.data = .seq its n) (hi : (its.map reRawOf).map (·.toNat) = reCode)
    (hy : ∀ i, i < y.cps.size → okc (y.cps.getD i 0)) (hsz : y.cps.size < 1000000) {p : Addr} (hl : s.heap.get? p = some ⟨.type "list", none, .seq #[] 0, #[]⟩)
    (h : ∀ t' h' tk, (∀ b o, b ≠ p → s.heap.get? b = some o → h'.get? b = some o) → Q (.done (.ret (.str y t'))) { s with heap := h', toks := tk }) :
    wpAny (model prog w) A (Builtin.«re.Pattern.sub.loop» ⟨[.ref a, .str y ty, .ref lam, rawInt 1, rawInt 0, rawInt 0, rawInt 0, rawInt 0, .bool false, .ref p, .bool false], []⟩) Q E s := by
  obtain ⟨m, e, h1, h2, h3⟩ := search_no hy
  unfold Builtin.«re.Pattern.sub.loop»
  dsimp only [rawInt]
  refine wpAny_bind (target hp hb hd hi ?_)
  dsimp only
  rw [if_neg (by decide)]
  refine wpAny_bind ?_
  rw [if_neg (by decide)]
  show wpAny _ _ (reRunToEnd (Sre.forSearch reCode y.cps 1 0 y.cps.size false)) _ _ _
  rw [e]
  refine runToEnd_no h1 h2 h3 ?_
  dsimp only
  have hz : Int.toNat 0 = 0 := rfl
  rw [hz]
  by_cases q : 0 < y.cps.size
  · rw [if_pos q]
    have hz2 : (⟨y.cps.extract 0 y.cps.size⟩ : Str) = y := by rw [slice_all]
    have hln : y.length ≤ sizeLine := by rw [sizeLine_eq]; show y.cps.size ≤ _; omega
    refine wpAny_bind (wpAny_mkStr ?_ (by rw [hz2]; exact hln))
    rw [hz2]
    refine wpAny_bind (wpAny_updateSeq hl rfl ?_ (by simp))
    have hg : (s.heap.update p fun o => Obj.mapSeq (fun x => x.push (.str y s.toks)) o).get? p = some ⟨.type "list", none, .seq #[.str y s.toks] 1, #[]⟩ := by
      rw [Heap.get?_update_self _ hl (by rw [Obj.mapSeq_push_plain]; rfl), Obj.mapSeq_push_plain]
      rfl
    have hk : ∀ b o, b ≠ p → s.heap.get? b = some o → (s.heap.update p fun o => Obj.mapSeq (fun x => x.push (.str y s.toks)) o).get? b = some o := fun b o hb e => (Heap.get?_update_other _ _ (Ne.symm hb)).trans e
    refine wpAny_bind (wpAny_mkStr ?_ (by simp [Str.length]))
    refine wpAny_bind (wpAny_bind (wpAny_load hg (wpAny_pure ?_)))
    rw [show ((some #[Value.str y s.toks]).getD #[]).isEmpty = false from rfl, if_neg Bool.false_ne_true]
    refine wpAny_bind (join_same hg ?_)
    rw [if_neg Bool.false_ne_true]
    exact wpAny_pure (h _ _ _ hk)
  · rw [if_neg q]
    have hy0 : y = ⟨#[]⟩ := by
      have : y.cps = #[] := Array.eq_empty_of_size_eq_zero (by omega)
      cases y; cases this; rfl
    refine wpAny_bind (wpAny_mkStr ?_ (by rw [slice_all' (by omega)]; exact Nat.zero_le _))
    refine wpAny_bind (wpAny_bind (wpAny_load hl (wpAny_pure ?_)))
    rw [show ((some (#[] : Array Value)).getD #[]).isEmpty = true from rfl, if_pos rfl]
    refine wpAny_bind (wpAny_pure ?_)
    rw [if_neg Bool.false_ne_true]
    refine wpAny_pure ?_
    have z := h s.toks s.heap (s.toks + 1) fun _ _ _ e => e
    rw [hy0] at z ⊢
    exact z
theorem sub_no {Q : Value → Shared → Prop} (hp : s.heap.get? a = some (patO t u b)) {o : Obj} (hb : s.heap.get? b = some o) (hd : o.data = .seq its n) (hi : (its.map reRawOf).map (·.toNat) = reCode)
    (hy : ∀ i, i < y.cps.size → okc (y.cps.getD i 0)) (hsz : y.cps.size < 1000000) (hf : s.TypeIs (.ref lam) "function")
    (h : ∀ t' h' tk, (∀ b o, s.heap.get? b = some o → h'.get? b = some o) → Q (.str y t') { s with heap := h', toks := tk }) :
    wpAny (model prog w) A (call (.builtin "re.Pattern.sub") [.ref a, .ref lam, .str y ty]) Q E s := by
  refine wpAny_call (codeAny_call_builtin slot_sub.plain entry_sub (slot_sub.check _ _ _ _ _ _ _ _ ⟨_, hp, rfl⟩ (by unfold argsOk; kernel_rfl) ?_))
  show wpAny _ _ (reSubstitute "re.Pattern.sub" "sub" false _) _ _ _
  unfold reSubstitute
  dsimp only
  refine wpAny_bind (wpAny_of_eq (a := [some (.ref lam), some (.str y ty), none]) (by kernel_rfl) ?_)
  dsimp only
  refine wpAny_bind (wpAny_pure ?_)
  refine wpAny_bind (wpAny_specialOf hf fn_call ?_)
  simp only [Option.isSome_some, if_true]
  refine wpAny_bind (wpAny_pure ?_)
  refine wpAny_bind (wpAny_pure ?_)
  dsimp only
  refine wpAny_bind (wpAny_holding (target hp hb hd hi ?_))
  rw [if_pos (by decide)]
  refine wpAny_bind ?_
  unfold reNotHeld
  refine wpAny_bind (wpAny_isInstance (T := "str") (typeIs_str _ _ _) str_no_barr ?_)
  rw [if_neg Bool.false_ne_true]
  refine wpAny_pure ?_
  refine wpAny_bind (wpAny_newList ?_ (by simp))
  refine wpAny_pure (And.intro (Code.quiet_builtin _ (by decide +kernel)) (codeAny_builtin entry_loop ?_))
  have hl : (s.heap.push { cls := .type "list", data := .seq #[] }).get? s.heap.objs.size = some ⟨.type "list", none, .seq #[] 0, #[]⟩ := Heap.get?_push_size _ rfl
  refine loop_no (Heap.get?_push_of_some _ hp) (Heap.get?_push_of_some _ hb) hd hi hy hsz hl fun t' h' tk kp => ?_
  exact h t' h' tk fun b o e => kp b o (fun q => by rw [q] at e; exact Nat.lt_irrefl _ (Heap.lt_size e)) (Heap.get?_push_of_some _ e)
end
end Mine
end
section
open PySem PySem.W PyProof.Rows PySem.Calls
set_option maxRecDepth 100000
set_option maxHeartbeats 4000000
namespace Mine
section
variable {M : Model} {A : Around} {E : Value → Shared → Prop} {s : Shared} {h₀ : Heap} {L a c P : Addr} {m mg mb : Str → Option Value} {cn : Str} {cs : Scope} {ccd : Value} {cl : List (Str × Addr)} {news : List (Addr × Obj)} {g : Obj → List (Addr × Obj)}
  {p : Program} {loose : List Str} {mean : ExcName → Option Value} {params : Arguments} {body : Expr} {scope : Scope} {ps : Array Value} {pos : Pos} {clos : List (Str × Addr)}
theorem news_drop2 {h : Heap} {x y : Addr × Obj} {l : List (Addr × Obj)} (N : News h₀ L h (x :: y :: l)) : News h₀ L h (x :: l) := fun q hq => N q (by
  rcases List.mem_cons.mp hq with rfl | hq
  · exact .head _
  · exact .tail _ (.tail _ hq))
/-- a lambda is made: its code stands in the table already, or is laid there -/
theorem lam_any {Q : Value → Shared → Prop} (F : Fr h₀ L s.heap m) (N : News h₀ L s.heap news) (T : Top p loose mean mg mb h₀) (C : CodeHd h₀ c P) (hcd : ccd = .ref c) (U : UpdF P (tabObj ps) news g) (ht : TriplesOk ps.toList)
    (hcl : closureFor scope (envX cn cs L a ccd cl) = pure clos) (hdef : defaultsOf params (envX cn cs L a ccd cl) = ([], []))
    (h : ∀ f o ps' h' tk, TriplesOk ps'.toList → o.cls = .type "function" → Fr h₀ L h' m → News h₀ L h' ((f, o) :: g (tabObj ps')) → (∀ q ∈ news, q.1 < f) → Q (.ref f) { s with heap := h', toks := tk }) :
    wpAny M A (eval (.Lambda params body scope pos) (envX cn cs L a ccd cl)) Q E s := by
  refine kla_eval hdef ?_
  obtain ⟨own, rest, e1, hgr, h1, h2⟩ := U.split
  cases hq : codeAmong pos ps.toList with
  | none =>
    refine kla_nest F N T C hcd U ht hq hcl fun f c' oc vs t ctv h' tk F' N' _ _ l1 l2 => ?_
    refine h f _ _ h' tk ?c1 ?c2 F' (news_drop2 N') fun q hq => Nat.lt_trans (l1 q hq) l2
    case c2 => rfl
    case c1 =>
      rw [show (ps ++ #[rawInt pos.line, rawInt pos.col, Value.ref c']).toList = ps.toList ++ [rawInt pos.line, rawInt pos.col, .ref c'] by simp]
      exact TriplesOk_snoc _ _ _ _ ht
  | some cv =>
    have hm := N (P, tabObj ps) (by rw [e1]; exact List.mem_append_right _ (.head _))
    have hgs := T.g.keeps F.keep
    obtain ⟨bm, ob, b1, b2, b3, b4, b5, b6⟩ := T.bmain
    have hbP : bm ≠ P := fun q => by
      have e := F.keep _ _ b3
      rw [q, hm.1] at e; cases e; cases b4
    have hbG : bm ≠ mainGlobals := fun q => by
      obtain ⟨o, es, ep, e, hd, _⟩ := T.g
      rw [q, e] at b3; cases b3; rw [hd] at b6; cases b6
    refine kla_makeFunctionHit (mg := mg) hcl rfl hgs hcd (C.keeps F.keep) hm.1 ht hq ⟨bm, ob, b1, b2, hbG, hbP, F.keep _ _ b3, b4, b5, b6⟩ fun ctv h' tk hk hsz => ?_
    have hLs : L < h'.objs.size := Nat.lt_of_lt_of_le F.ns.lt hsz
    have fresh : ∀ b, L < b → h₀.get? b = none := fun b hb => Heap.get?_none_of_le (Nat.le_trans F.above (Nat.le_of_lt hb))
    have N2 : News h₀ L _ ((h'.objs.size, ({ cls := .type "function", data := .func (kla_fn "<lambda>" ((envX cn cs L a ccd cl).qual ++ "<lambda>") params body scope clos ((mg "__name__").getD .none) cv ctv) } : Obj)) :: news) := fun q hq => by
      rcases List.mem_cons.mp hq with rfl | hq
      · exact ⟨Heap.get?_push_size _ rfl, Nat.ne_of_gt hLs, fresh _ hLs⟩
      · exact ⟨Heap.get?_push_of_some _ (hk _ _ (N q hq).1), (N q hq).2⟩
    rw [e1, ← hgr] at N2
    exact h h'.objs.size _ ps _ tk ht rfl ⟨(F.ns.keeps hk).push _, fun b o e => Heap.get?_push_of_some _ (hk b o (F.keep b o e)), F.above⟩ N2 fun q hq => Nat.lt_of_lt_of_le (Heap.lt_size (N q hq).1) hsz
end
section
variable {prog : Program} {w : World} {A : Around} {E : Value → Shared → Prop} {s : Shared} {h₀ : Heap} {L : Addr} {m : Str → Option Value} {news : List (Addr × Obj)} {lam : Addr} {lo : Obj} {y : Str} {ty : Tok} {K : Frag}
theorem pat_at (P : Params) : (Mine.KK P).lookup 56 = some (patO 344 379 55) := by with_unfolding_all rfl
theorem code_at (P : Params) : ∃ o its n, (Mine.KK P).lookup 55 = some o ∧ o.data = .seq its n ∧ (its.map Builtin.Re.reRawOf).map (·.toNat) = reCode := by
  refine ⟨_, _, _, (by with_unfolding_all rfl), rfl, ?_⟩
  kernel_rfl
theorem gm_sub {pl : Sem Bool} {Q : Value × List Value → Shared → Prop} (F : Fr h₀ L s.heap m) (X : (Mine.KK w.params).In h₀) (h : Q (.builtin "re.Pattern.sub", [.ref 56]) s) : wpAny (model prog w) A (getMethod (.ref 56) "sub" pl) Q E s := by
  have hp := X.keeps F.keep _ _ (pat_at w.params)
  exact getMethod_builtin ⟨_, hp, rfl⟩ plain_pat slot_sub type_sub (fun a e => by cases e; exact ⟨_, hp, rfl⟩) h
theorem sub_here {Q : Value → Shared → Prop} (F : Fr h₀ L s.heap m) (X : (Mine.KK w.params).In h₀) (N : News h₀ L s.heap news) (hm : (lam, lo) ∈ news) (ho : lo.cls = .type "function")
    (hy : ∀ i, i < y.cps.size → okc (y.cps.getD i 0)) (hsz : y.cps.size < 1000000)
    (h : ∀ t' h' tk, Fr h₀ L h' m → News h₀ L h' news → Q (.str y t') { s with heap := h', toks := tk }) : wpAny (model prog w) A (call (.builtin "re.Pattern.sub") [.ref 56, .ref lam, .str y ty]) Q E s := by
  have hp := X.keeps F.keep _ _ (pat_at w.params)
  obtain ⟨o, its, n, h1, h2, h3⟩ := code_at w.params
  exact sub_no hp (X.keeps F.keep _ _ h1) h2 h3 hy hsz ⟨_, (N _ hm).1, ho⟩ fun t' h' tk kp => h t' h' tk (fr_after F kp) (news_after N kp)
end
end Mine
end
section
open PySem PySem.W PyProof.Rows PySem.Calls
set_option maxRecDepth 100000
set_option maxHeartbeats 4000000
namespace Mine
theorem len_lbr : (Str.ofString "[").length = 1 := by decide +kernel
theorem len_rbr : (Str.ofString "]").length = 1 := by decide +kernel
theorem len_hat : (Str.ofString "^").length = 1 := by decide +kernel
theorem len_bs : (Str.ofString "\\").length = 1 := by decide +kernel
theorem len_em : Str.empty.length = 0 := rfl
theorem S_of (y : Str) : y = S y.cps.toList := by cases y; simp [S]
theorem len_tail (y : Str) : (Txt.slice y (some 1) none).length ≤ y.length := by
  rw [S_of y]
  by_cases h : 1 ≤ y.cps.toList.length
  · rw [slice_S_from (by omega), S_length, S_length, List.length_drop]; omega
  · have e : y.cps.toList = [] := List.eq_nil_of_length_eq_zero (by omega)
    rw [e]
    decide +kernel
theorem s_len_append (a b : Str) : (a ++ b).length = a.length + b.length := strLen_append a b
theorem sz_f {y : Str} (h : y.length ≤ 2000000) : y.length ≤ sizeLine := by rw [sizeLine_eq]; omega
theorem sz_j1 : (Str.empty ++ Str.ofString "[").length ≤ sizeLine := by rw [s_len_append, len_lbr, len_em, sizeLine_eq]; omega
theorem sz_j2 {y : Str} (h : y.length ≤ 2000000) : (Str.empty ++ Str.ofString "[" ++ y).length ≤ sizeLine := by rw [s_len_append, s_len_append, len_lbr, len_em, sizeLine_eq]; omega
theorem sz_j3 {y : Str} (h : y.length ≤ 2000000) : (Str.empty ++ Str.ofString "[" ++ y ++ Str.ofString "]").length ≤ sizeLine := by rw [s_len_append, s_len_append, s_len_append, len_lbr, len_rbr, len_em, sizeLine_eq]; omega
theorem sz_a1 {y : Str} (h : (Str.ofString "^" ++ Txt.slice y (some 1) none).length ≤ 2000000) : (Str.ofString "^").length + (Txt.slice y (some 1) none).length ≤ sizeLine := by rw [← s_len_append, sizeLine_eq]; omega
theorem sz_a2 {y : Str} (h : (Str.ofString "\\" ++ y).length ≤ 2000000) : (Str.ofString "\\").length + y.length ≤ sizeLine := by rw [← s_len_append, sizeLine_eq]; omega
theorem sz_h1 {y : Str} (h : y.length < 1000000) : (Str.ofString "^" ++ Txt.slice y (some 1) none).length ≤ 2000000 := by have := len_tail y; rw [s_len_append, len_hat]; omega
theorem sz_h2 {y : Str} (h : y.length < 1000000) : (Str.ofString "\\" ++ y).length ≤ 2000000 := by rw [s_len_append, len_bs]; omega
theorem sz_z {z : List Nat} (h : z.length ≤ 100) : (S z).length + (Str.ofString "-").length ≤ sizeLine := by rw [S_length, show (Str.ofString "-").length = 1 from by decide +kernel, sizeLine_eq]; omega
theorem s_empty_append (a : Str) : Str.empty ++ a = a := Str.empty_append a
theorem fin_0 {y : Str} (z : y.length = 0) : Str.ofString "(?!)" = finish y := by unfold finish; rw [if_pos z]
theorem fin_1 {y : Str} (z : ¬ y.length = 0) (h : (y == Str.ofString "!") = true) : Str.ofString "." = finish y := by unfold finish; rw [if_neg z, if_pos h]
theorem fin_2 {y : Str} (z : ¬ y.length = 0) (h : (y == Str.ofString "!") = false) (h2 : (Txt.item y 0 == Str.ofString "!") = true) : Str.empty ++ Str.ofString "[" ++ (Str.ofString "^" ++ Txt.slice y (some 1) none) ++ Str.ofString "]" = finish y := by
  unfold finish; rw [if_neg z, if_neg (by rw [h]; exact Bool.false_ne_true), if_pos h2, s_empty_append]
theorem fin_3 {y : Str} (z : ¬ y.length = 0) (h : (y == Str.ofString "!") = false) (h2 : (Txt.item y 0 == Str.ofString "!") = false) (h3 : (Str.ofString "^" == Txt.item y 0 || Str.ofString "[" == Txt.item y 0) = true) : Str.empty ++ Str.ofString "[" ++ (Str.ofString "\\" ++ y) ++ Str.ofString "]" = finish y := by
  unfold finish; rw [if_neg z, if_neg (by rw [h]; exact Bool.false_ne_true), if_neg (by rw [h2]; exact Bool.false_ne_true), if_pos h3, s_empty_append]
theorem fin_4 {y : Str} (z : ¬ y.length = 0) (h : (y == Str.ofString "!") = false) (h2 : (Txt.item y 0 == Str.ofString "!") = false) (h3 : (Str.ofString "^" == Txt.item y 0 || Str.ofString "[" == Txt.item y 0) = false) : Str.empty ++ Str.ofString "[" ++ y ++ Str.ofString "]" = finish y := by
  unfold finish; rw [if_neg z, if_neg (by rw [h]; exact Bool.false_ne_true), if_neg (by rw [h2]; exact Bool.false_ne_true), if_neg (by rw [h3]; exact Bool.false_ne_true), s_empty_append]
theorem trans_br {fu : Nat} {acc : List (Option Str)} {l x : List Nat} {i j : Nat} {tot : List (Option Str)} (h : trans (fu + 1) acc (91 :: l.drop (i + 1)) = tot) (hb : brEnd (l.drop (i + 1)) = some (j - (i + 1))) (hij : i + 1 ≤ j) (hx : (l.drop (i + 1)).take (j - (i + 1)) = x) :
    trans fu (acc ++ [some (itemOf x)]) (l.drop (j + 1)) = tot := by
  rw [← h]
  simp only [trans, show ¬ (91 = 42) by decide, if_false, if_true, hb, hx, List.drop_drop]
  congr 2
  omega
section
variable {prog : Program} {w : World} {A : Around} {s : Shared} {h₀ : Heap} {L R : Addr} {news : List (Addr × Obj)} {E : Value → Shared → Prop} {v : Value} {vs : List Value} {c : Nat}
theorem isL {h : Heap} (N : News h₀ L h news) (hm : (R, W.listOf vs.toArray c) ∈ news) : h.IsList R vs.toArray := ⟨_, (N _ hm).1, rfl, _, rfl⟩
theorem truthy_big {x : Str} {t : Tok} {b : Bool} {Q : Bool → Shared → Prop} (hs : x.cps.size < 1000000) (hb : decide (x.length = 0) = b) (h : ∀ tk, Q (!b) { s with toks := tk }) : wpAny (model prog w) A (truthy (.str x t)) Q E s :=
  SBL.truthy (by have e : x.length = x.cps.size := rfl; omega) (by
    have e : ((x.length : Int) != 0) = !b := by
      subst hb
      by_cases q : x.length = 0 <;> simp [q]
    rw [e]; exact h _)
theorem truthy_last {Q : Bool → Shared → Prop} (N : News h₀ L s.heap news) (hm : (R, W.listOf (vs ++ [v]).toArray c) ∈ news) (hsz : vs.length < 1000000) (h : ∀ tk, Q true { s with toks := tk }) : wpAny (model prog w) A (truthy (.ref R)) Q E s := by
  refine wpAny_truthy_list (isL N hm) (by rw [List.size_toArray, List.length_append, List.length_singleton]; omega) ?_
  have e : (!(vs ++ [v]).toArray.isEmpty) = true := by simp
  rw [e]
  exact h _
theorem item_last {value slice : PySem.Expr} {u : Tok} {Q : Value → Shared → Prop} (N : News h₀ L s.heap news) (hm : (R, W.listOf (vs ++ [v]).toArray c) ∈ news) (h : Q v s)
    (hs : subscripted slice false (.ref R) (.int (-1) u) = operate [.ref R, .int (-1) u] (getItem (.ref R) (.int (-1) u)) := by with_unfolding_all rfl) :
    wpAny (model prog w) A (subscriptTail value slice (.ref R) (.int (-1) u)) Q E s :=
  tail_any (isL N hm).typeIs slot_list_getitem.lookup (wpAny_getItem_list_neg (isL N hm) (by decide) (by simp; omega) (by decide) (by
    rw [List.size_toArray, List.getElem?_toArray, List.length_append, List.length_singleton, show ((-1 : Int) + ((vs.length + 1 : Nat) : Int)).toNat = vs.length by omega]; simp) h) hs
theorem item_in {value slice : PySem.Expr} {k : Int} {u : Tok} {Q : Value → Shared → Prop} (N : News h₀ L s.heap news) (hm : (R, W.listOf vs.toArray c) ∈ news) (h0 : 0 ≤ k) (h1 : k < 1000000) (hx : vs[k.toNat]? = some v) (h : Q v s)
    (hs : subscripted slice false (.ref R) (.int k u) = operate [.ref R, .int k u] (getItem (.ref R) (.int k u)) := by with_unfolding_all rfl) :
    wpAny (model prog w) A (subscriptTail value slice (.ref R) (.int k u)) Q E s :=
  tail_any (isL N hm).typeIs slot_list_getitem.lookup (wpAny_getItem_list (isL N hm) h0 (by omega) (by rw [List.getElem?_toArray]; exact hx) h) hs
theorem joinParts_consE {M : Model} {out : Str} {l : List (Sem Value)} {x : Sem Value} {rest : List (Sem Value)} {Q : Value → Shared → Prop} (e : l = x :: rest)
    (h : wpAny M A x (fun v s₁ => match v with | .str y _ => (out ++ y).length ≤ sizeLine ∧ wpAny M A (joinParts (out ++ y) rest) Q E s₁ | _ => False) E s) : wpAny M A (joinParts out l) Q E s := by
  rw [e]; exact joinParts_cons h
theorem joinParts_nilE {M : Model} {out : Str} {l : List (Sem Value)} {Q : Value → Shared → Prop} (e : l = []) (h : Q (.str out s.toks) { s with toks := s.toks + 1 }) (hsz : out.length ≤ sizeLine) : wpAny M A (joinParts out l) Q E s := by
  rw [e]; exact joinParts_nil h hsz
theorem in_two {x z1 z2 : Str} {t t1 t2 : Tok} {T : Addr} {b : Bool} {Q : Value → Shared → Prop} (N : News h₀ L s.heap news) (hm : (T, ({ cls := .type "tuple", data := .seq #[.str z1 t1, .str z2 t2] } : Obj)) ∈ news)
    (hb : ((z1 == x) || (z2 == x)) = b) (h : Q (.bool b) s) : wpAny (model prog w) A (compareOp .In (.str x t) (.ref T)) Q E s := by
  refine PySem.SeqAt.in_tupleAt (fun v => match v with | .str z _ => z == x | _ => false) ⟨_, (N _ hm).1, rfl, _, rfl⟩ (fun y hy => ?_) ?_
  · have hy' : y ∈ [Value.str z1 t1, Value.str z2 t2] := by simpa using hy
    rcases List.mem_cons.mp hy' with rfl | hy'
    · exact PySem.SeqAt.EqAt.str_str _ _ _ _
    · rcases List.mem_cons.mp hy' with rfl | hy'
      · exact PySem.SeqAt.EqAt.str_str _ _ _ _
      · cases hy'
  · have e : (#[Value.str z1 t1, Value.str z2 t2] : Array Value).any (fun v => match v with | .str z _ => z == x | _ => false) = b := by
      rw [← hb]; simp
    rw [e]
    exact h
end
end Mine
end
section
open PySem PySem.W PyProof.Rows PySem.Calls PySem.Builtin PySem.Builtin.Str PySem.StrLaws
set_option maxRecDepth 100000
set_option maxHeartbeats 4000000
namespace Mine
/-- all signs are of the law's -/
noncomputable def OkS (y : Str) : Prop := ∀ c ∈ y.cps.toList, okc c
theorem okS_S {l : List Nat} (h : ∀ c ∈ l, okc c) : OkS (S l) := fun c hc => h c (by simpa [S] using hc)
theorem okS_glued {z : Str} (hz : OkS z) : ∀ (ps : List Str), (∀ p ∈ ps, OkS p) → OkS (glued z ps) := by
  have go : ∀ (r : List Str) (acc : Array Nat), (∀ p ∈ r, OkS p) → (∀ c ∈ acc.toList, okc c) → ∀ c ∈ (r.foldl (fun acc (p : Str) => acc ++ z.cps ++ p.cps) acc).toList, okc c := by
    intro r
    induction r with
    | nil => intro acc _ h; exact h
    | cons p r ih =>
      intro acc hp h
      refine ih _ (fun q hq => hp q (.tail _ hq)) fun c hc => ?_
      simp only [Array.toList_append, List.mem_append] at hc
      rcases hc with (hc | hc) | hc
      · exact h c hc
      · exact hz c hc
      · exact hp p (.head _) c hc
  intro ps hp
  unfold glued OkS
  cases ps with
  | nil => intro c hc; simp [Str.empty] at hc
  | cons p r => exact go r p.cps (fun q hq => hp q (.tail _ hq)) (hp p (.head _))
theorem okS_parts {x : Str} (hx : OkS x) (cuts : List Nat) (w : Nat) : ∀ p ∈ partsBetween x cuts w, OkS p := by
  intro p hp
  unfold partsBetween at hp
  obtain ⟨⟨i, j⟩, _, rfl⟩ := List.mem_map.mp hp
  intro c hc
  rw [strSub_toList] at hc
  exact hx c (List.mem_of_mem_drop (List.mem_of_mem_take hc))
theorem okS_repl {x y z : Str} (hx : OkS x) (hz : OkS z) : OkS (repl x y z) := by
  unfold repl Txt.replace
  split
  · exact hx
  · exact okS_glued hz _ (okS_parts hx _ _)
theorem okS_bs2 : OkS bs2 := by rw [show bs2 = S [92, 92] from by decide +kernel]; exact okS_S (by simp [okc])
theorem okS_dash1 : OkS dash1 := by rw [show dash1 = S [45] from by decide +kernel]; exact okS_S (by simp [okc])
theorem okS_dash2 : OkS dash2 := by rw [show dash2 = S [92, 45] from by decide +kernel]; exact okS_S (by simp [okc])
/-- all signs of all chunks -/
noncomputable def OkL (l : List (List Nat)) : Prop := ∀ y ∈ l, ∀ c ∈ y, okc c
theorem okL_last {acc : List (List Nat)} {y : List Nat} (h : OkL acc) (hy : ∀ c ∈ y, okc c) : OkL (lastChunk acc y) := by
  unfold lastChunk
  split
  · intro z hz
    rcases List.mem_append.mp hz with hz | hz
    · exact h z hz
    · rw [List.mem_singleton.mp hz]; exact hy
  · intro z hz
    rcases List.mem_append.mp hz with hz | hz
    · exact h z ((List.dropLast_sublist _).subset hz)
    · rw [List.mem_singleton.mp hz]
      intro c hc
      rcases List.mem_append.mp hc with hc | hc
      · cases hq : acc.getLast? with
        | none => rw [List.getLast?_eq_none_iff.mp hq] at hc; simp at hc
        | some w =>
          have e : acc.getLastD [] = w := by rw [List.getLastD_eq_getLast?, hq]; rfl
          rw [e] at hc
          exact h w (List.mem_of_getLast? hq) c hc
      · rw [List.mem_singleton.mp hc]; simp [okc]
theorem okL_cut {x : List Nat} (hx : ∀ c ∈ x, okc c) : ∀ (n : Nat) (acc : List (List Nat)) (i k : Nat), OkL acc → OkL (cut n x acc i k)
  | 0, acc, i, k, h => okL_last h fun c hc => hx c (List.mem_of_mem_drop hc)
  | n + 1, acc, i, k, h => by
    unfold cut
    split
    · exact okL_last h fun c hc => hx c (List.mem_of_mem_drop hc)
    · refine okL_cut hx n _ _ _ fun z hz => ?_
      rcases List.mem_append.mp hz with hz | hz
      · exact h z hz
      · rw [List.mem_singleton.mp hz]
        exact fun c hc => hx c (List.mem_of_mem_drop (List.mem_of_mem_take hc))
theorem okL_merge : ∀ (l : List (List Nat)), OkL l → OkL (merge l)
  | [], h => h
  | c :: r, h => by
    have hr := okL_merge r fun y hy => h y (.tail _ hy)
    unfold merge
    split
    · exact fun y hy => h y (by rw [List.mem_singleton.mp hy]; exact .head _)
    · rename_i d r' e
      rw [e] at hr
      split
      · intro y hy
        rcases List.mem_cons.mp hy with rfl | hy
        · intro c' hc
          rcases List.mem_append.mp hc with hc | hc
          · exact h c (.head _) c' ((List.dropLast_sublist _).subset hc)
          · exact hr d (.head _) c' (List.mem_of_mem_tail hc)
        · exact hr y (.tail _ hy)
      · intro y hy
        rcases List.mem_cons.mp hy with rfl | hy
        · exact h y (.head _)
        · exact hr y hy
theorem okS_stuff {x : List Nat} (hx : ∀ c ∈ x, okc c) : OkS (stuffOf x) := by
  unfold stuffOf
  split
  · refine okS_glued okS_dash1 _ fun p hp => ?_
    obtain ⟨y, hy, rfl⟩ := List.mem_map.mp hp
    exact okS_repl (okS_repl (okS_S (okL_merge _ (okL_cut hx _ _ _ _ (fun y hy => by cases hy)) y hy)) okS_bs2) okS_dash2
  · exact okS_repl (okS_S hx) okS_bs2
theorem okS_at {y : Str} (h : OkS y) (i : Nat) (hi : i < y.cps.size) : okc (y.cps.getD i 0) := by
  refine h _ ?_
  rw [Array.getD_eq_getD_getElem?, Array.getElem?_eq_getElem hi]
  exact Array.getElem_mem_toList hi
/-- the sizes -/
noncomputable def tot (l : List (List Nat)) : Nat := (l.map List.length).sum
theorem tot_append (l r : List (List Nat)) : tot (l ++ r) = tot l + tot r := by simp [tot]
theorem tot_cons (c : List Nat) (r : List (List Nat)) : tot (c :: r) = c.length + tot r := by simp [tot]
theorem tot_dropLast (l : List (List Nat)) : tot l.dropLast + (l.getLastD []).length ≤ tot l := by
  induction l with
  | nil => simp [tot]
  | cons c r ih =>
    cases r with
    | nil => simp [tot]
    | cons d r =>
      rw [List.dropLast_cons_cons, tot_cons, tot_cons]
      have e : (c :: d :: r).getLastD [] = (d :: r).getLastD [] := by simp [List.getLastD]
      rw [e]
      omega
theorem last_size {n : Nat} {acc : List (List Nat)} {y : List Nat} (hy : y.length ≤ n) : tot (lastChunk acc y) ≤ tot acc + n + 1 ∧ (lastChunk acc y).length ≤ acc.length + 1 := by
  unfold lastChunk
  split
  · rw [tot_append]; simp [tot]; omega
  · have := tot_dropLast acc
    rw [tot_append]
    simp only [tot_cons, List.length_append, List.length_singleton, List.length_dropLast]
    simp only [tot, List.map_nil, List.sum_nil] at this ⊢
    omega
theorem cut_size {x : List Nat} {N : Nat} (hN : x.length ≤ N) : ∀ (n : Nat) (acc : List (List Nat)) (i k : Nat), tot (cut n x acc i k) ≤ tot acc + (n + 1) * (N + 1) ∧ (cut n x acc i k).length ≤ acc.length + n + 1
  | 0, acc, i, k => by
    have z := last_size (n := N) (acc := acc) (y := x.drop i) (by rw [List.length_drop]; omega)
    exact ⟨by show tot (lastChunk acc (x.drop i)) ≤ _; omega, by show (lastChunk acc (x.drop i)).length ≤ _; omega⟩
  | n + 1, acc, i, k => by
    unfold cut
    split
    · have z := last_size (n := N) (acc := acc) (y := x.drop i) (by rw [List.length_drop]; omega)
      have e : (n + 1 + 1) * (N + 1) = (n + 1) * (N + 1) + (N + 1) := Nat.succ_mul _ _
      omega
    · rename_i d _
      have z := cut_size hN n (acc ++ [(x.drop i).take (d - i)]) (d + 1) (d + 3)
      have e : (n + 1 + 1) * (N + 1) = (n + 1) * (N + 1) + (N + 1) := Nat.succ_mul _ _
      have e2 : ((x.drop i).take (d - i)).length ≤ N := by rw [List.length_take, List.length_drop]; omega
      rw [tot_append, tot_cons, List.length_append, List.length_singleton] at z
      have e3 : tot ([] : List (List Nat)) = 0 := rfl
      omega
theorem merge_size : ∀ l : List (List Nat), tot (merge l) ≤ tot l ∧ (merge l).length ≤ l.length
  | [] => ⟨Nat.le_refl _, Nat.le_refl _⟩
  | c :: r => by
    have z := merge_size r
    unfold merge
    split
    · rw [tot_cons, tot_cons]; have e3 : tot ([] : List (List Nat)) = 0 := rfl; simp only [List.length_cons, List.length_nil]; omega
    · rename_i d r' e
      rw [e, tot_cons] at z
      split
      · simp only [tot_cons, List.length_append, List.length_dropLast, List.length_tail, List.length_cons] at z ⊢; omega
      · simp only [tot_cons, List.length_cons] at z ⊢; omega
theorem len2 {y : List Nat} : (repl (repl (S y) bs1 bs2) dash1 dash2).length ≤ 9 * y.length + 8 := by
  have h1 := repl_len (S y) bs1 bs2
  have h2 := repl_len (repl (S y) bs1 bs2) dash1 dash2
  have e1 : bs2.length = 2 := by decide +kernel
  have e2 : dash2.length = 2 := by decide +kernel
  rw [e1, S_length y] at h1
  rw [e2] at h2
  omega
theorem sum_len2 : ∀ l : List (List Nat), ((l.map fun y => repl (repl (S y) bs1 bs2) dash1 dash2).map (·.length)).sum ≤ 9 * tot l + 8 * l.length
  | [] => by simp
  | c :: r => by
    have z := sum_len2 r
    have y := len2 (y := c)
    simp only [List.map_cons, List.sum_cons, tot_cons, List.length_cons] at z ⊢
    omega
theorem stuff_size {x : List Nat} (hx : x.length < 100) : (stuffOf x).length < 1000000 := by
  unfold stuffOf
  split
  · have a := cut_size (x := x) (N := 100) (by omega) x.length [] 0 (if x.head? = some 33 then 2 else 1)
    have b := merge_size (cut x.length x [] 0 (if x.head? = some 33 then 2 else 1))
    have c := sum_len2 (chunksOf x)
    have d : (Txt.join dash1 ((chunksOf x).map fun y => repl (repl (S y) bs1 bs2) dash1 dash2)).length = _ := size_glued dash1 _
    rw [d]
    have e1 : dash1.length = 1 := by decide +kernel
    have e3 : tot ([] : List (List Nat)) = 0 := rfl
    have e4 : (x.length + 1) * 101 ≤ 100 * 101 := Nat.mul_le_mul_right _ (by omega)
    rw [e1, List.length_map]
    unfold chunksOf at c ⊢
    simp only [List.length_nil] at a
    omega
  · have h1 := repl_len (S x) bs1 bs2
    have e1 : bs2.length = 2 := by decide +kernel
    rw [e1, S_length x] at h1
    omega
end Mine
end
section
open PySem PySem.W PyProof.Rows PySem.Calls
set_option maxRecDepth 100000
set_option maxHeartbeats 4000000
namespace Mine
theorem Strs.snoc : ∀ {vs : List Value} {xs : List (List Nat)} {x : List Nat} {t : Tok}, Strs vs xs → Strs (vs ++ [.str (S x) t]) (xs ++ [x])
  | [], [], _, _, _ => ⟨⟨_, rfl⟩, trivial⟩
  | _ :: _, _ :: _, _, _, h => ⟨h.1, Strs.snoc h.2⟩
theorem Strs.length : ∀ {vs : List Value} {xs : List (List Nat)}, Strs vs xs → vs.length = xs.length
  | [], [], _ => rfl
  | _ :: _, _ :: _, h => by simp [Strs.length h.2]
theorem Strs.last : ∀ {vs : List Value} {xs : List (List Nat)}, Strs vs xs → xs ≠ [] → ∃ vs' x t, vs = vs' ++ [.str (S x) t] ∧ Strs vs' xs.dropLast ∧ xs.getLastD [] = x
  | [], [], _, h => absurd rfl h
  | [v], [x], h, _ => by obtain ⟨⟨t, rfl⟩, _⟩ := h; exact ⟨[], x, t, rfl, trivial, rfl⟩
  | v :: w :: vs, x :: y :: xs, h, _ => by
    obtain ⟨vs', z, t, e, h1, h2⟩ := Strs.last h.2 (by simp)
    exact ⟨v :: vs', z, t, by rw [e]; rfl, ⟨h.1, h1⟩, h2⟩
  | [_], _ :: _ :: _, h, _ => h.2.elim
  | _ :: _ :: _, [_], h, _ => h.2.elim
theorem part_slice {l : List Nat} {o j c d : Nat} (hd : o + d ≤ j) (hcd : c ≤ d) (hj : j ≤ l.length) : Txt.slice (S l) (some ((o + c : Nat) : Int)) (some ((o + d : Nat) : Int)) = S ((((l.drop o).take (j - o)).drop c).take (d - c)) := by
  rw [slice_S (by omega), List.drop_take, List.take_take, List.drop_drop]
  congr 2 <;> omega
/-- what holds between two turns of the search for minus signs -/
noncomputable def ChP (x : List Nat) (tot : List (List Nat)) (ci ck : Nat) (acc : List (List Nat)) : Prop :=
  (∃ fu, x.length - ck ≤ fu ∧ cut fu x acc ci ck = tot) ∧ ci ≤ ck ∧ ci ≤ x.length ∧ acc.length ≤ ci ∧ (acc ≠ [] ∨ ci = 0) ∧ ∀ y ∈ acc, y.length ≤ x.length
/-- .. and behind it -/
noncomputable def ChQ (x : List Nat) (tot : List (List Nat)) (ci : Nat) (acc : List (List Nat)) : Prop :=
  lastChunk acc (x.drop ci) = tot ∧ ci ≤ x.length ∧ acc.length ≤ ci ∧ (acc ≠ [] ∨ ci = 0) ∧ ∀ y ∈ acc, y.length ≤ x.length
theorem ChP.done {x : List Nat} {tot : List (List Nat)} {ci ck : Nat} {acc : List (List Nat)} (h : ChP x tot ci ck acc) (hn : nextDash ck x = none) : ChQ x tot ci acc := by
  obtain ⟨⟨fu, _, e⟩, _, h2, h3, h4⟩ := h
  refine ⟨?_, h2, h3, h4⟩
  rw [← e]
  cases fu with
  | zero => rfl
  | succ n => simp only [cut, hn]
theorem ChP.next {x : List Nat} {tot : List (List Nat)} {ci ck d : Nat} {acc : List (List Nat)} (h : ChP x tot ci ck acc) (hn : nextDash ck x = some d) (hd : d < x.length) (hk : ck ≤ d) : ChP x tot (d + 1) (d + 3) (acc ++ [(x.drop ci).take (d - ci)]) := by
  obtain ⟨⟨fu, hf, e⟩, h1, h2, h3, h4⟩ := h
  obtain ⟨n, rfl⟩ : ∃ n, fu = n + 1 := ⟨fu - 1, by omega⟩
  refine ⟨⟨n, by omega, ?_⟩, by omega, by omega, by simp; omega, .inl (by simp), fun y hy => ?_⟩
  · rw [← e]
    simp only [cut, hn]
  · rcases List.mem_append.mp hy with hy | hy
    · exact h4.2 y hy
    · rw [List.mem_singleton.mp hy, List.length_take, List.length_drop]; omega
section
variable {prog : Program} {w : World} {A : Around} {s : Shared} {Q E : Value → Shared → Prop} {l : List Nat} {k j : Int} {t u a b : Tok}
theorem find_dash (h0 : 0 ≤ k) (h1 : 0 ≤ j) (h2 : j.toNat ≤ l.length) (h : ∀ r t' tk, dashIn l k.toNat j.toNat r → Q (.int r t') { s with toks := tk }) :
    wpAny (model prog w) A (call (.builtin "str.find") [.str (S l) t, .str (Str.ofString "-") u, .int k a, .int j b]) Q E s := by
  rw [show Str.ofString "-" = S [45] from by decide +kernel]
  exact find4 h0 h1 h2 h
end
theorem lastChunk_ne (acc : List (List Nat)) (y : List Nat) : lastChunk acc y ≠ [] := by
  unfold lastChunk; split <;> simp
theorem cut_ne : ∀ (n : Nat) (x : List Nat) (acc : List (List Nat)) (i k : Nat), cut n x acc i k ≠ []
  | 0, x, acc, i, k => lastChunk_ne _ _
  | n + 1, x, acc, i, k => by
    unfold cut
    split
    · exact lastChunk_ne _ _
    · exact cut_ne n x _ _ _
theorem cut_len (x : List Nat) (k : Nat) : 1 ≤ (cut x.length x [] 0 k).length ∧ (cut x.length x [] 0 k).length ≤ x.length + 1 := by
  refine ⟨Nat.one_le_iff_ne_zero.mpr fun e => cut_ne _ _ _ _ _ (List.eq_nil_of_length_eq_zero e), ?_⟩
  have := (cut_size (x := x) (Nat.le_refl _) x.length [] 0 k).2
  simpa using this
theorem setL_mid (v v' : Value) (r : List Value) : ∀ pre : List Value, ki_setL (pre ++ v :: r) pre.length v' = some (pre ++ v' :: r)
  | [] => rfl
  | x :: pre => by
    show (match ki_setL (pre ++ v :: r) pre.length v' with | some z => some (x :: z) | none => none) = _
    rw [setL_mid v v' r pre]
    rfl
theorem delL_mid (v : Value) (r : List Value) : ∀ pre : List Value, ki_delL (pre ++ v :: r) pre.length = some (pre ++ r)
  | [] => rfl
  | x :: pre => by
    show (match ki_delL (pre ++ v :: r) pre.length with | some z => some (x :: z) | none => none) = _
    rw [delL_mid v r pre]
    rfl
theorem seq_last (n : Nat) : seqIndex? (-1) (n + 1) = some n := by
  rw [PySem.seqIndex_neg (by decide) (by omega)]
  congr 1
  omega
theorem seq_at {k : Int} {n j : Nat} (h : k = (j : Int)) (hj : j < n) : seqIndex? k n = some j := by
  subst h
  have h0 : ¬ ((j : Int) < 0) := by omega
  have h1 : (0 ≤ (j : Int) && (j : Int) < (n : Int)) = true := by simp; omega
  unfold seqIndex?
  simp [h0, hj]
section
variable {prog : Program} {w : World} {A : Around} {s : Shared} {h₀ : Heap} {L C : Addr} {m : Str → Option Value} {news news' : List (Addr × Obj)} {E : Value → Shared → Prop} {v v' x : Value} {vs pre post : List Value} {c : Nat} {t : Tok} {k : Int}
theorem get_last {Q : Value → Shared → Prop} (N : News h₀ L s.heap news) (hm : (C, W.listOf (vs ++ [v]).toArray c) ∈ news) (h : Q v s) : wpAny (model prog w) A (getItem (.ref C) (.int (-1) t)) Q E s :=
  wpAny_getItem_list_neg (isL N hm) (by decide) (by simp; omega) (by decide) (by
    rw [List.size_toArray, List.getElem?_toArray, List.length_append, List.length_singleton, show ((-1 : Int) + ((vs.length + 1 : Nat) : Int)).toNat = vs.length by omega]; simp) h
theorem set_last {Q : Unit → Shared → Prop} (F : Fr h₀ L s.heap m) (N : News h₀ L s.heap news) (U : Upd C (W.listOf (vs ++ [v]).toArray c) (W.listOf (vs ++ [v']).toArray c) news news')
    (h : ∀ h', Fr h₀ L h' m → News h₀ L h' news' → Q () { s with heap := h' }) : wpAny (model prog w) A (setItem (.ref C) (.int (-1) t) v') Q E s :=
  ki_setNeg (j := vs.length) (q := vs ++ [v']) F N (by decide) (by decide) (by rw [List.size_toArray, List.length_append, List.length_singleton]; exact seq_last _) (by simpa using setL_mid v v' [] vs) U h
theorem get_mid {Q : Value → Shared → Prop} (N : News h₀ L s.heap news) (hm : (C, W.listOf (pre ++ v :: post).toArray c) ∈ news) (hk : k = ((pre.length : Nat) : Int)) (hs : pre.length < 1000000) (h : Q v s) : wpAny (model prog w) A (getItem (.ref C) (.int k t)) Q E s :=
  wpAny_getItem_list (isL N hm) (by omega) (by omega) (by rw [hk, Int.toNat_natCast, List.getElem?_toArray]; simp) h
theorem set_mid {Q : Unit → Shared → Prop} (F : Fr h₀ L s.heap m) (N : News h₀ L s.heap news) (U : Upd C (W.listOf (pre ++ v :: post).toArray c) (W.listOf (pre ++ v' :: post).toArray c) news news') (hk : k = ((pre.length : Nat) : Int)) (hs : pre.length < 1000000)
    (h : ∀ h', Fr h₀ L h' m → News h₀ L h' news' → Q () { s with heap := h' }) : wpAny (model prog w) A (setItem (.ref C) (.int k t) v') Q E s :=
  ki_set (q := pre ++ v' :: post) F N (by omega) (by omega) (by rw [hk, Int.toNat_natCast]; exact setL_mid v v' post pre) U h
theorem del_mid {Q : Unit → Shared → Prop} (F : Fr h₀ L s.heap m) (N : News h₀ L s.heap news) (hk : k = ((pre.length : Nat) : Int)) (hs : (pre ++ v :: post).length < 1000000) (U : Upd C (W.listOf (pre ++ v :: post).toArray c) (W.listOf (pre ++ post).toArray (c + 1)) news news')
    (h : ∀ h', Fr h₀ L h' m → News h₀ L h' news' → Q () { s with heap := h' }) : wpAny (model prog w) A (delItem (.ref C) (.int k t)) Q E s := by
  have hl : pre.length < (pre ++ v :: post).length := by rw [List.length_append, List.length_cons]; omega
  refine ki_del (k := pre.length) (q := pre ++ post) F N ?_ (by rw [List.size_toArray]; exact seq_at hk hl) (delL_mid v post pre) U (by rw [sizeLine_eq]; show (pre ++ v :: post).length ≤ _; omega) h
  exact fitsIndex_of (by omega) (by omega)
end
end Mine
end
section
open PySem PySem.W PyProof.Rows PySem.Calls
set_option maxRecDepth 100000
set_option maxHeartbeats 4000000
namespace Mine
noncomputable abbrev rangeO (a b c : Int) (t u v : Tok) : Obj := { cls := .type "range", data := .fields #[.int a t, .int b u, .int c v] }
noncomputable abbrev iterO (x left step : Int) : Obj := { cls := .type "range_iterator", data := .fields #[rawInt x, rawInt left, rawInt step] }
section
variable {prog : Program} {w : World} {A : Around} {E : Value → Shared → Prop} {s : Shared} {h₀ : Heap} {L a₀ : Addr} {m : Str → Option Value} {news : List (Addr × Obj)} {name : Str} {scope : Scope} {cd : Value}
/-- where a turn of the loop below ends -/
inductive DownEnd (h₀ : Heap) (L it : Addr) (J : Nat → (Str → Option Value) → List (Addr × Obj) → Prop) (io : Obj) (i : Nat) (s : Shared) (f : Flow) (s₂ : Shared) : Prop
  | mk (q0 : f = .next) (h : Heap) (tk : Nat) (m : Str → Option Value) (nx : List (Addr × Obj)) (q2 : s₂ = { s with heap := h, toks := tk }) (q3 : Fr h₀ L h m) (q4 : News h₀ L h ((it, io) :: nx)) (q5 : (∀ q ∈ nx, @Ne Nat q.1 it)) (q6 : 1 ≤ tk) (q7 : J i m nx) : DownEnd h₀ L it J io i s f s₂
/-- a for over a range that goes down by ones -/
theorem forDown {x : Str} {px : Pos} {body : List Stmt} {it : Addr} {a : Int} {N : Nat} {Q : Flow → Shared → Prop} (J : Nat → (Str → Option Value) → List (Addr × Obj) → Prop)
    (hh : A.handled = none) (hk : scope.kind = .function) (hl : (envOf name scope L a₀ cd).kindOf x = some .local)
    (F : Fr h₀ L s.heap m) (N₀ : News h₀ L s.heap ((it, iterO a N (-1)) :: news)) (hf : ∀ q ∈ news, @Ne Nat q.1 it) (htk : 1 ≤ s.toks) (h0 : J 0 m news)
    (turn : ∀ i m₁ nx h tk t, i < N → J i m₁ nx → 1 ≤ tk → (∀ q ∈ nx, @Ne Nat q.1 it) → Fr h₀ L h (fun y => if y = x then some (.int (a - i) t) else m₁ y) → News h₀ L h ((it, iterO (a - i - 1) ((N : Int) - i - 1) (-1)) :: nx) →
      wpAny (model prog w) A (execs body (envOf name scope L a₀ cd)) (DownEnd h₀ L it J (iterO (a - i - 1) ((N : Int) - i - 1) (-1)) (i + 1) s) E { s with heap := h, toks := tk })
    (done : ∀ m₁ nx h tk, J N m₁ nx → 1 ≤ tk → Fr h₀ L h m₁ → News h₀ L h nx → Q .next { s with heap := h, toks := tk })
    (hE : PassesOwn (model prog w) A (envOf name scope L a₀ cd) E) :
    codeAny (model prog w) A (.forLoop (.Name x px) (.ref it) body [] (envOf name scope L a₀ cd)) (fun r s' => match r with | .ok f => Q f s' | .error e => cameBackBy (model prog w) A (envOf name scope L a₀ cd) E e s') s := by
  refine codeAny_forLoop (fun k s' => ∃ i h tk m₁ nx, s' = { s with heap := h, toks := tk } ∧ i ≤ N ∧ k = N - i ∧ Fr h₀ L h m₁ ∧ News h₀ L h ((it, iterO (a - i) ((N : Int) - i) (-1)) :: nx) ∧ (∀ q ∈ nx, @Ne Nat q.1 it) ∧ 1 ≤ tk ∧ J i m₁ nx) ?_ N
    ⟨0, s.heap, s.toks, m, news, rfl, Nat.zero_le _, rfl, F, by simpa using N₀, hf, htk, h0⟩
  rintro k s' ⟨i, h, tk, m₁, nx, rfl, hi, rfl, F₁, N₁, hf₁, htk₁, hJ⟩
  have P := N₁ _ (.head _)
  by_cases hlt : i < N
  · refine wpAny_pyNext_range_item P.1 (by omega) fun h' hit hs => ?_
    have F₂ : Fr h₀ L h' m₁ := F₁.change hs P.2.1 P.2.2
    have N₂ : News h₀ L h' ((it, iterO (a - i - 1) ((N : Int) - i - 1) (-1)) :: nx) := fun q hq => by
      rcases List.mem_cons.mp hq with rfl | hq
      · exact ⟨hit, P.2⟩
      · have z := N₁ q (.tail _ hq)
        exact ⟨(hs.2 q.1 (hf₁ q hq)).trans z.1, z.2⟩
    refine wpAny_passesOwn hE (wpAny_assign_Name (stN F₂ N₂ (fun h'' F₃ N₃ => ?_) hk hl))
    refine wpAny_passesOwn hE (wpAny_mono (turn i m₁ nx h'' (tk + 1 + 1) _ hlt hJ (by omega) hf₁ F₃ N₃) (fun f s₃ z => ?_) fun _ _ e => e)
    obtain ⟨rfl, h₃, tk₃, m₃, nx₃, rfl, F₄, N₄, hf₄, htk₄, hJ₄⟩ := z
    refine ⟨N - (i + 1), by omega, i + 1, h₃, tk₃, m₃, nx₃, rfl, hlt, rfl, F₄, ?_, hf₄, htk₄, hJ₄⟩
    have e1 : a - ((i + 1 : Nat) : Int) = a - i - 1 := by omega
    have e2 : (N : Int) - ((i + 1 : Nat) : Int) = (N : Int) - i - 1 := by omega
    rw [e1, e2]
    exact N₄
  · have hin : i = N := by omega
    subst hin
    refine wpAny_pyNext_range_end hh P.1 (by omega) fun h' he => wpAny_execs_nil ?_
    have nm : ∀ b o, h₀.get? b = some o → b ≠ it := fun b o e q => by rw [q, P.2.2] at e; cases e
    refine done m₁ nx h' tk hJ htk₁ ⟨F₁.ns.extBut he (fun q => P.2.1 q.symm), fun b o e => he b o (nm b o e) (F₁.keep b o e), F₁.above⟩ fun q hq => ?_
    have z := N₁ q (.tail _ hq)
    exact ⟨he q.1 q.2 (hf₁ q hq) z.1, z.2⟩
end
section
variable {prog : Program} {w : World} {A : Around} {E : Value → Shared → Prop} {s : Shared} {h₀ : Heap} {L C r : Addr} {m : Str → Option Value} {news : List (Addr × Obj)} {vs : List Value} {c : Nat} {t u v : Tok}
theorem len_K {Q : Value → Shared → Prop} (N : News h₀ L s.heap news) (hm : (C, W.listOf vs.toArray c) ∈ news) (hs : vs.length < 1000000) (h : ∀ t tk, Q (.int vs.length t) { s with toks := tk }) : wpAny (model prog w) A (call (.builtin "len") [.ref C]) Q E s := by
  refine len_list (items := vs.toArray) ⟨_, (N _ hm).1, rfl, _, rfl⟩ (by rw [List.size_toArray]; omega) ?_
  rw [List.size_toArray]
  exact h _ _
theorem range_K {a b k : Int} {Q : Value → Shared → Prop} (F : Fr h₀ L s.heap m) (N : News h₀ L s.heap news) (hk : k ≠ 0) (hp : Builtin.divisionGoesByPylong (b - a) k = false)
    (h : ∀ r h', Fr h₀ L h' m → News h₀ L h' ((r, rangeO a b k t u v) :: news) → (∀ q ∈ news, q.1 < r) → Q (.ref r) { s with heap := h' }) : wpAny (model prog w) A (call (.type "range") [.int a t, .int b u, .int k v]) Q E s :=
  call_range_3 hk (h _ _ (F.push _) (N.push F _) fun q hq => Heap.lt_size (N q hq).1) (.inl hp)
theorem down_size (n : Nat) : Builtin.Range.rangeSize (n : Int) 0 (-1) = n := by
  unfold Builtin.Range.rangeSize
  rw [if_neg (by decide)]
  by_cases h : n = 0
  · subst h; rfl
  · rw [if_pos (by omega)]
    have e : ((n : Int) - 0 - 1) / (- -1) = (n : Int) - 1 := by rw [show (- -1 : Int) = 1 from rfl, Int.ediv_one]; omega
    rw [e]; omega
theorem down_small {n : Nat} (h : n < 1000000) : Builtin.Range.small (n : Int) 0 (-1) = true := by
  unfold Builtin.Range.small
  rw [down_size]
  simp only [Builtin.Range.rangeFitsLong, Bool.and_eq_true, Bool.or_eq_true, decide_eq_true_eq, beq_iff_eq]
  refine ⟨⟨⟨⟨⟨by omega, by omega⟩, ⟨by omega, by omega⟩⟩, ⟨by omega, by omega⟩⟩, ⟨by omega, by omega⟩⟩, .inr ?_⟩
  rw [if_neg (by decide)]
  simp only [decide_eq_true_eq, Bool.and_eq_true]
  omega
theorem iter_down {n : Nat} {a : Int} {Q : Value → Shared → Prop} (F : Fr h₀ L s.heap m) (N : News h₀ L s.heap news) (hm : (r, rangeO a 0 (-1) t u v) ∈ news) (ha : a = (n : Int)) (hn : n < 1000000)
    (h : ∀ it h', Fr h₀ L h' m → News h₀ L h' ((it, iterO a n (-1)) :: news) → (∀ q ∈ news, q.1 < it) → Q (.ref it) { s with heap := h' }) : wpAny (model prog w) A (pyIter (.ref r)) Q E s := by
  subst ha
  refine wpAny_pyIter_range (N _ hm).1 (down_small hn) ?_
  rw [down_size]
  exact h _ _ (F.push _) (N.push F _) fun q hq => Heap.lt_size (N q hq).1
end
end Mine
end
section
open PySem PySem.W PyProof.Rows PySem.Calls
set_option maxRecDepth 100000
set_option maxHeartbeats 4000000
namespace Mine
/-- the chunks behind the first -/
noncomputable def Gd : List (List Nat) → Prop
  | [] => True
  | [c] => c ≠ []
  | c :: r => 2 ≤ c.length ∧ Gd r
theorem ne_of_two {c : List Nat} (h : 2 ≤ c.length) : c ≠ [] := fun e => by rw [e] at h; simp at h
theorem Gd.tail : ∀ {c : List Nat} {r : List (List Nat)}, Gd (c :: r) → Gd r
  | _, [], _ => trivial
  | _, _ :: _, h => h.2
theorem Gd.head : ∀ {c : List Nat} {r : List (List Nat)}, Gd (c :: r) → c ≠ []
  | _, [], h => h
  | _, _ :: _, h => ne_of_two h.1
theorem Gd.drop : ∀ {l : List (List Nat)} (n : Nat), Gd l → Gd (l.drop n)
  | l, 0, h => h
  | [], n + 1, h => h
  | c :: r, n + 1, h => Gd.drop n h.tail
theorem Gd.snoc {y : List Nat} (hy : y ≠ []) : ∀ {A : List (List Nat)}, (∀ z ∈ A, 2 ≤ z.length) → Gd (A ++ [y])
  | [], _ => hy
  | c :: [], h => ⟨h c (.head _), hy⟩
  | c :: d :: r, h => ⟨h c (.head _), Gd.snoc hy fun z hz => h z (.tail _ hz)⟩
theorem merge_ne (c : List Nat) (r : List (List Nat)) : merge (c :: r) ≠ [] := by
  unfold merge
  split
  · simp
  · split <;> simp
theorem merge_head : ∀ {l : List (List Nat)} {d : List Nat} {r : List (List Nat)}, Gd l → merge l = d :: r → d ≠ []
  | [], d, r, _, e => by cases e
  | [c], d, r, h, e => by cases e; exact h
  | c :: c' :: l, d, r, h, e => by
    unfold merge at e
    cases hm : merge (c' :: l) with
    | nil => exact absurd hm (merge_ne _ _)
    | cons d' r' =>
      rw [hm] at e
      simp only at e
      split at e
      · cases e
        intro q
        have := congrArg List.length q
        have h2 := h.1
        rw [List.length_append, List.length_dropLast] at this
        simp at this
        omega
      · cases e
        exact ne_of_two h.1
/-- good chunks: none is empty, those between have two signs -/
noncomputable def GdT (T : List (List Nat)) : Prop := ∃ c A, T = c :: A ∧ c ≠ [] ∧ Gd A
theorem gd_last {acc : List (List Nat)} {y : List Nat} (h : acc = [] ∨ ∃ c A, acc = c :: A ∧ c ≠ [] ∧ ∀ z ∈ A, 2 ≤ z.length) (hy : y ≠ [] ∨ acc ≠ []) : GdT (lastChunk acc y) := by
  unfold lastChunk
  by_cases q : y = []
  · rw [if_neg (fun z => z q)]
    rcases h with rfl | ⟨c, A, rfl, hc, hA⟩
    · exact absurd rfl (hy.resolve_left (fun z => z q))
    · rcases List.eq_nil_or_concat A with rfl | ⟨A', z, rfl⟩
      · exact ⟨c ++ [45], [], rfl, by simp, trivial⟩
      · refine ⟨c, A' ++ [z ++ [45]], ?_, hc, Gd.snoc (by simp) fun w hw => hA w (by simp [hw])⟩
        have e1 : (c :: A'.concat z).dropLast = c :: A' := by
          rw [List.concat_eq_append, ← List.cons_append, List.dropLast_concat]
        have e2 : (c :: A'.concat z).getLastD [] = z := by
          rw [List.concat_eq_append, ← List.cons_append, List.getLastD_eq_getLast?, List.getLast?_concat]; rfl
        rw [e1, e2]
        rfl
  · rw [if_pos q]
    rcases h with rfl | ⟨c, A, rfl, hc, hA⟩
    · exact ⟨y, [], rfl, q, trivial⟩
    · exact ⟨c, A ++ [y], rfl, hc, Gd.snoc q hA⟩
theorem gd_cut {x : List Nat} : ∀ (n : Nat) (acc : List (List Nat)) (i k : Nat), ((acc = [] ∧ i = 0 ∧ 1 ≤ k ∧ x ≠ []) ∨ ((∃ c A, acc = c :: A ∧ c ≠ [] ∧ ∀ z ∈ A, 2 ≤ z.length) ∧ k = i + 2)) → GdT (cut n x acc i k)
  | 0, acc, i, k, h => by
    rcases h with ⟨rfl, rfl, _, hx⟩ | ⟨h, _⟩
    · exact gd_last (.inl rfl) (.inl hx)
    · exact gd_last (.inr h) (.inr (by obtain ⟨c, A, rfl, _⟩ := h; simp))
  | n + 1, acc, i, k, h => by
    unfold cut
    cases hn : nextDash k x with
    | none =>
      rcases h with ⟨rfl, rfl, _, hx⟩ | ⟨h, _⟩
      · exact gd_last (.inl rfl) (.inl hx)
      · exact gd_last (.inr h) (.inr (by obtain ⟨c, A, rfl, _⟩ := h; simp))
    | some d =>
      have hs : k ≤ d ∧ d < x.length := by
        rcases nextDash_spec k x with ⟨e, _⟩ | ⟨d', e, h1, h2, _⟩
        · rw [hn] at e; cases e
        · rw [hn] at e; cases e
          exact ⟨h1, (List.getElem?_eq_some_iff.mp h2).1⟩
      refine gd_cut n _ _ _ (.inr ⟨?_, rfl⟩)
      have hl : ((x.drop i).take (d - i)).length = d - i := by rw [List.length_take, List.length_drop]; omega
      rcases h with ⟨rfl, rfl, hk, _⟩ | ⟨⟨c, A, rfl, hc, hA⟩, hk⟩
      · exact ⟨_, [], rfl, fun e => by rw [e] at hl; simp at hl; omega, fun z hz => by cases hz⟩
      · refine ⟨c, A ++ [(x.drop i).take (d - i)], rfl, hc, fun z hz => ?_⟩
        rcases List.mem_append.mp hz with hz | hz
        · exact hA z hz
        · rw [List.mem_singleton.mp hz, hl]; omega
theorem GdT.all {T : List (List Nat)} (h : GdT T) : ∀ c ∈ T, c ≠ [] := by
  obtain ⟨c, A, rfl, hc, hA⟩ := h
  have go : ∀ A : List (List Nat), Gd A → ∀ z ∈ A, z ≠ [] := by
    intro A
    induction A with
    | nil => intro _ z hz; cases hz
    | cons a r ih =>
      intro h z hz
      rcases List.mem_cons.mp hz with rfl | hz
      · exact h.head
      · exact ih h.tail z hz
  intro z hz
  rcases List.mem_cons.mp hz with rfl | hz
  · exact hc
  · exact go A hA z hz
/-- the chunks at a turn of the merge: the one ahead, and those behind, merged -/
theorem merge_at {T : List (List Nat)} (h : GdT T) {p : Nat} (hp : p + 1 < T.length) : ∃ c d r, T.take (p + 1) = T.take p ++ [c] ∧ merge (T.drop (p + 1)) = d :: r ∧ c ≠ [] ∧ d ≠ [] ∧ merge (T.drop p) = (if d.headD 0 < c.getLastD 0 then (c.dropLast ++ d.tail) :: r else c :: d :: r) := by
  have hlt : p < T.length := by omega
  have e1 : T.drop p = T[p] :: T.drop (p + 1) := List.drop_eq_getElem_cons hlt
  have e2 : T.drop (p + 1) = T[p + 1] :: T.drop (p + 2) := List.drop_eq_getElem_cons hp
  cases hm : merge (T.drop (p + 1)) with
  | nil => rw [e2] at hm; exact absurd hm (merge_ne _ _)
  | cons d r =>
    refine ⟨T[p], d, r, by rw [List.take_add_one, List.getElem?_eq_getElem hlt]; rfl, rfl, h.all _ (List.getElem_mem hlt), ?_, ?_⟩
    · obtain ⟨c, A, rfl, _, hA⟩ := h
      rw [List.drop_succ_cons] at hm
      exact merge_head (hA.drop p) hm
    · rw [e1]
      simp only [merge, hm]
theorem Strs.split : ∀ {xs ys : List (List Nat)} {vs : List Value}, Strs vs (xs ++ ys) → ∃ v1 v2, vs = v1 ++ v2 ∧ Strs v1 xs ∧ Strs v2 ys
  | [], ys, vs, h => ⟨[], vs, rfl, trivial, h⟩
  | x :: xs, ys, [], h => h.elim
  | x :: xs, ys, v :: vs, h => by
    obtain ⟨v1, v2, rfl, h1, h2⟩ := Strs.split (xs := xs) h.2
    exact ⟨v :: v1, v2, rfl, ⟨h.1, h1⟩, h2⟩
theorem Strs.cat : ∀ {xs ys : List (List Nat)} {v1 v2 : List Value}, Strs v1 xs → Strs v2 ys → Strs (v1 ++ v2) (xs ++ ys)
  | [], ys, [], v2, _, h2 => h2
  | [], ys, _ :: _, v2, h1, _ => h1.elim
  | x :: xs, ys, [], v2, h1, _ => h1.elim
  | x :: xs, ys, v :: v1, v2, h1, h2 => ⟨h1.1, Strs.cat h1.2 h2⟩
theorem mem_tot : ∀ {l : List (List Nat)} {c : List Nat}, c ∈ l → c.length ≤ tot l
  | [], c, h => nomatch h
  | a :: r, c, h => by
    rw [tot_cons]
    rcases List.mem_cons.mp h with rfl | h
    · omega
    · have := mem_tot h; omega
theorem tot_drop (l : List (List Nat)) (n : Nat) : tot (l.drop n) ≤ tot l := by
  have e : tot l = tot (l.take n) + tot (l.drop n) := by rw [← tot_append, List.take_append_drop]
  omega
theorem glue_len {c d : List Nat} (hc : c ≠ []) (hd : d ≠ []) : Txt.slice (S c) none (some (-1)) ++ Txt.slice (S d) (some 1) none = S (c.dropLast ++ d.tail) := by
  have h1 : 0 < c.length := List.length_pos_iff.mpr hc
  have h2 : 0 < d.length := List.length_pos_iff.mpr hd
  rw [slice_S_neg1 h1, slice_S_from (by omega), S_append]
  congr 2
  cases d with
  | nil => exact absurd rfl hd
  | cons a r => rfl
theorem glue_sz {c d : List Nat} (hc : c ≠ []) (hd : d ≠ []) (h1 : (S c).length ≤ 2000000) (h2 : (S d).length ≤ 2000000) : (Txt.slice (S c) none (some (-1))).length + (Txt.slice (S d) (some 1) none).length ≤ sizeLine := by
  rw [← s_len_append, glue_len hc hd, S_length, sizeLine_eq]
  rw [S_length] at h1 h2
  simp only [List.length_append, List.length_dropLast, List.length_tail]
  omega
theorem charAt_S {l : List Nat} {i : Int} {j : Nat} (h : seqIndex? i l.length = some j) (hj : j < l.length) : Txt.charAt (S l) i = some (l.getD j 0) := by
  unfold Txt.charAt
  rw [S_length, h]
  show (S l).cps[j]? = _
  simp [S, List.getD_eq_getElem?_getD, hj]
theorem last_char {c : List Nat} (h : c ≠ []) : Txt.charAt (S c) (-1) = some (c.getLastD 0) := by
  have hl : 0 < c.length := List.length_pos_iff.mpr h
  obtain ⟨n, hn⟩ : ∃ n, c.length = n + 1 := ⟨c.length - 1, by omega⟩
  rw [charAt_S (j := n) (by rw [hn]; exact seq_last n) (by omega)]
  rw [List.getD_eq_getElem?_getD, List.getLastD_eq_getLast?, List.getLast?_eq_getElem?, hn]
  rfl
theorem first_char {c : List Nat} (h : c ≠ []) : Txt.charAt (S c) 0 = some (c.headD 0) := by
  have hl : 0 < c.length := List.length_pos_iff.mpr h
  rw [charAt_S (i := 0) (j := 0) (seq_at (k := 0) (j := 0) rfl hl) hl]
  cases c with
  | nil => exact absurd rfl h
  | cons a r => rfl
section
variable {prog : Program} {w : World} {A : Around} {s : Shared} {h₀ : Heap} {L C : Addr} {m : Str → Option Value} {news news' : List (Addr × Obj)} {E : Value → Shared → Prop} {v v' x y : Value} {pre post : List Value} {n : Nat} {t u : Tok} {k : Int} {c d : List Nat} {value slice : PySem.Expr}
theorem ch_last {Q : Value → Shared → Prop} (hc : c ≠ []) (h : ∀ t' tk, Q (.str (S [c.getLastD 0]) t') { s with toks := tk })
    (hs : subscripted slice false (.str (S c) t) (.int (-1) u) = operate [.str (S c) t, .int (-1) u] (getItem (.str (S c) t) (.int (-1) u)) := by with_unfolding_all rfl) :
    wpAny (model prog w) A (subscriptTail value slice (.str (S c) t) (.int (-1) u)) Q E s := by
  refine tail_any (typeIs_str _ _ _) PySem.F.slot_str_getitem.lookup (SB.getItem (by decide) (by rw [last_char hc]; rfl) ?_) hs
  have e : Txt.item (S c) (-1) = S [c.getLastD 0] := by unfold Txt.item; rw [last_char hc]; rfl
  rw [e]
  exact h _ _
theorem ch_first {Q : Value → Shared → Prop} (hc : c ≠ []) (h : ∀ t' tk, Q (.str (S [c.headD 0]) t') { s with toks := tk })
    (hs : subscripted slice false (.str (S c) t) (.int 0 u) = operate [.str (S c) t, .int 0 u] (getItem (.str (S c) t) (.int 0 u)) := by with_unfolding_all rfl) :
    wpAny (model prog w) A (subscriptTail value slice (.str (S c) t) (.int 0 u)) Q E s := by
  refine tail_any (typeIs_str _ _ _) PySem.F.slot_str_getitem.lookup (SB.getItem (by decide) (by rw [first_char hc]; rfl) ?_) hs
  have e : Txt.item (S c) 0 = S [c.headD 0] := by unfold Txt.item; rw [first_char hc]; rfl
  rw [e]
  exact h _ _
theorem gt_one {a b : Nat} {B : Bool} {Q : Value → Shared → Prop} (hb : decide (b < a) = B) (h : Q (.bool B) s) : wpAny (model prog w) A (compareOp .Gt (.str (S [a]) t) (.str (S [b]) u)) Q E s := by
  refine PySem.P.gt_str ?_
  have e : decide ((S [b]).cps.toList < (S [a]).cps.toList) = B := by
    rw [← hb]
    show decide ([b] < [a]) = _
    rw [StrLaws.lt_cons_cons]
    simp
  rw [e]
  exact h
/-- the two places that a turn of the merge looks at -/
theorem item_1 {Q : Value → Shared → Prop} (N : News h₀ L s.heap news) (hm : (C, W.listOf (pre ++ v :: y :: post).toArray n) ∈ news) (hk : k = ((pre.length : Nat) : Int)) (hs' : pre.length < 1000000) (h : Q v s)
    (hs : subscripted slice false (.ref C) (.int k u) = operate [.ref C, .int k u] (getItem (.ref C) (.int k u)) := by with_unfolding_all rfl) :
    wpAny (model prog w) A (subscriptTail value slice (.ref C) (.int k u)) Q E s :=
  item_in N hm (by omega) (by omega) (by rw [hk, Int.toNat_natCast]; simp) h hs
theorem item_2 {Q : Value → Shared → Prop} (N : News h₀ L s.heap news) (hm : (C, W.listOf (pre ++ v :: y :: post).toArray n) ∈ news) (hk : k = ((pre.length : Nat) : Int) + 1) (hs' : pre.length < 900000) (h : Q y s)
    (hs : subscripted slice false (.ref C) (.int k u) = operate [.ref C, .int k u] (getItem (.ref C) (.int k u)) := by with_unfolding_all rfl) :
    wpAny (model prog w) A (subscriptTail value slice (.ref C) (.int k u)) Q E s :=
  item_in N hm (by omega) (by omega) (by rw [show k.toNat = pre.length + 1 by omega, List.getElem?_append_right (by omega)]; simp) h hs
theorem del_2 {Q : Unit → Shared → Prop} (F : Fr h₀ L s.heap m) (N : News h₀ L s.heap news) (U : Upd C (W.listOf (pre ++ v :: y :: post).toArray n) (W.listOf (pre ++ v :: post).toArray (n + 1)) news news') (hk : k = ((pre.length : Nat) : Int) + 1) (hs : (pre ++ v :: y :: post).length < 1000000)
    (h : ∀ h', Fr h₀ L h' m → News h₀ L h' news' → Q () { s with heap := h' }) : wpAny (model prog w) A (delItem (.ref C) (.int k t)) Q E s := by
  have e1 : pre ++ v :: y :: post = (pre ++ [v]) ++ y :: post := by simp
  have e2 : pre ++ v :: post = (pre ++ [v]) ++ post := by simp
  rw [e1, e2] at U
  exact del_mid (pre := pre ++ [v]) F N (by rw [List.length_append, List.length_singleton]; omega) (by rw [← e1]; exact hs) U h
end
end Mine
end
section
set_option maxRecDepth 100000
set_option maxHeartbeats 4000000
namespace Mine
open PySem PySem.W PyProof.Rows
section
variable {prog : Program} {w : World} {A : Around}
/-- what one turn of the generator keeps; as in the library, but the token counter is known not to be 0 -/
noncomputable def genP (C : Addr) (fp wr : List Addr) (n : Nat) (F : Nat → Value → Prop) : Protocol := fun m s₀ v s kap =>
  F (n - 1 - m) v ∧ GenSince C wr s₀ s ∧ ∀ s'' : Shared, 1 ≤ s''.toks → (∀ b ∈ C :: fp, ∀ o, s.heap.get? b = some o → s''.heap.get? b = some o) → kap (.send .none) s''
noncomputable def EltT (prog : Program) (w : World) (cenv : Env) (x : Str) (elt : Expr) (fp wr : List Addr) (P : Nat → Value → Prop) (F : Nat → Value → Prop) (href : Heap) (D U : Nat) : Prop :=
  ∀ (A' : Around) E' i v (s₂ : Shared) m₂, A'.handled = none → A'.depth ≤ D → A'.units ≤ U → 1 ≤ s₂.toks → P i v → s₂.heap.Ns cenv.locals m₂ → m₂ x = some v → (∀ b ∈ fp, b ∉ wr → ∀ o, href.get? b = some o → s₂.heap.get? b = some o) →
    wpAny (model prog w) A' (eval elt cenv) (fun y s₃ => F i y ∧ Keeps s₂ s₃) E' s₂
theorem seg_loop {elt iter : Expr} {x : Str} {px : Pos} {scope : Scope} {pos : Pos} {I : Addr} {fp wr : List Addr} {n₀ : Nat} {P : Nat → Value → Prop} {St₀ : Nat → Heap → Prop} {cenv : Env}
    (hh : A.handled = none) (W₀ : ∀ A' : Around, A'.handled = none → Walks prog w A' I fp wr n₀ P St₀) (F : Nat → Value → Prop) (href : Heap)
    (hx : cenv.kindOf x = some .local) (hp : (cenv.scope.kind == .class || (cenv.scope.kind == .module && cenv.locals != cenv.globals)) = false)
    (hco : cenv.scope.isCoroutine = false) (hCf : cenv.locals ∉ fp) (hq : EltT prog w cenv x elt fp wr P F href (A.depth + 1) (A.units + 3)) :
    ∀ (k i : Nat) (s₀ s : Shared) (m : Str → Option Value), n₀ - i = k → i ≤ n₀ → 1 ≤ s.toks → St₀ i s.heap → s.heap.Ns cenv.locals m → GenSince cenv.locals wr s₀ s →
      (∀ b ∈ fp, b ∉ wr → ∀ o, href.get? b = some o → s.heap.get? b = some o) →
      Seg (model prog w) A (fun n s₀ r s₁ => r = .ok .next ∧ (n = 0 ∧ GenSince cenv.locals wr s₀ s₁)) (genP cenv.locals fp wr n₀ F) (n₀ - i) s₀
        (.compLoop (.GeneratorExp elt [⟨.Name x px, iter, [], 0⟩] scope pos) 0 (.ref I) .none cenv)
        ((model prog w).den (.compLoop (.GeneratorExp elt [⟨.Name x px, iter, [], 0⟩] scope pos) 0 (.ref I) .none cenv)) [] s := by
  have hh' : (A.over (.compLoop (.GeneratorExp elt [⟨.Name x px, iter, [], 0⟩] scope pos) 0 (.ref I) .none cenv) []).handled = none := hh
  have hdep' : (A.over (.compLoop (.GeneratorExp elt [⟨.Name x px, iter, [], 0⟩] scope pos) 0 (.ref I) .none cenv) []).depth ≤ A.depth + 1 := Nat.le_of_eq rfl
  have huni' : (A.over (.compLoop (.GeneratorExp elt [⟨.Name x px, iter, [], 0⟩] scope pos) 0 (.ref I) .none cenv) []).units ≤ A.units + 3 := Nat.le_of_eq rfl
  have hCw : cenv.locals ∉ wr := fun h => hCf ((W₀ A hh).sub _ h)
  intro k
  induction k with
  | zero =>
    intro i s₀ s m hk hi htk hst hn hsince hkp
    have hin : i = n₀ := by omega
    subst hin
    show Seg _ A _ _ _ s₀ _ ((compTurn (.GeneratorExp elt [⟨.Name x px, iter, [], 0⟩] scope pos) 0 (.ref I) .none cenv).onRaise (leaving cenv)) [] s
    rw [compTurn_gen, Sem.onRaise_eq_wrap]
    refine seg_bind_wrap (wpAny_standAt ?_)
    refine seg_bind_wrap ((W₀ _ hh').done s _ _ hst fun h' tk hk' => ?_)
    exact seg_end (.ok .next) ⟨rfl, Nat.sub_self _, hsince.step fun b o _ hw e => hk' b o hw e⟩
  | succ k ih =>
    intro i s₀ s m hk hi htk hst hn hsince hkp
    have hlt : i < n₀ := by omega
    show Seg _ A _ _ _ s₀ _ ((compTurn (.GeneratorExp elt [⟨.Name x px, iter, [], 0⟩] scope pos) 0 (.ref I) .none cenv).onRaise (leaving cenv)) [] s
    rw [compTurn_gen, Sem.onRaise_eq_wrap]
    refine seg_bind_wrap (wpAny_standAt ?_)
    refine seg_bind_wrap (wpAny_with_toks htk ((W₀ _ hh').item i s _ _ hlt hst fun v h₁ tk₁ hPv hst₁ hk₁ htk₁ => ?_))
    refine seg_bind_wrap (wpAny_of_eq (rfl : letOwnedTupleGo (.Name x px) (.ref I) v = pure ()) ?_)
    refine seg_bind_wrap (wpAny_assign_Name (wpAny_storeName_local hx (hn.at' fun o e => hk₁ _ o hCw e) (fun h₂ hn₂ hs₂ => ?_) hp))
    have up₂ : ∀ b o, b ≠ cenv.locals → b ∉ wr → s.heap.get? b = some o → h₂.get? b = some o := fun b o hbC hbw e => hs₂.extBut b o hbC (hk₁ b o hbw e)
    have hst₂ : St₀ (i + 1) h₂ := (W₀ A hh).frame _ _ _ hst₁ fun b hb o e => hs₂.extBut b o (fun h => hCf (h ▸ hb)) e
    have hkp₂ : ∀ b ∈ fp, b ∉ wr → ∀ o, href.get? b = some o → h₂.get? b = some o := fun b hb hbw o e => up₂ b o (fun h => hCf (h ▸ hb)) hbw (hkp b hb hbw o e)
    refine seg_bind_wrap (wpAny_pure ?_)
    simp only [if_true]
    have hy : ∀ v, yieldOut cenv v = yieldValue v := fun v => by simp only [yieldOut, hco, Bool.false_eq_true, if_false]
    simp only [hy]
    have e1 : n₀ - i = (n₀ - (i + 1)) + 1 := by omega
    rw [Sem.bind_eq_wrap', Sem.bind_eq_wrap', Sem.wrap_wrap, Sem.wrap_wrap, e1]
    refine seg_wrap (wpAny_mono (hq _ _ i v _ _ hh' hdep' huni' (Nat.le_succ_of_le htk₁) hPv hn₂ (by simp) hkp₂) (fun y s₄ h₄ => ?_) fun _ _ e => e)
    obtain ⟨hFy, h₄, tk₄, rfl, hk₄⟩ := h₄
    refine seg_at (seg_yield rfl rfl rfl ⟨?_, hsince.step fun b o hbC hbw e => hk₄ b o (up₂ b o hbC hbw e), fun s'' htk'' hal => ?_⟩)
    · rw [show n₀ - 1 - (n₀ - (i + 1)) = i by omega]
      exact hFy
    · refine seg_again rfl (ih (i + 1) s'' s'' _ (by omega) hlt htk'' ((W₀ A hh).frame _ _ _ hst₂ fun b hb o e => hal b (List.mem_cons_of_mem _ hb) o (hk₄ b o e))
        ((hn₂.keeps hk₄).at' fun o e => hal _ (List.mem_cons_self ..) o e) (GenSince.refl _ _ _) fun b hb hbw o e => hal b (List.mem_cons_of_mem _ hb) o (hk₄ b o (hkp₂ b hb hbw o e)))
theorem seg_start {elt iter : Expr} {x : Str} {px : Pos} {scope : Scope} {pos : Pos} {I : Addr} {fp wr : List Addr} {n₀ : Nat} {P : Nat → Value → Prop} {St₀ : Nat → Heap → Prop} {cenv : Env}
    (hh : A.handled = none) (W₀ : ∀ A' : Around, A'.handled = none → Walks prog w A' I fp wr n₀ P St₀) (F : Nat → Value → Prop) (href : Heap)
    (hx : cenv.kindOf x = some .local) (hp : (cenv.scope.kind == .class || (cenv.scope.kind == .module && cenv.locals != cenv.globals)) = false)
    (hco : cenv.scope.isCoroutine = false) (hCf : cenv.locals ∉ fp) (hq : EltT prog w cenv x elt fp wr P F href (A.depth + 1) (A.units + 3))
    (s₀ s : Shared) (m : Str → Option Value) (htk : 1 ≤ s.toks) (hst : St₀ 0 s.heap) (hn : s.heap.Ns cenv.locals m) (hsince : GenSince cenv.locals wr s₀ s)
    (hkp : ∀ b ∈ fp, b ∉ wr → ∀ o, href.get? b = some o → s.heap.get? b = some o) :
    Seg (model prog w) A (fun n s₀ r s₁ => r = .ok .next ∧ (n = 0 ∧ GenSince cenv.locals wr s₀ s₁)) (genP cenv.locals fp wr n₀ F) n₀ s₀
      (.compStart (.GeneratorExp elt [⟨.Name x px, iter, [], 0⟩] scope pos) 0 (.ref I) .none cenv)
      ((model prog w).den (.compStart (.GeneratorExp elt [⟨.Name x px, iter, [], 0⟩] scope pos) 0 (.ref I) .none cenv)) [] s := by
  have hh' : (A.over (.compStart (.GeneratorExp elt [⟨.Name x px, iter, [], 0⟩] scope pos) 0 (.ref I) .none cenv) []).handled = none := hh
  have loop := seg_loop (iter := iter) (px := px) (scope := scope) (pos := pos) hh W₀ F href hx hp hco hCf hq n₀ 0 s₀ s m (Nat.sub_zero _) (Nat.zero_le _) htk hst hn hsince hkp
  rw [Nat.sub_zero] at loop
  show Seg _ A _ _ _ s₀ _ ((compStart (.GeneratorExp elt [⟨.Name x px, iter, [], 0⟩] scope pos) 0 (.ref I) .none cenv).onRaise (leaving cenv)) [] s
  unfold compStart
  rw [Sem.onRaise_eq_wrap]
  show Seg _ A _ _ _ s₀ _ ((ask >>= _).wrap _ _ _ _) [] s
  refine seg_bind_wrap (wpAny_askSetting ?_)
  split
  · exact seg_again rfl loop
  · first
      | exact seg_bind_wrap (wpAny_rule (seg_bind_wrap (wpAny_standAt (seg_bind_wrap ((W₀ _ hh').self 0 s _ _ hst (seg_again rfl loop))))))
      | (refine seg_bind_wrap (wpAny_rule ?_); show Seg _ A _ _ _ s₀ _ ((standAt iter.pos >>= _).wrap _ _ _ _) [] s; exact seg_bind_wrap (wpAny_standAt (seg_bind_wrap ((W₀ _ hh').self 0 s _ _ hst (seg_again rfl loop)))))
/-- the generator stands before its item number j -/
noncomputable def GenT (prog : Program) (w : World) (A : Around) (a : Addr) (g : Nat) (C : Addr) (fp wr : List Addr) (n₀ : Nat) (F : Nat → Value → Prop) (j : Nat) (s : Shared) : Prop :=
  s.heap.IsGen a g ∧ s.heap.NoLimit ∧ 1 ≤ s.toks ∧ ∃ gs, s.gens[g]? = some gs ∧ ∀ s'' : Shared, 1 ≤ s''.toks → (∀ b ∈ C :: fp, ∀ o, s.heap.get? b = some o → s''.heap.get? b = some o) →
    gs.Goes (model prog w) A.in1 (fun n s₀ r s₁ => r = .ok .next ∧ (n = 0 ∧ GenSince C wr s₀ s₁)) (genP C fp wr n₀ F) (n₀ - j) (.send .none) s''
theorem walks_gen (hh : A.handled = none) (a : Addr) (g : Nat) (C : Addr) (fp wr : List Addr) (n₀ : Nat) (F : Nat → Value → Prop) (haC : a ≠ C) (haf : a ∉ fp) (hsub : ∀ b ∈ wr, b ∈ fp)
    (hroom : A.depth < recursionLimit) (hcs : cStatics ∈ fp) (hcC : cStatics ≠ C) (hcw : cStatics ∉ wr) :
    WalksS prog w A a (a :: C :: fp) (C :: wr) (GenOnlyQ g) n₀ F (GenT prog w A a g C fp wr n₀ F) where
  sub := fun b hb => by
    rcases List.mem_cons.mp hb with rfl | hb
    · simp
    · exact List.mem_cons_of_mem _ (List.mem_cons_of_mem _ (hsub b hb))
  grefl := fun _ => .inl rfl
  gtrans := fun _ _ _ x y => x.trans y
  frame := fun j s h' tk st htk hk =>
    ⟨let ⟨o, nm, qn, ho, r⟩ := st.1; ⟨o, nm, qn, hk a (List.mem_cons_self ..) o ho, r⟩,
     (let ⟨mc, hns, hnn⟩ := st.2.1; ⟨mc, hns.at' fun o e => hk cStatics (List.mem_cons_of_mem _ (List.mem_cons_of_mem _ hcs)) o e, hnn⟩),
     Nat.le_trans st.2.2.1 htk,
     let ⟨gs, hgs, hgo⟩ := st.2.2.2; ⟨gs, hgs, fun s'' h1 hal => hgo s'' h1 fun b hb o e => hal b hb o (hk b (List.mem_cons_of_mem _ hb) o e)⟩⟩
  item := fun j s Q E hj st hQ => by
    obtain ⟨hg, hl, h1, gs, hgs, hgo⟩ := st
    obtain ⟨m, hm⟩ : ∃ m, n₀ - j = m + 1 := ⟨n₀ - j - 1, by omega⟩
    rw [hm] at hgo
    refine wpAny_with_toks (Nat.le_refl s.toks) ?_
    refine wpAny_pyNext_genexpQ (P := fun n s₀ s₁ => n = 0 ∧ GenSince C wr s₀ s₁) hh hl hroom hg hgs (hgo _ h1 fun _ _ _ e => e) (fun v s₁ gs' hb hv => ?_) (fun s₁ hp h' hk => ?_)
    · obtain ⟨hF, ⟨h₁, tk₁, rfl, hk₁⟩, hkap⟩ := hv
      have hidx : n₀ - 1 - (m + 1 - 1) = j := by omega
      rw [hidx] at hF
      have haw : a ∉ wr := fun h => haf (hsub a h)
      intro htk
      refine hQ v _ hF ⟨let ⟨o, nm, qn, ho, r⟩ := hg; ⟨o, nm, qn, hk₁ a o haC haw ho, r⟩, (let ⟨mc, hns, hnn⟩ := hl; ⟨mc, hns.at' fun o e => hk₁ cStatics o hcC hcw e, hnn⟩), Nat.le_trans h1 htk, gs', setGen_self (gs := .running) (setGen_self hgs), fun s'' h1' hal => ?_⟩
        ⟨fun b o hb e => hk₁ b o (fun h => hb (h ▸ List.mem_cons_self ..)) (fun h => hb (List.mem_cons_of_mem _ h)) e, GenOnlyQ.of ((GenOnly.setGen s g .running).trans (GenOnly.setGen _ g gs')) (setGen_self (gs := .running) (setGen_self hgs)) hb, rfl, rfl, htk⟩
      have e : n₀ - (j + 1) = m := by omega
      rw [e]
      exact hkap s'' h1' hal
    · exact absurd hp.1 (Nat.succ_ne_zero m)
  done := fun s Q E st hQ => by
    obtain ⟨hg, hl, h1, gs, hgs, hgo⟩ := st
    rw [Nat.sub_self] at hgo
    refine wpAny_with_toks (Nat.le_refl s.toks) ?_
    refine wpAny_pyNext_genexpQ (P := fun n s₀ s₁ => n = 0 ∧ GenSince C wr s₀ s₁) hh hl hroom hg hgs (hgo _ h1 fun _ _ _ e => e) (fun v s₁ gs' hb hv => ?_) (fun s₁ hp h' hk => ?_)
    · obtain ⟨_, hsn, hkap⟩ := hv
      intro htk
      obtain ⟨h₁, tk₁, rfl, hk₁⟩ := hsn
      exact False.elim (hkap _ (Nat.le_trans h1 htk) fun _ _ _ e => e)
    · obtain ⟨_, h₁, tk₁, rfl, hk₁⟩ := hp
      intro htk
      exact hQ _ ⟨fun b o hb e => hk b o (hk₁ b o (fun h => hb (h ▸ List.mem_cons_self ..)) (fun h => hb (List.mem_cons_of_mem _ h)) e), GenOnlyQ.of ((GenOnly.setGen s g .running).trans (GenOnly.setGen _ g .finished)) (setGen_self (gs := .running) (setGen_self hgs)) rfl, rfl, rfl, htk⟩
  self := fun _ _ _ _ st hQ => wpAny_pyIter_gen st.1 hQ
theorem GenT.fresh {elt iter : Expr} {x : Str} {px : Pos} {scope : Scope} {pos : Pos} {I a : Addr} {g : Nat} {fp wr : List Addr} {n₀ : Nat} {P : Nat → Value → Prop} {St₀ : Nat → Heap → Prop} {cenv : Env}
    (hh : A.handled = none) (W₀ : ∀ A' : Around, A'.handled = none → Walks prog w A' I fp wr n₀ P St₀) (F : Nat → Value → Prop)
    (hx : cenv.kindOf x = some .local) (hp : (cenv.scope.kind == .class || (cenv.scope.kind == .module && cenv.locals != cenv.globals)) = false)
    (hco : cenv.scope.isCoroutine = false) (hCf : cenv.locals ∉ fp) {s : Shared} {m : Str → Option Value} (hq : EltT prog w cenv x elt fp wr P F s.heap (A.depth + 1) (A.units + 4))
    (hg : s.heap.IsGen a g) (hgs : s.gens[g]? = some (.fresh (.compStart (.GeneratorExp elt [⟨.Name x px, iter, [], 0⟩] scope pos) 0 (.ref I) .none cenv)))
    (hst : St₀ 0 s.heap) (hn : s.heap.Ns cenv.locals m) (hl : s.heap.NoLimit) (htk : 1 ≤ s.toks) : GenT prog w A a g cenv.locals fp wr n₀ F 0 s :=
  ⟨hg, hl, htk, _, hgs, fun s'' h1 hal => ⟨rfl, seg_start (A := A.in1) hh W₀ F s.heap hx hp hco hCf hq s'' s'' m h1 ((W₀ A hh).frame _ _ _ hst fun b hb o e => hal b (List.mem_cons_of_mem _ hb) o e)
    (hn.at' fun o e => hal _ (List.mem_cons_self ..) o e) (GenSince.refl _ _ _) fun b hb _ o e => hal b (List.mem_cons_of_mem _ hb) o e⟩⟩
end
end Mine
end
section
set_option maxRecDepth 100000
set_option maxHeartbeats 4000000
namespace Mine
open PySem PySem.W PyProof.Rows
section
variable {prog : Program} {w : World} {A : Around} {E : Value → Shared → Prop} {s : Shared} {c P : Addr}
/-- what is known of a generator that was just made -/
structure GenNew (prog : Program) (w : World) (A : Around) (K a : Addr) (n : Nat) (F : Nat → Value → Prop) (s : Shared) : Prop where
  walks : ∃ fp wr g St, WalksS prog w A.in4 a fp wr (GenOnlyQ g) n F St ∧ St 0 s ∧ (∀ i s', St i s' → s'.TypeIs (.ref a) "generator") ∧ a ∈ fp ∧ (∀ b ∈ fp, b < s.heap.objs.size) ∧ ∀ b ∈ wr, K ≤ b
theorem gen_list {env : Env} {elt iter : Expr} {x : Str} {px : Pos} {scope : Scope} {cl : List (Str × Addr)} {pos : Pos} {Q : Value → Shared → Prop}
    (hh : A.handled = none) (hco : scope.isCoroutine = false) (hclos : closureFor scope env = pure cl) (hcell : ∀ y ∈ scope.names, y.2 ≠ .cell) (h0 : scope.names.lookup (".0" : Str) = some NameKind.local)
    (hx : scope.names.lookup x = some .local) (hkind : scope.kind = .function) (hroom : A.depth < recursionLimit) (hcode : env.code = .ref c)
    (h : wpAny (model prog w) A (eval iter env) (fun xv s₁ => ∃ l items ps mg bm ob F, xv = .ref l ∧ s₁.heap.IsList l items ∧ 1 ≤ s₁.toks ∧ s₁.heap.NoLimit ∧ CodeHd s₁.heap c P ∧ s₁.heap.get? P = some (tabObj ps) ∧ TriplesOk ps.toList ∧
        BMod s₁.heap env.globals mg bm ob ∧ AllBare s₁.gens ∧
        (∀ (code : Value) (C : Addr) (A' : Around) E' i v (t : Shared) m₂, A'.handled = none → A'.depth ≤ A.depth + 1 → A'.units ≤ A.units + 8 → 1 ≤ t.toks → items[i]? = some v → t.heap.Ns C m₂ → m₂ x = some v → s₁.heap.objs.size ≤ C →
          (∀ b o, b ≠ P → s₁.heap.get? b = some o → t.heap.get? b = some o) →
          wpAny (model prog w) A' (eval elt (genEnv scope cl C code builtinsNs env)) (fun y s₃ => F i y ∧ Keeps t s₃) E' t) ∧
        ∀ a h₅ tk gs ps', (∀ b o, b ≠ P → s₁.heap.get? b = some o → h₅.get? b = some o) → h₅.get? P = some (tabObj ps') → TriplesOk ps'.toList → AllBare gs → 1 ≤ tk → s₁.heap.objs.size ≤ h₅.objs.size →
          GenNew prog w A s₁.heap.objs.size a items.size F { s₁ with heap := h₅, toks := tk, gens := gs } → Q (.ref a) { s₁ with heap := h₅, toks := tk, gens := gs }) E s)
    (hs : ∀ x, genFold iter env x = pure x) :
    wpAny (model prog w) A (eval (.GeneratorExp elt [⟨.Name x px, iter, [], 0⟩] scope pos) env) Q E s := by
  refine wpAny_GeneratorExp_make hco hclos hcell h0 hkind hroom (wpAny_mono h (fun xv s₁ h₁ => ?_) fun _ _ e => e) hs
  obtain ⟨l, items, ps, mg, bm, ob, F, rfl, hl, htk, hlim, CH, hP, hps, M, G, hq, hQ⟩ := h₁
  have hlt : l < s₁.heap.objs.size := by obtain ⟨_, e, _⟩ := hl; exact Heap.lt_size e
  have hPlt : P < s₁.heap.objs.size := Heap.lt_size hP
  have hlP : l ≠ P := fun e => by
    obtain ⟨o, ho, hc, _⟩ := hl
    rw [e, hP] at ho; cases ho; exact absurd hc (by simp)
  refine wpAny_pyIter_list hl ⟨hlim.push _, ?_⟩
  generalize hs₂ : ({ s₁ with heap := s₁.heap.push { cls := .type "list_iterator", data := .fields #[.ref l, .int 0 0] } } : Shared) = s₂
  have up : ∀ b o, s₁.heap.get? b = some o → s₂.heap.get? b = some o := fun b o e => by subst hs₂; exact Heap.get?_push_of_some _ e
  have hsz₂ : s₂.heap.objs.size = s₁.heap.objs.size + 1 := by subst hs₂; exact Heap.size_push ..
  have hit₂ : s₂.heap.IsListIter s₁.heap.objs.size l 0 := by subst hs₂; exact ⟨_, Heap.get?_push_size _ rfl, rfl, rfl⟩
  have hl₂ : s₂.heap.IsList l items := hl.at fun o e => up _ o e
  have hcP : cStatics ≠ P := fun e => by
    obtain ⟨_, hns, _⟩ := hlim
    obtain ⟨o, es, ep, ho, hd, _⟩ := hns
    rw [e, hP] at ho; cases ho; cases hd
  have key : ∀ code h₃ tk₃ ps', (∀ b o, b ≠ P → s₂.heap.get? b = some o → h₃.get? b = some o) → s₂.heap.objs.size ≤ h₃.objs.size → h₃.get? P = some (tabObj ps') → TriplesOk ps'.toList → 1 ≤ tk₃ →
      wpAny (model prog w) A (builtinsFor env.globals env.builtins) (fun bi s₄ =>
        ∀ h', h'.Ns s₄.heap.objs.size (fun y => if y = ".0" then some (.ref s₁.heap.objs.size) else none) → Heap.SameBut s₄.heap.objs.size (s₄.heap.push { cls := .type "frame", data := .dict #[] }) h' →
          Q (.ref h'.objs.size) { s₄ with
            gens := s₄.gens.push (.fresh (.compStart (.GeneratorExp elt [⟨.Name x px, iter, [], 0⟩] scope pos) 0 (.ref s₁.heap.objs.size) .none (genEnv scope cl s₄.heap.objs.size code bi env))),
            toks := s₄.toks + 1 + 1 + 1,
            heap := h'.push { cls := .type "generator", data := .fields #[.int s₄.gens.size 0, .str "<genexpr>" (s₄.toks + 1), .str (env.qual ++ "<genexpr>") (s₄.toks + 1 + 1)] } }) E { s₂ with heap := h₃, toks := tk₃ } := by
    intro code h₃ tk₃ ps' hx₃ hge hP₃ hps₃ htk₃
    have M₃ : BMod h₃ env.globals mg bm ob := (M.keeps up).extBut ((CH.keeps up).tab (up _ _ hP)) hx₃
    have hl₃ : h₃.NoLimit := (hlim.keeps up).extBut hx₃ hcP
    refine wpAny_builtinsFor M₃.ns M₃.name M₃.ne M₃.obj M₃.cls M₃.dict M₃.data ?_
    intro h' hn' hs'
    dsimp only at hn' hs' ⊢
    have hclt : cStatics < h₃.objs.size := let ⟨_, hn, _⟩ := hl₃; hn.lt
    have hsz : h'.objs.size = h₃.objs.size + 1 := by rw [hs'.1, Heap.size_push]
    have keep' : ∀ b o, h₃.get? b = some o → h'.get? b = some o := fun b o e => hs'.extBut b o (Nat.ne_of_lt (Heap.lt_size e)) (Heap.get?_push_of_some _ e)
    have haC : h'.objs.size ≠ h₃.objs.size := by rw [hsz]; exact Nat.succ_ne_self _
    have haf : h'.objs.size ∉ List.range h₃.objs.size := fun hm => by have := List.mem_range.mp hm; omega
    have hIlt : s₁.heap.objs.size < h₃.objs.size := by omega
    have W₀ : ∀ A' : Around, A'.handled = none → Walks prog w A' s₁.heap.objs.size [s₁.heap.objs.size, l] [s₁.heap.objs.size] items.size _ _ := fun A' hA => Walks.list hA _ _ (Nat.ne_of_lt hlt) items
    have hfp : ∀ b ∈ [s₁.heap.objs.size, l], b < h₃.objs.size := by
      intro b hb
      rcases List.mem_cons.mp hb with rfl | hb
      · exact hIlt
      · rcases List.mem_cons.mp hb with rfl | hb
        · exact Nat.lt_trans hlt hIlt
        · cases hb
    have hsub : ∀ b ∈ [s₁.heap.objs.size], b ∈ List.range h₃.objs.size := fun b hb => by
      rcases List.mem_cons.mp hb with rfl | hb
      · exact List.mem_range.mpr hIlt
      · cases hb
    have hcw : cStatics ∉ [s₁.heap.objs.size] := fun hm => by
      have hc : cStatics < s₁.heap.objs.size := let ⟨_, hn, _⟩ := hlim; hn.lt
      rcases List.mem_cons.mp hm with e | hb
      · exact absurd (e ▸ hc) (Nat.lt_irrefl _)
      · cases hb
    generalize hgo : ({ cls := .type "generator", data := .fields #[.int (s₂.gens.size : Nat) 0, .str "<genexpr>" (tk₃ + 1), .str (env.qual ++ "<genexpr>") (tk₃ + 1 + 1)] } : Obj) = go
    have keep₅ : ∀ b o, h₃.get? b = some o → (h'.push go).get? b = some o := fun b o e => Heap.get?_push_of_some _ (keep' b o e)
    have up₅ : ∀ b o, b ≠ P → s₁.heap.get? b = some o → (h'.push go).get? b = some o := fun b o hb e => keep₅ b o (hx₃ b o hb (up b o e))
    have hst : (h'.push go).IsListIter s₁.heap.objs.size l 0 ∧ (h'.push go).IsList l items :=
      ⟨hit₂.at fun o e => keep₅ _ _ (hx₃ _ _ (Nat.ne_of_gt hPlt) e), hl.at fun o e => up₅ _ _ hlP e⟩
    have G₂ : AllBare s₂.gens := by subst hs₂; exact G
    have hfin := hQ h'.objs.size (h'.push go) (tk₃ + 1 + 1 + 1) (s₂.gens.push (.fresh (.compStart (.GeneratorExp elt [⟨.Name x px, iter, [], 0⟩] scope pos) 0 (.ref s₁.heap.objs.size) .none (genEnv scope cl h₃.objs.size code builtinsNs env)))) ps'
      up₅ (keep₅ _ _ hP₃) hps₃ (G₂.push rfl) (by omega) (by rw [Heap.size_push]; omega) ⟨_, _, _, _, walks_gen (A := A.in4) (prog := prog) (w := w) hh h'.objs.size s₂.gens.size h₃.objs.size (List.range h₃.objs.size) [s₁.heap.objs.size] items.size F haC haf hsub hroom (List.mem_range.mpr hclt) (Nat.ne_of_lt hclt) hcw, ?_, (fun i s' st => st.1.typeIs), List.mem_cons_self, ?_, ?_⟩
    · subst hs₂; exact hfin
    · refine GenT.fresh (A := A.in4) (cenv := genEnv scope cl h₃.objs.size code builtinsNs env) (m := fun y => if y = ".0" then some (.ref s₁.heap.objs.size) else none) hh
        (fun A' hA => (W₀ A' hA).mono_fp fun b hb => List.mem_range.mpr (hfp b hb)) F hx (by simp [genEnv, hkind]) hco
        (fun hm => Nat.lt_irrefl _ (List.mem_range.mp hm)) ?_ (by subst hgo; exact ⟨_, _, _, Heap.get?_push_size _ rfl, rfl, rfl, rfl⟩) (Array.getElem?_push_size ..) hst (hn'.push _) (hl₃.keeps keep₅) (show 1 ≤ tk₃ + 1 + 1 + 1 by omega)
      intro A' E' i v t m₂ hA hD hU ht hPv hn hm hkp
      refine hq code h₃.objs.size A' E' i v t m₂ hA hD hU ht hPv hn hm (by omega) fun b o hb e => ?_
      have e2 := up₅ b o hb e
      refine hkp b (List.mem_range.mpr ?_) (fun hm' => ?_) o e2
      · exact Nat.lt_trans (Heap.lt_size e) hIlt
      · rcases List.mem_cons.mp hm' with rfl | hm'
        · exact Nat.lt_irrefl _ (Heap.lt_size e)
        · cases hm'
    · intro b hb
      show b < (h'.push go).objs.size
      rw [Heap.size_push]
      rcases List.mem_cons.mp hb with rfl | hb
      · exact Nat.lt_succ_self _
      · rcases List.mem_cons.mp hb with e | hb
        · have e' : @Eq Nat b h₃.objs.size := e
          have g : @LT.lt Nat _ b (h'.objs.size + 1) := by omega
          exact g
        · have e' : @LT.lt Nat _ b h₃.objs.size := List.mem_range.mp hb
          have g : @LT.lt Nat _ b (h'.objs.size + 1) := by omega
          exact g
    · intro b hb
      rcases List.mem_cons.mp hb with e | hb
      · have e' : @Eq Nat b h₃.objs.size := e
        have g : @LE.le Nat _ s₁.heap.objs.size b := by omega
        exact g
      · rcases List.mem_cons.mp hb with rfl | hb
        · exact Nat.le_refl _
        · cases hb
  have CH₂ : CodeHd s₂.heap c P := CH.keeps up
  have htk₂ : 1 ≤ s₂.toks := by subst hs₂; exact htk
  cases hnf : codeAmong pos ps.toList with
  | some cv =>
    refine wpAny_genexprCode_hit hcode (CH₂.code (up _ _ hP) hps) hnf ?_
    exact key cv s₂.heap s₂.toks ps (fun _ _ _ e => e) (Nat.le_refl _) (up _ _ hP) hps htk₂
  | none =>
    refine wpAny_with_toks htk₂ (wpAny_genexprCodeX hcode (CH₂.code (up _ _ hP) hps) (CH₂.tab (up _ _ hP)) hnf fun c' h₃ tk₃ hx₃ hge hlt₃ hcode₃ _ htab₃ _ htk₃ => ?_)
    refine key _ h₃ tk₃ _ hx₃ (Nat.le_trans hge (Nat.le_of_lt hlt₃)) htab₃.2 ?_ htk₃
    obtain ⟨o, vs, file, tf, flags, tg, inF, text, tt, op, _, _, _, _, _, _, _, _, _, htr, _⟩ := hcode₃
    exact htr
end
end Mine
end
section
set_option maxRecDepth 100000
set_option maxHeartbeats 4000000
namespace Mine
open PySem PySem.W PyProof.Rows
section
variable {prog : Program} {w : World} {A : Around} {E : Value → Shared → Prop} {s : Shared} {env : Env}
theorem on_replace {x : Str} {t : Tok} {y z : Str} {k1 k2 p1 p2} {pos : Pos} {Q : Value → Shared → Prop} (htk : 1 ≤ s.toks) (hyz : (y == z) = false) (hx : x.length ≤ 1048576) (hz : z.length ≤ 14)
    (h : ∀ t' k, 1 ≤ k → Q (.str (Txt.replace x y z) t') { s with toks := k }) :
    MethodOnS prog w A E "replace" (.str x t) pos [(false, eval (.Constant (.str y) k1 p1) env), (false, eval (.Constant (.str z) k2 p2) env)] Q s := by
  refine ⟨"str", "str.replace", F.plainAttrs_str, F.slot_str_replace, F.type_str_replace, typeIs_str _ _ _, (fun _ e => nomatch e), ?_⟩
  refine Calls.callWith_builtin rfl (Calls.evalArgs_plain (Calls.spliced_cons (Calls.Constant_str (Calls.spliced_cons (Calls.Constant_str (Calls.spliced_nil ?_))))))
  refine wpAny_with_toks (n := 1) (show 1 ≤ s.toks + 1 + 1 by omega) ?_
  exact SC.replaceW (show @Ne Nat s.toks 0 by omega) (show @Ne Nat (s.toks + 1) 0 by omega) (show @Ne Nat s.toks (s.toks + 1) by omega) hyz hx hz fun t' k hk => h t' k hk
theorem elt_rule {y : Str} {ty : Tok} {C : Addr} {m₂ : Str → Option Value} {code : Value} {cl : List (Str × Addr)} {p1 p2 p3 p4 p5 p6 p7 p8 p9 : Pos} (hl1 : (p2.endLine == p5.line) = true) (hl2 : (p6.endLine == p9.line) = true)
    (htk : 1 ≤ s.toks) (hn : s.heap.Ns C m₂) (hm : m₂ "s" = some (.str y ty)) (hy : y.length ≤ 100000) :
    wpAny (model prog w) A (eval (.Call (.Attribute (.Call (.Attribute (.Name "s" p1) "replace" p2) [.Constant (.str "\\") 0 p3, .Constant (.str "\\\\") 0 p4] [] p5) "replace" p6) [.Constant (.str "-") 0 p7, .Constant (.str "\\-") 0 p8] [] p9)
      (genEnv { kind := .function, names := [(".0", .local), ("s", .local)], isGenerator := true, isCoroutine := false } cl C code builtinsNs env))
      (fun v s₃ => (∃ u, v = .str (repl (repl y bs1 bs2) dash1 dash2) u) ∧ Keeps s s₃) E s := by
  refine Call_method2 rfl rfl hl2 ?_
  refine Call_method2 rfl rfl hl1 ?_
  refine wpAny_Name (wpAny_loadName_local rfl rfl hn hm ?_) (by decide)
  refine on_replace htk (by decide +kernel) (by omega) (by decide) fun t' k hk => ?_
  refine on_replace hk (by decide +kernel) ?_ (by decide) fun t' k hk => ?_
  · have h1 := repl_len y bs1 bs2
    have h2 : bs2.length = 2 := by decide
    rw [h2] at h1
    show (repl y bs1 bs2).length ≤ 1048576
    omega
  · exact ⟨⟨_, rfl⟩, _, _, rfl, fun _ _ e => e⟩
end
end Mine
end
section
set_option maxRecDepth 100000
set_option maxHeartbeats 4000000
namespace Mine
open PySem PySem.W PyProof.Rows
section
variable {prog : Program} {w : World} {A : Around} {E : Value → Shared → Prop} {s : Shared}
theorem join_gen {a K : Addr} {n : Nat} {F : Nat → Value → Prop} {sep : Str} {t : Tok} {Q : Value → Shared → Prop} (X : GenNew prog w A K a n F s) (G : AllBare s.gens) (tx : List Str) (hn : tx.length = n) (htx : ∀ j v, F j v → ∃ u, v = .str (tx.getD j "") u)
    (hok : JoinOk sep tx = true) (hsz : n ≤ sizeLine)
    (hQ : ∀ h' tk gs t', (∀ b o, b < K → s.heap.get? b = some o → h'.get? b = some o) → AllBare gs → s.toks ≤ tk → Q (.str (Txt.join sep tx) t') { s with heap := h', toks := tk, gens := gs }) :
    wpAny (model prog w) A (call (.builtin "str.join") [.str sep t, .ref a]) Q E s := by
  obtain ⟨fp, wr, g, St, W, hst, hT, ha, hfp, hwr⟩ := X.walks
  have W := W.in4_2
  refine wpAny_with_toks (Nat.le_refl s.toks) ?_
  refine SC.joinGen W hT hst hfp ha (fun j v hv => let ⟨u, e⟩ := htx j v hv; ⟨_, u, e⟩) (fun s' lt hm hacc => ?_) hsz
  have hl : lt.map (·.1) = tx := by
    apply List.ext_getElem?
    intro j
    have hsz : lt.length = n := by simpa [strValues] using hacc.1
    by_cases hj : j < n
    · have hj' : j < lt.length := hsz ▸ hj
      have hj2 : j < tx.length := hn ▸ hj
      obtain ⟨u, hv⟩ := htx j _ (hacc.2 j (.str lt[j].1 lt[j].2) (by simp [strValues, List.getElem?_eq_getElem hj']))
      injection hv with h1 _
      simp [List.getElem?_eq_getElem hj', hj2, h1]
    · rw [List.getElem?_eq_none (by simpa [hsz] using Nat.le_of_not_lt hj), List.getElem?_eq_none (by rw [hn]; exact Nat.le_of_not_lt hj)]
  rw [hl]
  have g1 := G.movedS hm
  refine ⟨hok, fun t' k hk => ?_⟩
  have e : ({ s' with toks := k } : Shared) = { s with heap := s'.heap, toks := k, gens := s'.gens } := by
    rw [← hm.drawn, ← hm.os]
  rw [e]
  exact hQ s'.heap k s'.gens t' (fun b o hb e => hm.heap b o (fun hmem => Nat.lt_irrefl _ (Nat.lt_of_lt_of_le hb (hwr b hmem))) e) g1 hk
end
end Mine
end
section
set_option maxRecDepth 100000
set_option maxHeartbeats 4000000
namespace Mine
open PySem PySem.W PyProof.Rows
theorem Strs.at_ : ∀ {vs : List Value} {xs : List (List Nat)} {i : Nat} {v : Value}, Strs vs xs → vs[i]? = some v → ∃ y t, xs[i]? = some y ∧ v = .str (S y) t
  | [], [], _, _, _, h => by simp at h
  | a :: vs, x :: xs, 0, v, st, h => by
    obtain ⟨⟨t, e⟩, _⟩ := st
    simp at h
    exact ⟨x, t, rfl, h ▸ e⟩
  | a :: vs, x :: xs, i + 1, v, st, h => by
    obtain ⟨_, st⟩ := st
    simp at h
    obtain ⟨y, t, e1, e2⟩ := Strs.at_ st h
    exact ⟨y, t, by simpa using e1, e2⟩
section
variable {prog : Program} {w : World} {A : Around} {E : Value → Shared → Prop} {s : Shared} {g : Heap} {L : Addr} {m mg mb : Str → Option Value} {p : Program} {loose : List Str} {mean : ExcName → Option Value}
noncomputable abbrev chunkText (y : List Nat) : Str := repl (repl (S y) bs1 bs2) dash1 dash2
theorem gen_K {env : Env} {C9 B R : Addr} {bo ro : Obj} {cv : List Value} {cc : Nat} {ps : Array Value} {Ts : List (List Nat)} {Q : Value → Shared → Prop} {q1 q2 pos : Pos} {p1 p2 p3 p4 p5 p6 p7 p8 p9 : Pos}
    (F : Fr g L s.heap m) (N : News g L s.heap [(C9, W.listOf cv.toArray cc), (B, bo), (R, ro), (70, tabObj ps)]) (T : Top p loose mean mg mb g) (CH : CodeHd g 74 70) (hps : TriplesOk ps.toList) (hgs : AllBare s.gens) (htk : 1 ≤ s.toks)
    (hbo : bo.cls ≠ .none) (hro : ro.cls ≠ .none)
    (hst : Strs cv Ts) (hlen : ∀ y ∈ Ts, y.length ≤ 100000) (hh : A.handled = none) (hroom : A.depth < recursionLimit) (hcode : env.code = .ref 74) (hge : env.globals = mainGlobals)
    (hev : ∀ Q' : Value → Shared → Prop, Q' (.ref C9) s → wpAny (model prog w) A (eval (.Name "chunks" q1) env) Q' E s)
    (hl1 : (p2.endLine == p5.line) = true) (hl2 : (p6.endLine == p9.line) = true)
    (ret : ∀ a h' tk gs ps', Fr g L h' m → News g L h' [(C9, W.listOf cv.toArray cc), (B, bo), (R, ro), (70, tabObj ps')] → TriplesOk ps'.toList → AllBare gs → 1 ≤ tk → s.heap.objs.size ≤ h'.objs.size →
      GenNew prog w A s.heap.objs.size a Ts.length (fun j v => ∃ u, v = .str ((Ts.map chunkText).getD j "") u) { s with heap := h', toks := tk, gens := gs } → Q (.ref a) { s with heap := h', toks := tk, gens := gs }) :
    wpAny (model prog w) A (eval (.GeneratorExp (.Call (.Attribute (.Call (.Attribute (.Name "s" p1) "replace" p2) [.Constant (.str "\\") 0 p3, .Constant (.str "\\\\") 0 p4] [] p5) "replace" p6) [.Constant (.str "-") 0 p7, .Constant (.str "\\-") 0 p8] [] p9)
      [⟨.Name "s" q2, .Name "chunks" q1, [], 0⟩] { kind := .function, names := [(".0", .local), ("s", .local)], isGenerator := true, isCoroutine := false } pos) env) Q E s := by
  obtain ⟨bm, ob, M⟩ := bmod_of_top T
  have hg70 : g.get? 70 = none := (N (70, tabObj ps) (by simp)).2.2
  have h70 : s.heap.get? 70 = some (tabObj ps) := (N (70, tabObj ps) (by simp)).1
  have hC := N (C9, W.listOf cv.toArray cc) (by simp)
  have hB := N (B, bo) (by simp)
  have hR := N (R, ro) (by simp)
  have nC : C9 ≠ 70 := fun e => by have z := hC.1; rw [e] at z; rw [h70] at z; cases z
  have nB : B ≠ 70 := fun e => by have z := hB.1; rw [show (B, bo).1 = 70 from e, h70] at z; injection z with z; exact hbo (show bo.cls = .none by rw [← show tabObj ps = bo from z])
  have nR : R ≠ 70 := fun e => by have z := hR.1; rw [show (R, ro).1 = 70 from e, h70] at z; injection z with z; exact hro (show ro.cls = .none by rw [← show tabObj ps = ro from z])
  have nL : L ≠ 70 := fun e => (N (70, tabObj ps) (by simp)).2.1 e.symm
  have hsz : Ts.length = cv.length := hst.length.symm
  refine gen_list (c := 74) (P := 70) hh rfl rfl (by decide) rfl rfl rfl hroom hcode (hev _ ?_) (fun x => rfl)
  refine ⟨C9, cv.toArray, ps, mg, bm, ob, (fun j v => ∃ u, v = .str ((Ts.map chunkText).getD j "") u), rfl, kso_isList (vs := cv) N (List.Mem.head _) rfl, htk, T.nolimit.keeps F.keep, CH.keeps F.keep, h70, hps, hge ▸ M.keeps F.keep, hgs, ?_, ?_⟩
  · intro code C A' E' i v t m₂ _ _ _ ht hv hn hm _ _
    rw [List.getElem?_toArray] at hv
    obtain ⟨y, ty, e1, rfl⟩ := hst.at_ hv
    have hy := hlen y (List.mem_of_getElem? e1)
    refine wpAny_mono (elt_rule hl1 hl2 ht hn hm (by rw [S_length]; exact hy)) (fun v' s' h' => ⟨?_, h'.2⟩) fun _ _ e => e
    obtain ⟨u, e⟩ := h'.1
    exact ⟨u, by rw [e, List.getD_eq_getElem?_getD, List.getElem?_map, e1]; rfl⟩
  · intro a h₅ tk gs ps' hk hP' hps' hgs' htk' hsz' X
    have hsz2 : cv.toArray.size = Ts.length := by rw [List.size_toArray, hsz]
    rw [hsz2] at X
    refine ret a h₅ tk gs ps' ⟨F.ns.at' fun o e => hk _ o nL e, fun b o e => hk b o (fun e2 => by rw [e2, hg70] at e; cases e) (F.keep b o e), F.above⟩ ?_ hps' hgs' htk' hsz' X
    intro q hq
    rcases List.mem_cons.mp hq with rfl | hq
    · exact ⟨hk _ _ nC hC.1, hC.2⟩
    rcases List.mem_cons.mp hq with rfl | hq
    · exact ⟨hk _ _ nB hB.1, hB.2⟩
    rcases List.mem_cons.mp hq with rfl | hq
    · exact ⟨hk _ _ nR hR.1, hR.2⟩
    rcases List.mem_cons.mp hq with rfl | hq
    · exact ⟨hP', (N (70, tabObj ps) (by simp)).2⟩
    · cases hq
end
theorem fr_news_up {g h h' h₁ : Heap} {L : Addr} {m m₁ : Str → Option Value} {news news₁ : List (Addr × Obj)} (F : Fr g L h m) (N : News g L h news) (F₁ : Fr g L h₁ m₁) (N₁ : News g L h₁ news₁)
    (he : news.map (·.1) = news₁.map (·.1)) (hk : ∀ b o, b < h₁.objs.size → h.get? b = some o → h'.get? b = some o) : Fr g L h' m ∧ News g L h' news := by
  refine ⟨⟨F.ns.at' fun o e => hk _ o F₁.ns.lt e, fun b o e => hk b o (Heap.lt_size (F₁.keep b o e)) (F.keep b o e), F.above⟩, fun q hq => ⟨hk _ _ ?_ (N q hq).1, (N q hq).2⟩⟩
  have hm : q.1 ∈ news₁.map (·.1) := he ▸ List.mem_map_of_mem hq
  obtain ⟨q', hq', e⟩ := List.mem_map.mp hm
  rw [← e]
  exact Heap.lt_size (N₁ q' hq').1
theorem fold_len (sep : Str) : ∀ (l : List Str) (n : Nat), l.foldl (fun (a : Nat) (b : Str) => a + b.length + sep.length) n = n + (l.map (·.length)).sum + l.length * sep.length
  | [], n => by simp
  | x :: l, n => by
    rw [List.foldl_cons, fold_len sep l]
    simp only [List.map_cons, List.sum_cons, List.length_cons, Nat.add_mul, Nat.one_mul]
    omega
theorem chunks_tot {x : List Nat} (hx : x.length < 100) : tot (chunksOf x) ≤ 20000 ∧ (chunksOf x).length ≤ 200 := by
  have a := cut_size (x := x) (N := 100) (by omega) x.length [] 0 (if x.head? = some 33 then 2 else 1)
  have b := merge_size (cut x.length x [] 0 (if x.head? = some 33 then 2 else 1))
  have e3 : tot ([] : List (List Nat)) = 0 := rfl
  have e4 : (x.length + 1) * 101 ≤ 100 * 101 := Nat.mul_le_mul_right _ (by omega)
  unfold chunksOf
  simp only [List.length_nil] at a
  omega
theorem join_ok {x : List Nat} (hx : x.length < 100) : JoinOk dash1 ((chunksOf x).map chunkText) = true := by
  have a := chunks_tot hx
  have c := sum_len2 (chunksOf x)
  have e1 : dash1.length = 1 := by decide +kernel
  unfold JoinOk Builtin.Str.tooLong
  rw [List.foldl_toArray, fold_len, e1, List.length_map, sizeLine_eq, Bool.not_eq_true']
  refine decide_eq_false ?_
  show ¬ (_ > _)
  unfold chunkText
  omega
end Mine
end
section
open PySem PySem.W PyProof.Rows PySem.Calls
set_option maxRecDepth 100000
set_option maxHeartbeats 4000000
set_option pp.deepTerms false
namespace Mine
theorem execs_consTL {M : Model} {A : Around} {env : Env} {Q : Flow → Shared → Prop} {E : Value → Shared → Prop} {st : Stmt} {rest : List Stmt} {hp : Heap} {gs : Array GenState} {d : Drawn} {X : Nat} {os : OsState} (hn : 1 ≤ X)
    (h : let qk := (fun f s' => 1 ≤ s'.toks → match f with | .next => wpAny M A (execs rest env) Q E s' | f => Q f s'); ∀ tk, 1 ≤ tk → wpAny M A (exec st env) qk E ⟨hp, gs, d, tk, os⟩) :
    wpAny M A (execs (st :: rest) env) Q E ⟨hp, gs, d, X, os⟩ := wpAny_execs_cons (with_toksQ (n := 1) hn (h X hn))
theorem item_SN {prog : Program} {w : World} {A : Around} {E : Value → Shared → Prop} {l : List Nat} {i : Int} {u t : Tok} {a b : Str} {p q : Pos} {Q : Value → Shared → Prop} {s : Shared} (hx : l.length < 100) (hi : 0 ≤ i ∧ i < l.length)
    (h : (1 ≤ (Txt.item (S l) i).length ∧ (Txt.item (S l) i).length ≤ 1) → Q (.str (Txt.item (S l) i) s.toks) { s with toks := s.toks + 1 }) :
    wpAny (model prog w) A (subscriptTail (.Name a p) (.Name b q) (.str (S l) t) (.int i u)) Q E s :=
  item_str (fitsSsize_of (N := 9223372036854775808) (by omega) (by omega) (Int.le_refl _)) (by rw [S_length]; omega) (by rw [S_length]; omega) h
noncomputable abbrev sPat : Str := Str.ofString "pat"
noncomputable abbrev sSTAR : Str := Str.ofString "STAR"
noncomputable abbrev sQM : Str := Str.ofString "QUESTION_MARK"
noncomputable abbrev sRes : Str := Str.ofString "res"
noncomputable abbrev sAdd : Str := Str.ofString "add"
noncomputable abbrev sI : Str := Str.ofString "i"
noncomputable abbrev sJ : Str := Str.ofString "j"
noncomputable abbrev sChunks : Str := Str.ofString "chunks"
noncomputable abbrev sChunk : Str := Str.ofString "chunk"
noncomputable abbrev sK : Str := Str.ofString "k"
noncomputable abbrev sStuff : Str := Str.ofString "stuff"
noncomputable abbrev sN : Str := Str.ofString "n"
theorem trM_eq {m : Str → Option Value} {a b c d e f h : Value} (e1 : m sPat = some a) (e2 : m sSTAR = some b) (e3 : m sQM = some c) (e4 : m sRes = some d) (e5 : m sAdd = some e) (e6 : m sI = some f) (e7 : m sN = some h) :
    m = fun y => if y = sPat then some a else if y = sSTAR then some b else if y = sQM then some c else if y = sRes then some d else if y = sAdd then some e else if y = sI then some f else if y = sN then some h else m y := by
  funext y
  repeat' split
  all_goals first | rfl | (rename_i q; rw [q]; assumption)
theorem trM2_eq {m : Str → Option Value} {d f h : Value} (e4 : m sRes = some d) (e6 : m sI = some f) (e7 : m sN = some h) :
    m = fun y => if y = sRes then some d else if y = sI then some f else if y = sN then some h else m y := by
  funext y
  repeat' split
  all_goals first | rfl | (rename_i q; rw [q]; assumption)
inductive TrInv (g : Heap) (L : Addr) (l : List Nat) (tx tq : Tok) (R B : Addr) (tot : List (Option Str)) (s : Shared) (k : Nat) (s' : Shared) : Prop
  | mk (h : Heap) (tk : Nat) (gs : Array GenState) (m : Str → Option Value) (i : Nat) (vals : List Value) (acc : List (Option Str)) (c : Nat) (ps : Array Value) (v n : Int) (fu : Nat) (tn ti : Tok)
    (q1 : s' = { s with heap := h, toks := tk, gens := gs })
    (q2 : Fr g L h m)
    (q3 : News g L h [(B, boundApp R), (R, W.listOf vals.toArray c), (70, tabObj ps)])
    (q4 : AllBare gs)
    (q5 : TriplesOk ps.toList)
    (q6 : 1 ≤ tk)
    (q7 : k = l.length - i)
    (q8 : i ≤ l.length)
    (q9 : v = ((i : Nat) : Int))
    (q10 : n = ((l.length : Nat) : Int))
    (q11 : vals.length ≤ i)
    (q12 : ItemsV acc vals)
    (q13 : l.length - i ≤ fu)
    (q14 : trans fu acc (l.drop i) = tot)
    (q15 : m sPat = some (.str (S l) tx))
    (q16 : m sSTAR = some .none)
    (q17 : m sQM = some (.str (Str.ofString "?") tq))
    (q18 : m sRes = some (.ref R))
    (q19 : m sAdd = some (.ref B))
    (q20 : m sI = some (.int v ti))
    (q21 : m sN = some (.int n tn)) : TrInv g L l tx tq R B tot s k s'
inductive BrOut (g : Heap) (L : Addr) (l : List Nat) (tx tq : Tok) (R B : Addr) (vals : List Value) (c : Nat) (o : Nat) (P : Nat → Prop) (s : Shared) (f : Flow) (s' : Shared) : Prop
  | mk (q1 : f = .next) (h : Heap) (tk : Nat) (gs : Array GenState) (m : Str → Option Value) (ps : Array Value) (j : Nat) (jv v n : Int) (tj tn ti : Tok)
    (q2 : s' = { s with heap := h, toks := tk, gens := gs })
    (q3 : Fr g L h m)
    (q4 : News g L h [(B, boundApp R), (R, W.listOf vals.toArray c), (70, tabObj ps)])
    (q5 : AllBare gs)
    (q6 : TriplesOk ps.toList)
    (q7 : 1 ≤ tk)
    (q8 : P j)
    (q9 : j ≤ l.length)
    (q10 : jv = ((j : Nat) : Int))
    (q11 : v = ((o : Nat) : Int))
    (q12 : n = ((l.length : Nat) : Int))
    (q13 : m sPat = some (.str (S l) tx))
    (q14 : m sSTAR = some .none)
    (q15 : m sQM = some (.str (Str.ofString "?") tq))
    (q16 : m sRes = some (.ref R))
    (q17 : m sAdd = some (.ref B))
    (q18 : m sI = some (.int v ti))
    (q19 : m sN = some (.int n tn))
    (q20 : m sJ = some (.int jv tj)) : BrOut g L l tx tq R B vals c o P s f s'
/-- what the search for the right bracket ends with -/
noncomputable def BrDone (l : List Nat) (o : Nat) (j : Nat) : Prop := (brEnd (l.drop o) = none ∧ j = l.length) ∨ (brEnd (l.drop o) = some (j - o) ∧ j < l.length ∧ o ≤ j)
noncomputable def BrInv (g : Heap) (L : Addr) (l : List Nat) (tx tq : Tok) (R B : Addr) (vals : List Value) (c : Nat) (o : Nat) (s : Shared) (k : Nat) (s' : Shared) : Prop :=
  BrOut g L l tx tq R B vals c o (fun j => k = l.length - j ∧ o + brFrom (l.drop o) ≤ j ∧ ∀ a, o + brFrom (l.drop o) ≤ a → a < j → l[a]? ≠ some 93) s .next s'
theorem upd_eq {m : Str → Option Value} {x : Str} {a : Value} (e : m x = some a) : m = fun y => if y = x then some a else m y := by
  funext y
  split
  · rename_i q; rw [q, e]
  · rfl
theorem item_is {l : List Nat} {i : Nat} {v : Int} {d : Nat} {y : Str} (hy : y = S [d]) (hv : v = (i : Int)) (h : i < l.length) : (Txt.item (S l) v == y) = decide (l[i]? = some d) := by
  rw [hv, item_at h, hy, List.getD_eq_getElem?_getD, List.getElem?_eq_getElem h]
  by_cases e : l[i] = d
  · rw [e]; simp
  · rw [show (some l[i]).getD 0 = l[i] from rfl, one_ne e]
    simp [e]
theorem ofS_bang : Str.ofString "!" = S [33] := by decide +kernel
theorem ofS_rbr : Str.ofString "]" = S [93] := by decide +kernel
inductive StOut (g : Heap) (L : Addr) (l : List Nat) (tx tq : Tok) (R B : Addr) (vals : List Value) (c : Nat) (j : Nat) (y : Str) (s : Shared) (f : Flow) (s' : Shared) : Prop
  | mk (q1 : f = .next) (h : Heap) (tk : Nat) (gs : Array GenState) (m : Str → Option Value) (ps : Array Value) (jv n : Int) (tj tn ty : Tok)
    (q2 : s' = { s with heap := h, toks := tk, gens := gs })
    (q3 : Fr g L h m)
    (q4 : News g L h [(B, boundApp R), (R, W.listOf vals.toArray c), (70, tabObj ps)])
    (q5 : AllBare gs)
    (q6 : TriplesOk ps.toList)
    (q7 : 1 ≤ tk)
    (q8 : jv = ((j : Nat) : Int))
    (q9 : n = ((l.length : Nat) : Int))
    (q10 : m sPat = some (.str (S l) tx))
    (q11 : m sSTAR = some .none)
    (q12 : m sQM = some (.str (Str.ofString "?") tq))
    (q13 : m sRes = some (.ref R))
    (q14 : m sAdd = some (.ref B))
    (q15 : m sN = some (.int n tn))
    (q16 : m sJ = some (.int jv tj))
    (q17 : m sStuff = some (.str y ty)) : StOut g L l tx tq R B vals c j y s f s'
/-- in the branch of the chunks -/
inductive ChSt (g : Heap) (L : Addr) (l : List Nat) (tx tq : Tok) (R B C : Addr) (vals : List Value) (c o j : Nat) (P : Nat → Int → List (List Nat) → Prop) (s : Shared) (f : Flow) (s' : Shared) : Prop
  | mk (q1 : f = .next) (h : Heap) (tk : Nat) (gs : Array GenState) (m : Str → Option Value) (ps : Array Value) (ci : Nat) (kv iv jv n : Int) (tj tn ti tkk : Tok) (acc : List (List Nat)) (cv : List Value) (cc : Nat)
    (q2 : s' = { s with heap := h, toks := tk, gens := gs })
    (q3 : Fr g L h m)
    (q4 : News g L h [(C, W.listOf cv.toArray cc), (B, boundApp R), (R, W.listOf vals.toArray c), (70, tabObj ps)])
    (q5 : AllBare gs)
    (q6 : TriplesOk ps.toList)
    (q7 : 1 ≤ tk)
    (q8 : Strs cv acc)
    (q9 : P ci kv acc)
    (q10 : iv = ((o + ci : Nat) : Int))
    (q11 : jv = ((j : Nat) : Int))
    (q12 : n = ((l.length : Nat) : Int))
    (q13 : m sPat = some (.str (S l) tx))
    (q14 : m sSTAR = some .none)
    (q15 : m sQM = some (.str (Str.ofString "?") tq))
    (q16 : m sRes = some (.ref R))
    (q17 : m sAdd = some (.ref B))
    (q18 : m sN = some (.int n tn))
    (q19 : m sJ = some (.int jv tj))
    (q20 : m sI = some (.int iv ti))
    (q21 : m sChunks = some (.ref C))
    (q22 : m sK = some (.int kv tkk)) : ChSt g L l tx tq R B C vals c o j P s f s'
/-- the chunks are made -/
inductive ClSt (g : Heap) (L : Addr) (l : List Nat) (tx tq : Tok) (R B C : Addr) (vals : List Value) (c j : Nat) (T : List (List Nat)) (s : Shared) (f : Flow) (s' : Shared) : Prop
  | mk (q1 : f = .next) (h : Heap) (tk : Nat) (gs : Array GenState) (m : Str → Option Value) (ps : Array Value) (jv n : Int) (tj tn : Tok) (cv : List Value) (cc : Nat)
    (q2 : s' = { s with heap := h, toks := tk, gens := gs })
    (q3 : Fr g L h m)
    (q4 : News g L h [(C, W.listOf cv.toArray cc), (B, boundApp R), (R, W.listOf vals.toArray c), (70, tabObj ps)])
    (q5 : AllBare gs)
    (q6 : TriplesOk ps.toList)
    (q7 : 1 ≤ tk)
    (q8 : Strs cv T)
    (q9 : jv = ((j : Nat) : Int))
    (q10 : n = ((l.length : Nat) : Int))
    (q11 : m sPat = some (.str (S l) tx))
    (q12 : m sSTAR = some .none)
    (q13 : m sQM = some (.str (Str.ofString "?") tq))
    (q14 : m sRes = some (.ref R))
    (q15 : m sAdd = some (.ref B))
    (q16 : m sN = some (.int n tn))
    (q17 : m sJ = some (.int jv tj))
    (q18 : m sChunks = some (.ref C)) : ClSt g L l tx tq R B C vals c j T s f s'
/-- between two turns of the merge -/
inductive MgJ (l : List Nat) (tx tq : Tok) (R B C : Addr) (vals : List Value) (c j : Nat) (T : List (List Nat)) (ps : Array Value) (i : Nat) (m : Str → Option Value) (nx : List (Addr × Obj)) : Prop
  | mk (cv : List Value) (cc : Nat) (jv n : Int) (tj tn : Tok)
    (q1 : nx = [(C, W.listOf cv.toArray cc), (B, boundApp R), (R, W.listOf vals.toArray c), (70, tabObj ps)])
    (q2 : Strs cv (T.take (T.length - 1 - i) ++ merge (T.drop (T.length - 1 - i))))
    (q3 : jv = ((j : Nat) : Int))
    (q4 : n = ((l.length : Nat) : Int))
    (q5 : m sPat = some (.str (S l) tx))
    (q6 : m sSTAR = some .none)
    (q7 : m sQM = some (.str (Str.ofString "?") tq))
    (q8 : m sRes = some (.ref R))
    (q9 : m sAdd = some (.ref B))
    (q10 : m sN = some (.int n tn))
    (q11 : m sJ = some (.int jv tj))
    (q12 : m sChunks = some (.ref C)) : MgJ l tx tq R B C vals c j T ps i m nx
noncomputable def ChInv (g : Heap) (L : Addr) (l : List Nat) (tx tq : Tok) (R B C : Addr) (vals : List Value) (c o j : Nat) (x : List Nat) (tot : List (List Nat)) (s : Shared) (k : Nat) (s' : Shared) : Prop :=
  ChSt g L l tx tq R B C vals c o j (fun ci kv acc => ∃ ck : Nat, kv = ((o + ck : Nat) : Int) ∧ k = x.length - ck ∧ ChP x tot ci ck acc) s .next s'
theorem ofS_dash : Str.ofString "-" = S [45] := by decide +kernel
inductive TrOut (g : Heap) (L : Addr) (l : List Nat) (R B : Addr) (tot : List (Option Str)) (s : Shared) (f : Flow) (s' : Shared) : Prop
  | mk (q1 : f = .next) (h : Heap) (tk : Nat) (gs : Array GenState) (m : Str → Option Value) (vals : List Value) (c : Nat) (ps : Array Value) (v n : Int) (tn ti : Tok)
    (q2 : s' = { s with heap := h, toks := tk, gens := gs })
    (q3 : Fr g L h m)
    (q4 : News g L h [(B, boundApp R), (R, W.listOf vals.toArray c), (70, tabObj ps)])
    (q5 : AllBare gs)
    (q6 : TriplesOk ps.toList)
    (q7 : 1 ≤ tk)
    (q8 : v = ((l.length : Nat) : Int))
    (q9 : n = ((l.length : Nat) : Int))
    (q10 : vals.length ≤ l.length)
    (q11 : ItemsV tot vals)
    (q12 : m sRes = some (.ref R))
    (q13 : m sI = some (.int v ti))
    (q14 : m sN = some (.int n tn)) : TrOut g L l R B tot s f s'
section
variable {w : World} {p : Program} {loose : List Str} {mean : ExcName → Option Value} {mg mb : Str → Option Value} {A A₀ : Around} {base h₀ : Heap} {outer : List Env} {L a : Addr} {name : Str} {scope : Scope} {cd : Value} {m : Str → Option Value} {news : List (Addr × Obj)} {s : Shared}
variable {Q E : Value → Shared → Prop} {c : Nat} {tx : Tok}
theorem escape_here (B : Below A₀ base outer h₀) (F : Fr h₀ L s.heap m) (X : (Mine.KK w.params).In h₀) (T : Top p loose mean mg mb h₀) (N : News h₀ L s.heap news)
    (hA : A.frames = some (envOf name scope L a cd :: outer)) (hke : scope.kind = .function) (hhd : A.handled = none) (hdp : A.depth + 20 < recursionLimit) (hun : A.units + 200 < cLine)
    (hc : okcE c) (ret : ∀ t h' tk', Fr h₀ L h' m → News h₀ L h' news → Q (.str (S (esc c)) t) { s with heap := h', toks := tk' }) :
    wpAny (model PySem.Challenge.rw_ik0204_01.prog w) A (call (.ref 68) [.str (S [c]) tx]) Q E s := by
  have C := at_here B F X T hA (env := envOf name scope L a cd) rfl hke
  exact escape_one w p loose mean mg mb A base _ _ outer s Q E tx c hc C hhd hdp hun fun t h' tk' kp => ret t h' tk' (fr_after F kp) (news_after N kp)
end
theorem translate (w : World) (p : Program) (loose : List Str) (mean : ExcName → Option Value) (mg mb : Str → Option Value) (A : Around) (base g : Heap) (env : Env) (outer : List Env) (s : Shared) (Q E : Value → Shared → Prop) (tx tq : Tok) (l : List Nat) (ps : Array Value)
    (hx : (S l).length < 100) (hl : ∀ c ∈ l, okc c)
    (C : At (Mine.KK w.params) p loose mean mg mb A base env outer g s.heap)
    (NA : Led g s.heap [(70, tabObj ps)]) (CH : CodeHd g 74 70) (hps : TriplesOk ps.toList) (htk : 1 ≤ s.toks) (hgs : AllBare s.gens)
    (hhd : A.handled = none) (hdp : A.depth + 40 < recursionLimit) (hun : A.units + 400 < cLine)
    (ret : ∀ R h' tk' gs' (ps' : Array Value) (vals : List Value) c, ItemsV (trans l.length [] l) vals → (∀ b o, g.get? b = some o → h'.get? b = some o) → Led g h' [(R, W.listOf vals.toArray c), (70, tabObj ps')] → @LT.lt Nat _ 70 R → AllBare gs' → TriplesOk ps'.toList → 1 ≤ tk' → vals.length ≤ l.length → Q (.ref R) { s with heap := h', toks := tk', gens := gs' }) :
    wpAny (model PySem.Challenge.rw_ik0204_01.prog w) A (call (.ref 75) [.str (S l) tx, .none, .str (Str.ofString "?") tq]) Q E s := by
  have X := C.part
  revert X; k_fill; intro X
  obtain ⟨hd0, dp, fr, gd, un⟩ := A
  have hA := C.below.stack
  cases hA
  cases hhd
  dsimp only at hdp hun
  refine wpAny_call ?_
  k_dflt (refine' enter_def C NA ?k6 ?k7 ?k8 ?k9 ?kB ?_ ?c2 ?c3 ?c4 ?c5)
  case k6 => k_is
  case k7 => k_is
  case k8 => ktr_room
  case k9 => first | exact BindsTo.of_eq rfl | exact binds_K (C.part.keeps C.sub) rfl (by k_is) rfl rfl rfl
  case kB => exact locs rfl
  case c2 => exact rfl
  case c3 => exact rfl
  case c4 => exact rfl
  case c5 => decide
  intro L' h' F' N' B' X' T'
  (try dsimp only)
  show wpAny _ _ (execs (_ :: _) _) _ _ _
  k_fold
  repeat' (first | (k_unfold; (try dsimp only)) | (with_reducible first | refine PyProof.Rows.ite_tt ?_ | refine PyProof.Rows.ite_ff ?_) | ((with_reducible show wpAny _ _ (eval (Expr.Name _ _) _) _ _ _); with_reducible (k_here; (name_kind "local"); k_dflt (refine' nameX_L (by k_asm) (by (repeat (first | (with_reducible assumption) | exact rfl | refine upd_skip ?_ (by decide +kernel)))) ?_ rfl rfl; k_whole))) | ((with_reducible show wpAny _ _ (execs (_ :: _) _) _ _ _); with_reducible (k_here; (with_reducible refine execs_consTL (by first | assumption | omega) ?_); intro _ _ _)) | (with_reducible ((with_reducible show 1 ≤ _ → _); (try dsimp only); intro _)) | ((with_reducible show wpAny _ _ (getAttr (Value.ref _) _ _) _ _ _); with_reducible (k_here; k_dflt (refine' getapp ?F_g0d ?N_g0d ?hu_g0d ?hd_g0d ?ho_g0d ?_; (case F_g0d => k_asm); (case N_g0d => k_asm); (case hu_g0d => ktr_units); (case hd_g0d => ktr_room); (case ho_g0d => k_mem); k_whole); intro _ _ _ _ _ _)) | ((fail_if_success (with_reducible show wpAny _ _ (PySem.exec (Stmt.While _ _ _ _) _) _ _ _)); walk1) | ((fail_if_success (with_reducible show wpAny _ _ (PySem.exec (Stmt.While _ _ _ _) _) _ _ _)); dsimp only; (first | ((with_reducible show wpAny _ _ (eval (Expr.Name _ _) _) _ _ _); with_reducible (k_here; (name_kind "local"); k_dflt (refine' nameX_L (by k_asm) (by (repeat (first | (with_reducible assumption) | exact rfl | refine upd_skip ?_ (by decide +kernel)))) ?_ rfl rfl; k_whole))) | ((with_reducible show wpAny _ _ (execs (_ :: _) _) _ _ _); with_reducible (k_here; (with_reducible refine execs_consTL (by first | assumption | omega) ?_); intro _ _ _)) | (with_reducible ((with_reducible show 1 ≤ _ → _); (try dsimp only); intro _)) | ((with_reducible show wpAny _ _ (getAttr (Value.ref _) _ _) _ _ _); with_reducible (k_here; k_dflt (refine' getapp ?F_g0d ?N_g0d ?hu_g0d ?hd_g0d ?ho_g0d ?_; (case F_g0d => k_asm); (case N_g0d => k_asm); (case hu_g0d => ktr_units); (case hd_g0d => ktr_room); (case ho_g0d => k_mem); k_whole); intro _ _ _ _ _ _)) | walk1)))
  with_reducible rename Fr _ _ _ _ => FW
  with_reducible rename News _ _ _ _ => NW
  rename_i _ _ _ R9 _ l1 _ _ _ _ _ B9 _ _ al _ _ _ _ _ _ _ l2 _ _ _ _ _ _ _
  have hBR : @Ne Nat R9 B9 := al.1
  have hB70 : @Ne Nat 70 B9 := al.2.1
  clear al
  refine wpAny_mono (Q := TrOut g L' l R9 B9 (trans l.length [] l) { s with heap := h', toks := s.toks }) ?_ (fun f s₃ h₃ => ?_) (fun _ _ z => z)
  · refine While_S (TrInv g L' l tx tq R9 B9 (trans l.length [] l) { s with heap := h', toks := s.toks }) (n₀ := l.length) ⟨_, _, _, _, 0, [], [], _, ps, _, _, l.length, _, _, rfl, FW, fun q hq => NW q (.tail _ hq), hgs, hps, (by first | assumption | omega), rfl, Nat.zero_le _, rfl, by rw [S_length], Nat.le_refl _, .nil, Nat.sub_le _ _, rfl, rfl, rfl, rfl, rfl, rfl, rfl, rfl⟩ ?_
    clear FW NW
    rintro k s₁ ⟨h₁, tk₁, gs₁, m₁, i, vals, acc, c₁, ps₁, v, n, fu, tn, ti, rfl, F₁, N₁, hgs₁, hps₁, htk9, hk, hi, hv, hn, hvl, hit, hfu, htr, ePat, eStar, eQ, eRes, eAdd, eI, eN⟩
    have hx' : l.length < 100 := by rw [S_length] at hx; exact hx
    show wpAny _ _ _ _ _ _
    k_fold
    repeat' (first | (k_unfold; (try dsimp only)) | (with_reducible first | refine PyProof.Rows.ite_tt ?_ | refine PyProof.Rows.ite_ff ?_) | ((with_reducible show wpAny _ _ (subscriptTail (Expr.Name _ _) (Expr.Name _ _) (Value.str (S _) _) (Value.int _ _)) _ _ _); (with_reducible refine item_SN (by assumption) (by omega) ?_); intro _) | ((with_reducible show wpAny _ _ (eval (Expr.Name _ _) _) _ _ _); with_reducible (k_here; (name_kind "local"); k_dflt (refine' nameX_L (by k_asm) (by (repeat (first | (with_reducible assumption) | exact rfl | refine upd_skip ?_ (by decide +kernel)))) ?_ rfl rfl; k_whole))) | ((with_reducible show wpAny _ _ (execs (_ :: _) _) _ _ _); with_reducible (k_here; (with_reducible refine execs_consTL (by first | assumption | omega) ?_); intro _ _ _)) | (with_reducible ((with_reducible show 1 ≤ _ → _); (try dsimp only); intro _)) | ((fail_if_success (with_reducible show wpAny _ _ (PySem.exec (Stmt.If _ _ _ _) _) _ _ _)); walk1) | ((fail_if_success (with_reducible show wpAny _ _ (PySem.exec (Stmt.If _ _ _ _) _) _ _ _)); dsimp only; (first | ((with_reducible show wpAny _ _ (eval (Expr.Name _ _) _) _ _ _); with_reducible (k_here; (name_kind "local"); k_dflt (refine' nameX_L (by k_asm) (by (repeat (first | (with_reducible assumption) | exact rfl | refine upd_skip ?_ (by decide +kernel)))) ?_ rfl rfl; k_whole))) | ((with_reducible show wpAny _ _ (execs (_ :: _) _) _ _ _); with_reducible (k_here; (with_reducible refine execs_consTL (by first | assumption | omega) ?_); intro _ _ _)) | (with_reducible ((with_reducible show 1 ≤ _ → _); (try dsimp only); intro _)) | walk1)))
    · with_reducible rename Fr _ _ _ _ => F2
      with_reducible rename News _ _ _ _ => N2
      have hvn : v < n := by assumption
      have hil : i < l.length := by omega
      have hci : okc (l.getD i 0) := hl _ (by rw [List.getD_eq_getElem?_getD, List.getElem?_eq_getElem hil]; exact List.getElem_mem _)
      have hitem : Txt.item (S l) v = S [l.getD i 0] := by rw [hv, item_at hil]
      have hdrop : l.drop i = l.getD i 0 :: l.drop (i + 1) := by rw [List.drop_eq_getElem_cons hil, List.getD_eq_getElem?_getD, List.getElem?_eq_getElem hil]; rfl
      rw [hitem] at F2
      rw [hdrop] at htr
      generalize hcc : l.getD i 0 = c at F2 htr hci
      clear hcc hitem
      by_cases h42 : c = 42
      · subst h42
        --[
        obtain ⟨fu', rfl⟩ : ∃ fu', fu = fu' + 1 := ⟨fu - 1, by omega⟩
        rcases hit.last with ⟨rfl, rfl⟩ | ⟨acc', b, vals', y, rfl, rfl, hy⟩
        · repeat' (first | (k_unfold; (try dsimp only)) | (with_reducible first | refine PyProof.Rows.ite_tt ?_ | refine PyProof.Rows.ite_ff ?_) | (with_reducible ((with_reducible show BAt _ _ _ ∧ _); k_dflt (refine ⟨BAt.of (by k_asm) (by k_mem), ?_⟩); (try dsimp only [List.nil_append, List.cons_append]))) | ((with_reducible show wpAny _ _ (call (Value.ref _) _ _) _ _ _); with_reducible (k_here; first | ((with_reducible show wpAny _ _ (call (Value.ref 68) _) _ _ _); k_dflt (refine' escape_here ?k1_g2b ?kF_g2b ?k2_g2b ?k3_g2b ?kN_g2b ?kA_g2b ?kK_g2b ?kh_g2b ?k6_g2b ?k7_g2b ?k8_g2b ?ko_g2b; (case kA_g2b => exact rfl); (case kK_g2b => exact rfl); (case kh_g2b => exact rfl); (case k1_g2b => k_asm); (case k2_g2b => k_asm); (case k3_g2b => k_asm); (case k6_g2b => ktr_room); (case k7_g2b => ktr_units); (case k8_g2b => assumption); (case kF_g2b => k_asm); (case kN_g2b => k_asm); k_whole; (case' ko_g2b => intro t9 h9 tk9 F9 N9))) | (k_dflt (refine' add_K ?k1_g2b ?k2_g2b ?kB_g2b ?k3_g2b ?_ ?z_g2b; (case k1_g2b => k_asm); (case k2_g2b => k_asm); (case kB_g2b => k_mem); (case k3_g2b => k_upd); (case z_g2b => (simp only [List.size_toArray, List.length_append, List.length_singleton, sizeLine_eq]; omega)); k_whole); intro h9 F9 N9))) | ((with_reducible show wpAny _ _ (callWith _ (Value.ref _) _ _ _) _ _ _); with_reducible (k_here; (with_reducible show wpAny _ _ (callWith _ (Value.ref _) _ (backTo _ (starEach (_ :: _) _)) []) _ _ _); k_dflt (refine' callWith_B ?N_g2c ?M_g2c ?_; (case N_g2c => k_asm); (case M_g2c => k_mem); k_whole))) | ((with_reducible show wpAny _ _ (compareOp CmpOp.Eq (Value.str _ _) (Value.str _ _)) _ _ _); with_reducible (k_here; first | (refine eq_lit (by with_reducible assumption) ?_) | (refine eq_lit (b := true) (by decide +kernel) ?_) | (refine eq_lit (b := false) (by decide +kernel) ?_))) | ((with_reducible show wpAny _ _ (eval (Expr.Name _ _) _) _ _ _); with_reducible (k_here; (name_kind "local"); k_dflt (refine' nameX_L (by k_asm) (by (repeat (first | (with_reducible assumption) | exact rfl | refine upd_skip ?_ (by decide +kernel)))) ?_ rfl rfl; k_whole))) | ((with_reducible show wpAny _ _ (execs (_ :: _) _) _ _ _); with_reducible (k_here; (with_reducible refine execs_consTL (by first | assumption | omega) ?_); intro _ _ _)) | ((with_reducible show wpAny _ _ (execs [] _) _ _ _); with_reducible (k_here; (with_reducible refine wpAny_execs_nil ?_); try dsimp only)) | (with_reducible ((with_reducible show 1 ≤ _ → _); (try dsimp only); intro _)) | walk1 | (dsimp only; walk1) | dsimp only)
          with_reducible rename Fr _ _ _ _ => F3
          with_reducible rename News _ _ _ _ => N3
          rw [List.push_toArray] at N3
          refine ⟨l.length - (i + 1), by omega, _, _, _, _, i + 1, [_], [none], _, ps₁, _, _, fu', _, _, rfl, F3, N3, hgs₁, hps₁, by first | assumption | omega, rfl, by omega, ?_, hn, by simp, .cons rfl .nil, by omega, ?_, ePat, eStar, eQ, eRes, eAdd, rfl, eN⟩
          · omega
          · rw [← htr]
            simp [trans]
        · rw [List.length_append, List.length_singleton] at hvl
          cases b with
          | none =>
            cases hy
            repeat' (first | (k_unfold; (try dsimp only)) | (with_reducible first | refine PyProof.Rows.ite_tt ?_ | refine PyProof.Rows.ite_ff ?_) | ((with_reducible show wpAny _ _ (compareOp CmpOp.Eq (Value.str _ _) (Value.str _ _)) _ _ _); with_reducible (k_here; first | (refine eq_lit (by with_reducible assumption) ?_) | (refine eq_lit (b := true) (by decide +kernel) ?_) | (refine eq_lit (b := false) (by decide +kernel) ?_))) | ((with_reducible show wpAny _ _ (eval (Expr.Name _ _) _) _ _ _); with_reducible (k_here; (name_kind "local"); k_dflt (refine' nameX_L (by k_asm) (by (repeat (first | (with_reducible assumption) | exact rfl | refine upd_skip ?_ (by decide +kernel)))) ?_ rfl rfl; k_whole))) | ((with_reducible show wpAny _ _ (execs (_ :: _) _) _ _ _); with_reducible (k_here; (with_reducible refine execs_consTL (by first | assumption | omega) ?_); intro _ _ _)) | ((with_reducible show wpAny _ _ (execs [] _) _ _ _); with_reducible (k_here; (with_reducible refine wpAny_execs_nil ?_); try dsimp only)) | (with_reducible ((with_reducible show 1 ≤ _ → _); (try dsimp only); intro _)) | ((with_reducible show wpAny _ _ (subscriptTail _ (Expr.UnaryOp _ _ _) (Value.ref _) (Value.int _ _)) _ _ _); with_reducible (k_here; k_dflt (refine' item_last ?N_g3f ?M_g3f ?_; (case N_g3f => k_asm); (case M_g3f => k_mem); k_whole))) | ((with_reducible show wpAny _ _ (truthy (Value.ref _)) _ _ _); with_reducible (k_here; k_dflt (refine' truthy_last ?N_g3g ?M_g3g ?z_g3g ?_; (case N_g3g => k_asm); (case M_g3g => k_mem); (case z_g3g => omega); k_whole); intro _)) | walk1 | (dsimp only; walk1) | dsimp only)
            refine ⟨l.length - (i + 1), by omega, _, _, _, _, i + 1, vals' ++ [_], acc' ++ [none], _, ps₁, _, _, fu', _, _, rfl, F2, N2, hgs₁, hps₁, by first | assumption | omega, rfl, by omega, ?_, hn, by rw [List.length_append, List.length_singleton]; omega, hit, by omega, ?_, ePat, eStar, eQ, eRes, eAdd, rfl, eN⟩
            · omega
            · rw [← htr]
              simp [trans]
          | some x =>
            obtain ⟨t, rfl⟩ := hy
            repeat' (first | (k_unfold; (try dsimp only)) | (with_reducible first | refine PyProof.Rows.ite_tt ?_ | refine PyProof.Rows.ite_ff ?_) | (with_reducible ((with_reducible show BAt _ _ _ ∧ _); k_dflt (refine ⟨BAt.of (by k_asm) (by k_mem), ?_⟩); (try dsimp only [List.nil_append, List.cons_append]))) | ((with_reducible show wpAny _ _ (call (Value.ref _) _ _) _ _ _); with_reducible (k_here; first | ((with_reducible show wpAny _ _ (call (Value.ref 68) _) _ _ _); k_dflt (refine' escape_here ?k1_g4b ?kF_g4b ?k2_g4b ?k3_g4b ?kN_g4b ?kA_g4b ?kK_g4b ?kh_g4b ?k6_g4b ?k7_g4b ?k8_g4b ?ko_g4b; (case kA_g4b => exact rfl); (case kK_g4b => exact rfl); (case kh_g4b => exact rfl); (case k1_g4b => k_asm); (case k2_g4b => k_asm); (case k3_g4b => k_asm); (case k6_g4b => ktr_room); (case k7_g4b => ktr_units); (case k8_g4b => assumption); (case kF_g4b => k_asm); (case kN_g4b => k_asm); k_whole; (case' ko_g4b => intro t9 h9 tk9 F9 N9))) | (k_dflt (refine' add_K ?k1_g4b ?k2_g4b ?kB_g4b ?k3_g4b ?_ ?z_g4b; (case k1_g4b => k_asm); (case k2_g4b => k_asm); (case kB_g4b => k_mem); (case k3_g4b => k_upd); (case z_g4b => (simp only [List.size_toArray, List.length_append, List.length_singleton, sizeLine_eq]; omega)); k_whole); intro h9 F9 N9))) | ((with_reducible show wpAny _ _ (callWith _ (Value.ref _) _ _ _) _ _ _); with_reducible (k_here; (with_reducible show wpAny _ _ (callWith _ (Value.ref _) _ (backTo _ (starEach (_ :: _) _)) []) _ _ _); k_dflt (refine' callWith_B ?N_g4c ?M_g4c ?_; (case N_g4c => k_asm); (case M_g4c => k_mem); k_whole))) | ((with_reducible show wpAny _ _ (compareOp CmpOp.Eq (Value.str _ _) (Value.str _ _)) _ _ _); with_reducible (k_here; first | (refine eq_lit (by with_reducible assumption) ?_) | (refine eq_lit (b := true) (by decide +kernel) ?_) | (refine eq_lit (b := false) (by decide +kernel) ?_))) | ((with_reducible show wpAny _ _ (eval (Expr.Name _ _) _) _ _ _); with_reducible (k_here; (name_kind "local"); k_dflt (refine' nameX_L (by k_asm) (by (repeat (first | (with_reducible assumption) | exact rfl | refine upd_skip ?_ (by decide +kernel)))) ?_ rfl rfl; k_whole))) | ((with_reducible show wpAny _ _ (execs (_ :: _) _) _ _ _); with_reducible (k_here; (with_reducible refine execs_consTL (by first | assumption | omega) ?_); intro _ _ _)) | ((with_reducible show wpAny _ _ (execs [] _) _ _ _); with_reducible (k_here; (with_reducible refine wpAny_execs_nil ?_); try dsimp only)) | (with_reducible ((with_reducible show 1 ≤ _ → _); (try dsimp only); intro _)) | ((with_reducible show wpAny _ _ (subscriptTail _ (Expr.UnaryOp _ _ _) (Value.ref _) (Value.int _ _)) _ _ _); with_reducible (k_here; k_dflt (refine' item_last ?N_g4i ?M_g4i ?_; (case N_g4i => k_asm); (case M_g4i => k_mem); k_whole))) | ((with_reducible show wpAny _ _ (truthy (Value.ref _)) _ _ _); with_reducible (k_here; k_dflt (refine' truthy_last ?N_g4j ?M_g4j ?z_g4j ?_; (case N_g4j => k_asm); (case M_g4j => k_mem); (case z_g4j => omega); k_whole); intro _)) | walk1 | (dsimp only; walk1) | dsimp only)
            with_reducible rename Fr _ _ _ _ => F3
            with_reducible rename News _ _ _ _ => N3
            rw [List.push_toArray] at N3
            refine ⟨l.length - (i + 1), by omega, _, _, _, _, i + 1, (vals' ++ [_]) ++ [_], (acc' ++ [some x]) ++ [none], _, ps₁, _, _, fu', _, _, rfl, F3, N3, hgs₁, hps₁, by first | assumption | omega, rfl, by omega, ?_, hn, by simp only [List.length_append, List.length_singleton]; omega, hit.snoc rfl, by omega, ?_, ePat, eStar, eQ, eRes, eAdd, rfl, eN⟩
            · omega
            · rw [← htr]
              simp [trans]
        --]
      · by_cases h91 : c = 91
        · subst h91
          repeat' (first | (k_unfold; (try dsimp only)) | (with_reducible first | refine PyProof.Rows.ite_tt ?_ | refine PyProof.Rows.ite_ff ?_) | ((with_reducible show wpAny _ _ (compareOp CmpOp.Eq (Value.str _ _) (Value.str _ _)) _ _ _); with_reducible (k_here; first | (refine eq_lit (by with_reducible assumption) ?_) | (refine eq_lit (b := true) (by decide +kernel) ?_) | (refine eq_lit (b := false) (by decide +kernel) ?_))) | ((with_reducible show wpAny _ _ (eval (Expr.Name _ _) _) _ _ _); with_reducible (k_here; (name_kind "local"); k_dflt (refine' nameX_L (by k_asm) (by (repeat (first | (with_reducible assumption) | exact rfl | refine upd_skip ?_ (by decide +kernel)))) ?_ rfl rfl; k_whole))) | ((with_reducible show wpAny _ _ (execs (_ :: _) _) _ _ _); with_reducible (k_here; (with_reducible refine execs_consTL (by first | assumption | omega) ?_); intro _ _ _)) | (with_reducible ((with_reducible show 1 ≤ _ → _); (try dsimp only); intro _)) | ((fail_if_success (with_reducible show wpAny _ _ (PySem.exec (Stmt.If (Expr.BoolOp _ _ _) _ _ _) _) _ _ _)); walk1) | ((fail_if_success (with_reducible show wpAny _ _ (PySem.exec (Stmt.If (Expr.BoolOp _ _ _) _ _ _) _) _ _ _)); dsimp only; (first | ((with_reducible show wpAny _ _ (compareOp CmpOp.Eq (Value.str _ _) (Value.str _ _)) _ _ _); with_reducible (k_here; first | (refine eq_lit (by with_reducible assumption) ?_) | (refine eq_lit (b := true) (by decide +kernel) ?_) | (refine eq_lit (b := false) (by decide +kernel) ?_))) | ((with_reducible show wpAny _ _ (eval (Expr.Name _ _) _) _ _ _); with_reducible (k_here; (name_kind "local"); k_dflt (refine' nameX_L (by k_asm) (by (repeat (first | (with_reducible assumption) | exact rfl | refine upd_skip ?_ (by decide +kernel)))) ?_ rfl rfl; k_whole))) | ((with_reducible show wpAny _ _ (execs (_ :: _) _) _ _ _); with_reducible (k_here; (with_reducible refine execs_consTL (by first | assumption | omega) ?_); intro _ _ _)) | (with_reducible ((with_reducible show 1 ≤ _ → _); (try dsimp only); intro _)) | walk1)))
          with_reducible rename Fr _ _ _ _ => F3
          with_reducible rename News _ _ _ _ => N3
          refine cutT (BrOut g L' l tx tq R9 B9 vals c₁ (i + 1) (fun j => j = i + 1 + if l[i + 1]? = some 33 then 1 else 0) { s with heap := h', toks := s.toks }) (by first | assumption | omega) ?_ fun f s₃ h₃ => ?_
          ·
            --[
            repeat' (first | (k_unfold; (try dsimp only)) | (with_reducible first | refine PyProof.Rows.ite_tt ?_ | refine PyProof.Rows.ite_ff ?_) | ((with_reducible show wpAny _ _ (subscriptTail (Expr.Name _ _) (Expr.Name _ _) (Value.str (S _) _) (Value.int _ _)) _ _ _); (with_reducible refine item_SN (by assumption) (by omega) ?_); intro _) | ((with_reducible show wpAny _ _ (eval (Expr.Name _ _) _) _ _ _); with_reducible (k_here; (name_kind "local"); k_dflt (refine' nameX_L (by k_asm) (by (repeat (first | (with_reducible assumption) | exact rfl | refine upd_skip ?_ (by decide +kernel)))) ?_ rfl rfl; k_whole))) | ((with_reducible show wpAny _ _ (execs (_ :: _) _) _ _ _); with_reducible (k_here; (with_reducible refine execs_consTL (by first | assumption | omega) ?_); intro _ _ _)) | ((with_reducible show wpAny _ _ (execs [] _) _ _ _); with_reducible (k_here; (with_reducible refine wpAny_execs_nil ?_); try dsimp only)) | (with_reducible ((with_reducible show 1 ≤ _ → _); (try dsimp only); intro _)) | walk1 | (dsimp only; walk1) | dsimp only)
            · with_reducible rename Fr _ _ _ _ => F4
              with_reducible rename News _ _ _ _ => N4
              have a1 : v + 1 < n := by assumption
              have a2 : (Txt.item (S l) (v + 1) == Str.ofString "!") = true := by assumption
              rw [item_is (i := i + 1) ofS_bang (by omega) (by omega)] at a2
              exact ⟨rfl, _, _, _, _, ps₁, i + 2, _, _, _, _, _, _, rfl, F4, N4, hgs₁, hps₁, by first | assumption | omega, by rw [if_pos (of_decide_eq_true a2)], by omega, by omega, by omega, hn, ePat, eStar, eQ, eRes, eAdd, rfl, eN, rfl⟩
            · have a1 : v + 1 < n := by assumption
              have a2 : (Txt.item (S l) (v + 1) == Str.ofString "!") = false := by assumption
              rw [item_is (i := i + 1) ofS_bang (by omega) (by omega)] at a2
              exact ⟨rfl, _, _, _, _, ps₁, i + 1, _, _, _, _, _, _, rfl, F3, N3, hgs₁, hps₁, by first | assumption | omega, by rw [if_neg (of_decide_eq_false a2)], by omega, by omega, by omega, hn, ePat, eStar, eQ, eRes, eAdd, rfl, eN, rfl⟩
            · have a1 : ¬ v + 1 < n := by assumption
              exact ⟨rfl, _, _, _, _, ps₁, i + 1, _, _, _, _, _, _, rfl, F3, N3, hgs₁, hps₁, by first | assumption | omega, by rw [List.getElem?_eq_none (by omega)]; rfl, by omega, by omega, by omega, hn, ePat, eStar, eQ, eRes, eAdd, rfl, eN, rfl⟩
            --]
          · (try clear ePat) ; (try clear eStar) ; (try clear eQ) ; (try clear eRes) ; (try clear eAdd) ; (try clear eI) ; (try clear eN) ; (try clear eJ) ; (try clear eStuff) ; (try clear eChunks) ; (try clear eK)
            obtain ⟨rfl, h₃, tk₃, gs₃, m₃, ps₃, j₃, jv, v₃, n₃, tj, tn₃, ti₃, rfl, F₃, N₃, hgs₃, hps₃, htk9, hP, hjl, hjv, hv₃, hn₃, ePat, eStar, eQ, eRes, eAdd, eI, eN, eJ⟩ := h₃
            clear F3 N3
            (try dsimp only)
            repeat' (first | (k_unfold; (try dsimp only)) | (with_reducible first | refine PyProof.Rows.ite_tt ?_ | refine PyProof.Rows.ite_ff ?_) | ((with_reducible show wpAny _ _ (execs (_ :: _) _) _ _ _); with_reducible (k_here; (with_reducible refine execs_consTL (by first | assumption | omega) ?_); intro _ _ _)) | (with_reducible ((with_reducible show 1 ≤ _ → _); (try dsimp only); intro _)) | ((fail_if_success (with_reducible show wpAny _ _ (PySem.exec (Stmt.If (Expr.BoolOp _ _ _) _ _ _) _) _ _ _)); walk1) | ((fail_if_success (with_reducible show wpAny _ _ (PySem.exec (Stmt.If (Expr.BoolOp _ _ _) _ _ _) _) _ _ _)); dsimp only; (first | ((with_reducible show wpAny _ _ (execs (_ :: _) _) _ _ _); with_reducible (k_here; (with_reducible refine execs_consTL (by first | assumption | omega) ?_); intro _ _ _)) | (with_reducible ((with_reducible show 1 ≤ _ → _); (try dsimp only); intro _)) | walk1)))
            refine cutT (BrOut g L' l tx tq R9 B9 vals c₁ (i + 1) (fun j => j = i + 1 + brFrom (l.drop (i + 1))) { s with heap := h', toks := s.toks }) (by first | assumption | omega) ?_ fun f s₃ h₃ => ?_
            ·
              --[
              repeat' (first | (k_unfold; (try dsimp only)) | (with_reducible first | refine PyProof.Rows.ite_tt ?_ | refine PyProof.Rows.ite_ff ?_) | ((with_reducible show wpAny _ _ (subscriptTail (Expr.Name _ _) (Expr.Name _ _) (Value.str (S _) _) (Value.int _ _)) _ _ _); (with_reducible refine item_SN (by assumption) (by omega) ?_); intro _) | ((with_reducible show wpAny _ _ (eval (Expr.Name _ _) _) _ _ _); with_reducible (k_here; (name_kind "local"); k_dflt (refine' nameX_L (by k_asm) (by (repeat (first | (with_reducible assumption) | exact rfl | refine upd_skip ?_ (by decide +kernel)))) ?_ rfl rfl; k_whole))) | ((with_reducible show wpAny _ _ (execs (_ :: _) _) _ _ _); with_reducible (k_here; (with_reducible refine execs_consTL (by first | assumption | omega) ?_); intro _ _ _)) | ((with_reducible show wpAny _ _ (execs [] _) _ _ _); with_reducible (k_here; (with_reducible refine wpAny_execs_nil ?_); try dsimp only)) | (with_reducible ((with_reducible show 1 ≤ _ → _); (try dsimp only); intro _)) | walk1 | (dsimp only; walk1) | dsimp only)
              · with_reducible rename Fr _ _ _ _ => F4
                with_reducible rename News _ _ _ _ => N4
                have a1 : jv < n₃ := by assumption
                have a2 : (Txt.item (S l) jv == Str.ofString "]") = true := by assumption
                rw [item_is (i := j₃) ofS_rbr (by omega) (by omega)] at a2
                exact ⟨rfl, _, _, _, _, ps₃, j₃ + 1, _, _, _, _, _, _, rfl, F4, N4, hgs₃, hps₃, by first | assumption | omega, (brFrom_yes hP (of_decide_eq_true a2)).symm, by omega, by omega, hv₃, hn₃, ePat, eStar, eQ, eRes, eAdd, eI, eN, rfl⟩
              · have a1 : jv < n₃ := by assumption
                have a2 : (Txt.item (S l) jv == Str.ofString "]") = false := by assumption
                rw [item_is (i := j₃) ofS_rbr (by omega) (by omega)] at a2
                exact ⟨rfl, _, _, _, _, ps₃, j₃, _, _, _, _, _, _, rfl, F₃, N₃, hgs₃, hps₃, by first | assumption | omega, (brFrom_no hP (of_decide_eq_false a2)).symm, by omega, by omega, hv₃, hn₃, ePat, eStar, eQ, eRes, eAdd, eI, eN, eJ⟩
              · have a1 : ¬ jv < n₃ := by assumption
                exact ⟨rfl, _, _, _, _, ps₃, j₃, _, _, _, _, _, _, rfl, F₃, N₃, hgs₃, hps₃, by first | assumption | omega, (brFrom_no hP (by rw [List.getElem?_eq_none (by omega)]; simp)).symm, by omega, by omega, hv₃, hn₃, ePat, eStar, eQ, eRes, eAdd, eI, eN, eJ⟩
              --]
            · (try clear ePat) ; (try clear eStar) ; (try clear eQ) ; (try clear eRes) ; (try clear eAdd) ; (try clear eI) ; (try clear eN) ; (try clear eJ) ; (try clear eStuff) ; (try clear eChunks) ; (try clear eK)
              obtain ⟨rfl, h₄, tk₄, gs₄, m₄, ps₄, j₄, jv₄, v₄, n₄, tj₄, tn₄, ti₄, rfl, F₄, N₄, hgs₄, hps₄, htk9, hP₄, hjl₄, hjv₄, hv₄, hn₄, ePat, eStar, eQ, eRes, eAdd, eI, eN, eJ⟩ := h₃
              clear F₃ N₃ hP hjl hjv hv₃ hn₃
              (try dsimp only)
              repeat' (first | (k_unfold; (try dsimp only)) | (with_reducible first | refine PyProof.Rows.ite_tt ?_ | refine PyProof.Rows.ite_ff ?_) | ((with_reducible show wpAny _ _ (execs (_ :: _) _) _ _ _); with_reducible (k_here; (with_reducible refine execs_consTL (by first | assumption | omega) ?_); intro _ _ _)) | (with_reducible ((with_reducible show 1 ≤ _ → _); (try dsimp only); intro _)) | ((fail_if_success (with_reducible show wpAny _ _ (PySem.exec (Stmt.While _ _ _ _) _) _ _ _)); walk1) | ((fail_if_success (with_reducible show wpAny _ _ (PySem.exec (Stmt.While _ _ _ _) _) _ _ _)); dsimp only; (first | ((with_reducible show wpAny _ _ (execs (_ :: _) _) _ _ _); with_reducible (k_here; (with_reducible refine execs_consTL (by first | assumption | omega) ?_); intro _ _ _)) | (with_reducible ((with_reducible show 1 ≤ _ → _); (try dsimp only); intro _)) | walk1)))
              refine cutT (BrOut g L' l tx tq R9 B9 vals c₁ (i + 1) (BrDone l (i + 1)) { s with heap := h', toks := s.toks }) (by first | assumption | omega) ?_ fun f s₃ h₃ => ?_
              ·
                --[
                refine While_S (BrInv g L' l tx tq R9 B9 vals c₁ (i + 1) { s with heap := h', toks := s.toks }) (n₀ := l.length - j₄) ⟨rfl, _, _, _, _, ps₄, j₄, _, _, _, _, _, _, rfl, F₄, N₄, hgs₄, hps₄, by first | assumption | omega, ⟨rfl, by omega, fun a a1 a2 => by omega⟩, hjl₄, hjv₄, hv₄, hn₄, ePat, eStar, eQ, eRes, eAdd, eI, eN, eJ⟩ ?_
                clear F₄ N₄ hP₄ hjl₄ hjv₄ hv₄ hn₄ ePat eStar eQ eRes eAdd eI eN eJ
                (try clear ePat) ; (try clear eStar) ; (try clear eQ) ; (try clear eRes) ; (try clear eAdd) ; (try clear eI) ; (try clear eN) ; (try clear eJ) ; (try clear eStuff) ; (try clear eChunks) ; (try clear eK)
                rintro k₅ s₅ ⟨-, h₅, tk₅, gs₅, m₅, ps₅, j₅, jv₅, v₅, n₅, tj₅, tn₅, ti₅, rfl, F₅, N₅, hgs₅, hps₅, htk9, ⟨hk₅, hP₅, hno₅⟩, hjl₅, hjv₅, hv₅, hn₅, ePat, eStar, eQ, eRes, eAdd, eI, eN, eJ⟩
                show wpAny _ _ _ _ _ _
                refine with_toksQ (n := 1) htk9 ?_
                k_fold
                repeat' (first | (k_unfold; (try dsimp only)) | (with_reducible first | refine PyProof.Rows.ite_tt ?_ | refine PyProof.Rows.ite_ff ?_) | ((with_reducible show wpAny _ _ (subscriptTail (Expr.Name _ _) (Expr.Name _ _) (Value.str (S _) _) (Value.int _ _)) _ _ _); (with_reducible refine item_SN (by assumption) (by omega) ?_); intro _) | ((with_reducible show wpAny _ _ (eval (Expr.Name _ _) _) _ _ _); with_reducible (k_here; (name_kind "local"); k_dflt (refine' nameX_L (by k_asm) (by (repeat (first | (with_reducible assumption) | exact rfl | refine upd_skip ?_ (by decide +kernel)))) ?_ rfl rfl; k_whole))) | ((with_reducible show wpAny _ _ (execs (_ :: _) _) _ _ _); with_reducible (k_here; (with_reducible refine execs_consTL (by first | assumption | omega) ?_); intro _ _ _)) | ((with_reducible show wpAny _ _ (execs [] _) _ _ _); with_reducible (k_here; (with_reducible refine wpAny_execs_nil ?_); try dsimp only)) | (with_reducible ((with_reducible show 1 ≤ _ → _); (try dsimp only); intro _)) | walk1 | (dsimp only; walk1) | dsimp only)
                · with_reducible rename Fr _ _ _ _ => F6
                  with_reducible rename News _ _ _ _ => N6
                  have a1 : jv₅ < n₅ := by assumption
                  have a2 : (Txt.item (S l) jv₅ != Str.ofString "]") = true := by assumption
                  rw [bne, item_is (i := j₅) ofS_rbr (by omega) (by omega)] at a2
                  have a3 : ¬ l[j₅]? = some 93 := by simpa using a2
                  refine ⟨l.length - (j₅ + 1), by omega, rfl, _, _, _, _, ps₅, j₅ + 1, _, _, _, _, _, _, rfl, F6, N6, hgs₅, hps₅, by first | assumption | omega, ⟨rfl, by omega, fun a b1 b2 => ?_⟩, by omega, by omega, hv₅, hn₅, ePat, eStar, eQ, eRes, eAdd, eI, eN, rfl⟩
                  rcases Nat.lt_or_ge a j₅ with q | q
                  · exact hno₅ a b1 q
                  · rw [show a = j₅ by omega]; exact a3
                · have a1 : jv₅ < n₅ := by assumption
                  have a2 : (Txt.item (S l) jv₅ != Str.ofString "]") = false := by assumption
                  rw [bne, item_is (i := j₅) ofS_rbr (by omega) (by omega)] at a2
                  have a3 : l[j₅]? = some 93 := by simpa using a2
                  exact ⟨rfl, _, _, _, _, ps₅, j₅, _, _, _, _, _, _, rfl, F₅, N₅, hgs₅, hps₅, by first | assumption | omega, .inr ⟨brEnd_some hP₅ a3 hno₅, by omega, by omega⟩, hjl₅, hjv₅, hv₅, hn₅, ePat, eStar, eQ, eRes, eAdd, eI, eN, eJ⟩
                · have a1 : ¬ jv₅ < n₅ := by assumption
                  have e5 : j₅ = l.length := by omega
                  exact ⟨rfl, _, _, _, _, ps₅, j₅, _, _, _, _, _, _, rfl, F₅, N₅, hgs₅, hps₅, by first | assumption | omega, .inl ⟨brEnd_none fun a b1 => by
                    rcases Nat.lt_or_ge a j₅ with q | q
                    · exact hno₅ a b1 q
                    · rw [List.getElem?_eq_none (by omega)]; simp, e5⟩, hjl₅, hjv₅, hv₅, hn₅, ePat, eStar, eQ, eRes, eAdd, eI, eN, eJ⟩
                --]
              · (try clear ePat) ; (try clear eStar) ; (try clear eQ) ; (try clear eRes) ; (try clear eAdd) ; (try clear eI) ; (try clear eN) ; (try clear eJ) ; (try clear eStuff) ; (try clear eChunks) ; (try clear eK)
                obtain ⟨rfl, h₆, tk₆, gs₆, m₆, ps₆, j₆, jv₆, v₆, n₆, tj₆, tn₆, ti₆, rfl, F₆, N₆, hgs₆, hps₆, htk9, hP₆, hjl₆, hjv₆, hv₆, hn₆, ePat, eStar, eQ, eRes, eAdd, eI, eN, eJ⟩ := h₃
                clear F₄ N₄ hP₄ hjl₄ hjv₄ hv₄ hn₄
                (try dsimp only)
                repeat' (first | (k_unfold; (try dsimp only)) | (with_reducible first | refine PyProof.Rows.ite_tt ?_ | refine PyProof.Rows.ite_ff ?_) | (with_reducible ((with_reducible show BAt _ _ _ ∧ _); k_dflt (refine ⟨BAt.of (by k_asm) (by k_mem), ?_⟩); (try dsimp only [List.nil_append, List.cons_append]))) | ((with_reducible show wpAny _ _ (call (Value.ref _) _ _) _ _ _); with_reducible (k_here; first | ((with_reducible show wpAny _ _ (call (Value.ref 68) _) _ _ _); k_dflt (refine' escape_here ?k1_g11b ?kF_g11b ?k2_g11b ?k3_g11b ?kN_g11b ?kA_g11b ?kK_g11b ?kh_g11b ?k6_g11b ?k7_g11b ?k8_g11b ?ko_g11b; (case kA_g11b => exact rfl); (case kK_g11b => exact rfl); (case kh_g11b => exact rfl); (case k1_g11b => k_asm); (case k2_g11b => k_asm); (case k3_g11b => k_asm); (case k6_g11b => ktr_room); (case k7_g11b => ktr_units); (case k8_g11b => assumption); (case kF_g11b => k_asm); (case kN_g11b => k_asm); k_whole; (case' ko_g11b => intro t9 h9 tk9 F9 N9))) | (k_dflt (refine' add_K ?k1_g11b ?k2_g11b ?kB_g11b ?k3_g11b ?_ ?z_g11b; (case k1_g11b => k_asm); (case k2_g11b => k_asm); (case kB_g11b => k_mem); (case k3_g11b => k_upd); (case z_g11b => (simp only [List.size_toArray, List.length_append, List.length_singleton, sizeLine_eq]; omega)); k_whole); intro h9 F9 N9))) | ((with_reducible show wpAny _ _ (callWith _ (Value.ref _) _ _ _) _ _ _); with_reducible (k_here; (with_reducible show wpAny _ _ (callWith _ (Value.ref _) _ (backTo _ (starEach (_ :: _) _)) []) _ _ _); k_dflt (refine' callWith_B ?N_g11c ?M_g11c ?_; (case N_g11c => k_asm); (case M_g11c => k_mem); k_whole))) | ((with_reducible show wpAny _ _ (eval (Expr.Name _ _) _) _ _ _); with_reducible (k_here; (name_kind "local"); k_dflt (refine' nameX_L (by k_asm) (by (repeat (first | (with_reducible assumption) | exact rfl | refine upd_skip ?_ (by decide +kernel)))) ?_ rfl rfl; k_whole))) | ((with_reducible show wpAny _ _ (execs (_ :: _) _) _ _ _); with_reducible (k_here; (with_reducible refine execs_consTL (by first | assumption | omega) ?_); intro _ _ _)) | ((with_reducible show wpAny _ _ (execs [] _) _ _ _); with_reducible (k_here; (with_reducible refine wpAny_execs_nil ?_); try dsimp only)) | (with_reducible ((with_reducible show 1 ≤ _ → _); (try dsimp only); intro _)) | ((fail_if_success (with_reducible show wpAny _ _ (PySem.exec (Stmt.If (Expr.Compare _ [CmpOp.NotIn] _ _) _ _ _) _) _ _ _)); walk1) | ((fail_if_success (with_reducible show wpAny _ _ (PySem.exec (Stmt.If (Expr.Compare _ [CmpOp.NotIn] _ _) _ _ _) _) _ _ _)); dsimp only; (first | (with_reducible ((with_reducible show BAt _ _ _ ∧ _); k_dflt (refine ⟨BAt.of (by k_asm) (by k_mem), ?_⟩); (try dsimp only [List.nil_append, List.cons_append]))) | ((with_reducible show wpAny _ _ (call (Value.ref _) _ _) _ _ _); with_reducible (k_here; first | ((with_reducible show wpAny _ _ (call (Value.ref 68) _) _ _ _); k_dflt (refine' escape_here ?k1_g11b ?kF_g11b ?k2_g11b ?k3_g11b ?kN_g11b ?kA_g11b ?kK_g11b ?kh_g11b ?k6_g11b ?k7_g11b ?k8_g11b ?ko_g11b; (case kA_g11b => exact rfl); (case kK_g11b => exact rfl); (case kh_g11b => exact rfl); (case k1_g11b => k_asm); (case k2_g11b => k_asm); (case k3_g11b => k_asm); (case k6_g11b => ktr_room); (case k7_g11b => ktr_units); (case k8_g11b => assumption); (case kF_g11b => k_asm); (case kN_g11b => k_asm); k_whole; (case' ko_g11b => intro t9 h9 tk9 F9 N9))) | (k_dflt (refine' add_K ?k1_g11b ?k2_g11b ?kB_g11b ?k3_g11b ?_ ?z_g11b; (case k1_g11b => k_asm); (case k2_g11b => k_asm); (case kB_g11b => k_mem); (case k3_g11b => k_upd); (case z_g11b => (simp only [List.size_toArray, List.length_append, List.length_singleton, sizeLine_eq]; omega)); k_whole); intro h9 F9 N9))) | ((with_reducible show wpAny _ _ (callWith _ (Value.ref _) _ _ _) _ _ _); with_reducible (k_here; (with_reducible show wpAny _ _ (callWith _ (Value.ref _) _ (backTo _ (starEach (_ :: _) _)) []) _ _ _); k_dflt (refine' callWith_B ?N_g11c ?M_g11c ?_; (case N_g11c => k_asm); (case M_g11c => k_mem); k_whole))) | ((with_reducible show wpAny _ _ (eval (Expr.Name _ _) _) _ _ _); with_reducible (k_here; (name_kind "local"); k_dflt (refine' nameX_L (by k_asm) (by (repeat (first | (with_reducible assumption) | exact rfl | refine upd_skip ?_ (by decide +kernel)))) ?_ rfl rfl; k_whole))) | ((with_reducible show wpAny _ _ (execs (_ :: _) _) _ _ _); with_reducible (k_here; (with_reducible refine execs_consTL (by first | assumption | omega) ?_); intro _ _ _)) | ((with_reducible show wpAny _ _ (execs [] _) _ _ _); with_reducible (k_here; (with_reducible refine wpAny_execs_nil ?_); try dsimp only)) | (with_reducible ((with_reducible show 1 ≤ _ → _); (try dsimp only); intro _)) | walk1)))
                ·
                  --[
                  show TurnEnd _ _ _
                  with_reducible rename Fr _ _ _ _ => F7
                  with_reducible rename News _ _ _ _ => N7
                  rw [List.push_toArray] at N7
                  have a1 : n₆ ≤ jv₆ := by assumption
                  obtain ⟨fu', rfl⟩ : ∃ fu', fu = fu' + 1 := ⟨fu - 1, by omega⟩
                  have hb : brEnd (l.drop (i + 1)) = none := by
                    rcases hP₆ with ⟨e, _⟩ | ⟨_, q, _⟩
                    · exact e
                    · omega
                  refine ⟨l.length - (i + 1), by omega, _, _, _, _, i + 1, vals ++ [_], acc ++ [some (Str.ofString "\\[")], _, ps₆, _, _, fu', _, _, rfl, F7, N7, hgs₆, hps₆, by first | assumption | omega, rfl, by omega, by omega, hn₆, by simp; omega, hit.snoc ⟨_, rfl⟩, by omega, ?_, ePat, eStar, eQ, eRes, eAdd, eI, eN⟩
                  rw [← htr]
                  simp only [trans, show ¬ (91 = 42) by decide, if_false, if_true, hb]
                  --]
                · with_reducible rename Fr _ _ _ _ => F7
                  with_reducible rename News _ _ _ _ => N7
                  have a1 : ¬ n₆ ≤ jv₆ := by assumption
                  obtain ⟨hb, hjl, hoj⟩ : brEnd (l.drop (i + 1)) = some (j₆ - (i + 1)) ∧ j₆ < l.length ∧ i + 1 ≤ j₆ := by
                    rcases hP₆ with ⟨_, q⟩ | q
                    · exact absurd (show n₆ ≤ jv₆ by omega) a1
                    · exact q
                  have hsl : Txt.slice (S l) (some v₆) (some jv₆) = S ((l.drop (i + 1)).take (j₆ - (i + 1))) := by
                    rw [slice_S (by omega)]
                    congr 2
                    · omega
                    · congr 1; omega
                  rw [hsl] at F7
                  have hxl : (S ((l.drop (i + 1)).take (j₆ - (i + 1)))).length < 100 := by rw [S_length, List.length_take, List.length_drop]; omega
                  have hxo : ∀ c ∈ (l.drop (i + 1)).take (j₆ - (i + 1)), okc c := fun c hc => hl c (List.mem_of_mem_drop (List.mem_of_mem_take hc))
                  generalize hxx : (l.drop (i + 1)).take (j₆ - (i + 1)) = x at F7 hxl hxo
                  have hxl' : x.length < 100 := by rw [S_length] at hxl; exact hxl
                  refine cutT (StOut g L' l tx tq R9 B9 vals c₁ j₆ (stuffOf x) { s with heap := h', toks := s.toks }) (by first | assumption | omega) ?_ fun f s₃ h₃ => ?_
                  · by_cases hd : x.contains 45 = true
                    · have hin := occ_one x 45 hd
                      rw [← ofS_dash] at hin
                      repeat' (first | (k_unfold; (try dsimp only)) | (with_reducible first | refine PyProof.Rows.ite_tt ?_ | refine PyProof.Rows.ite_ff ?_) | ((with_reducible show wpAny _ _ (compareOp CmpOp.NotIn (Value.str _ _) (Value.str _ _)) _ _ _); with_reducible (k_here; refine notIn_lit (by with_reducible assumption) ?_)) | ((with_reducible show wpAny _ _ (eval (Expr.Name _ _) _) _ _ _); with_reducible (k_here; (name_kind "local"); k_dflt (refine' nameX_L ?F_g12b ?v_g12b ?_ ?a_g12b ?b_g12b; (case F_g12b => k_asm); (case a_g12b => rfl); (case b_g12b => rfl); (case v_g12b => (repeat (first | (with_reducible assumption) | exact rfl | refine upd_skip ?_ (by decide +kernel)))); k_whole))) | ((with_reducible show wpAny _ _ (execs (_ :: _) _) _ _ _); with_reducible (k_here; (with_reducible refine execs_consTL (by first | assumption | omega) ?_); intro _ _ _)) | (with_reducible ((with_reducible show 1 ≤ _ → _); (try dsimp only); intro _)) | ((fail_if_success (with_reducible show wpAny _ _ (PySem.exec (Stmt.Assign _ (Expr.IfExp _ _ _ _) _) _) _ _ _)); walk1) | ((fail_if_success (with_reducible show wpAny _ _ (PySem.exec (Stmt.Assign _ (Expr.IfExp _ _ _ _) _) _) _ _ _)); dsimp only; (first | ((with_reducible show wpAny _ _ (compareOp CmpOp.NotIn (Value.str _ _) (Value.str _ _)) _ _ _); with_reducible (k_here; refine notIn_lit (by with_reducible assumption) ?_)) | ((with_reducible show wpAny _ _ (eval (Expr.Name _ _) _) _ _ _); with_reducible (k_here; (name_kind "local"); k_dflt (refine' nameX_L ?F_g12b ?v_g12b ?_ ?a_g12b ?b_g12b; (case F_g12b => k_asm); (case a_g12b => rfl); (case b_g12b => rfl); (case v_g12b => (repeat (first | (with_reducible assumption) | exact rfl | refine upd_skip ?_ (by decide +kernel)))); k_whole))) | ((with_reducible show wpAny _ _ (execs (_ :: _) _) _ _ _); with_reducible (k_here; (with_reducible refine execs_consTL (by first | assumption | omega) ?_); intro _ _ _)) | (with_reducible ((with_reducible show 1 ≤ _ → _); (try dsimp only); intro _)) | walk1)))
                      rename_i _ _ C9 _ lC _ F8 N8 _ _ _ _
                      obtain ⟨lCB, lCR, lC70⟩ := lC
                      have hx0 : 0 < x.length := by
                        cases x with
                        | nil => simp at hd
                        | cons _ _ => simp
                      have hxn : x.length = j₆ - (i + 1) := by rw [← hxx, List.length_take, List.length_drop]; omega
                      have hhd : l[i + 1]? = x.head? := by
                        rw [← hxx, List.head?_take, if_neg (by omega), List.head?_drop]
                      refine cutT (ChSt g L' l tx tq R9 B9 C9 vals c₁ (i + 1) j₆ (fun ci kv acc => ci = 0 ∧ acc = [] ∧ kv = ((i + 1 + (if x.head? = some 33 then 2 else 1) : Nat) : Int)) { s with heap := h', toks := s.toks }) (by first | assumption | omega) ?_ fun f s₃ h₃ => ?_
                      ·
                        --[
                        repeat' (first | (k_unfold; (try dsimp only)) | (with_reducible first | refine PyProof.Rows.ite_tt ?_ | refine PyProof.Rows.ite_ff ?_) | ((with_reducible show wpAny _ _ (subscriptTail (Expr.Name _ _) (Expr.Name _ _) (Value.str (S _) _) (Value.int _ _)) _ _ _); (with_reducible refine item_SN (by assumption) (by omega) ?_); intro _) | ((with_reducible show wpAny _ _ (eval (Expr.Name _ _) _) _ _ _); with_reducible (k_here; (name_kind "local"); k_dflt (refine' nameX_L (by k_asm) (by (repeat (first | (with_reducible assumption) | exact rfl | refine upd_skip ?_ (by decide +kernel)))) ?_ rfl rfl; k_whole))) | (with_reducible ((with_reducible show 1 ≤ _ → _); (try dsimp only); intro _)) | walk1 | (dsimp only; walk1) | dsimp only)
                        · with_reducible rename Fr _ _ _ _ => F10
                          with_reducible rename News _ _ _ _ => N10
                          have a2 : (Txt.item (S l) v₆ == Str.ofString "!") = true := by assumption
                          rw [item_is (i := i + 1) ofS_bang (by omega) (by omega), hhd] at a2
                          exact ⟨rfl, _, _, _, _, ps₆, 0, _, _, _, _, _, _, _, _, [], [], _, rfl, F10, N10, hgs₆, hps₆, by first | assumption | omega, trivial, ⟨rfl, rfl, by rw [if_pos (of_decide_eq_true a2)]; omega⟩, by omega, hjv₆, hn₆, ePat, eStar, eQ, eRes, eAdd, eN, eJ, eI, rfl, rfl⟩
                        · with_reducible rename Fr _ _ _ _ => F10
                          with_reducible rename News _ _ _ _ => N10
                          have a2 : (Txt.item (S l) v₆ == Str.ofString "!") = false := by assumption
                          rw [item_is (i := i + 1) ofS_bang (by omega) (by omega), hhd] at a2
                          exact ⟨rfl, _, _, _, _, ps₆, 0, _, _, _, _, _, _, _, _, [], [], _, rfl, F10, N10, hgs₆, hps₆, by first | assumption | omega, trivial, ⟨rfl, rfl, by rw [if_neg (of_decide_eq_false a2)]; omega⟩, by omega, hjv₆, hn₆, ePat, eStar, eQ, eRes, eAdd, eN, eJ, eI, rfl, rfl⟩
                        --]
                      · (try clear ePat) ; (try clear eStar) ; (try clear eQ) ; (try clear eRes) ; (try clear eAdd) ; (try clear eI) ; (try clear eN) ; (try clear eJ) ; (try clear eStuff) ; (try clear eChunks) ; (try clear eK)
                        obtain ⟨rfl, h₈, tk₈, gs₈, m₈, ps₈, ci₈, kv₈, iv₈, jv₈, n₈, tj₈, tn₈, ti₈, tkk₈, acc₈, cv₈, cc₈, rfl, F₈, N₈, hgs₈, hps₈, htk8, hst₈, ⟨rfl, rfl, hkv₈⟩, hiv₈, hjv₈, hn₈, ePat, eStar, eQ, eRes, eAdd, eN, eJ, eI, eChunks, eK⟩ := h₃
                        clear F8 N8
                        (try dsimp only)
                        repeat' (first | (k_unfold; (try dsimp only)) | (with_reducible first | refine PyProof.Rows.ite_tt ?_ | refine PyProof.Rows.ite_ff ?_) | ((with_reducible show wpAny _ _ (execs (_ :: _) _) _ _ _); with_reducible (k_here; (with_reducible refine execs_consTL (by first | assumption | omega) ?_); intro _ _ _)) | (with_reducible ((with_reducible show 1 ≤ _ → _); (try dsimp only); intro _)) | ((fail_if_success (with_reducible show wpAny _ _ (PySem.exec (Stmt.While _ _ _ _) _) _ _ _)); walk1) | ((fail_if_success (with_reducible show wpAny _ _ (PySem.exec (Stmt.While _ _ _ _) _) _ _ _)); dsimp only; (first | ((with_reducible show wpAny _ _ (execs (_ :: _) _) _ _ _); with_reducible (k_here; (with_reducible refine execs_consTL (by first | assumption | omega) ?_); intro _ _ _)) | (with_reducible ((with_reducible show 1 ≤ _ → _); (try dsimp only); intro _)) | walk1)))
                        refine cutT (ChSt g L' l tx tq R9 B9 C9 vals c₁ (i + 1) j₆ (fun ci _ acc => ChQ x (cut x.length x [] 0 (if x.head? = some 33 then 2 else 1)) ci acc) { s with heap := h', toks := s.toks }) (by first | assumption | omega) ?_ fun f s₃ h₃ => ?_
                        ·
                          --[
                          refine While_S (ChInv g L' l tx tq R9 B9 C9 vals c₁ (i + 1) j₆ x (cut x.length x [] 0 (if x.head? = some 33 then 2 else 1)) { s with heap := h', toks := s.toks }) (n₀ := x.length - (if x.head? = some 33 then 2 else 1)) ⟨rfl, _, _, _, _, ps₈, 0, _, _, _, _, _, _, _, _, [], cv₈, _, rfl, F₈, N₈, hgs₈, hps₈, by first | assumption | omega, hst₈, ⟨_, hkv₈, rfl, ⟨x.length, by omega, rfl⟩, Nat.zero_le _, Nat.zero_le _, Nat.le_refl _, .inr rfl, fun y hy => by cases hy⟩, hiv₈, hjv₈, hn₈, ePat, eStar, eQ, eRes, eAdd, eN, eJ, eI, eChunks, eK⟩ ?_
                          clear F₈ N₈ hst₈ hkv₈ hiv₈ hjv₈ hn₈ ePat eStar eQ eRes eAdd eN eJ eI eChunks eK
                          (try clear ePat) ; (try clear eStar) ; (try clear eQ) ; (try clear eRes) ; (try clear eAdd) ; (try clear eI) ; (try clear eN) ; (try clear eJ) ; (try clear eStuff) ; (try clear eChunks) ; (try clear eK)
                          rintro k₉ s₉ ⟨-, h₉, tk₉, gs₉, m₉, ps₉, ci₉, kv₉, iv₉, jv₉, n₉, tj₉, tn₉, ti₉, tkk₉, acc₉, cv₉, cc₉, rfl, F₉, N₉, hgs₉, hps₉, htk9, hst₉, ⟨ck₉, hkv₉, hk₉, hP₉⟩, hiv₉, hjv₉, hn₉, ePat, eStar, eQ, eRes, eAdd, eN, eJ, eI, eChunks, eK⟩
                          have hcl := hst₉.length
                          have hca := hP₉.2.2.2.1
                          have hcx := hP₉.2.2.1
                          show wpAny _ _ _ _ _ _
                          refine with_toksQ (n := 1) htk9 ?_
                          k_fold
                          repeat' (first | (k_unfold; (try dsimp only)) | (with_reducible first | refine PyProof.Rows.ite_tt ?_ | refine PyProof.Rows.ite_ff ?_) | ((with_reducible show wpAny _ _ (call (Value.builtin "list.append") _ _) _ _ _); with_reducible (k_here; k_dflt (refine' append_K ?k1_g15a ?k2_g15a ?k3_g15a ?_ ?z_g15a; (case k1_g15a => k_asm); (case k2_g15a => k_asm); (case k3_g15a => k_upd); (case z_g15a => (simp only [List.size_toArray, sizeLine_eq]; omega)); k_whole); intro _ _ _)) | ((with_reducible show wpAny _ _ (call (Value.builtin "str.find") _ _) _ _ _); with_reducible (k_here; (with_reducible refine find_dash ?_ ?_ ?_ ?_); (first | omega | skip); (first | omega | skip); (first | omega | skip))) | ((with_reducible show wpAny _ _ (eval (Expr.Name _ _) _) _ _ _); with_reducible (k_here; (name_kind "local"); k_dflt (refine' nameX_L (by k_asm) (by (repeat (first | (with_reducible assumption) | exact rfl | refine upd_skip ?_ (by decide +kernel)))) ?_ rfl rfl; k_whole))) | ((with_reducible show wpAny _ _ (execs (_ :: _) _) _ _ _); with_reducible (k_here; (with_reducible refine execs_consTL (by first | assumption | omega) ?_); intro _ _ _)) | ((with_reducible show wpAny _ _ (execs [] _) _ _ _); with_reducible (k_here; (with_reducible refine wpAny_execs_nil ?_); try dsimp only)) | (with_reducible ((with_reducible show 1 ≤ _ → _); (try dsimp only); intro _)) | walk1 | (dsimp only; walk1) | dsimp only)
                          all_goals with_reducible rename Fr _ _ _ _ => F10
                          all_goals with_reducible rename News _ _ _ _ => N10
                          all_goals with_reducible rename dashIn _ _ _ _ => hD
                          all_goals rw [show kv₉.toNat = i + 1 + ck₉ by omega, show jv₉.toNat = j₆ by omega] at hD
                          all_goals (have hD2 := dash_part hD; rw [hxx] at hD2)
                          · rcases hD2 with ⟨hr, hn⟩ | ⟨d, hr, _, _, _⟩
                            · exact ⟨rfl, _, _, _, _, ps₉, ci₉, _, _, _, _, _, _, _, _, acc₉, cv₉, _, rfl, F10, N10, hgs₉, hps₉, by first | assumption | omega, hst₉, hP₉.done hn, hiv₉, hjv₉, hn₉, ePat, eStar, eQ, eRes, eAdd, eN, eJ, eI, eChunks, rfl⟩
                            · exfalso
                              omega
                          · rcases hD2 with ⟨hr, hn⟩ | ⟨d, hr, hdj, hdk, hn⟩
                            · exfalso
                              omega
                            · have hcd : ci₉ ≤ d := Nat.le_trans hP₉.2.1 hdk
                              rw [hr, hiv₉, part_slice (o := i + 1) (c := ci₉) (d := d) (j := j₆) (by omega) hcd (by omega), hxx, List.push_toArray] at N10
                              refine ⟨x.length - (d + 3), by omega, rfl, _, _, _, _, ps₉, d + 1, _, _, _, _, _, _, _, _, _, _, _, rfl, F10, N10, hgs₉, hps₉, by first | assumption | omega, hst₉.snoc, ⟨d + 3, ?_, rfl, hP₉.next hn (by omega) hdk⟩, ?_, hjv₉, hn₉, ePat, eStar, eQ, eRes, eAdd, eN, eJ, rfl, eChunks, rfl⟩
                              · omega
                              · omega
                          --]
                        · (try clear ePat) ; (try clear eStar) ; (try clear eQ) ; (try clear eRes) ; (try clear eAdd) ; (try clear eI) ; (try clear eN) ; (try clear eJ) ; (try clear eStuff) ; (try clear eChunks) ; (try clear eK)
                          obtain ⟨rfl, h₉, tk₉, gs₉, m₉, ps₉, ci₉, kv₉, iv₉, jv₉, n₉, tj₉, tn₉, ti₉, tkk₉, acc₉, cv₉, cc₉, rfl, F₉, N₉, hgs₉, hps₉, htk9, hst₉, ⟨hq₉, hcx, hca, hne, hbd⟩, hiv₉, hjv₉, hn₉, ePat, eStar, eQ, eRes, eAdd, eN, eJ, eI, eChunks, eK⟩ := h₃
                          clear F₈ N₈ hst₈ hkv₈ hiv₈ hjv₈ hn₈
                          (try dsimp only)
                          have hcl := hst₉.length
                          repeat' (first | (k_unfold; (try dsimp only)) | (with_reducible first | refine PyProof.Rows.ite_tt ?_ | refine PyProof.Rows.ite_ff ?_) | ((with_reducible show wpAny _ _ (eval (Expr.Name _ _) _) _ _ _); with_reducible (k_here; (name_kind "local"); k_dflt (refine' nameX_L (by k_asm) (by (repeat (first | (with_reducible assumption) | exact rfl | refine upd_skip ?_ (by decide +kernel)))) ?_ rfl rfl; k_whole))) | ((with_reducible show wpAny _ _ (execs (_ :: _) _) _ _ _); with_reducible (k_here; (with_reducible refine execs_consTL (by first | assumption | omega) ?_); intro _ _ _)) | (with_reducible ((with_reducible show 1 ≤ _ → _); (try dsimp only); intro _)) | ((fail_if_success (with_reducible show wpAny _ _ (PySem.exec (Stmt.If (Expr.Name _ _) _ _ _) _) _ _ _)); walk1) | ((fail_if_success (with_reducible show wpAny _ _ (PySem.exec (Stmt.If (Expr.Name _ _) _ _ _) _) _ _ _)); dsimp only; (first | ((with_reducible show wpAny _ _ (eval (Expr.Name _ _) _) _ _ _); with_reducible (k_here; (name_kind "local"); k_dflt (refine' nameX_L (by k_asm) (by (repeat (first | (with_reducible assumption) | exact rfl | refine upd_skip ?_ (by decide +kernel)))) ?_ rfl rfl; k_whole))) | ((with_reducible show wpAny _ _ (execs (_ :: _) _) _ _ _); with_reducible (k_here; (with_reducible refine execs_consTL (by first | assumption | omega) ?_); intro _ _ _)) | (with_reducible ((with_reducible show 1 ≤ _ → _); (try dsimp only); intro _)) | walk1)))
                          have hsl2 : Txt.slice (S l) (some iv₉) (some jv₉) = S (x.drop ci₉) := by
                            rw [hiv₉, show jv₉ = ((i + 1 + x.length : Nat) : Int) by omega, part_slice (o := i + 1) (c := ci₉) (d := x.length) (j := j₆) (by omega) hcx (by omega), hxx, List.take_of_length_le (by rw [List.length_drop]; omega)]
                          with_reducible rename Fr _ _ _ _ => F10
                          with_reducible rename News _ _ _ _ => N10
                          rw [hsl2] at F10
                          refine cutT (ClSt g L' l tx tq R9 B9 C9 vals c₁ j₆ (cut x.length x [] 0 (if x.head? = some 33 then 2 else 1)) { s with heap := h', toks := s.toks }) (by first | assumption | omega) ?_ fun f s₃ h₃ => ?_
                          ·
                            --[
                            have hsz : (S (x.drop ci₉)).cps.size < 1000000 := by
                              have e : (S (x.drop ci₉)).cps.size = (S (x.drop ci₉)).length := rfl
                              rw [e, S_length, List.length_drop]; omega
                            by_cases hdr : x.drop ci₉ = []
                            · have hb0 : decide ((S (x.drop ci₉)).length = 0) = true := by rw [S_length, hdr]; rfl
                              obtain ⟨cv', z, t9, ecv, hst', hz⟩ := hst₉.last (by
                                rcases hne with q | q
                                · exact q
                                · exfalso
                                  rw [q, List.drop_zero] at hdr
                                  rw [hdr] at hx0
                                  exact absurd hx0 (Nat.lt_irrefl _))
                              subst ecv
                              have hz2 : z.length ≤ 100 := by
                                have ez : z ∈ acc₉ := by
                                  rw [← hz, List.getLastD_eq_getLast?]
                                  cases hq : acc₉.getLast? with
                                  | none =>
                                    rw [List.getLast?_eq_none_iff.mp hq] at hst₉
                                    have := hst₉.length
                                    simp at this
                                  | some w => exact List.mem_of_getLast? hq
                                have := hbd z ez
                                omega
                              rw [List.length_append, List.length_singleton] at hcl
                              repeat' (first | (k_unfold; (try dsimp only)) | (with_reducible first | refine PyProof.Rows.ite_tt ?_ | refine PyProof.Rows.ite_ff ?_) | ((with_reducible show wpAny _ _ (eval (Expr.Name _ _) _) _ _ _); with_reducible (k_here; (name_kind "local"); k_dflt (refine' nameX_L (by k_asm) (by (repeat (first | (with_reducible assumption) | exact rfl | refine upd_skip ?_ (by decide +kernel)))) ?_ rfl rfl; k_whole))) | ((with_reducible show wpAny _ _ (execs [] _) _ _ _); with_reducible (k_here; (with_reducible refine wpAny_execs_nil ?_); try dsimp only)) | (with_reducible ((with_reducible show 1 ≤ _ → _); (try dsimp only); intro _)) | ((with_reducible show wpAny _ _ (getItem (Value.ref _) (Value.int _ _)) _ _ _); with_reducible (k_here; k_dflt (refine' get_last ?N_g17d ?M_g17d ?_; (case N_g17d => k_asm); (case M_g17d => k_mem); k_whole))) | ((with_reducible show wpAny _ _ (setItem (Value.ref _) (Value.int _ _) _) _ _ _); with_reducible (k_here; k_dflt (refine' set_last ?F_g17e ?N_g17e ?U_g17e ?_; (case F_g17e => k_asm); (case N_g17e => k_asm); (case U_g17e => k_upd); k_whole); intro _ _ _)) | ((with_reducible show wpAny _ _ (truthy (Value.str _ _)) _ _ _); with_reducible (k_here; (refine' truthy_big ?h1_g17f ?h2_g17f ?_; (case h2_g17f => with_reducible assumption); (case h1_g17f => assumption); intro _))) | ((with_reducible show wpAny _ _ (PySem.inplaceOp Operator.Add (Value.str _ _) (Value.str _ _)) _ _ _); refine PyProof.Rows.iadd_str ?_ (sz_z hz2); intro t' tk') | ((fail_if_success (with_reducible show wpAny _ _ (PySem.inplaceOp Operator.Add (Value.str _ _) (Value.str _ _)) _ _ _)); walk1) | ((fail_if_success (with_reducible show wpAny _ _ (PySem.inplaceOp Operator.Add (Value.str _ _) (Value.str _ _)) _ _ _)); dsimp only; walk1) | dsimp only)
                              with_reducible rename Fr _ _ _ _ => F11
                              with_reducible rename News _ _ _ _ => N11
                              rw [show S z ++ Str.ofString "-" = S (z ++ [45]) by rw [ofS_dash, S_append]] at N11
                              refine ⟨rfl, _, _, _, _, ps₉, _, _, _, _, _, _, rfl, F11, N11, hgs₉, hps₉, by first | assumption | omega, ?_, hjv₉, hn₉, ePat, eStar, eQ, eRes, eAdd, eN, eJ, eChunks⟩
                              rw [← hq₉, hdr]
                              unfold lastChunk
                              rw [if_neg (fun q => q rfl), hz]
                              exact hst'.snoc
                            · have hb0 : decide ((S (x.drop ci₉)).length = 0) = false := by
                                rw [S_length]
                                exact decide_eq_false fun e => hdr (List.eq_nil_of_length_eq_zero e)
                              repeat' (first | (k_unfold; (try dsimp only)) | (with_reducible first | refine PyProof.Rows.ite_tt ?_ | refine PyProof.Rows.ite_ff ?_) | ((with_reducible show wpAny _ _ (call (Value.builtin "list.append") _ _) _ _ _); with_reducible (k_here; k_dflt (refine' append_K ?k1_g18a ?k2_g18a ?k3_g18a ?_ ?z_g18a; (case k1_g18a => k_asm); (case k2_g18a => k_asm); (case k3_g18a => k_upd); (case z_g18a => (simp only [List.size_toArray, sizeLine_eq]; omega)); k_whole); intro _ _ _)) | ((with_reducible show wpAny _ _ (eval (Expr.Name _ _) _) _ _ _); with_reducible (k_here; (name_kind "local"); k_dflt (refine' nameX_L (by k_asm) (by (repeat (first | (with_reducible assumption) | exact rfl | refine upd_skip ?_ (by decide +kernel)))) ?_ rfl rfl; k_whole))) | ((with_reducible show wpAny _ _ (execs [] _) _ _ _); with_reducible (k_here; (with_reducible refine wpAny_execs_nil ?_); try dsimp only)) | (with_reducible ((with_reducible show 1 ≤ _ → _); (try dsimp only); intro _)) | ((with_reducible show wpAny _ _ (truthy (Value.str _ _)) _ _ _); with_reducible (k_here; (refine' truthy_big ?h1_g18e ?h2_g18e ?_; (case h2_g18e => with_reducible assumption); (case h1_g18e => assumption); intro _))) | walk1 | (dsimp only; walk1) | dsimp only)
                              with_reducible rename Fr _ _ _ _ => F11
                              with_reducible rename News _ _ _ _ => N11
                              rw [List.push_toArray] at N11
                              refine ⟨rfl, _, _, _, _, ps₉, _, _, _, _, _, _, rfl, F11, N11, hgs₉, hps₉, by first | assumption | omega, ?_, hjv₉, hn₉, ePat, eStar, eQ, eRes, eAdd, eN, eJ, eChunks⟩
                              rw [← hq₉]
                              unfold lastChunk
                              rw [if_pos hdr]
                              exact hst₉.snoc
                            --]
                          · (try clear ePat) ; (try clear eStar) ; (try clear eQ) ; (try clear eRes) ; (try clear eAdd) ; (try clear eI) ; (try clear eN) ; (try clear eJ) ; (try clear eStuff) ; (try clear eChunks) ; (try clear eK)
                            obtain ⟨rfl, h₁₀, tk₁₀, gs₁₀, m₁₀, ps₁₀, jv₁₀, n₁₀, tj₁₀, tn₁₀, cv₁₀, cc₁₀, rfl, F₁₀, N₁₀, hgs₁₀, hps₁₀, htk10, hst₁₀, hjv₁₀, hn₁₀, ePat, eStar, eQ, eRes, eAdd, eN, eJ, eChunks⟩ := h₃
                            clear F10 N10 hsl2
                            (try dsimp only)
                            obtain ⟨hT1, hT2⟩ := cut_len x (if x.head? = some 33 then 2 else 1)
                            generalize hT : cut x.length x [] 0 (if x.head? = some 33 then 2 else 1) = T at hst₁₀ hT1 hT2
                            have hcv := hst₁₀.length
                            repeat' (first | (k_unfold; (try dsimp only)) | (with_reducible first | refine PyProof.Rows.ite_tt ?_ | refine PyProof.Rows.ite_ff ?_) | ((with_reducible show wpAny _ _ (execs (_ :: _) _) _ _ _); with_reducible (k_here; (with_reducible refine execs_consTL (by first | assumption | omega) ?_); intro _ _ _)) | (with_reducible ((with_reducible show 1 ≤ _ → _); (try dsimp only); intro _)) | ((fail_if_success (with_reducible show wpAny _ _ (PySem.exec (Stmt.For _ _ _ _ _) _) _ _ _)); walk1) | ((fail_if_success (with_reducible show wpAny _ _ (PySem.exec (Stmt.For _ _ _ _ _) _) _ _ _)); dsimp only; (first | ((with_reducible show wpAny _ _ (execs (_ :: _) _) _ _ _); with_reducible (k_here; (with_reducible refine execs_consTL (by first | assumption | omega) ?_); intro _ _ _)) | (with_reducible ((with_reducible show 1 ≤ _ → _); (try dsimp only); intro _)) | walk1)))
                            refine cutT (ClSt g L' l tx tq R9 B9 C9 vals c₁ j₆ (merge T) { s with heap := h', toks := s.toks }) (by first | assumption | omega) ?_ fun f s₃ h₃ => ?_
                            ·
                              --[
                              refine wpAny_For ?_
                              repeat' (first | (k_unfold; (try dsimp only)) | (with_reducible first | refine PyProof.Rows.ite_tt ?_ | refine PyProof.Rows.ite_ff ?_) | ((with_reducible show wpAny _ _ (call (Value.builtin "len") _ _) _ _ _); with_reducible (k_here; (with_reducible show wpAny _ _ (call (Value.builtin _) [Value.ref _]) _ _ _); k_dflt (refine' len_K ?N_g20a ?M_g20a ?z_g20a ?_; (case N_g20a => k_asm); (case M_g20a => k_mem); (case z_g20a => omega); k_whole); intro _ _)) | ((with_reducible show wpAny _ _ (call (Value.type "range") _ _) _ _ _); with_reducible (k_here; k_dflt (refine' range_K ?F_g20b ?N_g20b ?k_g20b ?p_g20b ?_; (case F_g20b => k_asm); (case N_g20b => k_asm); (case k_g20b => decide); (case p_g20b => exact PyProof.noPylong_small (by decide)); k_whole); intro _ _ _ _ zz_lq; (try k_lt zz_lq))) | ((with_reducible show wpAny _ _ (eval (Expr.Name _ _) _) _ _ _); with_reducible (k_here; (name_kind "local"); k_dflt (refine' nameX_L ?F_g20c ?v_g20c ?_ ?a_g20c ?b_g20c; (case F_g20c => k_asm); (case a_g20c => rfl); (case b_g20c => rfl); (case v_g20c => (repeat (first | (with_reducible assumption) | exact rfl | refine upd_skip ?_ (by decide +kernel)))); k_whole))) | ((fail_if_success (with_reducible show wpAny _ _ (PySem.pyIter _) _ _ _)); walk1) | ((fail_if_success (with_reducible show wpAny _ _ (PySem.pyIter _) _ _ _)); dsimp only; (first | ((with_reducible show wpAny _ _ (call (Value.builtin "len") _ _) _ _ _); with_reducible (k_here; (with_reducible show wpAny _ _ (call (Value.builtin _) [Value.ref _]) _ _ _); k_dflt (refine' len_K ?N_g20a ?M_g20a ?z_g20a ?_; (case N_g20a => k_asm); (case M_g20a => k_mem); (case z_g20a => omega); k_whole); intro _ _)) | ((with_reducible show wpAny _ _ (call (Value.type "range") _ _) _ _ _); with_reducible (k_here; k_dflt (refine' range_K ?F_g20b ?N_g20b ?k_g20b ?p_g20b ?_; (case F_g20b => k_asm); (case N_g20b => k_asm); (case k_g20b => decide); (case p_g20b => exact PyProof.noPylong_small (by decide)); k_whole); intro _ _ _ _ zz_lq; (try k_lt zz_lq))) | ((with_reducible show wpAny _ _ (eval (Expr.Name _ _) _) _ _ _); with_reducible (k_here; (name_kind "local"); k_dflt (refine' nameX_L ?F_g20c ?v_g20c ?_ ?a_g20c ?b_g20c; (case F_g20c => k_asm); (case a_g20c => rfl); (case b_g20c => rfl); (case v_g20c => (repeat (first | (with_reducible assumption) | exact rfl | refine upd_skip ?_ (by decide +kernel)))); k_whole))) | walk1)))
                              with_reducible rename Fr _ _ _ _ => F11
                              with_reducible rename News _ _ _ _ => N11
                              rename_i r11 _ lr _ _
                              refine iter_down (n := T.length - 1) F11 N11 (.head _) (by omega) (by omega) fun it11 h11 F12 N12 l12 => ?_
                              rw [show ((cv₁₀.length : Int) - 1) = ((T.length - 1 : Nat) : Int) by omega] at N12
                              have N13 : News g L' h11 ((it11, iterO ((T.length - 1 : Nat) : Int) ((T.length - 1 : Nat) : Int) (-1)) :: [(C9, W.listOf cv₁₀.toArray cc₁₀), (B9, boundApp R9), (R9, W.listOf vals.toArray c₁), (70, tabObj ps₁₀)]) := fun q hq => N12 q (by
                                rcases List.mem_cons.mp hq with rfl | hq
                                · exact .head _
                                · exact .tail _ (.tail _ hq))
                              have l13 : ∀ q ∈ [(C9, W.listOf cv₁₀.toArray cc₁₀), (B9, boundApp R9), (R9, W.listOf vals.toArray c₁), (70, tabObj ps₁₀)], @Ne Nat q.1 it11 := fun q hq => Nat.ne_of_lt (l12 q (.tail _ hq))
                              clear F11 N11 N12
                              have hgT : GdT T := by rw [← hT]; exact gd_cut _ _ _ _ (.inl ⟨rfl, rfl, by split <;> omega, fun e => by rw [e] at hx0; exact absurd hx0 (Nat.lt_irrefl _)⟩)
                              have htT : tot T ≤ 1000000 := by
                                have z := (cut_size (x := x) (N := 100) (by omega) x.length [] 0 (if x.head? = some 33 then 2 else 1)).1
                                rw [hT] at z
                                have e3 : tot ([] : List (List Nat)) = 0 := rfl
                                have e4 : (x.length + 1) * 101 ≤ 100 * 101 := Nat.mul_le_mul_right _ (by omega)
                                omega
                              refine forDown (MgJ l tx tq R9 B9 C9 vals c₁ j₆ T ps₁₀) rfl rfl rfl F12 N13 l13 (by dsimp only; first | assumption | omega) ⟨cv₁₀, _, _, _, _, _, rfl, ?_, hjv₁₀, hn₁₀, ePat, eStar, eQ, eRes, eAdd, eN, eJ, eChunks⟩ ?_ ?_ (by passes_own)
                              · obtain ⟨n, hn⟩ : ∃ n, T.length = n + 1 := ⟨T.length - 1, by omega⟩
                                rw [Nat.sub_zero, hn, Nat.add_sub_cancel, List.drop_eq_getElem_cons (by omega : n < T.length), List.drop_eq_nil_of_le (show T.length ≤ n + 1 by omega)]
                                show Strs cv₁₀ (T.take n ++ [T[n]])
                                have e : T.take n ++ [T[n]] = T := by
                                  have := List.take_append_drop n T
                                  rw [List.drop_eq_getElem_cons (by omega : n < T.length), List.drop_eq_nil_of_le (show T.length ≤ n + 1 by omega)] at this
                                  exact this
                                rw [e]
                                exact hst₁₀
                              · (try clear ePat) ; (try clear eStar) ; (try clear eQ) ; (try clear eRes) ; (try clear eAdd) ; (try clear eI) ; (try clear eN) ; (try clear eJ) ; (try clear eStuff) ; (try clear eChunks) ; (try clear eK)
                                rintro i₁ m₁₁ nx h₁₁ tk₁₁ t₁₁ hi₁ ⟨cv₁₁, cc₁₁, jv₁₁, n₁₁, tj₁₁, tn₁₁, rfl, hst₁₁, hjv₁₁, hn₁₁, ePat, eStar, eQ, eRes, eAdd, eN, eJ, eChunks⟩ htk11 hne11 F₁₁ N₁₁
                                have nC : @Ne Nat C9 it11 := hne11 _ (.head _)
                                have nB : @Ne Nat B9 it11 := hne11 _ (.tail _ (.head _))
                                have nR : @Ne Nat R9 it11 := hne11 _ (.tail _ (.tail _ (.head _)))
                                have n7 : @Ne Nat 70 it11 := hne11 _ (.tail _ (.tail _ (.tail _ (.head _))))
                                clear hne11
                                obtain ⟨p, hp⟩ : ∃ p, T.length - 1 - i₁ = p + 1 := ⟨T.length - 1 - i₁ - 1, by omega⟩
                                obtain ⟨c, d, r, hq1, hq2, hcn, hdn, hq3⟩ := merge_at hgT (p := p) (by omega)
                                rw [hp, hq1, hq2] at hst₁₁
                                have hcs : (S c).length ≤ 2000000 := by
                                  have z := mem_tot (l := T) (c := c) (List.mem_of_mem_take (i := p + 1) (by rw [hq1]; simp))
                                  rw [S_length]; omega
                                have hds : (S d).length ≤ 2000000 := by
                                  have z := mem_tot (l := merge (T.drop (p + 1))) (c := d) (by rw [hq2]; exact .head _)
                                  have z2 := (merge_size (T.drop (p + 1))).1
                                  have z3 := tot_drop T (p + 1)
                                  rw [S_length]; omega
                                have hcl2 : (T.take p).length = p := by rw [List.length_take]; omega
                                have hgz := glue_sz hcn hdn hcs hds
                                have hgl := glue_len hcn hdn
                                rw [List.append_assoc] at hst₁₁
                                obtain ⟨pre, v2, rfl, hs1, hs2⟩ := hst₁₁.split
                                obtain ⟨v3, v4, rfl⟩ : ∃ a b, v2 = a :: b := by
                                  cases v2 with
                                  | nil => exact hs2.elim
                                  | cons a b => exact ⟨a, b, rfl⟩
                                obtain ⟨⟨t3, rfl⟩, hs2⟩ := hs2
                                obtain ⟨v5, post, rfl⟩ : ∃ a b, v4 = a :: b := by
                                  cases v4 with
                                  | nil => exact hs2.elim
                                  | cons a b => exact ⟨a, b, rfl⟩
                                obtain ⟨⟨t5, rfl⟩, hs2⟩ := hs2
                                have hpl : pre.length = p := by rw [hs1.length]; exact hcl2
                                have hpo : post.length ≤ 200 := by
                                  have z := hs2.length
                                  have z2 := (merge_size (T.drop (p + 1))).2
                                  rw [hq2, List.length_drop, List.length_cons] at z2
                                  omega
                                cases hgt : decide (d.headD 0 < c.getLastD 0) with
                                | true =>
                                  show wpAny _ _ _ _ _ _
                                  repeat' (first | (k_unfold; (try dsimp only)) | (with_reducible first | refine PyProof.Rows.ite_tt ?_ | refine PyProof.Rows.ite_ff ?_) | ((with_reducible show wpAny _ _ (compareOp CmpOp.Gt (Value.str _ _) (Value.str _ _)) _ _ _); with_reducible (k_here; (with_reducible refine gt_one (by assumption) ?_))) | ((with_reducible show wpAny _ _ (delItem (Value.ref _) (Value.int _ _)) _ _ _); with_reducible (k_here; k_dflt (refine' del_2 ?F_g21b ?N_g21b ?U_g21b ?k_g21b ?z_g21b ?_; (case F_g21b => k_asm); (case N_g21b => k_asm); (case U_g21b => k_upd); (case k_g21b => omega); (case z_g21b => (simp only [List.length_append, List.length_cons]; omega)); k_whole); intro _ _ _)) | ((with_reducible show wpAny _ _ (eval (Expr.Name _ _) _) _ _ _); with_reducible (k_here; (name_kind "local"); k_dflt (refine' nameX_L (by k_asm) (by (repeat (first | (with_reducible assumption) | exact rfl | refine upd_skip ?_ (by decide +kernel)))) ?_ rfl rfl; k_whole))) | ((with_reducible show wpAny _ _ (execs (_ :: _) _) _ _ _); with_reducible (k_here; (with_reducible refine execs_consTL (by first | assumption | omega) ?_); intro _ _ _)) | ((with_reducible show wpAny _ _ (execs [] _) _ _ _); with_reducible (k_here; (with_reducible refine wpAny_execs_nil ?_); try dsimp only)) | (with_reducible ((with_reducible show 1 ≤ _ → _); (try dsimp only); intro _)) | ((with_reducible show wpAny _ _ (setItem (Value.ref _) (Value.int _ _) _) _ _ _); with_reducible (k_here; k_dflt (refine' set_mid ?F_g21g ?N_g21g ?U_g21g ?k_g21g ?z_g21g ?_; (case F_g21g => k_asm); (case N_g21g => k_asm); (case U_g21g => k_upd); (case k_g21g => omega); (case z_g21g => omega); k_whole); intro _ _ _)) | ((with_reducible show wpAny _ _ (subscriptTail _ (Expr.BinOp _ _ _ _) (Value.ref _) (Value.int _ _)) _ _ _); with_reducible (k_here; k_dflt (refine' item_1 (by k_asm) (by k_mem) (by omega) (by omega) ?_; k_whole))) | ((with_reducible show wpAny _ _ (subscriptTail _ (Expr.Constant _ _ _) (Value.str _ _) (Value.int _ _)) _ _ _); with_reducible (k_here; k_dflt (refine' ch_first ?c_g21i ?_; (case c_g21i => assumption)); intro _ _)) | ((with_reducible show wpAny _ _ (subscriptTail _ (Expr.Name _ _) (Value.ref _) (Value.int _ _)) _ _ _); with_reducible (k_here; k_dflt (refine' item_2 (by k_asm) (by k_mem) (by omega) (by omega) ?_; k_whole))) | ((with_reducible show wpAny _ _ (subscriptTail _ (Expr.Slice _ _ _ _) (Value.str _ _) (Value.ref _)) _ _ _); with_reducible (k_here; (with_reducible show wpAny _ _ (subscriptTail _ (Expr.Slice none (some _) none _) _ _) _ _ _); k_dflt (refine' slice_strN_ns (hsz := ?hsz_g21k) (s := ⟨_, _, _, _, _⟩) ?F_g21k ?N_g21k ?_; (case F_g21k => k_asm); (case N_g21k => k_asm); (case hsz_g21k => with_reducible exact sz_f (by with_reducible assumption))); intro _ _ _ _ _)) | ((with_reducible show wpAny _ _ (subscriptTail _ (Expr.Slice _ _ _ _) (Value.str _ _) (Value.ref _)) _ _ _); with_reducible (k_here; (with_reducible show wpAny _ _ (subscriptTail _ (Expr.Slice (some _) none none _) _ _) _ _ _); k_dflt (refine' slice_strN_sn (hsz := ?hsz_g21l) (s := ⟨_, _, _, _, _⟩) ?F_g21l ?N_g21l ?_; (case F_g21l => k_asm); (case N_g21l => k_asm); (case hsz_g21l => with_reducible exact sz_f (by with_reducible assumption))); intro _ _ _ _ _)) | ((with_reducible show wpAny _ _ (subscriptTail _ (Expr.UnaryOp _ _ _) (Value.str _ _) (Value.int _ _)) _ _ _); with_reducible (k_here; k_dflt (refine' ch_last ?c_g21m ?_; (case c_g21m => assumption)); intro _ _)) | ((with_reducible show wpAny _ _ (PySem.binaryOp Operator.Add (Value.str _ _) (Value.str _ _)) _ _ _); refine PyProof.Rows.add_str ?_ hgz; intro t' tk') | ((fail_if_success (with_reducible show wpAny _ _ (PySem.binaryOp Operator.Add (Value.str _ _) (Value.str _ _)) _ _ _)); walk1) | ((fail_if_success (with_reducible show wpAny _ _ (PySem.binaryOp Operator.Add (Value.str _ _) (Value.str _ _)) _ _ _)); dsimp only; walk1) | dsimp only)
                                  with_reducible rename Fr _ _ _ _ => F14
                                  with_reducible rename News _ _ _ _ => N14
                                  rw [hgl] at N14
                                  refine ⟨rfl, _, _, _, _, rfl, F14, N14, (fun q hq => by
                                    rcases List.mem_cons.mp hq with rfl | hq
                                    · exact nC
                                    rcases List.mem_cons.mp hq with rfl | hq
                                    · exact nB
                                    rcases List.mem_cons.mp hq with rfl | hq
                                    · exact nR
                                    rcases List.mem_cons.mp hq with rfl | hq
                                    · exact n7
                                    · cases hq), by first | assumption | omega, pre ++ .str (S (c.dropLast ++ d.tail)) _ :: post, _, _, _, _, _, rfl, ?_, hjv₁₁, hn₁₁, ePat, eStar, eQ, eRes, eAdd, eN, eJ, eChunks⟩
                                  rw [show T.length - 1 - (i₁ + 1) = p by omega, hq3, if_pos (of_decide_eq_true hgt)]
                                  exact hs1.cat ⟨⟨_, rfl⟩, hs2⟩
                                | false =>
                                  show wpAny _ _ _ _ _ _
                                  repeat' (first | (k_unfold; (try dsimp only)) | (with_reducible first | refine PyProof.Rows.ite_tt ?_ | refine PyProof.Rows.ite_ff ?_) | ((with_reducible show wpAny _ _ (compareOp CmpOp.Gt (Value.str _ _) (Value.str _ _)) _ _ _); with_reducible (k_here; (with_reducible refine gt_one (by assumption) ?_))) | ((with_reducible show wpAny _ _ (eval (Expr.Name _ _) _) _ _ _); with_reducible (k_here; (name_kind "local"); k_dflt (refine' nameX_L (by k_asm) (by (repeat (first | (with_reducible assumption) | exact rfl | refine upd_skip ?_ (by decide +kernel)))) ?_ rfl rfl; k_whole))) | ((with_reducible show wpAny _ _ (execs (_ :: _) _) _ _ _); with_reducible (k_here; (with_reducible refine execs_consTL (by first | assumption | omega) ?_); intro _ _ _)) | ((with_reducible show wpAny _ _ (execs [] _) _ _ _); with_reducible (k_here; (with_reducible refine wpAny_execs_nil ?_); try dsimp only)) | (with_reducible ((with_reducible show 1 ≤ _ → _); (try dsimp only); intro _)) | ((with_reducible show wpAny _ _ (subscriptTail _ (Expr.BinOp _ _ _ _) (Value.ref _) (Value.int _ _)) _ _ _); with_reducible (k_here; k_dflt (refine' item_1 ?N_g22f ?M_g22f ?k_g22f ?z_g22f ?_; (case N_g22f => k_asm); (case M_g22f => k_mem); (case k_g22f => omega); (case z_g22f => omega); k_whole))) | ((with_reducible show wpAny _ _ (subscriptTail _ (Expr.Constant _ _ _) (Value.str _ _) (Value.int _ _)) _ _ _); with_reducible (k_here; k_dflt (refine' ch_first ?c_g22g ?_; (case c_g22g => assumption)); intro _ _)) | ((with_reducible show wpAny _ _ (subscriptTail _ (Expr.Name _ _) (Value.ref _) (Value.int _ _)) _ _ _); with_reducible (k_here; k_dflt (refine' item_2 ?N_g22h ?M_g22h ?k_g22h ?z_g22h ?_; (case N_g22h => k_asm); (case M_g22h => k_mem); (case k_g22h => omega); (case z_g22h => omega); k_whole))) | ((with_reducible show wpAny _ _ (subscriptTail _ (Expr.UnaryOp _ _ _) (Value.str _ _) (Value.int _ _)) _ _ _); with_reducible (k_here; k_dflt (refine' ch_last ?c_g22i ?_; (case c_g22i => assumption)); intro _ _)) | ((with_reducible show wpAny _ _ (PySem.binaryOp Operator.Add (Value.str _ _) (Value.str _ _)) _ _ _); refine PyProof.Rows.add_str ?_ hgz; intro t' tk') | ((fail_if_success (with_reducible show wpAny _ _ (PySem.binaryOp Operator.Add (Value.str _ _) (Value.str _ _)) _ _ _)); walk1) | ((fail_if_success (with_reducible show wpAny _ _ (PySem.binaryOp Operator.Add (Value.str _ _) (Value.str _ _)) _ _ _)); dsimp only; walk1) | dsimp only)
                                  with_reducible rename Fr _ _ _ _ => F14
                                  with_reducible rename News _ _ _ _ => N14
                                  refine ⟨rfl, _, _, _, _, rfl, F14, N14, (fun q hq => by
                                    rcases List.mem_cons.mp hq with rfl | hq
                                    · exact nC
                                    rcases List.mem_cons.mp hq with rfl | hq
                                    · exact nB
                                    rcases List.mem_cons.mp hq with rfl | hq
                                    · exact nR
                                    rcases List.mem_cons.mp hq with rfl | hq
                                    · exact n7
                                    · cases hq), by first | assumption | omega, pre ++ .str (S c) _ :: .str (S d) _ :: post, _, _, _, _, _, rfl, ?_, hjv₁₁, hn₁₁, ePat, eStar, eQ, eRes, eAdd, eN, eJ, eChunks⟩
                                  rw [show T.length - 1 - (i₁ + 1) = p by omega, hq3, if_neg (of_decide_eq_false hgt)]
                                  exact hs1.cat ⟨⟨_, rfl⟩, ⟨_, rfl⟩, hs2⟩
                              · (try clear ePat) ; (try clear eStar) ; (try clear eQ) ; (try clear eRes) ; (try clear eAdd) ; (try clear eI) ; (try clear eN) ; (try clear eJ) ; (try clear eStuff) ; (try clear eChunks) ; (try clear eK)
                                rintro m₁₂ nx h₁₂ tk₁₂ ⟨cv₁₂, cc₁₂, jv₁₂, n₁₂, tj₁₂, tn₁₂, rfl, hst₁₂, hjv₁₂, hn₁₂, ePat, eStar, eQ, eRes, eAdd, eN, eJ, eChunks⟩ htk12 F₁₂ N₁₂
                                rw [Nat.sub_self] at hst₁₂
                                exact fun _ => ⟨rfl, _, _, _, _, ps₁₀, _, _, _, _, cv₁₂, _, rfl, F₁₂, N₁₂, hgs₁₀, hps₁₀, htk12, hst₁₂, hjv₁₂, hn₁₂, ePat, eStar, eQ, eRes, eAdd, eN, eJ, eChunks⟩
                              --]
                            · (try clear ePat) ; (try clear eStar) ; (try clear eQ) ; (try clear eRes) ; (try clear eAdd) ; (try clear eI) ; (try clear eN) ; (try clear eJ) ; (try clear eStuff) ; (try clear eChunks) ; (try clear eK)
                              obtain ⟨rfl, h₁₁, tk₁₁, gs₁₁, m₁₁, ps₁₁, jv₁₁, n₁₁, tj₁₁, tn₁₁, cv₁₁, cc₁₁, rfl, F₁₁, N₁₁, hgs₁₁, hps₁₁, htk11, hst₁₁, hjv₁₁, hn₁₁, ePat, eStar, eQ, eRes, eAdd, eN, eJ, eChunks⟩ := h₃
                              clear F₁₀ N₁₀
                              (try dsimp only)
                              repeat' (first | (k_unfold; (try dsimp only)) | (with_reducible first | refine PyProof.Rows.ite_tt ?_ | refine PyProof.Rows.ite_ff ?_) | ((with_reducible show wpAny _ _ (execs (_ :: _) _) _ _ _); with_reducible (k_here; (with_reducible refine execs_consTL (by first | assumption | omega) ?_); intro _ _ _)) | (with_reducible ((with_reducible show 1 ≤ _ → _); (try dsimp only); intro _)) | walk1 | (dsimp only; walk1) | dsimp only)
                              have hT9 : chunksOf x = merge T := by unfold chunksOf; rw [hT]
                              have hxl9 : x.length < 100 := by first | assumption | omega
                              have htot := chunks_tot hxl9
                              rw [hT9] at htot
                              refine gen_K F₁₁ N₁₁ (by k_asm) CH hps₁₁ hgs₁₁ (by show 1 ≤ _ + 1; omega) (show (Value.type _) ≠ .none from fun e => nomatch e) (show (Value.type _) ≠ .none from fun e => nomatch e) hst₁₁ (fun y hy => Nat.le_trans (mem_tot hy) (by omega)) rfl (by ktr_room) rfl rfl (fun Q' hQ' => by (k_here; k_dflt (refine' nameX_L (by k_asm) (by (repeat (first | (with_reducible assumption) | exact rfl | refine upd_skip ?_ (by decide +kernel)))) ?_ (by rfl) (by rfl); k_whole)); exact hQ') (by decide) (by decide) fun a12 h12 tk12 gs12 ps12 F12 N12 hps12 hgs12 htk12 hsz12 X12 => ?_
                              have qF := F₁₁
                              have qN := N₁₁
                              clear F₁₁ N₁₁
                              repeat' (first | (k_unfold; (try dsimp only)) | (with_reducible first | refine PyProof.Rows.ite_tt ?_ | refine PyProof.Rows.ite_ff ?_) | walk1 | (dsimp only; walk1) | dsimp only)
                              have hok9 := join_ok hxl9
                              rw [hT9] at hok9
                              refine join_gen (tx := (merge T).map chunkText) X12 hgs12 (List.length_map ..) (fun j v h => h) hok9 (by rw [sizeLine_eq]; omega) fun h13 tk13 gs13 t13 hk13 hgs13 htk13 => ?_
                              clear X12
                              obtain ⟨F13, N13⟩ := fr_news_up F12 N12 qF qN rfl hk13
                              clear F12 N12 qF qN hk13
                              dsimp only at htk13
                              repeat' (first | (k_unfold; (try dsimp only)) | (with_reducible first | refine PyProof.Rows.ite_tt ?_ | refine PyProof.Rows.ite_ff ?_) | ((with_reducible show wpAny _ _ (execs [] _) _ _ _); with_reducible (k_here; (with_reducible refine wpAny_execs_nil ?_); try dsimp only)) | (with_reducible ((with_reducible show 1 ≤ _ → _); (try dsimp only); intro _)) | walk1 | (dsimp only; walk1) | dsimp only)
                              with_reducible rename Fr _ _ _ _ => F8
                              with_reducible rename News _ _ _ _ => N8
                              have est : stuffOf x = Txt.join dash1 ((merge T).map chunkText) := by unfold stuffOf; rw [if_pos hd, hT9]
                              rw [est]
                              exact ⟨rfl, _, _, _, _, ps12, _, _, _, _, _, rfl, F8, fun q hq => N8 q (.tail _ hq), hgs13, hps12, by first | assumption | omega, hjv₁₁, hn₁₁, ePat, eStar, eQ, eRes, eAdd, eN, eJ, rfl⟩
                    ·
                      --[
                      rw [Bool.not_eq_true] at hd
                      have hin := occ_one x 45 hd
                      rw [← ofS_dash] at hin
                      repeat' (first | (k_unfold; (try dsimp only)) | (with_reducible first | refine PyProof.Rows.ite_tt ?_ | refine PyProof.Rows.ite_ff ?_) | ((with_reducible show wpAny _ _ (compareOp CmpOp.NotIn (Value.str _ _) (Value.str _ _)) _ _ _); with_reducible (k_here; refine notIn_lit (by with_reducible assumption) ?_)) | ((with_reducible show wpAny _ _ (eval (Expr.Name _ _) _) _ _ _); with_reducible (k_here; (name_kind "local"); k_dflt (refine' nameX_L (by k_asm) (by (repeat (first | (with_reducible assumption) | exact rfl | refine upd_skip ?_ (by decide +kernel)))) ?_ rfl rfl; k_whole))) | ((with_reducible show wpAny _ _ (execs (_ :: _) _) _ _ _); with_reducible (k_here; (with_reducible refine execs_consTL (by first | assumption | omega) ?_); intro _ _ _)) | ((with_reducible show wpAny _ _ (execs [] _) _ _ _); with_reducible (k_here; (with_reducible refine wpAny_execs_nil ?_); try dsimp only)) | (with_reducible ((with_reducible show 1 ≤ _ → _); (try dsimp only); intro _)) | walk1 | (dsimp only; walk1) | dsimp only)
                      with_reducible rename Fr _ _ _ _ => F8
                      with_reducible rename News _ _ _ _ => N8
                      have est : stuffOf x = Txt.replace (S x) bs1 bs2 := by unfold stuffOf repl; rw [if_neg (by rw [hd]; exact Bool.false_ne_true)]
                      rw [est]
                      exact ⟨rfl, _, _, _, _, ps₆, _, _, _, _, _, rfl, F8, N8, hgs₆, hps₆, by first | assumption | omega, hjv₆, hn₆, ePat, eStar, eQ, eRes, eAdd, eN, eJ, rfl⟩
                      --]
                  ·
                    --[
                    (try clear ePat) ; (try clear eStar) ; (try clear eQ) ; (try clear eRes) ; (try clear eAdd) ; (try clear eI) ; (try clear eN) ; (try clear eJ) ; (try clear eStuff) ; (try clear eChunks) ; (try clear eK)
                    obtain ⟨rfl, h₈, tk₈, gs₈, m₈, ps₈, jv₈, n₈, tj₈, tn₈, ty₈, rfl, F₈, N₈, hgs₈, hps₈, htk8, hjv₈, hn₈, ePat, eStar, eQ, eRes, eAdd, eN, eJ, eStuff⟩ := h₃
                    clear F7 N7
                    (try dsimp only)
                    have hitem : itemOf x = finish (stuffOf x) := rfl
                    have hyc : ∀ i, i < (stuffOf x).cps.size → okc ((stuffOf x).cps.getD i 0) := okS_at (okS_stuff hxo)
                    have hyz : (stuffOf x).cps.size < 1000000 := stuff_size hxl'
                    generalize stuffOf x = y at eStuff hitem hyc hyz
                    have hln : y.length < 1000000 := hyz
                    have hq0 : y.length ≤ 2000000 := by omega
                    have hq1 := sz_h1 hln
                    have hq2 := sz_h2 hln
                    repeat' (first | (k_unfold; (try dsimp only)) | (with_reducible first | refine PyProof.Rows.ite_tt ?_ | refine PyProof.Rows.ite_ff ?_) | ((with_reducible show wpAny _ _ (call (Value.builtin "re.Pattern.sub") _ _) _ _ _); with_reducible (k_here; k_dflt (refine' sub_here ?F_g27a ?X_g27a ?N_g27a ?M_g27a ?ho_g27a ?hy_g27a ?hz_g27a ?_; (case F_g27a => k_asm); (case X_g27a => k_asm); (case N_g27a => k_asm); (case M_g27a => k_mem); (case ho_g27a => assumption); (case hy_g27a => assumption); (case hz_g27a => assumption); k_whole); intro _ _ _ _ _)) | ((with_reducible show wpAny _ _ (eval (Expr.Lambda _ _ _ _) _) _ _ _); with_reducible (k_here; k_dflt (refine' lam_any ?F_g27b ?N_g27b ?T_g27b ?C_g27b ?cd_g27b ?U_g27b ?ht_g27b ?cl_g27b ?df_g27b ?_; (case F_g27b => k_asm); (case N_g27b => k_asm); (case T_g27b => k_asm); (case C_g27b => assumption); (case cd_g27b => exact rfl); (case U_g27b => k_updF); (case ht_g27b => assumption); (case cl_g27b => exact rfl); (case df_g27b => exact rfl); k_whole); intro f9 o9 ps9 h9 tk9 hps9 ho9 F9 N9 l9; (try dsimp only at N9); (try k_lt l9))) | ((with_reducible show wpAny _ _ (eval (Expr.Name _ _) _) _ _ _); with_reducible (k_here; (name_kind "local"); k_dflt (refine' nameX_L (by k_asm) (by (repeat (first | (with_reducible assumption) | exact rfl | refine upd_skip ?_ (by decide +kernel)))) ?_ rfl rfl; k_whole))) | ((with_reducible show wpAny _ _ (execs (_ :: _) _) _ _ _); with_reducible (k_here; (with_reducible refine execs_consTL (by first | assumption | omega) ?_); intro _ _ _)) | (with_reducible ((with_reducible show 1 ≤ _ → _); (try dsimp only); intro _)) | ((with_reducible show wpAny _ _ (getMethod (Value.ref _) _ _) _ _ _); with_reducible (k_here; (with_reducible show wpAny _ _ (getMethod (Value.ref 56) _ _) _ _ _); k_dflt (refine' gm_sub ?F_g27f ?X_g27f ?_; (case F_g27f => k_asm); (case X_g27f => k_asm)))) | ((fail_if_success (with_reducible show wpAny _ _ (PySem.exec (Stmt.If (Expr.UnaryOp _ _ _) _ _ _) _) _ _ _)); walk1) | ((fail_if_success (with_reducible show wpAny _ _ (PySem.exec (Stmt.If (Expr.UnaryOp _ _ _) _ _ _) _) _ _ _)); dsimp only; (first | ((with_reducible show wpAny _ _ (call (Value.builtin "re.Pattern.sub") _ _) _ _ _); with_reducible (k_here; k_dflt (refine' sub_here ?F_g27a ?X_g27a ?N_g27a ?M_g27a ?ho_g27a ?hy_g27a ?hz_g27a ?_; (case F_g27a => k_asm); (case X_g27a => k_asm); (case N_g27a => k_asm); (case M_g27a => k_mem); (case ho_g27a => assumption); (case hy_g27a => assumption); (case hz_g27a => assumption); k_whole); intro _ _ _ _ _)) | ((with_reducible show wpAny _ _ (eval (Expr.Lambda _ _ _ _) _) _ _ _); with_reducible (k_here; k_dflt (refine' lam_any ?F_g27b ?N_g27b ?T_g27b ?C_g27b ?cd_g27b ?U_g27b ?ht_g27b ?cl_g27b ?df_g27b ?_; (case F_g27b => k_asm); (case N_g27b => k_asm); (case T_g27b => k_asm); (case C_g27b => assumption); (case cd_g27b => exact rfl); (case U_g27b => k_updF); (case ht_g27b => assumption); (case cl_g27b => exact rfl); (case df_g27b => exact rfl); k_whole); intro f9 o9 ps9 h9 tk9 hps9 ho9 F9 N9 l9; (try dsimp only at N9); (try k_lt l9))) | ((with_reducible show wpAny _ _ (eval (Expr.Name _ _) _) _ _ _); with_reducible (k_here; (name_kind "local"); k_dflt (refine' nameX_L (by k_asm) (by (repeat (first | (with_reducible assumption) | exact rfl | refine upd_skip ?_ (by decide +kernel)))) ?_ rfl rfl; k_whole))) | ((with_reducible show wpAny _ _ (execs (_ :: _) _) _ _ _); with_reducible (k_here; (with_reducible refine execs_consTL (by first | assumption | omega) ?_); intro _ _ _)) | (with_reducible ((with_reducible show 1 ≤ _ → _); (try dsimp only); intro _)) | ((with_reducible show wpAny _ _ (getMethod (Value.ref _) _ _) _ _ _); with_reducible (k_here; (with_reducible show wpAny _ _ (getMethod (Value.ref 56) _ _) _ _ _); k_dflt (refine' gm_sub ?F_g27f ?X_g27f ?_; (case F_g27f => k_asm); (case X_g27f => k_asm)))) | walk1)))
                    with_reducible rename Fr _ _ _ _ => F9
                    with_reducible rename News _ _ _ _ => N9
                    by_cases z0 : y.length = 0
                    · have hb0 : decide (y.length = 0) = true := decide_eq_true z0
                      repeat' (first | (k_unfold; (try dsimp only)) | (with_reducible first | refine PyProof.Rows.ite_tt ?_ | refine PyProof.Rows.ite_ff ?_) | (with_reducible ((with_reducible show BAt _ _ _ ∧ _); k_dflt (refine ⟨BAt.of (by k_asm) (by k_mem), ?_⟩); (try dsimp only [List.nil_append, List.cons_append]))) | ((with_reducible show wpAny _ _ (call (Value.ref _) _ _) _ _ _); with_reducible (k_here; first | ((with_reducible show wpAny _ _ (call (Value.ref 68) _) _ _ _); k_dflt (refine' escape_here ?k1_g28b ?kF_g28b ?k2_g28b ?k3_g28b ?kN_g28b ?kA_g28b ?kK_g28b ?kh_g28b ?k6_g28b ?k7_g28b ?k8_g28b ?ko_g28b; (case kA_g28b => exact rfl); (case kK_g28b => exact rfl); (case kh_g28b => exact rfl); (case k1_g28b => k_asm); (case k2_g28b => k_asm); (case k3_g28b => k_asm); (case k6_g28b => ktr_room); (case k7_g28b => ktr_units); (case k8_g28b => assumption); (case kF_g28b => k_asm); (case kN_g28b => k_asm); k_whole; (case' ko_g28b => intro t9 h9 tk9 F9 N9))) | (k_dflt (refine' add_K ?k1_g28b ?k2_g28b ?kB_g28b ?k3_g28b ?_ ?z_g28b; (case k1_g28b => k_asm); (case k2_g28b => k_asm); (case kB_g28b => k_mem); (case k3_g28b => k_upd); (case z_g28b => (simp only [List.size_toArray, List.length_append, List.length_singleton, sizeLine_eq]; omega)); k_whole); intro h9 F9 N9))) | ((with_reducible show wpAny _ _ (callWith _ (Value.ref _) _ _ _) _ _ _); with_reducible (k_here; (with_reducible show wpAny _ _ (callWith _ (Value.ref _) _ (backTo _ (starEach (_ :: _) _)) []) _ _ _); k_dflt (refine' callWith_B ?N_g28c ?M_g28c ?_; (case N_g28c => k_asm); (case M_g28c => k_mem); k_whole))) | ((with_reducible show wpAny _ _ (eval (Expr.Name _ _) _) _ _ _); with_reducible (k_here; (name_kind "local"); k_dflt (refine' nameX_L (by k_asm) (by (repeat (first | (with_reducible assumption) | exact rfl | refine upd_skip ?_ (by decide +kernel)))) ?_ rfl rfl; k_whole))) | ((with_reducible show wpAny _ _ (execs [] _) _ _ _); with_reducible (k_here; (with_reducible refine wpAny_execs_nil ?_); try dsimp only)) | (with_reducible ((with_reducible show 1 ≤ _ → _); (try dsimp only); intro _)) | ((with_reducible show wpAny _ _ (truthy (Value.str _ _)) _ _ _); with_reducible (k_here; (refine' truthy_big ?h1_g28g ?h2_g28g ?_; (case h2_g28g => with_reducible assumption); (case h1_g28g => assumption); intro _))) | walk1 | (dsimp only; walk1) | dsimp only)
                      show TurnEnd _ _ _
                      with_reducible rename Fr _ _ _ _ => F11
                      with_reducible rename News _ _ _ _ => N11
                      rw [List.push_toArray] at N11
                      obtain ⟨fu', rfl⟩ : ∃ fu', fu = fu' + 1 := ⟨fu - 1, by omega⟩
                      refine ⟨l.length - (j₆ + 1), by omega, _, _, _, _, j₆ + 1, vals ++ [_], acc ++ [some (itemOf x)], _, _, _, _, fu', _, _, rfl, F11, fun q hq => N11 q (by first | exact hq | exact .tail _ hq | exact .tail _ (.tail _ hq) | exact .tail _ (.tail _ (.tail _ hq)) | exact .tail _ (.tail _ (.tail _ (.tail _ hq)))), hgs₈, hps9, by first | assumption | omega, rfl, by omega, by omega, hn₈, by simp; omega, hit.snoc ⟨_, by rw [hitem, ← fin_0 z0]⟩, by omega, trans_br htr hb hoj hxx, ePat, eStar, eQ, eRes, eAdd, rfl, eN⟩
                    · have hb0 : decide (y.length = 0) = false := decide_eq_false z0
                      cases hb1 : (y == Str.ofString "!") with
                      | true =>
                        repeat' (first | (k_unfold; (try dsimp only)) | (with_reducible first | refine PyProof.Rows.ite_tt ?_ | refine PyProof.Rows.ite_ff ?_) | (with_reducible ((with_reducible show BAt _ _ _ ∧ _); k_dflt (refine ⟨BAt.of (by k_asm) (by k_mem), ?_⟩); (try dsimp only [List.nil_append, List.cons_append]))) | ((with_reducible show wpAny _ _ (call (Value.ref _) _ _) _ _ _); with_reducible (k_here; first | ((with_reducible show wpAny _ _ (call (Value.ref 68) _) _ _ _); k_dflt (refine' escape_here ?k1_g29b ?kF_g29b ?k2_g29b ?k3_g29b ?kN_g29b ?kA_g29b ?kK_g29b ?kh_g29b ?k6_g29b ?k7_g29b ?k8_g29b ?ko_g29b; (case kA_g29b => exact rfl); (case kK_g29b => exact rfl); (case kh_g29b => exact rfl); (case k1_g29b => k_asm); (case k2_g29b => k_asm); (case k3_g29b => k_asm); (case k6_g29b => ktr_room); (case k7_g29b => ktr_units); (case k8_g29b => assumption); (case kF_g29b => k_asm); (case kN_g29b => k_asm); k_whole; (case' ko_g29b => intro t9 h9 tk9 F9 N9))) | (k_dflt (refine' add_K ?k1_g29b ?k2_g29b ?kB_g29b ?k3_g29b ?_ ?z_g29b; (case k1_g29b => k_asm); (case k2_g29b => k_asm); (case kB_g29b => k_mem); (case k3_g29b => k_upd); (case z_g29b => (simp only [List.size_toArray, List.length_append, List.length_singleton, sizeLine_eq]; omega)); k_whole); intro h9 F9 N9))) | ((with_reducible show wpAny _ _ (callWith _ (Value.ref _) _ _ _) _ _ _); with_reducible (k_here; (with_reducible show wpAny _ _ (callWith _ (Value.ref _) _ (backTo _ (starEach (_ :: _) _)) []) _ _ _); k_dflt (refine' callWith_B ?N_g29c ?M_g29c ?_; (case N_g29c => k_asm); (case M_g29c => k_mem); k_whole))) | ((with_reducible show wpAny _ _ (compareOp CmpOp.Eq (Value.str _ _) (Value.str _ _)) _ _ _); with_reducible (k_here; first | (refine eq_lit (by with_reducible assumption) ?_) | (refine eq_lit (b := true) (by decide +kernel) ?_) | (refine eq_lit (b := false) (by decide +kernel) ?_))) | ((with_reducible show wpAny _ _ (eval (Expr.Name _ _) _) _ _ _); with_reducible (k_here; (name_kind "local"); k_dflt (refine' nameX_L (by k_asm) (by (repeat (first | (with_reducible assumption) | exact rfl | refine upd_skip ?_ (by decide +kernel)))) ?_ rfl rfl; k_whole))) | ((with_reducible show wpAny _ _ (execs (_ :: _) _) _ _ _); with_reducible (k_here; (with_reducible refine execs_consTL (by first | assumption | omega) ?_); intro _ _ _)) | ((with_reducible show wpAny _ _ (execs [] _) _ _ _); with_reducible (k_here; (with_reducible refine wpAny_execs_nil ?_); try dsimp only)) | (with_reducible ((with_reducible show 1 ≤ _ → _); (try dsimp only); intro _)) | ((with_reducible show wpAny _ _ (truthy (Value.str _ _)) _ _ _); with_reducible (k_here; (refine' truthy_big ?h1_g29i ?h2_g29i ?_; (case h2_g29i => with_reducible assumption); (case h1_g29i => assumption); intro _))) | walk1 | (dsimp only; walk1) | dsimp only)
                        show TurnEnd _ _ _
                        with_reducible rename Fr _ _ _ _ => F11
                        with_reducible rename News _ _ _ _ => N11
                        rw [List.push_toArray] at N11
                        obtain ⟨fu', rfl⟩ : ∃ fu', fu = fu' + 1 := ⟨fu - 1, by omega⟩
                        refine ⟨l.length - (j₆ + 1), by omega, _, _, _, _, j₆ + 1, vals ++ [_], acc ++ [some (itemOf x)], _, _, _, _, fu', _, _, rfl, F11, fun q hq => N11 q (by first | exact hq | exact .tail _ hq | exact .tail _ (.tail _ hq) | exact .tail _ (.tail _ (.tail _ hq)) | exact .tail _ (.tail _ (.tail _ (.tail _ hq)))), hgs₈, hps9, by first | assumption | omega, rfl, by omega, by omega, hn₈, by simp; omega, hit.snoc ⟨_, by rw [hitem, ← fin_1 z0 hb1]⟩, by omega, trans_br htr hb hoj hxx, ePat, eStar, eQ, eRes, eAdd, rfl, eN⟩
                      | false =>
                        cases hb2 : (Txt.item y 0 == Str.ofString "!") with
                        | true =>
                          clear hq2
                          repeat' (first | (k_unfold; (try dsimp only)) | (with_reducible first | refine PyProof.Rows.ite_tt ?_ | refine PyProof.Rows.ite_ff ?_) | (with_reducible ((with_reducible show PySem.Str.length (_ ++ _) ≤ sizeLine ∧ wpAny _ _ (joinParts _ _) _ _ _); refine ⟨by (with_reducible first | exact sz_j1 | exact sz_j3 (by with_reducible assumption) | exact sz_j2 (by with_reducible assumption) | exact sz_f (by with_reducible assumption)), ?_⟩)) | (with_reducible ((with_reducible show BAt _ _ _ ∧ _); k_dflt (refine ⟨BAt.of (by k_asm) (by k_mem), ?_⟩); (try dsimp only [List.nil_append, List.cons_append]))) | ((with_reducible show wpAny _ _ (call (Value.ref _) _ _) _ _ _); with_reducible (k_here; first | ((with_reducible show wpAny _ _ (call (Value.ref 68) _) _ _ _); k_dflt (refine' escape_here ?k1_g30c ?kF_g30c ?k2_g30c ?k3_g30c ?kN_g30c ?kA_g30c ?kK_g30c ?kh_g30c ?k6_g30c ?k7_g30c ?k8_g30c ?ko_g30c; (case kA_g30c => exact rfl); (case kK_g30c => exact rfl); (case kh_g30c => exact rfl); (case k1_g30c => k_asm); (case k2_g30c => k_asm); (case k3_g30c => k_asm); (case k6_g30c => ktr_room); (case k7_g30c => ktr_units); (case k8_g30c => assumption); (case kF_g30c => k_asm); (case kN_g30c => k_asm); k_whole; (case' ko_g30c => intro t9 h9 tk9 F9 N9))) | (k_dflt (refine' add_K ?k1_g30c ?k2_g30c ?kB_g30c ?k3_g30c ?_ ?z_g30c; (case k1_g30c => k_asm); (case k2_g30c => k_asm); (case kB_g30c => k_mem); (case k3_g30c => k_upd); (case z_g30c => (simp only [List.size_toArray, List.length_append, List.length_singleton, sizeLine_eq]; omega)); k_whole); intro h9 F9 N9))) | ((with_reducible show wpAny _ _ (callWith _ (Value.ref _) _ _ _) _ _ _); with_reducible (k_here; (with_reducible show wpAny _ _ (callWith _ (Value.ref _) _ (backTo _ (starEach (_ :: _) _)) []) _ _ _); k_dflt (refine' callWith_B ?N_g30d ?M_g30d ?_; (case N_g30d => k_asm); (case M_g30d => k_mem); k_whole))) | ((with_reducible show wpAny _ _ (compareOp CmpOp.Eq (Value.str _ _) (Value.str _ _)) _ _ _); with_reducible (k_here; first | (refine eq_lit (by with_reducible assumption) ?_) | (refine eq_lit (b := true) (by decide +kernel) ?_) | (refine eq_lit (b := false) (by decide +kernel) ?_))) | ((with_reducible show wpAny _ _ (eval (Expr.JoinedStr _ _) _) _ _ _); with_reducible (k_here; refine JoinedStr_many ?_)) | ((with_reducible show wpAny _ _ (eval (Expr.Name _ _) _) _ _ _); with_reducible (k_here; (name_kind "local"); k_dflt (refine' nameX_L (by k_asm) (by (repeat (first | (with_reducible assumption) | exact rfl | refine upd_skip ?_ (by decide +kernel)))) ?_ rfl rfl; k_whole))) | ((with_reducible show wpAny _ _ (execs (_ :: _) _) _ _ _); with_reducible (k_here; (with_reducible refine execs_consTL (by first | assumption | omega) ?_); intro _ _ _)) | ((with_reducible show wpAny _ _ (execs [] _) _ _ _); with_reducible (k_here; (with_reducible refine wpAny_execs_nil ?_); try dsimp only)) | (with_reducible ((with_reducible show 1 ≤ _ → _); (try dsimp only); intro _)) | ((with_reducible show wpAny _ _ (formatField (Value.str _ _) _) _ _ _); with_reducible (k_here; (refine' formatField_str ?_ ?z_g30k; (case z_g30k => (with_reducible first | exact sz_j1 | exact sz_j3 (by with_reducible assumption) | exact sz_j2 (by with_reducible assumption) | exact sz_f (by with_reducible assumption)))); intro _ _)) | ((with_reducible show wpAny _ _ (joinParts _ _) _ _ _); with_reducible (k_here; (try dsimp only); (first | (with_reducible refine' joinParts_consE (by k_dflt (exact rfl)) ?_) | (with_reducible refine' joinParts_nilE (by k_dflt (exact rfl)) ?_ (by (with_reducible first | exact sz_j3 (by with_reducible assumption))))))) | ((with_reducible show wpAny _ _ (subscriptTail _ (Expr.Slice _ _ _ _) (Value.str _ _) (Value.ref _)) _ _ _); with_reducible (k_here; (with_reducible show wpAny _ _ (subscriptTail _ (Expr.Slice (some _) none none _) _ _) _ _ _); k_dflt (refine' slice_strN_sn (hsz := ?hsz_g30m) (s := ⟨_, _, _, _, _⟩) ?F_g30m ?N_g30m ?_; (case F_g30m => k_asm); (case N_g30m => k_asm); (case hsz_g30m => with_reducible exact sz_f (by with_reducible assumption))); intro _ _ _ _ _)) | ((with_reducible show wpAny _ _ (truthy (Value.str _ _)) _ _ _); with_reducible (k_here; (refine' truthy_big ?h1_g30n ?h2_g30n ?_; (case h2_g30n => with_reducible assumption); (case h1_g30n => assumption); intro _))) | ((with_reducible show wpAny _ _ (PySem.binaryOp Operator.Add (Value.str _ _) (Value.str _ _)) _ _ _); refine PyProof.Rows.add_str ?_ (sz_a1 hq1); intro t' tk') | ((fail_if_success (with_reducible show wpAny _ _ (PySem.binaryOp Operator.Add (Value.str _ _) (Value.str _ _)) _ _ _)); walk1) | ((fail_if_success (with_reducible show wpAny _ _ (PySem.binaryOp Operator.Add (Value.str _ _) (Value.str _ _)) _ _ _)); dsimp only; walk1) | dsimp only)
                          show TurnEnd _ _ _
                          with_reducible rename Fr _ _ _ _ => F11
                          with_reducible rename News _ _ _ _ => N11
                          rw [List.push_toArray] at N11
                          obtain ⟨fu', rfl⟩ : ∃ fu', fu = fu' + 1 := ⟨fu - 1, by omega⟩
                          refine ⟨l.length - (j₆ + 1), by omega, _, _, _, _, j₆ + 1, vals ++ [_], acc ++ [some (itemOf x)], _, _, _, _, fu', _, _, rfl, F11, fun q hq => N11 q (by first | exact hq | exact .tail _ hq | exact .tail _ (.tail _ hq) | exact .tail _ (.tail _ (.tail _ hq)) | exact .tail _ (.tail _ (.tail _ (.tail _ hq)))), hgs₈, hps9, by first | assumption | omega, rfl, by omega, by omega, hn₈, by simp; omega, hit.snoc ⟨_, by rw [hitem, ← fin_2 z0 hb1 hb2]⟩, by omega, trans_br htr hb hoj hxx, ePat, eStar, eQ, eRes, eAdd, rfl, eN⟩
                        | false =>
                          cases hb3 : (Str.ofString "^" == Txt.item y 0 || Str.ofString "[" == Txt.item y 0) with
                          | true =>
                            clear hq1
                            repeat' (first | (k_unfold; (try dsimp only)) | (with_reducible first | refine PyProof.Rows.ite_tt ?_ | refine PyProof.Rows.ite_ff ?_) | (with_reducible ((with_reducible show PySem.Str.length (_ ++ _) ≤ sizeLine ∧ wpAny _ _ (joinParts _ _) _ _ _); refine ⟨by (with_reducible first | exact sz_j1 | exact sz_j3 (by with_reducible assumption) | exact sz_j2 (by with_reducible assumption) | exact sz_f (by with_reducible assumption)), ?_⟩)) | (with_reducible ((with_reducible show BAt _ _ _ ∧ _); k_dflt (refine ⟨BAt.of (by k_asm) (by k_mem), ?_⟩); (try dsimp only [List.nil_append, List.cons_append]))) | ((with_reducible show wpAny _ _ (call (Value.ref _) _ _) _ _ _); with_reducible (k_here; first | ((with_reducible show wpAny _ _ (call (Value.ref 68) _) _ _ _); k_dflt (refine' escape_here ?k1_g31c ?kF_g31c ?k2_g31c ?k3_g31c ?kN_g31c ?kA_g31c ?kK_g31c ?kh_g31c ?k6_g31c ?k7_g31c ?k8_g31c ?ko_g31c; (case kA_g31c => exact rfl); (case kK_g31c => exact rfl); (case kh_g31c => exact rfl); (case k1_g31c => k_asm); (case k2_g31c => k_asm); (case k3_g31c => k_asm); (case k6_g31c => ktr_room); (case k7_g31c => ktr_units); (case k8_g31c => assumption); (case kF_g31c => k_asm); (case kN_g31c => k_asm); k_whole; (case' ko_g31c => intro t9 h9 tk9 F9 N9))) | (k_dflt (refine' add_K ?k1_g31c ?k2_g31c ?kB_g31c ?k3_g31c ?_ ?z_g31c; (case k1_g31c => k_asm); (case k2_g31c => k_asm); (case kB_g31c => k_mem); (case k3_g31c => k_upd); (case z_g31c => (simp only [List.size_toArray, List.length_append, List.length_singleton, sizeLine_eq]; omega)); k_whole); intro h9 F9 N9))) | ((with_reducible show wpAny _ _ (callWith _ (Value.ref _) _ _ _) _ _ _); with_reducible (k_here; (with_reducible show wpAny _ _ (callWith _ (Value.ref _) _ (backTo _ (starEach (_ :: _) _)) []) _ _ _); k_dflt (refine' callWith_B ?N_g31d ?M_g31d ?_; (case N_g31d => k_asm); (case M_g31d => k_mem); k_whole))) | ((with_reducible show wpAny _ _ (compareOp CmpOp.Eq (Value.str _ _) (Value.str _ _)) _ _ _); with_reducible (k_here; first | (refine eq_lit (by with_reducible assumption) ?_) | (refine eq_lit (b := true) (by decide +kernel) ?_) | (refine eq_lit (b := false) (by decide +kernel) ?_))) | ((with_reducible show wpAny _ _ (compareOp CmpOp.In (Value.str _ _) (Value.ref _)) _ _ _); with_reducible (k_here; k_dflt (refine' in_two ?N_g31f ?M_g31f ?hb_g31f ?_; (case N_g31f => k_asm); (case M_g31f => k_mem); (case hb_g31f => with_reducible assumption); k_whole))) | ((with_reducible show wpAny _ _ (eval (Expr.JoinedStr _ _) _) _ _ _); with_reducible (k_here; refine JoinedStr_many ?_)) | ((with_reducible show wpAny _ _ (eval (Expr.Name _ _) _) _ _ _); with_reducible (k_here; (name_kind "local"); k_dflt (refine' nameX_L (by k_asm) (by (repeat (first | (with_reducible assumption) | exact rfl | refine upd_skip ?_ (by decide +kernel)))) ?_ rfl rfl; k_whole))) | ((with_reducible show wpAny _ _ (execs (_ :: _) _) _ _ _); with_reducible (k_here; (with_reducible refine execs_consTL (by first | assumption | omega) ?_); intro _ _ _)) | ((with_reducible show wpAny _ _ (execs [] _) _ _ _); with_reducible (k_here; (with_reducible refine wpAny_execs_nil ?_); try dsimp only)) | (with_reducible ((with_reducible show 1 ≤ _ → _); (try dsimp only); intro _)) | ((with_reducible show wpAny _ _ (formatField (Value.str _ _) _) _ _ _); with_reducible (k_here; (refine' formatField_str ?_ ?z_g31l; (case z_g31l => (with_reducible first | exact sz_j1 | exact sz_j3 (by with_reducible assumption) | exact sz_j2 (by with_reducible assumption) | exact sz_f (by with_reducible assumption)))); intro _ _)) | ((with_reducible show wpAny _ _ (joinParts _ _) _ _ _); with_reducible (k_here; (try dsimp only); (first | (with_reducible refine' joinParts_consE (by k_dflt (exact rfl)) ?_) | (with_reducible refine' joinParts_nilE (by k_dflt (exact rfl)) ?_ (by (with_reducible first | exact sz_j3 (by with_reducible assumption))))))) | ((with_reducible show wpAny _ _ (truthy (Value.str _ _)) _ _ _); with_reducible (k_here; (refine' truthy_big ?h1_g31n ?h2_g31n ?_; (case h2_g31n => with_reducible assumption); (case h1_g31n => assumption); intro _))) | ((with_reducible show wpAny _ _ (PySem.binaryOp Operator.Add (Value.str _ _) (Value.str _ _)) _ _ _); refine PyProof.Rows.add_str ?_ (sz_a2 hq2); intro t' tk') | ((fail_if_success (with_reducible show wpAny _ _ (PySem.binaryOp Operator.Add (Value.str _ _) (Value.str _ _)) _ _ _)); walk1) | ((fail_if_success (with_reducible show wpAny _ _ (PySem.binaryOp Operator.Add (Value.str _ _) (Value.str _ _)) _ _ _)); dsimp only; walk1) | dsimp only)
                            show TurnEnd _ _ _
                            with_reducible rename Fr _ _ _ _ => F11
                            with_reducible rename News _ _ _ _ => N11
                            rw [List.push_toArray] at N11
                            obtain ⟨fu', rfl⟩ : ∃ fu', fu = fu' + 1 := ⟨fu - 1, by omega⟩
                            refine ⟨l.length - (j₆ + 1), by omega, _, _, _, _, j₆ + 1, vals ++ [_], acc ++ [some (itemOf x)], _, _, _, _, fu', _, _, rfl, F11, fun q hq => N11 q (by first | exact hq | exact .tail _ hq | exact .tail _ (.tail _ hq) | exact .tail _ (.tail _ (.tail _ hq)) | exact .tail _ (.tail _ (.tail _ (.tail _ hq)))), hgs₈, hps9, by first | assumption | omega, rfl, by omega, by omega, hn₈, by simp; omega, hit.snoc ⟨_, by rw [hitem, ← fin_3 z0 hb1 hb2 hb3]⟩, by omega, trans_br htr hb hoj hxx, ePat, eStar, eQ, eRes, eAdd, rfl, eN⟩
                          | false =>
                            clear hq1 hq2
                            repeat' (first | (k_unfold; (try dsimp only)) | (with_reducible first | refine PyProof.Rows.ite_tt ?_ | refine PyProof.Rows.ite_ff ?_) | (with_reducible ((with_reducible show PySem.Str.length (_ ++ _) ≤ sizeLine ∧ wpAny _ _ (joinParts _ _) _ _ _); refine ⟨by (with_reducible first | exact sz_j1 | exact sz_j3 (by with_reducible assumption) | exact sz_j2 (by with_reducible assumption) | exact sz_f (by with_reducible assumption)), ?_⟩)) | (with_reducible ((with_reducible show BAt _ _ _ ∧ _); k_dflt (refine ⟨BAt.of (by k_asm) (by k_mem), ?_⟩); (try dsimp only [List.nil_append, List.cons_append]))) | ((with_reducible show wpAny _ _ (call (Value.ref _) _ _) _ _ _); with_reducible (k_here; first | ((with_reducible show wpAny _ _ (call (Value.ref 68) _) _ _ _); k_dflt (refine' escape_here ?k1_g32c ?kF_g32c ?k2_g32c ?k3_g32c ?kN_g32c ?kA_g32c ?kK_g32c ?kh_g32c ?k6_g32c ?k7_g32c ?k8_g32c ?ko_g32c; (case kA_g32c => exact rfl); (case kK_g32c => exact rfl); (case kh_g32c => exact rfl); (case k1_g32c => k_asm); (case k2_g32c => k_asm); (case k3_g32c => k_asm); (case k6_g32c => ktr_room); (case k7_g32c => ktr_units); (case k8_g32c => assumption); (case kF_g32c => k_asm); (case kN_g32c => k_asm); k_whole; (case' ko_g32c => intro t9 h9 tk9 F9 N9))) | (k_dflt (refine' add_K ?k1_g32c ?k2_g32c ?kB_g32c ?k3_g32c ?_ ?z_g32c; (case k1_g32c => k_asm); (case k2_g32c => k_asm); (case kB_g32c => k_mem); (case k3_g32c => k_upd); (case z_g32c => (simp only [List.size_toArray, List.length_append, List.length_singleton, sizeLine_eq]; omega)); k_whole); intro h9 F9 N9))) | ((with_reducible show wpAny _ _ (callWith _ (Value.ref _) _ _ _) _ _ _); with_reducible (k_here; (with_reducible show wpAny _ _ (callWith _ (Value.ref _) _ (backTo _ (starEach (_ :: _) _)) []) _ _ _); k_dflt (refine' callWith_B ?N_g32d ?M_g32d ?_; (case N_g32d => k_asm); (case M_g32d => k_mem); k_whole))) | ((with_reducible show wpAny _ _ (compareOp CmpOp.Eq (Value.str _ _) (Value.str _ _)) _ _ _); with_reducible (k_here; first | (refine eq_lit (by with_reducible assumption) ?_) | (refine eq_lit (b := true) (by decide +kernel) ?_) | (refine eq_lit (b := false) (by decide +kernel) ?_))) | ((with_reducible show wpAny _ _ (compareOp CmpOp.In (Value.str _ _) (Value.ref _)) _ _ _); with_reducible (k_here; k_dflt (refine' in_two ?N_g32f ?M_g32f ?hb_g32f ?_; (case N_g32f => k_asm); (case M_g32f => k_mem); (case hb_g32f => with_reducible assumption); k_whole))) | ((with_reducible show wpAny _ _ (eval (Expr.JoinedStr _ _) _) _ _ _); with_reducible (k_here; refine JoinedStr_many ?_)) | ((with_reducible show wpAny _ _ (eval (Expr.Name _ _) _) _ _ _); with_reducible (k_here; (name_kind "local"); k_dflt (refine' nameX_L (by k_asm) (by (repeat (first | (with_reducible assumption) | exact rfl | refine upd_skip ?_ (by decide +kernel)))) ?_ rfl rfl; k_whole))) | ((with_reducible show wpAny _ _ (execs (_ :: _) _) _ _ _); with_reducible (k_here; (with_reducible refine execs_consTL (by first | assumption | omega) ?_); intro _ _ _)) | ((with_reducible show wpAny _ _ (execs [] _) _ _ _); with_reducible (k_here; (with_reducible refine wpAny_execs_nil ?_); try dsimp only)) | (with_reducible ((with_reducible show 1 ≤ _ → _); (try dsimp only); intro _)) | ((with_reducible show wpAny _ _ (formatField (Value.str _ _) _) _ _ _); with_reducible (k_here; (refine' formatField_str ?_ ?z_g32l; (case z_g32l => (with_reducible first | exact sz_j1 | exact sz_j3 (by with_reducible assumption) | exact sz_j2 (by with_reducible assumption) | exact sz_f (by with_reducible assumption)))); intro _ _)) | ((with_reducible show wpAny _ _ (joinParts _ _) _ _ _); with_reducible (k_here; (try dsimp only); (first | (with_reducible refine' joinParts_consE (by k_dflt (exact rfl)) ?_) | (with_reducible refine' joinParts_nilE (by k_dflt (exact rfl)) ?_ (by (with_reducible first | exact sz_j3 (by with_reducible assumption))))))) | ((with_reducible show wpAny _ _ (truthy (Value.str _ _)) _ _ _); with_reducible (k_here; (refine' truthy_big ?h1_g32n ?h2_g32n ?_; (case h2_g32n => with_reducible assumption); (case h1_g32n => assumption); intro _))) | walk1 | (dsimp only; walk1) | dsimp only)
                            show TurnEnd _ _ _
                            with_reducible rename Fr _ _ _ _ => F11
                            with_reducible rename News _ _ _ _ => N11
                            rw [List.push_toArray] at N11
                            obtain ⟨fu', rfl⟩ : ∃ fu', fu = fu' + 1 := ⟨fu - 1, by omega⟩
                            refine ⟨l.length - (j₆ + 1), by omega, _, _, _, _, j₆ + 1, vals ++ [_], acc ++ [some (itemOf x)], _, _, _, _, fu', _, _, rfl, F11, fun q hq => N11 q (by first | exact hq | exact .tail _ hq | exact .tail _ (.tail _ hq) | exact .tail _ (.tail _ (.tail _ hq)) | exact .tail _ (.tail _ (.tail _ (.tail _ hq)))), hgs₈, hps9, by first | assumption | omega, rfl, by omega, by omega, hn₈, by simp; omega, hit.snoc ⟨_, by rw [hitem, ← fin_4 z0 hb1 hb2 hb3]⟩, by omega, trans_br htr hb hoj hxx, ePat, eStar, eQ, eRes, eAdd, rfl, eN⟩
                    --]
        · have hcE : okcE c := by unfold okc at hci; unfold okcE; omega
          --[
          have q1 : (S [c] == Str.ofString "*") = false := by
            rw [show Str.ofString "*" = S [42] from by decide +kernel]; exact one_ne h42
          have q2 : (S [c] == Str.ofString "?") = false := by
            rw [show Str.ofString "?" = S [63] from by decide +kernel]; exact one_ne (by unfold okc at hci; omega)
          have q3 : (S [c] == Str.ofString "[") = false := by
            rw [show Str.ofString "[" = S [91] from by decide +kernel]; exact one_ne h91
          repeat' (first | (k_unfold; (try dsimp only)) | (with_reducible first | refine PyProof.Rows.ite_tt ?_ | refine PyProof.Rows.ite_ff ?_) | (with_reducible ((with_reducible show BAt _ _ _ ∧ _); k_dflt (refine ⟨BAt.of (by k_asm) (by k_mem), ?_⟩); (try dsimp only [List.nil_append, List.cons_append]))) | ((with_reducible show wpAny _ _ (call (Value.ref _) _ _) _ _ _); with_reducible (k_here; first | ((with_reducible show wpAny _ _ (call (Value.ref 68) _) _ _ _); k_dflt (refine' escape_here (by k_asm) (by k_asm) (by k_asm) (by k_asm) (by k_asm) rfl rfl rfl (by ktr_room) (by ktr_units) (by assumption) ?ko_g33b; k_whole; (case' ko_g33b => intro t9 h9 tk9 F9 N9))) | (k_dflt (refine' add_K (by k_asm) (by k_asm) (by k_mem) (by k_upd) ?_ (by (simp only [List.size_toArray, List.length_append, List.length_singleton, sizeLine_eq]; omega)); k_whole); intro h9 F9 N9))) | ((with_reducible show wpAny _ _ (callWith _ (Value.ref _) _ _ _) _ _ _); with_reducible (k_here; (with_reducible show wpAny _ _ (callWith _ (Value.ref _) _ (backTo _ (starEach (_ :: _) _)) []) _ _ _); k_dflt (refine' callWith_B ?N_g33c ?M_g33c ?_; (case N_g33c => k_asm); (case M_g33c => k_mem); k_whole))) | ((with_reducible show wpAny _ _ (compareOp CmpOp.Eq (Value.str _ _) (Value.str _ _)) _ _ _); with_reducible (k_here; first | (refine eq_lit (by with_reducible assumption) ?_) | (refine eq_lit (b := true) (by decide +kernel) ?_) | (refine eq_lit (b := false) (by decide +kernel) ?_))) | ((with_reducible show wpAny _ _ (eval (Expr.Name _ _) _) _ _ _); with_reducible (k_here; (name_kind "local"); k_dflt (refine' nameX_L (by k_asm) (by (repeat (first | (with_reducible assumption) | exact rfl | refine upd_skip ?_ (by decide +kernel)))) ?_ rfl rfl; k_whole))) | ((with_reducible show wpAny _ _ (execs (_ :: _) _) _ _ _); with_reducible (k_here; (with_reducible refine execs_consTL (by first | assumption | omega) ?_); intro _ _ _)) | ((with_reducible show wpAny _ _ (execs [] _) _ _ _); with_reducible (k_here; (with_reducible refine wpAny_execs_nil ?_); try dsimp only)) | (with_reducible ((with_reducible show 1 ≤ _ → _); (try dsimp only); intro _)) | walk1 | (dsimp only; walk1) | dsimp only)
          with_reducible rename Fr _ _ _ _ => F3
          with_reducible rename News _ _ _ _ => N3
          rw [List.push_toArray] at N3
          refine ⟨l.length - (i + 1), by omega, _, _, _, _, i + 1, vals ++ [_], acc ++ [some (S (esc c))], _, ps₁, _, _, fu - 1, _, _, rfl, F3, N3, hgs₁, hps₁, by first | assumption | omega, rfl, by omega, ?_, hn, by simp; omega, hit.snoc ⟨_, rfl⟩, by omega, ?_, ePat, eStar, eQ, eRes, eAdd, rfl, eN⟩
          · omega
          · obtain ⟨fu', rfl⟩ : ∃ fu', fu = fu' + 1 := ⟨fu - 1, by omega⟩
            rw [← htr]
            simp only [trans, h42, h91, if_false, Nat.add_sub_cancel]
          --]
    · have hvn : ¬ v < n := by assumption
      have hi2 : i = l.length := by omega
      refine ⟨rfl, _, _, _, _, vals, _, ps₁, v, n, _, _, rfl, F₁, N₁, hgs₁, hps₁, by first | assumption | omega, by omega, hn, by omega, ?_, eRes, eI, eN⟩
      rw [← htr, hi2, List.drop_length]
      cases fu <;> exact hit
  · (try clear ePat) ; (try clear eStar) ; (try clear eQ) ; (try clear eRes) ; (try clear eAdd) ; (try clear eI) ; (try clear eN) ; (try clear eJ) ; (try clear eStuff) ; (try clear eChunks) ; (try clear eK)
    obtain ⟨rfl, h₁, tk₁, gs₁, m₁, vals, c₁, ps₁, v, n, tn, ti, rfl, F₁, N₁, hgs₁, hps₁, htk9, hv, hn, hvl, hit, eRes, eI, eN⟩ := h₃
    clear FW NW
    repeat' (first | (k_unfold; (try dsimp only)) | (with_reducible first | refine PyProof.Rows.ite_tt ?_ | refine PyProof.Rows.ite_ff ?_) | ((with_reducible show wpAny _ _ (eval (Expr.Name _ _) _) _ _ _); with_reducible (k_here; (name_kind "local"); k_dflt (refine' nameX_L (by k_asm) (by (repeat (first | (with_reducible assumption) | exact rfl | refine upd_skip ?_ (by decide +kernel)))) ?_ rfl rfl; k_whole))) | ((with_reducible show wpAny _ _ (execs (_ :: _) _) _ _ _); with_reducible (k_here; (with_reducible refine execs_consTL (by first | assumption | omega) ?_); intro _ _ _)) | (with_reducible ((with_reducible show 1 ≤ _ → _); (try dsimp only); intro _)) | walk1 | (dsimp only; walk1) | dsimp only)
    · exact ret R9 _ _ _ ps₁ vals _ hit F₁.keep (leave_led F₁ N₁ fun q hq => .tail _ hq).2 l1 hgs₁ hps₁ (by first | assumption | omega) hvl
    all_goals exact absurd (show v = n by omega) (by assumption)
end Mine
end
section
open PySem PySem.W PyProof.Rows PySem.Calls
set_option maxRecDepth 100000
namespace Mine
/-- one sign read: what is kept then -/
noncomputable def stp (t : Ts) (c : Nat) : Ts := match t.md with
  | .none => t
  | .blank =>
    if c = 32 then t
    else if c = 92 then ⟨.esc, t.q, .word, t.tok⟩
    else if c = 39 then ⟨.q1, t.q, t.es, t.tok⟩
    else if c = 34 then ⟨.q2, t.q, t.es, t.tok⟩
    else ⟨.word, t.q, t.es, [c]⟩
  | .word =>
    if c = 32 then Ts.start .blank
    else if c = 92 then ⟨.esc, t.q, .word, t.tok⟩
    else if c = 39 then ⟨.q1, t.q, t.es, t.tok⟩
    else if c = 34 then ⟨.q2, t.q, t.es, t.tok⟩
    else ⟨.word, t.q, t.es, t.tok ++ [c]⟩
  | .q1 => if c = 39 then ⟨.word, true, t.es, t.tok⟩ else ⟨.q1, true, t.es, t.tok ++ [c]⟩
  | .q2 =>
    if c = 34 then ⟨.word, true, t.es, t.tok⟩
    else if c = 92 then ⟨.esc, true, .q2, t.tok⟩
    else ⟨.q2, true, t.es, t.tok ++ [c]⟩
  | .esc => ⟨t.es, t.q, t.es, (if t.es = .q2 ∧ c ≠ 92 ∧ c ≠ 34 then t.tok ++ [92] else t.tok) ++ [c]⟩
/-- all words off the signs, read in one go -/
noncomputable def rd : Ts → List Nat → Option (List (List Nat))
  | t, [] => match t.md with
    | .none | .blank => some []
    | .word => some [t.tok]
    | _ => .none
  | t, c :: r => if t.md = .word ∧ c = 32 then (rd (stp t c) r).map (t.tok :: ·) else rd (stp t c) r
theorem rd_cons (t : Ts) (c : Nat) (r : List Nat) : rd t (c :: r) = if t.md = .word ∧ c = 32 then (rd (stp t c) r).map (t.tok :: ·) else rd (stp t c) r := rfl
theorem rd_none : ∀ (r : List Nat) (t : Ts), t.md = .none → rd t r = some []
  | [], t, h => by simp [rd, h]
  | c :: r, t, h => by
    have e : stp t c = t := by unfold stp; rw [h]
    rw [rd, if_neg (by rw [h]; simp), e, rd_none r t h]
theorem rd_rt : ∀ (r : List Nat) (t : Ts), rd t r = match rt t r with
    | .none => .none
    | some (.none, _, _) => some []
    | some (some x, rest, md') => (rd (Ts.start md') rest).map (x :: ·)
  | [], t => by
    obtain ⟨m, q, es, tok⟩ := t
    cases m <;> simp [rd, rt, Ts.start]
  | c :: r, t => by
    obtain ⟨m, q, es, tok⟩ := t
    by_cases h1 : c = 32
    · subst h1
      cases m
      · rw [rd_none _ _ rfl]; simp [rt]
      · rw [rd_cons, if_neg (by simp), rd_rt r]; simp [rt, stp]
      · rw [rd_cons, if_pos (by simp)]; simp [rt, stp]
      all_goals rw [rd_cons, if_neg (by simp), rd_rt r]; simp [rt, stp]
    · rw [rd_cons, if_neg (by simp [h1]), rd_rt r]
      cases m
      · have e := rd_rt r (stp ⟨.none, q, es, tok⟩ c)
        rw [rd_none _ _ rfl] at e
        rw [← e]; simp [rt]
      all_goals
        by_cases h2 : c = 92
        · subst h2; simp [rt, stp]
        by_cases h3 : c = 39
        · subst h3; simp [rt, stp]
        by_cases h4 : c = 34
        · subst h4; simp [rt, stp]
        simp [rt, stp, h1, h2, h3, h4]
theorem words_rd : ∀ (n : Nat) (md : Md) (r : List Nat), md = .blank ∨ (md = .none ∧ r = []) → r.length < n → words n md r = rd (Ts.start md) r
  | 0, _, _, _, h => absurd h (Nat.not_lt_zero _)
  | n + 1, md, r, hm, h => by
    rw [words, rd_rt]
    cases e : rt (Ts.start md) r with
    | none => rfl
    | some v =>
      obtain ⟨o, rest, md'⟩ := v
      cases o with
      | none => rfl
      | some x =>
        have z := rt_word _ _ _ _ _ e
        rcases hm with rfl | ⟨rfl, rfl⟩
        · have l := rt_less e rfl
          show Option.map _ _ = Option.map _ _
          rw [words_rd n md' rest z.2.1 (by omega)]
        · simp [rt, Ts.start] at e
theorem words_eq {l : List Nat} : words (l.length + 1) .blank l = rd (Ts.start .blank) l := words_rd _ _ _ (.inl rfl) (Nat.lt_succ_self _)
/-- blanks ahead -/
theorem rd_ahead : ∀ (n : Nat) (l : List Nat), rd (Ts.start .blank) (List.replicate n 32 ++ l) = rd (Ts.start .blank) l
  | 0, l => rfl
  | n + 1, l => by
    rw [List.replicate_succ, List.cons_append, rd, if_neg (by simp [Ts.start])]
    exact rd_ahead n l
noncomputable abbrev fm (t : Ts) (l : List Nat) : Md := (l.foldl stp t).md
theorem rd_blanks : ∀ (n : Nat) (t : Ts), t.md ≠ .esc → rd t (List.replicate n 32) = rd t []
  | 0, _, _ => rfl
  | n + 1, t, h => by
    obtain ⟨m, q, es, tok⟩ := t
    rw [List.replicate_succ]
    cases m
    · rw [rd_none _ _ rfl, rd_none _ _ rfl]
    · rw [rd_cons, if_neg (by simp)]; exact rd_blanks n _ (by simp [stp])
    · rw [rd_cons, if_pos (by simp)]
      have e : stp ⟨Md.word, q, es, tok⟩ 32 = Ts.start .blank := by simp [stp]
      rw [e, rd_blanks n _ (by simp [Ts.start])]
      simp [rd, Ts.start]
    · exact absurd rfl h
    · rw [rd_cons, if_neg (by simp), rd_blanks n _ (by simp [stp])]; simp [rd, stp]
    · rw [rd_cons, if_neg (by simp), rd_blanks n _ (by simp [stp])]; simp [rd, stp]
theorem rd_behind (n : Nat) : ∀ (l : List Nat) (t : Ts), fm t l ≠ .esc → rd t (l ++ List.replicate n 32) = rd t l
  | [], t, h => rd_blanks n t h
  | c :: r, t, h => by
    have ih := rd_behind n r (stp t c) h
    rw [List.cons_append, rd, rd, ih]
theorem rd_open : ∀ (l : List Nat) (t : Ts), (fm t l = .esc ∨ fm t l = .q1 ∨ fm t l = .q2) → rd t l = .none
  | [], t, h => by
    obtain ⟨m, q, es, tok⟩ := t
    simp only [fm, List.foldl_nil] at h
    rcases h with rfl | rfl | rfl <;> simp [rd]
  | c :: r, t, h => by
    have ih := rd_open r (stp t c) h
    rw [rd, ih]
    simp
/-- modes that a reading from the start may have -/
noncomputable def good (t : Ts) : Prop := t.md ≠ .none ∧ (t.es = .blank ∨ t.es = .word ∨ t.es = .q2) ∧ (t.md = .esc → t.es = .word ∨ t.es = .q2)
theorem good_stp {t : Ts} (c : Nat) (h : good t) : good (stp t c) := by
  obtain ⟨m, q, es, tok⟩ := t
  obtain ⟨h1, h2, h3⟩ := h
  cases m <;> simp only [stp, good, Ts.start] at *
  · exact absurd rfl h1
  · repeat' split
    all_goals simp_all
  · repeat' split
    all_goals simp_all
  · rcases h3 trivial with rfl | rfl <;> simp
  · repeat' split
    all_goals simp_all
  · repeat' split
    all_goals simp_all
theorem good_run : ∀ (l : List Nat) {t : Ts}, good t → good (l.foldl stp t)
  | [], _, h => h
  | c :: r, _, h => good_run r (good_stp c h)
theorem stp_no {t : Ts} {c : Nat} (h : good t) (hc : c ≠ 92) : (stp t c).md ≠ .esc := by
  obtain ⟨m, q, es, tok⟩ := t
  obtain ⟨h1, h2, h3⟩ := h
  cases m <;> simp only [stp, Ts.start] at *
  · exact absurd rfl h1
  · repeat' split
    all_goals simp_all
  · repeat' split
    all_goals simp_all
  · rcases h3 trivial with rfl | rfl <;> simp
  · repeat' split
    all_goals simp_all
  · repeat' split
    all_goals simp_all
theorem stp_bs {t : Ts} (h : good t) (he : t.md ≠ .esc) : (stp t 92).md = .esc ∨ (stp t 92).md = .q1 := by
  obtain ⟨m, q, es, tok⟩ := t
  obtain ⟨h1, h2, h3⟩ := h
  cases m <;> simp_all [stp]
theorem stp_bs2 {t : Ts} (h : good t) (he : t.md ≠ .esc) : (stp (stp t 92) 92).md ≠ .esc := by
  obtain ⟨m, q, es, tok⟩ := t
  obtain ⟨h1, h2, h3⟩ := h
  cases m <;> simp_all [stp]
theorem fm_even : ∀ (n : Nat) (t : Ts), good t → t.md ≠ .esc → fm t (List.replicate (2 * n) 92) ≠ .esc
  | 0, _, _, h => h
  | n + 1, t, g, h => by
    rw [show 2 * (n + 1) = 2 * n + 1 + 1 from rfl, List.replicate_succ, List.replicate_succ]
    exact fm_even n _ (good_stp _ (good_stp _ g)) (stp_bs2 g h)
theorem fm_odd (n : Nat) (t : Ts) (g : good t) (h : t.md ≠ .esc) : fm t (List.replicate (2 * n + 1) 92) = .esc ∨ fm t (List.replicate (2 * n + 1) 92) = .q1 := by
  rw [List.replicate_succ']
  unfold fm
  rw [List.foldl_append]
  exact stp_bs (good_run _ g) (fm_even n t g h)
theorem good_start : good (Ts.start .blank) := by simp [good, Ts.start]
theorem fm_core {x : List Nat} (h : x.getLast? ≠ some 92) : fm (Ts.start .blank) x ≠ .esc := by
  rcases List.eq_nil_or_concat x with rfl | ⟨y, c, rfl⟩
  · simp [Ts.start, fm]
  · rw [List.concat_eq_append] at h ⊢
    unfold fm
    rw [List.foldl_append]
    exact stp_no (good_run _ good_start) (fun e => h (by rw [e]; simp))
/-- what the law asks of the words: where an even number of backslashes ends the core -/
theorem rd_even {x : List Nat} {n b : Nat} (h : x.getLast? ≠ some 92) : rd (Ts.start .blank) (x ++ List.replicate (2 * n) 92 ++ List.replicate b 32) = rd (Ts.start .blank) (x ++ List.replicate (2 * n) 92) := by
  refine rd_behind b _ _ ?_
  unfold fm
  rw [List.foldl_append]
  exact fm_even n _ (good_run _ good_start) (fm_core h)
/-- .. an odd number -/
theorem rd_odd {x : List Nat} {n : Nat} (h : x.getLast? ≠ some 92) : rd (Ts.start .blank) (x ++ List.replicate (2 * n + 1) 92) = .none := by
  refine rd_open _ _ ?_
  unfold fm
  rw [List.foldl_append]
  rcases fm_odd n _ (good_run x good_start) (fm_core h) with e | e
  · exact .inl e
  · exact .inr (.inl e)
/-- .. where one blank at least stays -/
theorem rd_more (x : List Nat) (b : Nat) : rd (Ts.start .blank) (x ++ List.replicate (b + 1) 32) = rd (Ts.start .blank) (x ++ [32]) := by
  rw [List.replicate_succ, show x ++ 32 :: List.replicate b 32 = (x ++ [32]) ++ List.replicate b 32 by simp]
  refine rd_behind b _ _ (fm_core ?_)
  simp
end Mine
end
section
open PySem PySem.W PyProof.Rows PySem.Calls PySem.Builtin PySem.Builtin.Str
set_option maxRecDepth 100000
namespace Mine
theorem S_getD (l : List Nat) (k : Nat) : (S l).cps.getD k 0 = l.getD k 0 := by
  rw [← getD_list]
theorem S_sub (l : List Nat) (a b : Nat) : strSub (S l) a b = S ((l.drop a).take (b - a)) := by
  have h := PySem.StrLaws.strSub_toList (S l) a b
  rw [show (S l).cps.toList = l from rfl] at h
  rw [← h]
theorem goes_one (c d : Nat) : (S [d]).cps.contains c = decide (c = d) := by
  simp
theorem goes_arr (c d : Nat) : (#[d] : Array Nat).contains c = decide (c = d) := goes_one c d
theorem getD_arr (l : List Nat) (k : Nat) : l.toArray.getD k 0 = l.getD k 0 := S_getD l k
/-- the parts of a line: `lo` blanks ahead, the core up to `hi` -/
structure Parts (l : List Nat) (lo hi : Nat) : Prop where
  le : lo ≤ hi
  len : hi ≤ l.length
  pre : ∀ k, k < lo → l.getD k 0 = 32
  at_ : lo = l.length ∨ l.getD lo 0 ≠ 32
  post : ∀ k, hi ≤ k → k < l.length → l.getD k 0 = 32
  at2 : hi = lo ∨ l.getD (hi - 1) 0 ≠ 32
theorem parts_of (l : List Nat) : ∃ lo hi, Parts l lo hi ∧ Txt.stripChars (S l) (Str.ofString " ") = S ((l.drop lo).take (hi - lo)) ∧ Txt.lstripChars (S l) (Str.ofString " ") = S (l.drop lo) := by
  have a := lo_facts (S [32]).cps.contains (S l)
  have b := hi_facts (S [32]).cps.contains (S l) _ a.1
  rw [ofS_blank]
  unfold Txt.stripChars Txt.lstripChars
  rw [PyProof.Rows.stripBy_eq, PyProof.Rows.stripBy_eq]
  generalize stripLo (S [32]).cps.contains true (S l) = lo at a b
  have e : stripHi (S [32]).cps.contains false (S l) lo = l.length := by simp [stripHi, S_length]
  rw [e]
  generalize stripHi (S [32]).cps.contains true (S l) lo = hi at b
  rw [S_length] at a b
  simp only [goes_arr, getD_arr, decide_eq_true_eq, decide_eq_false_iff_not] at a b
  refine ⟨lo, hi, ⟨b.1, b.2.1, a.2.1, a.2.2, b.2.2.1, b.2.2.2⟩, S_sub _ _ _, ?_⟩
  rw [S_sub, List.take_of_length_le (by simp)]
theorem slashes_of (x : List Nat) : ∃ h2, h2 ≤ x.length ∧ Txt.rstripChars (S x) (Str.ofString "\\") = S (x.take h2) ∧ (∀ k, h2 ≤ k → k < x.length → x.getD k 0 = 92) ∧ (h2 = 0 ∨ x.getD (h2 - 1) 0 ≠ 92) := by
  have b := hi_facts (S [92]).cps.contains (S x) 0 (Nat.zero_le _)
  rw [show Str.ofString "\\" = S [92] from by decide +kernel]
  unfold Txt.rstripChars
  rw [PyProof.Rows.stripBy_eq]
  have e : stripLo (S [92]).cps.contains false (S x) = 0 := by simp [stripLo]
  rw [e]
  generalize stripHi (S [92]).cps.contains true (S x) 0 = hi at b
  rw [S_length] at b
  simp only [goes_arr, getD_arr, decide_eq_true_eq, decide_eq_false_iff_not] at b
  exact ⟨hi, b.2.1, by rw [S_sub]; simp, b.2.2.1, b.2.2.2⟩
theorem eq_rep {l : List Nat} {c : Nat} (h : ∀ k, k < l.length → l.getD k 0 = c) : l = List.replicate l.length c := by
  rw [List.eq_replicate_iff]
  refine ⟨rfl, fun b hb => ?_⟩
  obtain ⟨k, hk, rfl⟩ := List.mem_iff_getElem.mp hb
  have := h k hk
  rw [List.getD_eq_getElem?_getD, List.getElem?_eq_getElem hk] at this
  exact this
/-- the line, part by part -/
theorem Parts.split {l : List Nat} {lo hi : Nat} (P : Parts l lo hi) : l = List.replicate lo 32 ++ (l.drop lo).take (hi - lo) ++ List.replicate (l.length - hi) 32 := by
  have h1 : l.take lo = List.replicate lo 32 := by
    have := eq_rep (l := l.take lo) (c := 32) fun k hk => by
      rw [List.length_take] at hk
      rw [List.getD_eq_getElem?_getD, List.getElem?_take, if_pos (by omega), ← List.getD_eq_getElem?_getD]
      exact P.pre k (by omega)
    rw [List.length_take, Nat.min_eq_left (by have := P.le; have := P.len; omega)] at this
    exact this
  have h2 : l.drop hi = List.replicate (l.length - hi) 32 := by
    have := eq_rep (l := l.drop hi) (c := 32) fun k hk => by
      rw [List.length_drop] at hk
      rw [List.getD_eq_getElem?_getD, List.getElem?_drop, ← List.getD_eq_getElem?_getD]
      exact P.post _ (by omega) (by omega)
    rw [List.length_drop] at this
    exact this
  have h3 : l.drop lo = (l.drop lo).take (hi - lo) ++ l.drop hi := by
    have := List.take_append_drop (hi - lo) (l.drop lo)
    rw [List.drop_drop, show lo + (hi - lo) = hi by have := P.le; omega] at this
    exact this.symm
  rw [← h1, ← h2, List.append_assoc, ← h3, List.take_append_drop]
theorem Parts.core_len {l : List Nat} {lo hi : Nat} (P : Parts l lo hi) : ((l.drop lo).take (hi - lo)).length = hi - lo := by
  rw [List.length_take, List.length_drop]
  exact Nat.min_eq_left (Nat.sub_le_sub_right P.len lo)
theorem odd_half {m : Nat} (h : m % 2 = 1) : ∃ n, m = 2 * n + 1 := ⟨m / 2, by omega⟩
theorem even_half {m : Nat} (h : m % 2 = 0) : ∃ n, m = 2 * n := ⟨m / 2, by omega⟩
theorem cut_arith {n lo hi i k : Nat} (h1 : lo ≤ hi) (h2 : hi ≤ n) (hi' : i ≤ lo) (hk : k ≤ n - hi) : n - i - k = lo - i + (hi - lo + (n - hi - k)) := by
  obtain ⟨a, rfl⟩ := Nat.exists_eq_add_of_le hi'
  obtain ⟨p, rfl⟩ := Nat.exists_eq_add_of_le h1
  obtain ⟨q, rfl⟩ := Nat.exists_eq_add_of_le h2
  rw [Nat.add_sub_cancel_left] at hk
  obtain ⟨b, rfl⟩ := Nat.exists_eq_add_of_le hk
  rw [Nat.add_sub_cancel_left, Nat.add_sub_cancel_left, Nat.add_sub_cancel_left, Nat.add_sub_cancel_left, show i + a + p + (k + b) = i + (k + (a + (p + b))) by ac_rfl, Nat.add_sub_cancel_left, Nat.add_sub_cancel_left]
theorem cut_sum {lo X c i k : Nat} (hi' : i ≤ lo) (hk : k ≤ c) : lo + (X + c) - i - k = lo - i + (X + (c - k)) := by
  obtain ⟨a, rfl⟩ := Nat.exists_eq_add_of_le hi'
  obtain ⟨b, rfl⟩ := Nat.exists_eq_add_of_le hk
  rw [Nat.add_sub_cancel_left, Nat.add_sub_cancel_left, show i + a + (X + (k + b)) = i + (k + (a + (X + b))) by ac_rfl, Nat.add_sub_cancel_left, Nat.add_sub_cancel_left]
/-- what is left of the line, part by part -/
theorem Parts.bare {l : List Nat} {lo hi i k : Nat} (P : Parts l lo hi) (hi' : i ≤ lo) (hk : k ≤ l.length - hi) : (l.drop i).take (l.length - i - k) = List.replicate (lo - i) 32 ++ (l.drop lo).take (hi - lo) ++ List.replicate (l.length - hi - k) 32 := by
  have e := P.split
  have hc : ((l.drop lo).take (hi - lo)).length = hi - lo := P.core_len
  have h1 := P.le
  have h2 := P.len
  generalize (l.drop lo).take (hi - lo) = x at e hc
  generalize hn : l.length = n at *
  rw [e, List.append_assoc, List.append_assoc, List.drop_append_of_le_length (by simp [hi']), List.drop_replicate]
  rw [show n - i - k = (List.replicate (lo - i) 32).length + (x.length + (n - hi - k)) by rw [List.length_replicate, hc]; exact cut_arith h1 h2 hi' hk, List.take_length_add_append, List.take_length_add_append, List.take_replicate]
  rw [Nat.min_eq_left (Nat.sub_le _ _)]
theorem last_ne {x : List Nat} (h : x = [] ∨ x.getD (x.length - 1) 0 ≠ 92) : x.getLast? ≠ some 92 := by
  rcases h with rfl | h
  · simp
  · intro e
    apply h
    rw [List.getLast?_eq_getElem?] at e
    rw [List.getD_eq_getElem?_getD, e]
    rfl
/-- the core, its backslashes at the end apart -/
theorem slash_split {x : List Nat} {h2 : Nat} (h : h2 ≤ x.length) (hp : ∀ k, h2 ≤ k → k < x.length → x.getD k 0 = 92) (ha : h2 = 0 ∨ x.getD (h2 - 1) 0 ≠ 92) :
    x = x.take h2 ++ List.replicate (x.length - h2) 92 ∧ (x.take h2).getLast? ≠ some 92 := by
  have e : x.drop h2 = List.replicate (x.length - h2) 92 := by
    have := eq_rep (l := x.drop h2) (c := 92) fun k hk => by
      rw [List.length_drop] at hk
      rw [List.getD_eq_getElem?_getD, List.getElem?_drop, ← List.getD_eq_getElem?_getD]
      exact hp _ (by omega) (by omega)
    rw [List.length_drop] at this
    exact this
  refine ⟨by rw [← e, List.take_append_drop], last_ne ?_⟩
  rcases ha with rfl | ha
  · exact .inl (by simp)
  · by_cases z : h2 = 0
    · exact .inl (by simp [z])
    · refine .inr ?_
      rw [List.length_take, Nat.min_eq_left h, List.getD_eq_getElem?_getD, List.getElem?_take, if_pos (by omega), ← List.getD_eq_getElem?_getD]
      exact ha
noncomputable abbrev rd0 (l : List Nat) : Option (List (List Nat)) := rd (Ts.start .blank) l
/-- all blanks behind gone from an odd number of backslashes: refused -/
theorem refused {l : List Nat} {lo hi i k h2 : Nat} (P : Parts l lo hi) (hi' : i ≤ lo) (hk : k = l.length - hi) (h : h2 ≤ hi - lo) (hp : ∀ k, h2 ≤ k → k < hi - lo → ((l.drop lo).take (hi - lo)).getD k 0 = 92)
    (ha : h2 = 0 ∨ ((l.drop lo).take (hi - lo)).getD (h2 - 1) 0 ≠ 92) (ho : (hi - lo - h2) % 2 = 1) : rd0 ((l.drop i).take (l.length - i - k)) = .none := by
  rw [P.bare hi' (Nat.le_of_eq hk), hk, Nat.sub_self, List.replicate_zero, List.append_nil]
  unfold rd0
  rw [rd_ahead]
  have hc : ((l.drop lo).take (hi - lo)).length = hi - lo := P.core_len
  generalize (l.drop lo).take (hi - lo) = x at hc hp ha
  rw [← hc] at h hp ho
  obtain ⟨e1, e2⟩ := slash_split h hp ha
  obtain ⟨n, hn⟩ := odd_half ho
  rw [hn] at e1
  rw [e1]
  exact rd_odd e2
/-- else: the same words -/
theorem same_words {l : List Nat} {lo hi i k h2 : Nat} (P : Parts l lo hi) (hi' : i ≤ lo) (hk : k ≤ l.length - hi) (h : h2 ≤ hi - lo) (hp : ∀ k, h2 ≤ k → k < hi - lo → ((l.drop lo).take (hi - lo)).getD k 0 = 92)
    (ha : h2 = 0 ∨ ((l.drop lo).take (hi - lo)).getD (h2 - 1) 0 ≠ 92) (ho : l.length - hi = 0 ∨ k ≠ l.length - hi ∨ (hi - lo - h2) % 2 = 0) : rd0 ((l.drop i).take (l.length - i - k)) = rd0 l := by
  have hc : ((l.drop lo).take (hi - lo)).length = hi - lo := P.core_len
  have e := P.split
  rw [P.bare hi' hk]
  conv => rhs; rw [e]
  unfold rd0
  rw [List.append_assoc, List.append_assoc, rd_ahead, rd_ahead]
  clear e
  generalize (l.drop lo).take (hi - lo) = x at hc hp ha
  rw [← hc] at h hp ho
  generalize l.length - hi = n at *
  by_cases hn : n = 0
  · rw [hn, Nat.zero_sub]
  by_cases hk2 : k = n
  · obtain ⟨e1, e2⟩ := slash_split h hp ha
    obtain ⟨q, hq⟩ := even_half (ho.elim (fun e => absurd e hn) fun e => e.elim (fun e => absurd hk2 e) id)
    rw [hq] at e1
    rw [e1, rd_even e2, rd_even e2]
  · obtain ⟨a, ha'⟩ : ∃ a, n - k = a + 1 := ⟨n - k - 1, (Nat.sub_add_cancel (Nat.sub_pos_of_lt (Nat.lt_of_le_of_ne hk hk2))).symm⟩
    obtain ⟨b, hb⟩ : ∃ b, n = b + 1 := ⟨n - 1, (Nat.sub_add_cancel (Nat.pos_of_ne_zero hn)).symm⟩
    rw [ha', hb, rd_more, rd_more]
end Mine
end
section
open PySem PySem.W PyProof.Rows PySem.Calls
set_option maxRecDepth 100000
namespace Mine
noncomputable abbrev bl (b : Nat) : List Nat := List.replicate b 32
theorem bl_no (b : Nat) (c : Nat) (h : c ≠ 32) (j : Nat) : (bl b)[j]? ≠ some c := by
  intro e
  have := List.mem_of_getElem? e
  exact h (List.eq_of_mem_replicate this)
theorem nextBr_bl (b : Nat) : ∀ (k : Nat), nextBr k (bl b) = none := by
  induction b with
  | zero => intro k; cases k <;> rfl
  | succ b ih =>
    intro k
    cases k with
    | zero => rw [bl, List.replicate_succ, nextBr, if_neg (by decide), ih 0]; rfl
    | succ k => rw [bl, List.replicate_succ, nextBr, ih k]; rfl
theorem nextBr_app (b : Nat) : ∀ (r : List Nat) (k : Nat), nextBr k (r ++ bl b) = nextBr k r
  | [], k => by rw [List.nil_append, nextBr_bl]; cases k <;> rfl
  | c :: r, 0 => by rw [List.cons_append, nextBr, nextBr, nextBr_app b r 0]
  | c :: r, k + 1 => by rw [List.cons_append, nextBr, nextBr, nextBr_app b r k]
theorem at_app (b : Nat) (r : List Nat) (j : Nat) (c : Nat) (h : c ≠ 32) : (r ++ bl b)[j]? = some c ↔ r[j]? = some c := by
  by_cases hj : j < r.length
  · rw [List.getElem?_append_left hj]
  · rw [List.getElem?_append_right (by omega), List.getElem?_eq_none (l := r) (by omega)]
    exact ⟨fun e => absurd e (bl_no b c h _), fun e => nomatch e⟩
theorem brEnd_app (b : Nat) (r : List Nat) : brEnd (r ++ bl b) = brEnd r := by
  have e : brFrom (r ++ bl b) = brFrom r := by
    unfold brFrom
    have h1 : (r ++ bl b).head? = some 33 ↔ r.head? = some 33 := by
      rw [List.head?_eq_getElem?, List.head?_eq_getElem?]
      exact at_app b r 0 33 (by decide)
    by_cases h : r.head? = some 33
    · rw [if_pos h, if_pos (h1.mpr h)]
      by_cases h2 : r[1]? = some 93
      · rw [if_pos h2, if_pos ((at_app b r 1 93 (by decide)).mpr h2)]
      · rw [if_neg h2, if_neg fun z => h2 ((at_app b r 1 93 (by decide)).mp z)]
    · rw [if_neg h, if_neg fun z => h (h1.mp z)]
      by_cases h2 : r[0]? = some 93
      · rw [if_pos h2, if_pos ((at_app b r 0 93 (by decide)).mpr h2)]
      · rw [if_neg h2, if_neg fun z => h2 ((at_app b r 0 93 (by decide)).mp z)]
  unfold brEnd
  rw [e, nextBr_app]
theorem nextBr_lt : ∀ (r : List Nat) (k d : Nat), nextBr k r = some d → d < r.length
  | [], k, d, h => by cases k <;> simp [nextBr] at h
  | c :: r, 0, d, h => by
    rw [nextBr] at h
    split at h
    · cases h; exact Nat.succ_pos _
    · cases e : nextBr 0 r with
      | none => rw [e] at h; cases h
      | some q =>
        rw [e] at h
        cases h
        exact Nat.succ_lt_succ (nextBr_lt r 0 q e)
  | c :: r, k + 1, d, h => by
    rw [nextBr] at h
    cases e : nextBr k r with
    | none => rw [e] at h; cases h
    | some q =>
      rw [e] at h
      cases h
      exact Nat.succ_lt_succ (nextBr_lt r k q e)
theorem trans_nil (n : Nat) (acc : List (Option Str)) : trans n acc [] = acc := by cases n <;> rfl
theorem trans_fuel : ∀ (n m : Nat) (acc : List (Option Str)) (l : List Nat), l.length ≤ n → l.length ≤ m → trans n acc l = trans m acc l := by
  intro n
  induction n with
  | zero =>
    intro m acc l h _
    have : l = [] := List.eq_nil_of_length_eq_zero (by omega)
    rw [this, trans_nil, trans_nil]
  | succ n ih =>
    intro m acc l h1 h2
    cases l with
    | nil => rw [trans_nil, trans_nil]
    | cons c r =>
      cases m with
      | zero => simp at h2
      | succ m =>
        simp only [List.length_cons] at h1 h2
        rw [trans, trans]
        split
        · exact ih m _ r (by omega) (by omega)
        · split
          · cases brEnd r with
            | none => exact ih m _ r (by omega) (by omega)
            | some k => exact ih m _ _ (by rw [List.length_drop]; omega) (by rw [List.length_drop]; omega)
          · exact ih m _ r (by omega) (by omega)
theorem trans_cons : ∀ (n : Nat) (x : Str) (acc : List (Option Str)) (l : List Nat), trans n (some x :: acc) l = some x :: trans n acc l := by
  intro n
  induction n with
  | zero => intros; rfl
  | succ n ih =>
    intro x acc l
    cases l with
    | nil => rfl
    | cons c r =>
      rw [trans, trans]
      have e : (some x :: acc).getLast? = some none ↔ acc.getLast? = some none := by
        cases acc with
        | nil => simp
        | cons a b => rw [List.getLast?_cons_cons]
      split
      · by_cases h : acc.getLast? = some none
        · rw [if_pos h, if_pos (e.mpr h), ih]
        · rw [if_neg h, if_neg fun z => h (e.mp z), List.cons_append, ih]
      · split
        · cases brEnd r with
          | none => show trans n (some x :: acc ++ _) r = _; rw [List.cons_append, ih]
          | some k => show trans n (some x :: acc ++ _) _ = _; rw [List.cons_append, ih]
        · rw [List.cons_append, ih]
noncomputable abbrev B : Option Str := some (S (esc 32))
theorem trans_ahead (l : List Nat) : ∀ (a : Nat), trans (a + l.length) [] (bl a ++ l) = List.replicate a B ++ trans l.length [] l
  | 0 => by rw [Nat.zero_add]; rfl
  | a + 1 => by
    rw [Nat.add_right_comm, bl, List.replicate_succ, List.cons_append, trans, if_neg (by decide), if_neg (by decide), List.nil_append, trans_cons, trans_ahead l a, List.replicate_succ, List.cons_append]
theorem trans_bl : ∀ (b n : Nat) (acc : List (Option Str)), b ≤ n → trans n acc (bl b) = acc ++ List.replicate b B
  | 0, n, acc, _ => by rw [bl, List.replicate_zero, trans_nil, List.replicate_zero, List.append_nil]
  | b + 1, 0, acc, h => absurd h (Nat.not_succ_le_zero _)
  | b + 1, n + 1, acc, h => by
    rw [bl, List.replicate_succ, trans, if_neg (by decide), if_neg (by decide), trans_bl b n _ (by omega), List.replicate_succ]
    simp
theorem trans_behind (b : Nat) : ∀ (n : Nat) (acc : List (Option Str)) (l : List Nat), l.length + b ≤ n → trans n acc (l ++ bl b) = trans n acc l ++ List.replicate b B := by
  intro n
  induction n with
  | zero =>
    intro acc l h
    have e : l = [] := List.eq_nil_of_length_eq_zero (by omega)
    have e2 : b = 0 := by omega
    subst e; subst e2; simp [bl, trans]
  | succ n ih =>
    intro acc l h
    cases l with
    | nil => rw [List.nil_append, trans_nil, trans_bl b (n + 1) acc (by simpa using h)]
    | cons c r =>
      simp only [List.length_cons] at h
      rw [List.cons_append, trans, trans]
      split
      · exact ih _ r (by omega)
      · split
        · rw [brEnd_app]
          cases e : brEnd r with
          | none => exact ih _ r (by omega)
          | some k =>
            have hk := nextBr_lt _ _ _ e
            show trans n (acc ++ [some (itemOf ((r ++ bl b).take k))]) ((r ++ bl b).drop (k + 1)) = trans n (acc ++ [some (itemOf (r.take k))]) (r.drop (k + 1)) ++ _
            rw [List.take_append_of_le_length (by omega), List.drop_append_of_le_length (by omega)]
            exact ih _ _ (by rw [List.length_drop]; omega)
        · exact ih _ r (by omega)
/-- the items of a line, its blanks at the ends apart -/
theorem trans_parts (a b : Nat) (x : List Nat) : trans (bl a ++ x ++ bl b).length [] (bl a ++ x ++ bl b) = List.replicate a B ++ trans x.length [] x ++ List.replicate b B := by
  have h1 : (bl a ++ x ++ bl b).length = (bl a ++ x).length + b := by rw [List.length_append (bs := bl b), List.length_replicate]
  have h2 : (bl a ++ x).length = a + x.length := by rw [List.length_append, List.length_replicate]
  rw [trans_behind b _ _ _ (by omega), trans_fuel _ (a + x.length) _ (bl a ++ x) (by omega) (by omega), trans_ahead]
theorem items_bare {l : List Nat} {lo hi i k : Nat} (P : Parts l lo hi) (hi' : i ≤ lo) (hk : k ≤ l.length - hi) :
    trans ((l.drop i).take (l.length - i - k)).length [] ((l.drop i).take (l.length - i - k)) = ((trans l.length [] l).drop i).take ((trans l.length [] l).length - i - k) := by
  have e := P.split
  have eb := P.bare hi' hk
  have h0 := P.len
  have h1 := P.le
  have ht : trans l.length [] l = List.replicate lo B ++ trans ((l.drop lo).take (hi - lo)).length [] ((l.drop lo).take (hi - lo)) ++ List.replicate (l.length - hi) B := by
    have z := trans_parts lo (l.length - hi) ((l.drop lo).take (hi - lo))
    unfold bl at z
    rw [← e] at z
    exact z
  rw [ht, eb, trans_parts]
  generalize trans _ [] ((l.drop lo).take (hi - lo)) = X
  rw [List.append_assoc, List.append_assoc, List.drop_append_of_le_length (by simp [hi']), List.drop_replicate]
  simp only [List.length_append, List.length_replicate]
  rw [show lo + (X.length + (l.length - hi)) - i - k = (List.replicate (lo - i) B).length + (X.length + (l.length - hi - k)) by rw [List.length_replicate]; exact cut_sum hi' hk, List.take_length_add_append, List.take_length_add_append, List.take_replicate]
  rw [Nat.min_eq_left (Nat.sub_le _ _)]
end Mine
end
section
open PySem PySem.W PyProof.Rows PySem.Calls PySem.Spec PyProof.V
set_option maxRecDepth 100000
namespace Mine
noncomputable def datO : Option Str → Dat
  | none => .none
  | some x => .str x
noncomputable def lowO : Option Str → Prop
  | none => True
  | some x => PyData.strOk x = true
theorem datO_inj : ∀ {xs ys : List (Option Str)}, xs.map datO = ys.map datO → xs = ys
  | [], [], _ => rfl
  | [], _ :: _, h => by simp at h
  | _ :: _, [], h => by simp at h
  | a :: r, b :: t, h => by
    simp only [List.map_cons, List.cons.injEq] at h
    rw [datO_inj h.2]
    congr 1
    cases a <;> cases b <;> simp_all [datO]
theorem itemsV_dat {is : List (Option Str)} {vs : List Value} (h : ItemsV is vs) : DatAll [] vs (is.map datO) := by
  induction h with
  | nil => exact .nil
  | @cons a v _ _ h1 _ ih =>
    refine .cons ?_ ih
    cases a with
    | none => cases h1; exact .none
    | some x => obtain ⟨t, rfl⟩ := h1; exact .str _ _
theorem strs_dat : ∀ {vs : List Value} {xs : List (List Nat)}, Strs vs xs → DatAll [] vs (xs.map fun x => Dat.str (S x))
  | [], [], _ => .nil
  | v :: vs, x :: xs, ⟨⟨t, e⟩, h⟩ => by rw [e]; exact .cons (.str _ _) (strs_dat h)
theorem strDat_inj : ∀ {xs ys : List (List Nat)}, (xs.map fun x => Dat.str (S x)) = (ys.map fun x => Dat.str (S x)) → xs = ys
  | [], [], _ => rfl
  | [], _ :: _, h => by simp at h
  | _ :: _, [], h => by simp at h
  | a :: r, b :: t, h => by
    simp only [List.map_cons, List.cons.injEq, Dat.str.injEq] at h
    rw [strDat_inj h.2, S_inj.mp h.1]
section
variable {prog : Program} {w : World} {A : Around} {E : Value → Shared → Prop} {s : Shared} {h : Heap} {a b : Addr} {xs ys : Array Value} {ka kb : Nat} {ds es : List Dat} {Q : Value → Shared → Prop}
theorem reads_dat (ha : h.get? a = some (listO xs ka)) (D : DatAll [] xs.toList ds) (hd : ∀ d ∈ ds, kqdOk 8 d = true) : (∃ as, Reads h (.ref a) (.list (kqdPs ds)) as) ∧ SeqAt.shaped (.list (kqdPs ds)) = true := by
  obtain ⟨as, ra⟩ := kqd_all (h₀ := h) (L := h.objs.size) (h := h) (news := []) (fun _ hq => nomatch hq) 8 D hd
  refine ⟨⟨_, reads_list_at ha rfl rfl ra⟩, ?_⟩
  have la := kqd_lay 9 (.list ds) (by simpa [kqdOk] using hd)
  rw [kqdP] at la
  unfold SeqAt.shaped
  rw [la.1, Bool.true_and]
  exact decide_eq_true (Nat.le_trans la.2 (by decide))
theorem eqv_dat (h1 : ∀ d ∈ ds, kqdOk 8 d = true) (h2 : ∀ d ∈ es, kqdOk 8 d = true) (he : ds = es) : PyData.eqv (.list (kqdPs ds)) (.list (kqdPs es)) = true := by
  have q := kqd_eqv 9 (.list ds) (.list es) 9 (by simpa [kqdOk] using h1) (by simpa [kqdOk] using h2)
  rw [kqdP, kqdP, Dat.list.injEq] at q
  exact q.mpr he
theorem eq_lists (ha : s.heap.get? a = some (listO xs ka)) (Da : DatAll [] xs.toList ds) (hb : s.heap.get? b = some (listO ys kb)) (Db : DatAll [] ys.toList es) (h1 : ∀ d ∈ ds, kqdOk 8 d = true) (h2 : ∀ d ∈ es, kqdOk 8 d = true)
    (hu : A.units + 64 < cLine) (he : ds = es) (h : Q (.bool true) s) : wpAny (model prog w) A (compareOp .Eq (.ref a) (.ref b)) Q E s := by
  obtain ⟨⟨_, ra⟩, sa⟩ := reads_dat ha Da h1
  obtain ⟨⟨_, rb⟩, sb⟩ := reads_dat hb Db h2
  exact eq_dataH ra rb sa sb hu (by rw [eqv_dat h1 h2 he]; exact h)
theorem ne_lists (ha : s.heap.get? a = some (listO xs ka)) (Da : DatAll [] xs.toList ds) (hb : s.heap.get? b = some (listO ys kb)) (Db : DatAll [] ys.toList es) (h1 : ∀ d ∈ ds, kqdOk 8 d = true) (h2 : ∀ d ∈ es, kqdOk 8 d = true)
    (hu : A.units + 64 < cLine) (he : ds = es) (h : Q (.bool false) s) : wpAny (model prog w) A (compareOp .NotEq (.ref a) (.ref b)) Q E s := by
  obtain ⟨⟨_, ra⟩, sa⟩ := reads_dat ha Da h1
  obtain ⟨⟨_, rb⟩, sb⟩ := reads_dat hb Db h2
  exact ne_dataH ra rb sa sb hu (by rw [eqv_dat h1 h2 he]; exact h)
end
/-- all signs are small -/
noncomputable def Low (y : Str) : Prop := ∀ c ∈ y.cps.toList, c < 0x110000
theorem low_ok {y : Str} (h : Low y) : PyData.strOk y = true := by
  unfold PyData.strOk
  rw [Array.all_eq_true_iff_forall_mem]
  intro c hc
  exact decide_eq_true (h c (by simpa using hc))
theorem okS_low {y : Str} (h : OkS y) : Low y := fun c hc => by
  have := h c hc
  unfold okc at this
  omega
theorem low_app {x y : Str} (hx : Low x) (hy : Low y) : Low (x ++ y) := fun c hc => by
  have e : (x ++ y).cps.toList = x.cps.toList ++ y.cps.toList := by
    show (x.cps ++ y.cps).toList = _
    simp
  rw [e] at hc
  rcases List.mem_append.mp hc with hc | hc
  · exact hx c hc
  · exact hy c hc
theorem low_S {l : List Nat} (h : ∀ c ∈ l, c < 0x110000) : Low (S l) := fun c hc => h c (by simpa [S] using hc)
theorem low_slice {y : Str} (h : Low y) (a b : Option Int) : Low (Txt.slice y a b) := by
  unfold Txt.slice
  intro c hc
  split at hc
  · exact h c hc
  · obtain ⟨i, _, e⟩ := List.mem_filterMap.mp hc
    exact h c (by simpa using Array.mem_of_getElem? e)
theorem low_finish {y : Str} (h : Low y) : Low (finish y) := by
  unfold finish
  have l1 : Low (Str.ofString "(?!)") := by rw [show Str.ofString "(?!)" = S [40, 63, 33, 41] from by decide +kernel]; exact low_S (by decide)
  have l2 : Low (Str.ofString ".") := by rw [show Str.ofString "." = S [46] from by decide +kernel]; exact low_S (by decide)
  have l3 : Low (Str.ofString "[") := by rw [show Str.ofString "[" = S [91] from by decide +kernel]; exact low_S (by decide)
  have l4 : Low (Str.ofString "]") := by rw [show Str.ofString "]" = S [93] from by decide +kernel]; exact low_S (by decide)
  have l5 : Low (Str.ofString "^") := by rw [show Str.ofString "^" = S [94] from by decide +kernel]; exact low_S (by decide)
  have l6 : Low (Str.ofString "\\") := by rw [show Str.ofString "\\" = S [92] from by decide +kernel]; exact low_S (by decide)
  split
  · exact l1
  · split
    · exact l2
    · refine low_app (low_app l3 ?_) l4
      split
      · exact low_app l5 (low_slice h _ _)
      · split
        · exact low_app l6 h
        · exact h
theorem low_trans : ∀ (n : Nat) (acc : List (Option Str)) (l : List Nat), (∀ y ∈ acc, lowO y) → (∀ c ∈ l, okc c) → ∀ y ∈ trans n acc l, lowO y := by
  intro n
  induction n with
  | zero => intro acc l h _; exact h
  | succ n ih =>
    intro acc l h hl
    cases l with
    | nil => exact h
    | cons c r =>
      have hr : ∀ c ∈ r, okc c := fun d hd => hl d (.tail _ hd)
      have snoc : ∀ y, lowO y → ∀ z ∈ acc ++ [y], lowO z := fun y hy z hz => by
        rcases List.mem_append.mp hz with hz | hz
        · exact h z hz
        · rw [List.mem_singleton.mp hz]; exact hy
      rw [trans]
      split
      · refine ih _ r ?_ hr
        split
        · exact h
        · exact snoc none trivial
      · split
        · cases brEnd r with
          | none => exact ih _ r (snoc _ (low_ok (by rw [show Str.ofString "\\[" = S [92, 91] from by decide +kernel]; exact low_S (by decide)))) hr
          | some k => exact ih _ _ (snoc _ (low_ok (low_finish (okS_low (okS_stuff fun c hc => hr c (List.mem_of_mem_take hc)))))) fun c hc => hr c (List.mem_of_mem_drop hc)
        · refine ih _ r (snoc _ (low_ok (low_S ?_))) hr
          have hc := hl c (.head _)
          unfold okc at hc
          unfold esc
          intro d hd
          split at hd
          · simp at hd; omega
          · simp at hd; omega
theorem items_ok {l : List Nat} (hl : ∀ c ∈ l, okc c) : ∀ d ∈ (trans l.length [] l).map datO, kqdOk 8 d = true := by
  intro d hd
  obtain ⟨y, hy, rfl⟩ := List.mem_map.mp hd
  have := low_trans _ [] l (fun _ h => nomatch h) hl y hy
  cases y with
  | none => rfl
  | some x => exact this
theorem ok_stp {t : Ts} {c : Nat} (ht : ∀ d ∈ t.tok, okc d) (hc : okc c) : ∀ d ∈ (stp t c).tok, okc d := by
  have h92 : okc 92 := by simp [okc]
  have a1 : ∀ d ∈ t.tok ++ [c], okc d := fun d hd => by
    rcases List.mem_append.mp hd with hd | hd
    · exact ht d hd
    · rw [List.mem_singleton.mp hd]; exact hc
  have a2 : ∀ d ∈ (t.tok ++ [92]) ++ [c], okc d := fun d hd => by
    rcases List.mem_append.mp hd with hd | hd
    · rcases List.mem_append.mp hd with hd | hd
      · exact ht d hd
      · rw [List.mem_singleton.mp hd]; exact h92
    · rw [List.mem_singleton.mp hd]; exact hc
  have a3 : ∀ d ∈ [c], okc d := fun d hd => by rw [List.mem_singleton.mp hd]; exact hc
  have a4 : ∀ d ∈ (Ts.start .blank).tok, okc d := fun d hd => nomatch hd
  obtain ⟨m, q, es, tok⟩ := t
  cases m <;> simp only [stp]
  · exact ht
  · repeat' split
    all_goals first | exact ht | exact a3
  · repeat' split
    all_goals first | exact ht | exact a1 | exact a4
  · split
    · exact a2
    · exact a1
  · split
    · exact ht
    · exact a1
  · repeat' split
    all_goals first | exact ht | exact a1
theorem ok_rd : ∀ (l : List Nat) (t : Ts) (xs : List (List Nat)), (∀ c ∈ l, okc c) → (∀ d ∈ t.tok, okc d) → rd t l = some xs → ∀ x ∈ xs, ∀ c ∈ x, okc c
  | [], t, xs, _, ht, h => by
    obtain ⟨m, q, es, tok⟩ := t
    cases m <;> simp [rd] at h
    · subst h; exact fun x hx => nomatch hx
    · subst h; exact fun x hx => nomatch hx
    · subst h
      intro x hx
      rw [List.mem_singleton.mp hx]
      exact ht
  | c :: r, t, xs, hl, ht, h => by
    have hr : ∀ c ∈ r, okc c := fun d hd => hl d (.tail _ hd)
    have hs := ok_stp ht (hl c (.head _))
    rw [rd_cons] at h
    split at h
    · cases e : rd (stp t c) r with
      | none => rw [e] at h; cases h
      | some ys =>
        rw [e] at h
        cases h
        intro x hx
        rcases List.mem_cons.mp hx with rfl | hx
        · exact ht
        · exact ok_rd r _ ys hr hs e x hx
    · exact ok_rd r _ xs hr hs h
theorem words_ok {l : List Nat} {xs : List (List Nat)} (hl : ∀ c ∈ l, okc c) (h : rd0 l = some xs) : ∀ d ∈ (xs.map fun x => Dat.str (S x)), kqdOk 8 d = true := by
  intro d hd
  obtain ⟨x, hx, rfl⟩ := List.mem_map.mp hd
  have := ok_rd l _ xs hl (fun d hd => by simp [Ts.start] at hd) h x hx
  exact low_ok (okS_low (okS_S this))
end Mine
end
section
open PySem PySem.W PyProof.Rows PySem.Calls
set_option maxRecDepth 100000
set_option maxHeartbeats 4000000
set_option pp.deepTerms false
namespace Mine
theorem codeHd (P : Params) {h : Heap} (X : (Mine.KK P).In h) : CodeHd h 74 70 := codeHd_of_K X (by kernel_rfl)
section
variable {w : World} {p : Program} {loose : List Str} {mean : ExcName → Option Value} {mg mb : Str → Option Value} {A A₀ : Around} {base h₀ H₁ h' : Heap} {outer : List Env} {L a : Addr} {name : Str} {scope : Scope} {cd : Value} {m : Str → Option Value} {news : List (Addr × Obj)} {s : Shared}
theorem dicts_push (F : Fr h₀ L s.heap m) (D : KtsDicts (outer.filterMap (·.frame)) h₀) : KtsDicts ((envOf name scope L a cd :: outer).filterMap (·.frame)) s.heap := by
  intro b hb
  rcases kts_mem hb with rfl | hb
  · obtain ⟨o, es, ep, e, hd, _⟩ := F.ns
    exact ⟨o, es, ep, e, hd⟩
  · obtain ⟨o, es, n, e, hd⟩ := D b hb
    exact ⟨o, es, n, F.keep _ _ e, hd⟩
variable {Q E : Value → Shared → Prop} {l : List Nat} {am : Nat} {tx ta tq : Tok}
theorem bare_here (B : Below A₀ base outer h₀) (F : Fr h₀ L s.heap m) (X : (Mine.KK w.params).In h₀) (T : Top p loose mean mg mb h₀) (N : News h₀ L s.heap news)
    (XB : (Mine.KK w.params).In base) (TB : Top p loose mean mg mb base) (D : KtsDicts (outer.filterMap (·.frame)) h₀)
    (hA : A.frames = some (envOf name scope L a cd :: outer)) (hke : scope.kind = .function) (hhd : A.handled = none) (hdp : A.depth + 40 < recursionLimit) (hun : A.units + 300 < cLine)
    (hx : (S l).length < 1000) (ham : am ≤ 3)
    (ret : ∀ i k t h' tk', Stripped l am i k → Fr h₀ L h' m → News h₀ L h' news → Q (.str (S ((l.drop i).take (l.length - i - k))) t) { s with heap := h', toks := tk' })
    (bad : ∀ h' tk' g₁, (l.length < am ∧ ∀ j, j < l.length → l.getD j 0 = 32) → KtsTurn (outer.filterMap (·.frame)) h₀ g₁ → Below A₀ base outer g₁ → Fr g₁ L h' m → News g₁ L h' news → Q .none { s with heap := h', toks := tk' }) :
    wpAny (model PySem.Challenge.rw_ik0204_01.prog w) A (call (.ref 784) [.str (S l) tx, .int am ta]) Q E s := by
  have C := at_here B F X T hA (env := envOf name scope L a cd) rfl hke
  exact law_bare w p loose mean mg mb A base _ _ outer s Q E l am tx ta hx ham C XB TB (dicts_push F D) hhd hdp hun (fun i k t h' tk' hs kp => ret i k t h' tk' hs (fr_after F kp) (news_after N kp)) fun h' tk' g₁ hw T1 B1 k1 _ => by
    obtain ⟨g', T', B', F', N', _⟩ := turn_back (name := name) (scope := scope) (a := a) (cd := cd) B F N T1 k1
    exact bad h' tk' g' hw T' B' F' N'
theorem lread_here (B : Below A₀ base outer h₀) (F : Fr h₀ L s.heap m) (X : (Mine.KK w.params).In h₀) (T : Top p loose mean mg mb h₀) (N : News h₀ L s.heap news)
    (XB : (Mine.KK w.params).In base) (TB : Top p loose mean mg mb base) (D : KtsDicts (outer.filterMap (·.frame)) h₀)
    (hA : A.frames = some (envOf name scope L a cd :: outer)) (hke : scope.kind = .function) (hhd : A.handled = none) (hdp : A.depth + 100 < recursionLimit) (hun : A.units + 800 < cLine)
    (hx : (S l).length < 1000) (hl : ∀ c ∈ l, okc c)
    (ret : ∀ xs h' tk' c' (acc' : Array Value) g₁ R, rd0 l = some xs → Strs acc'.toList xs → KtsTurn (outer.filterMap (·.frame)) h₀ g₁ → Below A₀ base outer g₁ → Fr g₁ L h' m → News g₁ L h' ((R, listO acc' c') :: news) → Q (.ref R) { s with heap := h', toks := tk' })
    (bad : ∀ h' tk' g₁, rd0 l = .none → KtsTurn (outer.filterMap (·.frame)) h₀ g₁ → Below A₀ base outer g₁ → Fr g₁ L h' m → News g₁ L h' news → Q .none { s with heap := h', toks := tk' }) :
    wpAny (model PySem.Challenge.rw_ik0204_01.prog w) A (call (.ref 777) [.str (S l) tx]) Q E s := by
  have C := at_here B F X T hA (env := envOf name scope L a cd) rfl hke
  refine law_read w p loose mean mg mb A base _ _ outer s Q E l tx hx hl C XB TB (dicts_push F D) hhd hdp hun (fun xs h' tk' c' acc' g₁ R hw hs T1 B1 k1 _ hR hR0 => ?_) fun h' tk' g₁ hw T1 B1 k1 _ => ?_
  · obtain ⟨g', T', B', F', N', no⟩ := turn_back (name := name) (scope := scope) (a := a) (cd := cd) B F N T1 k1
    refine ret xs h' tk' c' acc' g' R (words_eq.symm.trans hw) hs T' B' F' fun q hq => ?_
    rcases List.mem_cons.mp hq with rfl | hq
    · have z := no _ _ hR0 hR
      exact ⟨hR, z.2, z.1⟩
    · exact N' q hq
  · obtain ⟨g', T', B', F', N', _⟩ := turn_back (name := name) (scope := scope) (a := a) (cd := cd) B F N T1 k1
    exact bad h' tk' g' (words_eq.symm.trans hw) T' B' F' N'
theorem trans_here {ps : Array Value} (B : Below A₀ base outer h₀) (F : Fr h₀ L s.heap m) (X : (Mine.KK w.params).In h₀) (T : Top p loose mean mg mb h₀) (N : News h₀ L s.heap ((70, tabObj ps) :: news)) (no : ∀ q ∈ news, q.1 ≠ 70)
    (hA : A.frames = some (envOf name scope L a cd :: outer)) (hke : scope.kind = .function) (hhd : A.handled = none) (hdp : A.depth + 40 < recursionLimit) (hun : A.units + 400 < cLine)
    (hx : (S l).length < 100) (hl : ∀ c ∈ l, okc c) (hps : TriplesOk ps.toList) (htk : 1 ≤ s.toks) (hgs : AllBare s.gens)
    (ret : ∀ R h' tk' gs' (ps' : Array Value) (vals : List Value) c, ItemsV (trans l.length [] l) vals → Fr h₀ L h' m → News h₀ L h' ((R, W.listOf vals.toArray c) :: (70, tabObj ps') :: news) → @LT.lt Nat _ 70 R → AllBare gs' → TriplesOk ps'.toList → 1 ≤ tk' → vals.length ≤ l.length → Q (.ref R) { s with heap := h', toks := tk', gens := gs' }) :
    wpAny (model PySem.Challenge.rw_ik0204_01.prog w) A (call (.ref 75) [.str (S l) tx, .none, .str (Str.ofString "?") tq]) Q E s := by
  obtain ⟨C, LD, F'⟩ := at_with (l := [(70, tabObj ps)]) B F X T (fun q hq => N q (List.mem_append_left (as := [(70, tabObj ps)]) news hq)) hA (env := envOf name scope L a cd) rfl hke
  refine translate w p loose mean mg mb A base _ _ outer s Q E tx tq l ps hx hl C LD (codeHd w.params C.part) hps htk hgs hhd hdp hun fun R h' tk' gs' ps' vals c hit kp LD' lt hgs' hps' htk' hvl => ?_
  obtain ⟨F2, N2⟩ := back_with (l := [(70, tabObj ps)]) (rest := news) F N (fun q hq hm => no q hq (List.mem_singleton.mp hm)) kp LD'
  exact ret R h' tk' gs' ps' vals c hit F2 N2 lt hgs' hps' htk' hvl
end
end Mine
end
section
open PySem PySem.W PyProof.Rows PySem.Calls
set_option maxRecDepth 100000
set_option maxHeartbeats 4000000
namespace Mine
theorem trans_size : ∀ (n : Nat) (acc : List (Option Str)) (l : List Nat), (trans n acc l).length ≤ acc.length + l.length := by
  intro n
  induction n with
  | zero => intro acc l; exact Nat.le_add_right _ _
  | succ n ih =>
    intro acc l
    cases l with
    | nil => exact Nat.le_refl _
    | cons c r =>
      rw [trans, List.length_cons]
      split
      · refine Nat.le_trans (ih _ _) ?_
        split
        · omega
        · simp; omega
      · split
        · cases brEnd r with
          | none => refine Nat.le_trans (ih _ _) ?_; simp; omega
          | some k => refine Nat.le_trans (ih _ _) ?_; simp; omega
        · refine Nat.le_trans (ih _ _) ?_; simp; omega
theorem ItemsV.drop : ∀ {is : List (Option Str)} {vs : List Value} (i : Nat), ItemsV is vs → ItemsV (is.drop i) (vs.drop i)
  | _, _, 0, h => h
  | _, _, _ + 1, .nil => .nil
  | _, _, i + 1, .cons _ h => ItemsV.drop i h
theorem ItemsV.take : ∀ {is : List (Option Str)} {vs : List Value} (i : Nat), ItemsV is vs → ItemsV (is.take i) (vs.take i)
  | _, _, 0, _ => by rw [List.take_zero, List.take_zero]; exact .nil
  | _, _, _ + 1, .nil => .nil
  | _, _, i + 1, .cons h1 h => .cons h1 (ItemsV.take i h)
/-- what is known where the blanks are off -/
structure Bare (l b : List Nat) (lo hi am i k n : Nat) : Prop where
  eq : b = (l.drop i).take (l.length - i - k)
  i_eq : i = min lo am
  k_eq : k = min (n - hi) (am - i)
  all : lo = n → am ≤ n
  size : (S b).length < 100
  size2 : (S b).length < 1000
  ok : ∀ c ∈ b, okc c
  slice : (S b == Txt.slice (S l) (some (i : Int)) (some ((n : Int) - (k : Int)))) = true
theorem Parts.empty {l : List Nat} {lo hi : Nat} (P : Parts l lo hi) (h : hi = lo) : lo = l.length := by
  rcases P.at_ with q | q
  · exact q
  · by_cases z : lo < l.length
    · exact absurd (P.post lo (by omega) z) q
    · have := P.le; have := P.len; omega
theorem bare_of {l : List Nat} {lo hi am i k n : Nat} (P : Parts l lo hi) (hn : l.length = n) (hl : ∀ c ∈ l, okc c) (hx : n < 100) (H : Stripped l am i k) : Bare l ((l.drop i).take (l.length - i - k)) lo hi am i k n := by
  obtain ⟨a1, a2, a3, a4, a5, a6, a7⟩ := H
  have q1 := P.le
  have q2 := P.len
  have i_le : i ≤ lo := by
    rcases P.at_ with q | q
    · omega
    · by_cases z : i ≤ lo
      · exact z
      · exact absurd (a4 lo (by omega)) q
  have i_eq : i = min lo am := by
    rcases a5 with q | ⟨q, q'⟩
    · rw [q]; exact (Nat.min_eq_right (q ▸ i_le)).symm
    · have z : lo ≤ i := Nat.not_lt.mp fun z => q' (P.pre i z)
      rw [Nat.le_antisymm i_le z] at a1 ⊢
      exact (Nat.min_eq_left a1).symm
  have k_le : k ≤ n - hi := by
    rcases P.at2 with q | q
    · have := P.empty q
      rcases a5 with z | ⟨z, z'⟩
      · omega
      · exact absurd (P.pre i (by omega)) z'
    · by_cases z : k ≤ n - hi
      · exact z
      · have := a6 (n - hi) (by omega)
        rw [hn, show n - 1 - (n - hi) = hi - 1 by omega] at this
        exact absurd this q
  have k_eq : k = min (n - hi) (am - i) := by
    clear i_eq
    rcases a7 with q | ⟨q, q'⟩
    · rw [← q]; exact (Nat.min_eq_right k_le).symm
    · have z : n - hi ≤ k := Nat.not_lt.mp fun z => q' (P.post _ (by clear a5 a2; omega) (by clear a5 a2; omega))
      rw [Nat.le_antisymm k_le z] at a2 ⊢
      exact (Nat.min_eq_left a2).symm
  have hall : lo = n → am ≤ n := fun e => by
    rcases a5 with q | ⟨q, q'⟩
    · clear a7 i_eq k_eq; omega
    · exact absurd (P.pre i (by clear a7 i_eq k_eq; omega)) q'
  clear a4 a5 a6 a7
  have hsz : ((l.drop i).take (l.length - i - k)).length < 100 := by rw [List.length_take, List.length_drop]; clear i_eq k_eq hall a1 a2 a3 q1 q2 i_le k_le; omega
  refine ⟨rfl, i_eq, k_eq, hall, by rw [S_length]; exact hsz, by rw [S_length]; omega, fun c hc => hl c (List.mem_of_mem_drop (List.mem_of_mem_take hc)), ?_⟩
  · clear i_eq k_eq hall hsz
    rw [slice_S (by clear hx; omega), beq_iff_eq]
    have z1 : ((n : Int) - (k : Int) - (i : Int)).toNat = n - i - k := by clear a1 a2 q1 q2; omega
    rw [z1, hn]
    rfl
theorem bad_of {l : List Nat} {lo hi am n : Nat} (P : Parts l lo hi) (hn : l.length = n) (H : l.length < am ∧ ∀ j, j < l.length → l.getD j 0 = 32) : lo = n ∧ n < am := by
  refine ⟨?_, by omega⟩
  have q1 := P.le
  have q2 := P.len
  rcases P.at_ with q | q
  · omega
  · by_cases z : lo < l.length
    · exact absurd (H.2 lo z) q
    · omega
theorem front_v {i lo n am : Nat} (h1 : i = min lo am) (h : lo ≤ n) : (if (am : Int) < (n : Int) - ((n - lo : Nat) : Int) then (am : Int) else (n : Int) - ((n - lo : Nat) : Int)) = (i : Int) := by split <;> omega
theorem back_v {i k lo hi n am : Nat} (h1 : i = min lo am) (h2 : k = min (n - hi) (am - i)) (h : lo ≤ hi) (h' : hi ≤ n) :
    (if (am : Int) - (i : Int) < (n : Int) - ((n : Int) - ((n - lo : Nat) : Int)) - ((hi - lo : Nat) : Int) then (am : Int) - (i : Int) else (n : Int) - ((n : Int) - ((n - lo : Nat) : Int)) - ((hi - lo : Nat) : Int)) = (k : Int) := by split <;> omega
theorem fits {i k lo hi n am q : Nat} (h1 : i = min lo am) (h2 : k = min (n - hi) (am - i)) (h3 : lo + (n - hi) ≤ q) : i + k ≤ q := by omega
theorem items_len {l : List Nat} {lo hi : Nat} (P : Parts l lo hi) : lo + (l.length - hi) ≤ (trans l.length [] l).length := by
  have z := trans_parts lo (l.length - hi) ((l.drop lo).take (hi - lo))
  unfold bl at z
  rw [← P.split] at z
  rw [z]
  simp only [List.length_append, List.length_replicate]
  omega
section
variable {prog : Program} {w : World} {A : Around} {s : Shared} {Q E : Value → Shared → Prop} {l x : List Nat} {t u : Tok} {h₀ : Heap} {L : Addr} {m : Str → Option Value} {news : List (Addr × Obj)}
theorem strip_S (e : Txt.stripChars (S l) (Str.ofString " ") = S x) (hz : (S l).length < 1000) (h : ∀ t' k, Q (.str (S x) t') { s with toks := k }) : wpAny (model prog w) A (call (.builtin "str.strip") [.str (S l) t, .str (Str.ofString " ") u]) Q E s :=
  SCL.stripChars (fun t' k _ => by rw [e]; exact h t' k) (by rw [sizeLine_eq]; omega)
theorem lstrip_S (e : Txt.lstripChars (S l) (Str.ofString " ") = S x) (hz : (S l).length < 1000) (h : ∀ t' k, Q (.str (S x) t') { s with toks := k }) : wpAny (model prog w) A (call (.builtin "str.lstrip") [.str (S l) t, .str (Str.ofString " ") u]) Q E s :=
  SCL.lstripChars (fun t' k _ => by rw [e]; exact h t' k) (by rw [sizeLine_eq]; omega)
theorem rstrip_S (e : Txt.rstripChars (S l) (Str.ofString "\\") = S x) (hz : (S l).length < 1000) (h : ∀ t' k, Q (.str (S x) t') { s with toks := k }) : wpAny (model prog w) A (call (.builtin "str.rstrip") [.str (S l) t, .str (Str.ofString "\\") u]) Q E s :=
  SCL.rstripChars (fun t' k _ => by rw [e]; exact h t' k) (by rw [sizeLine_eq]; omega)
theorem len_S {n : Nat} (hn : l.length = n) (hz : n < 1000) (h : ∀ t' k, Q (.int (n : Int) t') { s with toks := k }) : wpAny (model prog w) A (call (.builtin "len") [.str (S l) t]) Q E s := by
  refine len_str ?_ ?_
  · rw [S_length]; omega
  · rw [S_length, hn]; exact h _ _
theorem min_v {a b v : Int} (F : Fr h₀ L s.heap m) (N : News h₀ L s.heap news) (hh : A.handled = none) (e : (if b < a then b else a) = v) (h : ∀ h' tk t', Fr h₀ L h' m → News h₀ L h' news → Q (.int v t') { s with heap := h', toks := tk }) :
    wpAny (model prog w) A (call (.builtin "min") [.int a t, .int b u]) Q E s :=
  min_two_N hh F N fun h' tk F' N' => by rw [e]; exact h h' tk _ F' N'
theorem len_I {I : Addr} {vs : List Value} {c q : Nat} (F : Fr h₀ L s.heap m) (hI : h₀.get? I = some (listO vs.toArray c)) (hq : vs.length = q) (hz : q < 1000) (h : ∀ t' k, Q (.int (q : Int) t') { s with toks := k }) :
    wpAny (model prog w) A (call (.builtin "len") [.ref I]) Q E s := by
  refine PyProof.Rows.len_list (items := vs.toArray) ⟨_, F.keep _ _ hI, rfl, _, rfl⟩ ?_ ?_
  · rw [List.size_toArray]; omega
  · rw [List.size_toArray, hq]; exact h _ _
theorem slice_I {value slice : PySem.Expr} {I : Addr} {vs : List Value} {c q i k : Nat} {t1 t2 : Tok} (F : Fr h₀ L s.heap m) (N : News h₀ L s.heap news) (hI : h₀.get? I = some (listO vs.toArray c)) (hq : vs.length = q) (hz : q < 1000) (hik : i + k ≤ q)
    (hs : subscripted slice false (.ref I) (.ref s.heap.objs.size) = operate [.ref s.heap.objs.size, .ref I] (getItem (.ref I) (.ref s.heap.objs.size))) (ht : ∀ r, letTemporaryGo value (.ref I) r = pure ())
    (h : ∀ D h', Fr h₀ L h' m → News h₀ L h' ((D, listO ((vs.drop i).take (q - i - k)).toArray 0) :: news) → Q (.ref D) { s with heap := h' }) :
    wpAny (model prog w) A (subscriptTail value slice (.ref I) (.ref s.heap.objs.size)) Q E { s with heap := s.heap.push { cls := .type "slice", data := .fields #[.int (i : Int) t1, .int ((q : Int) - (k : Int)) t2, .none] } } := by
  have e : sliceBounds (some (i : Int)) (some ((q : Int) - (k : Int))) none vs.toArray.size = ((i : Int), ((q - k : Nat) : Int), 1) := by
    rw [List.size_toArray, hq]
    simp only [sliceBounds, Option.getD_none, show (1 : Int) > 0 by decide, if_true, if_neg (show ¬ ((i : Int) < 0) by omega), if_neg (show ¬ ((q : Int) - (k : Int) < 0) by omega)]
    congr 1
    · omega
    · congr 1
      omega
  refine kmk_slice F N ⟨_, F.keep _ _ hI, rfl, _, rfl⟩ (.int _ _) (.int _ _) (fun D h' F' N' _ => h D h' F' ?_) hs ht (by rw [List.size_toArray, hq, sizeLine_eq]; omega)
  rw [kmk_pick_nat _ e] at N'
  rw [show q - i - k = q - k - i by omega]
  exact N'
theorem ne_items {a b : Addr} {xs ys : List Value} {ka kb : Nat} {is js : List (Option Str)} (ha : s.heap.get? a = some (listO xs.toArray ka)) (hb : s.heap.get? b = some (listO ys.toArray kb)) (h1 : ItemsV is xs) (h2 : ItemsV js ys)
    (ok : ∀ d ∈ is.map datO, kqdOk 8 d = true) (he : is = js) (hu : A.units + 64 < cLine) (h : Q (.bool false) s) : wpAny (model prog w) A (compareOp .NotEq (.ref a) (.ref b)) Q E s := by
  subst he
  exact ne_lists ha (by simpa using itemsV_dat h1) hb (by simpa using itemsV_dat h2) ok ok hu rfl h
theorem eq_words {a b : Addr} {xs ys : Array Value} {ka kb : Nat} {is js : List (List Nat)} (ha : s.heap.get? a = some (listO xs ka)) (hb : s.heap.get? b = some (listO ys kb)) (h1 : Strs xs.toList is) (h2 : Strs ys.toList js)
    (ok : ∀ d ∈ (is.map fun x => Dat.str (S x)), kqdOk 8 d = true) (he : is = js) (hu : A.units + 64 < cLine) (h : Q (.bool true) s) : wpAny (model prog w) A (compareOp .Eq (.ref a) (.ref b)) Q E s := by
  subst he
  exact eq_lists ha (strs_dat h1) hb (strs_dat h2) ok ok hu rfl h
end
theorem Bare.items {l b : List Nat} {lo hi am i k n q : Nat} (P : Parts l lo hi) (H : Bare l b lo hi am i k n) (hn : l.length = n) (hq : (trans l.length [] l).length = q) : trans b.length [] b = ((trans l.length [] l).drop i).take (q - i - k) := by
  have e1 := H.i_eq
  have e2 := H.k_eq
  rw [H.eq, ← hq]
  exact items_bare P (by omega) (by omega)
theorem turn_list {fs : List Addr} {g g' : Heap} {W : Addr} {acc : Array Value} {cw : Nat} (D : KtsDicts fs g) (T : KtsTurn fs g g') (hW : g.get? W = some (listO acc cw)) : g'.get? W = some (listO acc cw) :=
  T.other _ _ hW fun hm => by
    obtain ⟨o, es, n, e, hd⟩ := D W hm
    rw [hW] at e
    cases e
    cases hd
/-- where the words are asked -/
theorem Bare.odd {l b x : List Nat} {lo hi am i k n h2 : Nat} (P : Parts l lo hi) (H : Bare l b lo hi am i k n) (hn : l.length = n) (hx : (l.drop lo).take (hi - lo) = x) (h : h2 ≤ hi - lo) (hp : ∀ k, h2 ≤ k → k < hi - lo → x.getD k 0 = 92)
    (ha : h2 = 0 ∨ x.getD (h2 - 1) 0 ≠ 92) (hk : (k : Int) = (n : Int) - ((n : Int) - ((n - lo : Nat) : Int)) - ((hi - lo : Nat) : Int)) (ho : (((hi - lo : Nat) : Int) - (h2 : Int)).fmod 2 = 1) : rd0 b = .none := by
  rw [Int.fmod_eq_emod_of_nonneg _ (by decide)] at ho
  have e1 := H.i_eq
  have q1 := P.le
  have q2 := P.len
  have eA : (n : Int) - ((n : Int) - ((n - lo : Nat) : Int)) - ((hi - lo : Nat) : Int) = ((l.length - hi : Nat) : Int) := by clear hk ho e1; omega
  have eB : ((hi - lo : Nat) : Int) - (h2 : Int) = ((hi - lo - h2 : Nat) : Int) := (Int.natCast_sub h).symm
  rw [eA] at hk
  rw [eB] at ho
  rw [H.eq]
  subst hx
  exact refused (h2 := h2) P (e1 ▸ Nat.min_le_left ..) (Int.ofNat.inj hk) h hp ha (by clear hk eA eB e1; generalize hi - lo - h2 = a at ho ⊢; omega)
theorem Bare.even {l b x : List Nat} {lo hi am i k n h2 : Nat} (P : Parts l lo hi) (H : Bare l b lo hi am i k n) (hn : l.length = n) (hx : (l.drop lo).take (hi - lo) = x) (h : h2 ≤ hi - lo) (hp : ∀ k, h2 ≤ k → k < hi - lo → x.getD k 0 = 92)
    (ha : h2 = 0 ∨ x.getD (h2 - 1) 0 ≠ 92)
    (hk : ¬ (0 < (n : Int) - ((n : Int) - ((n - lo : Nat) : Int)) - ((hi - lo : Nat) : Int)) ∨ ¬ (k : Int) = (n : Int) - ((n : Int) - ((n - lo : Nat) : Int)) - ((hi - lo : Nat) : Int) ∨ ¬ (((hi - lo : Nat) : Int) - (h2 : Int)).fmod 2 = 1) : rd0 b = rd0 l := by
  rw [Int.fmod_eq_emod_of_nonneg _ (by decide)] at hk
  have e1 := H.i_eq
  have e2 := H.k_eq
  have q1 := P.le
  have q2 := P.len
  have eA : (n : Int) - ((n : Int) - ((n - lo : Nat) : Int)) - ((hi - lo : Nat) : Int) = ((l.length - hi : Nat) : Int) := by clear hk e1 e2; omega
  have eB : ((hi - lo : Nat) : Int) - (h2 : Int) = ((hi - lo - h2 : Nat) : Int) := (Int.natCast_sub h).symm
  rw [eA, eB] at hk
  clear eA eB
  rw [H.eq]
  subst hx
  exact same_words (h2 := h2) P (by clear hk e2; omega) (by clear hk; omega) h hp ha (by clear e1 e2 q1 q2; generalize l.length - hi = a at hk ⊢; generalize hi - lo - h2 = b at hk ⊢; omega)
end Mine
end
section
open PySem PySem.W PyProof.Rows PySem.Calls
set_option maxRecDepth 100000
set_option maxHeartbeats 4000000
set_option pp.deepTerms false
namespace Mine
noncomputable def OnlyTk (s : Shared) (h : Heap) (f : Flow) (s' : Shared) : Prop := f = .next ∧ ∃ tk, 1 ≤ tk ∧ s' = { s with heap := h, toks := tk }
theorem law_holds (w : World) (p : Program) (loose : List Str) (mean : ExcName → Option Value) (mg mb : Str → Option Value) (A : Around) (base g : Heap) (env : Env) (outer : List Env) (s : Shared) (Q E : Value → Shared → Prop)
    (l : List Nat) (am : Nat) (tx ta : Tok) (I : Addr) (vals : List Value) (ci : Nat) (wv : Value) (ps : Array Value)
    (hx : (S l).length < 100) (hl : ∀ c ∈ l, okc c) (ham : am ≤ 3)
    (C : At (Mine.KK w.params) p loose mean mg mb A base env outer g s.heap) (XB : (Mine.KK w.params).In base) (TB : Top p loose mean mg mb base) (D : KtsDicts ((env :: outer).filterMap (·.frame)) g)
    (NA : Led g s.heap [(70, tabObj ps)]) (hps : TriplesOk ps.toList) (htk : 1 ≤ s.toks) (hgs : AllBare s.gens)
    (hI : g.get? I = some (listO vals.toArray ci)) (hit : ItemsV (trans l.length [] l) vals)
    (hw : (wv = .none ∧ rd0 l = .none) ∨ ∃ W cw acc xs, wv = .ref W ∧ g.get? W = some (listO acc cw) ∧ Strs acc.toList xs ∧ rd0 l = some xs)
    (hhd : A.handled = none) (hdp : A.depth + 160 < recursionLimit) (hun : A.units + 1000 < cLine)
    (ret : ∀ h' tk' gs' (ps' : Array Value) g₁, KtsTurn ((env :: outer).filterMap (·.frame)) g g₁ → Below A base (env :: outer) g₁ → (∀ b o, g₁.get? b = some o → h'.get? b = some o) → g₁.objs.size ≤ h'.objs.size → Led g₁ h' [(70, tabObj ps')] → AllBare gs' → TriplesOk ps'.toList → 1 ≤ tk' → Q (.bool true) { s with heap := h', toks := tk', gens := gs' }) :
    wpAny (model PySem.Challenge.rw_ik0204_01.prog w) A (call (.ref 791) [.str (S l) tx, .ref I, wv, .int am ta]) Q E s := by
  have X := C.part
  revert X; k_fill; intro X
  obtain ⟨hd0, dp, fr, gd, un⟩ := A
  have hA := C.below.stack
  cases hA
  cases hhd
  dsimp only at hdp hun
  refine wpAny_call ?_
  k_dflt (refine' enter_def (binds := [(Str.ofString "line", .str (S l) tx), (Str.ofString "items", .ref I), (Str.ofString "words", wv), (Str.ofString "amount", .int am ta)]) C NA ?k6 ?k7 ?k8 ?k9 ?kB ?_ ?c2 ?c3 ?c4 ?c5)
  case k6 => k_is
  case k7 => k_is
  case k8 => ktr_room
  case k9 => first | exact BindsTo.of_eq rfl | exact binds_K (C.part.keeps C.sub) rfl (by k_is) rfl rfl rfl
  case kB => exact locs rfl
  case c2 => exact rfl
  case c3 => exact rfl
  case c4 => exact rfl
  case c5 => decide
  intro L' h' F' N' B' X' T'
  (try dsimp only)
  k_fold
  obtain ⟨lo, hi, P, e1, e2⟩ := parts_of l
  obtain ⟨h2, z1, e3, z3, z4⟩ := slashes_of ((l.drop lo).take (hi - lo))
  obtain ⟨n, hn⟩ : ∃ n, l.length = n := ⟨_, rfl⟩
  have hxl : n < 100 := by rw [S_length, hn] at hx; exact hx
  have q1 := P.le
  have q2 := P.len
  have hxc : ((l.drop lo).take (hi - lo)).length = hi - lo := by rw [List.length_take, List.length_drop]; omega
  have hxd : (l.drop lo).length = n - lo := by rw [List.length_drop, hn]
  rw [hxc] at z1 z3
  obtain ⟨x, hxe⟩ : ∃ x, (l.drop lo).take (hi - lo) = x := ⟨_, rfl⟩
  rw [hxe] at e1 e3 z3 z4 hxc
  obtain ⟨y, hye⟩ : ∃ y, l.drop lo = y := ⟨_, rfl⟩
  rw [hye] at e2 hxd
  obtain ⟨z, hze⟩ : ∃ z, x.take h2 = z := ⟨_, rfl⟩
  have hxz : z.length = h2 := by rw [← hze, List.length_take, hxc]; omega
  rw [hze] at e3
  have hS1 : hi = lo → (S x == Str.ofString "") = true := fun e => by
    rw [ofS_nil, show x = [] from List.eq_nil_of_length_eq_zero (by omega)]; decide +kernel
  have hS2 : ¬ hi = lo → (S x == Str.ofString "") = false := fun e => by
    rw [ofS_nil, beq_eq_false_iff_ne]
    intro h
    rw [S_inj.mp h, List.length_nil] at hxc
    omega
  have hS4 : (S x == Str.ofString "") = true → hi = lo := fun e => Classical.byContradiction fun q => by rw [hS2 q] at e; cases e
  have hS3 : hi = lo → lo = n := fun e => hn ▸ P.empty e
  obtain ⟨q, hq⟩ : ∃ q, vals.length = q := ⟨_, rfl⟩
  have hq1 : q ≤ n := by
    have := trans_size l.length [] l
    rw [hit.length, hq, List.length_nil, hn] at this
    omega
  have hq2 : lo + (n - hi) ≤ q := by
    have := items_len P
    rw [hit.length, hq, hn] at this
    exact this
  have hq3 : q < 1000 := Nat.lt_of_le_of_lt hq1 (Nat.lt_trans hxl (by decide))
  have q2n : hi ≤ n := hn ▸ q2
  have q12 : lo ≤ n := Nat.le_trans q1 q2n
  have hn3 : n < 1000 := Nat.lt_trans hxl (by decide)
  have hn4 : n - lo < 1000 := Nat.lt_of_le_of_lt (Nat.sub_le _ _) hn3
  have hn5 : hi - lo < 1000 := Nat.lt_of_le_of_lt (Nat.le_trans (Nat.sub_le _ _) q2n) hn3
  have hn6 : h2 < 1000 := Nat.lt_of_le_of_lt z1 hn5
  have hx1 : (S l).length < 1000 := by omega
  have hx2 : (S x).length < 1000 := by rw [S_length, hxc]; omega
  repeat' (first | (k_unfold; (try dsimp only)) | ((with_reducible show wpAny _ _ (call (Value.builtin "len") _ _) _ _ _); with_reducible (k_here; (with_reducible show wpAny _ _ (call (Value.builtin _) [Value.str _ _]) _ _ _); (refine len_S (by with_reducible assumption) (by assumption) ?_); intro _ _)) | ((with_reducible show wpAny _ _ (call (Value.builtin "str.lstrip") _ _) _ _ _); with_reducible (k_here; (refine lstrip_S (by with_reducible assumption) (by assumption) ?_); intro _ _)) | ((with_reducible show wpAny _ _ (call (Value.builtin "str.strip") _ _) _ _ _); with_reducible (k_here; (refine strip_S (by with_reducible assumption) (by assumption) ?_); intro _ _)) | ((with_reducible show wpAny _ _ (execs (_ :: _) _) _ _ _); with_reducible (k_here; (with_reducible rename Fr _ _ _ _ => zz_kF); (with_reducible refine execs_consTM zz_kF (by first | assumption | omega) ?_); intro _ _ _ _ _; clear zz_kF)) | (with_reducible ((with_reducible show 1 ≤ _ → _); (try dsimp only); intro _)) | ((fail_if_success (with_reducible show wpAny _ _ (call (Value.ref _) _) _ _ _)); walk1) | ((fail_if_success (with_reducible show wpAny _ _ (call (Value.ref _) _) _ _ _)); dsimp only; (first | ((with_reducible show wpAny _ _ (call (Value.builtin "len") _ _) _ _ _); with_reducible (k_here; (with_reducible show wpAny _ _ (call (Value.builtin _) [Value.str _ _]) _ _ _); (refine len_S (by with_reducible assumption) (by assumption) ?_); intro _ _)) | ((with_reducible show wpAny _ _ (call (Value.builtin "str.lstrip") _ _) _ _ _); with_reducible (k_here; (refine lstrip_S (by with_reducible assumption) (by assumption) ?_); intro _ _)) | ((with_reducible show wpAny _ _ (call (Value.builtin "str.strip") _ _) _ _ _); with_reducible (k_here; (refine strip_S (by with_reducible assumption) (by assumption) ?_); intro _ _)) | ((with_reducible show wpAny _ _ (execs (_ :: _) _) _ _ _); with_reducible (k_here; (with_reducible rename Fr _ _ _ _ => zz_kF); (with_reducible refine execs_consTM zz_kF (by first | assumption | omega) ?_); intro _ _ _ _ _; clear zz_kF)) | (with_reducible ((with_reducible show 1 ≤ _ → _); (try dsimp only); intro _)) | walk1)))
  k_here
  k_dflt (refine' bare_here ?k1 ?kF ?k2 ?k3 ?kN XB TB D ?kA ?kK ?kh ?k6 ?k7 ?k8 ?k9 ?ko ?kb; (case kA => exact rfl); (case kK => exact rfl); (case kh => exact rfl); (case k1 => k_asm); (case k2 => k_asm); (case k3 => k_asm); (case k6 => ktr_room); (case k7 => ktr_units); (case k8 => assumption); (case k9 => assumption); (case kF => k_asm); (case kN => k_asm))
  case kb =>
    intro h9 tk9 g9 hw9 T9 B9 F9 N9
    have X9 := XB.keeps B9.stays
    have TT9 := TB.keeps B9.stays
    have hb8 := bad_of P hn hw9
    have hE9 : hi = lo := Nat.le_antisymm (hb8.1 ▸ q2n) q1
    clear hw9
    k_whole
    repeat' (first | (k_unfold; (try dsimp only)) | ((with_reducible show wpAny _ _ (call (Value.builtin "len") _ _) _ _ _); with_reducible (k_here; (with_reducible show wpAny _ _ (call (Value.builtin _) [Value.str _ _]) _ _ _); (refine len_S (by with_reducible assumption) (by assumption) ?_); intro _ _)) | ((with_reducible show wpAny _ _ (compareOp CmpOp.Eq (Value.str _ _) (Value.str _ _)) _ _ _); with_reducible (k_here; refine eq_lit (b := true) (hS1 hE9) ?_)) | ((with_reducible show wpAny _ _ (execs (_ :: _) _) _ _ _); with_reducible (k_here; (with_reducible rename Fr _ _ _ _ => zz_kF); (with_reducible refine execs_consTM zz_kF (by first | assumption | omega) ?_); intro _ _ _ _ _; clear zz_kF)) | (with_reducible ((with_reducible show 1 ≤ _ → _); (try dsimp only); intro _)) | walk1 | (dsimp only; walk1) | dsimp only)
    with_reducible rename Fr _ _ _ _ => FF
    with_reducible rename News _ _ _ _ => NN
    exact ret _ _ _ ps _ T9 B9 FF.keep (fr_size FF) (leave_led FF NN (fun q hq => hq)).2 hgs hps (by first | assumption | exact Nat.le_add_left _ _)
  case ko =>
    intro i9 k9 t9 h9 tk9 hs9 F9 N9
    have hB9 := bare_of P hn hl hxl hs9
    clear hs9
    revert hB9
    generalize (l.drop i9).take (l.length - i9 - k9) = b9
    intro hB9
    have hb1 := hB9.size
    have hb2 := hB9.size2
    have hb3 := hB9.ok
    have hb4 := hB9.slice
    have hb5 := hB9.i_eq
    have hb6 := hB9.k_eq
    have hb7 := hB9.all
    have hk8 : i9 + k9 ≤ q := fits hb5 hb6 hq2
    clear hq2
    k_whole
    repeat' (first | (k_unfold; (try dsimp only)) | ((with_reducible show wpAny _ _ (execs (_ :: _) _) _ _ _); with_reducible (k_here; (with_reducible rename Fr _ _ _ _ => zz_kF); (with_reducible refine execs_consTM zz_kF (by first | assumption | omega) ?_); intro _ _ _ _ _; clear zz_kF)) | (with_reducible ((with_reducible show 1 ≤ _ → _); (try dsimp only); intro _)) | ((fail_if_success (with_reducible show wpAny _ _ (PySem.exec (Stmt.If (Expr.BoolOp _ _ _) _ _ _) _) _ _ _)); walk1) | ((fail_if_success (with_reducible show wpAny _ _ (PySem.exec (Stmt.If (Expr.BoolOp _ _ _) _ _ _) _) _ _ _)); dsimp only; (first | ((with_reducible show wpAny _ _ (execs (_ :: _) _) _ _ _); with_reducible (k_here; (with_reducible rename Fr _ _ _ _ => zz_kF); (with_reducible refine execs_consTM zz_kF (by first | assumption | omega) ?_); intro _ _ _ _ _; clear zz_kF)) | (with_reducible ((with_reducible show 1 ≤ _ → _); (try dsimp only); intro _)) | walk1)))
    with_reducible rename Fr _ _ _ _ => F7
    with_reducible rename News _ _ _ _ => N7
    rename_i h7 _ _ _ tk7 htk7
    refine cutT (OnlyTk s h7) (by first | assumption | omega) ?_ fun f s' hf => ?_
    · repeat' (first | (k_unfold; (try dsimp only)) | ((with_reducible show wpAny _ _ (call (Value.builtin "len") _ _) _ _ _); with_reducible (k_here; (with_reducible show wpAny _ _ (call (Value.builtin _) [Value.str _ _]) _ _ _); (refine len_S (by with_reducible assumption) (by assumption) ?_); intro _ _)) | ((with_reducible show wpAny _ _ (execs (_ :: _) _) _ _ _); with_reducible (k_here; (with_reducible rename Fr _ _ _ _ => zz_kF); (with_reducible refine execs_consTM zz_kF (by first | assumption | omega) ?_); intro _ _ _ _ _; clear zz_kF)) | ((with_reducible show wpAny _ _ (execs [] _) _ _ _); with_reducible (k_here; (with_reducible refine wpAny_execs_nil ?_); try dsimp only)) | (with_reducible ((with_reducible show 1 ≤ _ → _); (try dsimp only); intro _)) | walk1 | (dsimp only; walk1) | dsimp only)
      all_goals first | exact ⟨rfl, _, by first | assumption | exact Nat.le_add_left _ _, rfl⟩ | (exfalso; have e1 := hb7 (hS3 (hS4 (by assumption))); have e2 : (n : Int) < (am : Int) := (by assumption); clear hb5 hb6; omega)
    obtain ⟨rfl, tk6, htk6, rfl⟩ := hf
    (try dsimp only)
    repeat' (first | (k_unfold; (try dsimp only)) | ((with_reducible show wpAny _ _ (call (Value.builtin "len") _ _) _ _ _); with_reducible (k_here; (with_reducible show wpAny _ _ (call (Value.builtin _) [Value.str _ _]) _ _ _); (refine len_S (by with_reducible assumption) (by assumption) ?_); intro _ _)) | ((with_reducible show wpAny _ _ (call (Value.builtin "min") _ _) _ _ _); with_reducible (k_here; first | (k_dflt (refine' min_v (v := (i9 : Int)) (by k_asm) (by k_asm) rfl (by exact front_v hb5 q12) ?_; k_whole); intro h' tk' t' F' N') | (k_dflt (refine' min_v (v := (k9 : Int)) (by k_asm) (by k_asm) rfl (by exact back_v hb5 hb6 q1 q2n) ?_; k_whole); intro h' tk' t' F' N'))) | ((with_reducible show wpAny _ _ (compareOp CmpOp.NotEq (Value.str _ _) (Value.str _ _)) _ _ _); with_reducible (k_here; refine ne_lit (b := true) (by with_reducible assumption) ?_)) | ((with_reducible show wpAny _ _ (execs (_ :: _) _) _ _ _); with_reducible (k_here; (with_reducible rename Fr _ _ _ _ => zz_kF); (with_reducible refine execs_consTM zz_kF (by first | assumption | omega) ?_); intro _ _ _ _ _; clear zz_kF)) | ((with_reducible show wpAny _ _ (execs [] _) _ _ _); with_reducible (k_here; (with_reducible refine wpAny_execs_nil ?_); try dsimp only)) | (with_reducible ((with_reducible show 1 ≤ _ → _); (try dsimp only); intro _)) | ((fail_if_success (with_reducible show wpAny _ _ (call (Value.ref _) _) _ _ _)); walk1) | ((fail_if_success (with_reducible show wpAny _ _ (call (Value.ref _) _) _ _ _)); dsimp only; (first | ((with_reducible show wpAny _ _ (call (Value.builtin "len") _ _) _ _ _); with_reducible (k_here; (with_reducible show wpAny _ _ (call (Value.builtin _) [Value.str _ _]) _ _ _); (refine len_S (by with_reducible assumption) (by assumption) ?_); intro _ _)) | ((with_reducible show wpAny _ _ (call (Value.builtin "min") _ _) _ _ _); with_reducible (k_here; first | (k_dflt (refine' min_v (v := (i9 : Int)) (by k_asm) (by k_asm) rfl (by exact front_v hb5 q12) ?_; k_whole); intro h' tk' t' F' N') | (k_dflt (refine' min_v (v := (k9 : Int)) (by k_asm) (by k_asm) rfl (by exact back_v hb5 hb6 q1 q2n) ?_; k_whole); intro h' tk' t' F' N'))) | ((with_reducible show wpAny _ _ (compareOp CmpOp.NotEq (Value.str _ _) (Value.str _ _)) _ _ _); with_reducible (k_here; refine ne_lit (b := true) (by with_reducible assumption) ?_)) | ((with_reducible show wpAny _ _ (execs (_ :: _) _) _ _ _); with_reducible (k_here; (with_reducible rename Fr _ _ _ _ => zz_kF); (with_reducible refine execs_consTM zz_kF (by first | assumption | omega) ?_); intro _ _ _ _ _; clear zz_kF)) | ((with_reducible show wpAny _ _ (execs [] _) _ _ _); with_reducible (k_here; (with_reducible refine wpAny_execs_nil ?_); try dsimp only)) | (with_reducible ((with_reducible show 1 ≤ _ → _); (try dsimp only); intro _)) | walk1)))
    k_here
    k_dflt (refine' trans_here ?k1 ?kF ?k2 ?k3 ?kN ?kn ?kA ?kK ?kh ?k6 ?k7 ?k8 ?k9 hps ?kt hgs ?ko; (case kA => exact rfl); (case kK => exact rfl); (case kh => exact rfl); (case k1 => k_asm); (case k2 => k_asm); (case k3 => k_asm); (case k6 => ktr_room); (case k7 => ktr_units); (case k8 => assumption); (case k9 => assumption); (case kF => k_asm); (case kN => k_asm); (case kn => intro q hq; cases hq); (case kt => first | assumption | (dsimp only; omega)))
    intro R8 h8 tk8 gs8 ps8 vals8 c8 hit8 F8 N8 l8 hgs8 hps8 htk8 hvl8
    k_whole
    repeat' (first | (k_unfold; (try dsimp only)) | ((with_reducible show wpAny _ _ (call (Value.builtin "len") _ _) _ _ _); with_reducible (k_here; (with_reducible show wpAny _ _ (call (Value.builtin _) [Value.ref _]) _ _ _); k_dflt (refine' len_I ?F_g5a ?hI_g5a ?hq_g5a ?hz_g5a ?_; (case F_g5a => k_asm); (case hI_g5a => assumption); (case hq_g5a => assumption); (case hz_g5a => assumption); k_whole); intro _ _)) | ((fail_if_success (with_reducible show wpAny _ _ (call (Value.ref _) _) _ _ _)); walk1) | ((fail_if_success (with_reducible show wpAny _ _ (call (Value.ref _) _) _ _ _)); dsimp only; (first | ((with_reducible show wpAny _ _ (call (Value.builtin "len") _ _) _ _ _); with_reducible (k_here; (with_reducible show wpAny _ _ (call (Value.builtin _) [Value.ref _]) _ _ _); k_dflt (refine' len_I ?F_g5a ?hI_g5a ?hq_g5a ?hz_g5a ?_; (case F_g5a => k_asm); (case hI_g5a => assumption); (case hq_g5a => assumption); (case hz_g5a => assumption); k_whole); intro _ _)) | walk1)))
    k_here
    refine' slice_I ?F ?N hI hq ?hz ?hk ?s ?t ?_
    case F => k_asm
    case N => k_asm
    case hz => exact hq3
    case hk => exact hk8
    case s => with_unfolding_all rfl
    case t => kmk_pure
    intro D7 h7' F7' N7'
    k_whole
    repeat' (first | (k_unfold; (try dsimp only)) | ((fail_if_success (with_reducible show wpAny _ _ (compareOp _ (Value.ref _) (Value.ref _)) _ _ _)); walk1) | ((fail_if_success (with_reducible show wpAny _ _ (compareOp _ (Value.ref _) (Value.ref _)) _ _ _)); dsimp only; walk1))
    k_here
    have hq9 : (trans l.length [] l).length = q := hit.length.trans hq
    refine ne_items (N7' (R8, _) (.tail _ (.head _))).1 (N7' (D7, _) (.head _)).1 hit8 ((hit.drop i9).take (q - i9 - k9)) (items_ok hb3) (hB9.items P hn hq9) (by ktr_units) ?_
    have hN9 : News g L' h7' [(70, tabObj ps8)] := fun q hq => N7' q (.tail _ (.tail _ hq))
    clear N7'
    repeat' (first | (k_unfold; (try dsimp only)) | ((with_reducible show wpAny _ _ (call (Value.builtin "len") _ _) _ _ _); with_reducible (k_here; (with_reducible show wpAny _ _ (call (Value.builtin _) [Value.str _ _]) _ _ _); (refine len_S (by with_reducible assumption) (by assumption) ?_); intro _ _)) | ((with_reducible show wpAny _ _ (call (Value.builtin "str.rstrip") _ _) _ _ _); with_reducible (k_here; (refine rstrip_S (by with_reducible assumption) (by assumption) ?_); intro _ _)) | ((with_reducible show wpAny _ _ (execs (_ :: _) _) _ _ _); with_reducible (k_here; (with_reducible rename Fr _ _ _ _ => zz_kF); (with_reducible refine execs_consTM zz_kF (by first | assumption | omega) ?_); intro _ _ _ _ _; clear zz_kF)) | ((with_reducible show wpAny _ _ (execs [] _) _ _ _); with_reducible (k_here; (with_reducible refine wpAny_execs_nil ?_); try dsimp only)) | (with_reducible ((with_reducible show 1 ≤ _ → _); (try dsimp only); intro _)) | ((fail_if_success (with_reducible show wpAny _ _ (call (Value.ref _) _) _ _ _)); walk1) | ((fail_if_success (with_reducible show wpAny _ _ (call (Value.ref _) _) _ _ _)); dsimp only; (first | ((with_reducible show wpAny _ _ (call (Value.builtin "len") _ _) _ _ _); with_reducible (k_here; (with_reducible show wpAny _ _ (call (Value.builtin _) [Value.str _ _]) _ _ _); (refine len_S (by with_reducible assumption) (by assumption) ?_); intro _ _)) | ((with_reducible show wpAny _ _ (call (Value.builtin "str.rstrip") _ _) _ _ _); with_reducible (k_here; (refine rstrip_S (by with_reducible assumption) (by assumption) ?_); intro _ _)) | ((with_reducible show wpAny _ _ (execs (_ :: _) _) _ _ _); with_reducible (k_here; (with_reducible rename Fr _ _ _ _ => zz_kF); (with_reducible refine execs_consTM zz_kF (by first | assumption | omega) ?_); intro _ _ _ _ _; clear zz_kF)) | ((with_reducible show wpAny _ _ (execs [] _) _ _ _); with_reducible (k_here; (with_reducible refine wpAny_execs_nil ?_); try dsimp only)) | (with_reducible ((with_reducible show 1 ≤ _ → _); (try dsimp only); intro _)) | walk1)))
    · have ho : rd0 b9 = .none := hB9.odd P hn hxe z1 z3 z4 (by assumption) (by assumption)
      refine lread_here (h₀ := g) (by k_asm) (by k_asm) (by k_asm) (by k_asm) (by k_asm) XB TB D rfl rfl rfl (by ktr_room) (by ktr_units) hb2 hb3 ?_ ?_
      · intro xs7 h7 tk7 c7 acc7 g7 R7 hw7
        rw [ho] at hw7
        cases hw7
      · intro h7 tk7 g7 hw7 T7 B7 F7 N7
        k_whole
        repeat' (first | (k_unfold; (try dsimp only)) | (with_reducible ((with_reducible show 1 ≤ _ → _); (try dsimp only); intro _)) | walk1 | (dsimp only; walk1) | dsimp only)
        with_reducible rename Fr _ _ _ _ => FF
        with_reducible rename News _ _ _ _ => NN
        exact ret _ _ _ ps8 _ T7 B7 FF.keep (fr_size FF) (leave_led FF NN (fun q hq => hq)).2 hgs8 hps8 (by first | assumption | exact Nat.le_add_left _ _)
    all_goals
      have ev : rd0 b9 = rd0 l := hB9.even P hn hxe z1 z3 z4 (by first | exact .inl (by assumption) | exact .inr (.inl (by assumption)) | exact .inr (.inr (by assumption)))
      refine lread_here (h₀ := g) (by k_asm) (by k_asm) (by k_asm) (by k_asm) (by k_asm) XB TB D rfl rfl rfl (by ktr_room) (by ktr_units) hb2 hb3 ?_ ?_
      · intro xs7 h7 tk7 c7 acc7 g7 R7 hw7 hs7 T7 B7 F7 N7
        rcases hw with ⟨rfl, hno⟩ | ⟨W, cw, acc, xs, rfl, hW, hSt, hrd⟩
        · rw [ev, hno] at hw7
          cases hw7
        · rw [ev, hrd] at hw7
          cases hw7
          have hW7 := turn_list D T7 hW
          k_whole
          repeat' (first | (k_unfold; (try dsimp only)) | ((fail_if_success (with_reducible show wpAny _ _ (compareOp _ (Value.ref _) (Value.ref _)) _ _ _)); walk1) | ((fail_if_success (with_reducible show wpAny _ _ (compareOp _ (Value.ref _) (Value.ref _)) _ _ _)); dsimp only; walk1))
          refine eq_words (N7 (R7, _) (.head _)).1 (F7.keep _ _ hW7) hs7 hSt (words_ok hb3 (ev.trans hrd)) rfl (by ktr_units) ?_
          repeat' (first | (k_unfold; (try dsimp only)) | (with_reducible ((with_reducible show 1 ≤ _ → _); (try dsimp only); intro _)) | walk1 | (dsimp only; walk1) | dsimp only)
          with_reducible rename Fr _ _ _ _ => FF
          with_reducible rename News _ _ _ _ => NN
          exact ret _ _ _ ps8 _ T7 B7 FF.keep (fr_size FF) (leave_led FF NN (fun q hq => .tail _ hq)).2 hgs8 hps8 (by first | assumption | exact Nat.le_add_left _ _)
      · intro h7 tk7 g7 hw7 T7 B7 F7 N7
        rcases hw with ⟨rfl, hno⟩ | ⟨W, cw, acc, xs, rfl, hW, hSt, hrd⟩
        · k_whole
          repeat' (first | (k_unfold; (try dsimp only)) | (with_reducible ((with_reducible show 1 ≤ _ → _); (try dsimp only); intro _)) | walk1 | (dsimp only; walk1) | dsimp only)
          with_reducible rename Fr _ _ _ _ => FF
          with_reducible rename News _ _ _ _ => NN
          exact ret _ _ _ ps8 _ T7 B7 FF.keep (fr_size FF) (leave_led FF NN (fun q hq => hq)).2 hgs8 hps8 (by first | assumption | exact Nat.le_add_left _ _)
        · rw [ev, hrd] at hw7
          cases hw7
end Mine
end
section
open PySem PySem.W PyProof.Rows PySem.Calls
set_option maxRecDepth 100000
set_option maxHeartbeats 4000000
set_option pp.deepTerms false
namespace Mine
section
variable {w : World} {p : Program} {loose : List Str} {mean : ExcName → Option Value} {mg mb : Str → Option Value} {A A₀ : Around} {h₀ g H₁ h' : Heap} {L : Addr} {m : Str → Option Value} {news rest : List (Addr × Obj)} {s : Shared} {env : Env}
theorem only_frame (hf : env.frame = some L) : [env].filterMap (·.frame) = [L] := by simp [hf]
/-- nothing below the law's frame is turned -/
theorem turn_base {g' : Heap} (T : KtsTurn [] h₀ g') (F : Fr g' L h' m) (N : News g' L h' news) : Fr h₀ L h' m ∧ News h₀ L h' news := by
  refine ⟨⟨F.ns, fun b o e => F.keep b o (T.other b o e (fun h => nomatch h)), by rw [← T.size]; exact F.above⟩, fun q hq => ⟨(N q hq).1, (N q hq).2.1, ?_⟩⟩
  cases z : h₀.get? q.1 with
  | none => rfl
  | some o =>
    have y := T.other _ _ z (fun h => nomatch h)
    rw [(N q hq).2.2] at y
    cases y
theorem law_turn (s : Shared) {G : Heap} (B : Below A₀ h₀ [] h₀) (hf : env.frame = some L) (F : Fr h₀ L G m) (N : News h₀ L G rest) (T : KtsTurn ([env].filterMap (·.frame)) G H₁) (k : ∀ b o, H₁.get? b = some o → h'.get? b = some o) (LD : Led H₁ h' news) :
    Fr h₀ L h' m ∧ News h₀ L h' (news ++ rest) := by
  rw [only_frame hf] at T
  obtain ⟨g', T', B', F', N', no⟩ := turn_back (name := "") (scope := { kind := .function, names := [], isGenerator := false, isCoroutine := false }) (a := 0) (cd := .none) (s := { s with heap := G }) (outer := []) B F N T k
  refine turn_base T' F' fun q hq => ?_
  rcases List.mem_append.mp hq with hq | hq
  · have z := LD q hq
    have y := no _ _ z.2 z.1
    exact ⟨z.1, y.2, y.1⟩
  · exact N' q hq
variable {Q E : Value → Shared → Prop} {l : List Nat} {am : Nat} {tx ta tq : Tok}
theorem law_trans {ps : Array Value} (B : Below A₀ h₀ [] h₀) (F : Fr h₀ L s.heap m) (X : (Mine.KK w.params).In h₀) (T : Top p loose mean mg mb h₀) (N : News h₀ L s.heap ((70, tabObj ps) :: rest)) (no : ∀ q ∈ rest, q.1 ≠ 70)
    (hA : A.frames = some [env]) (hf : env.frame = some L) (hke : env.scope.kind = .function) (hhd : A.handled = none) (hdp : A.depth + 40 < recursionLimit) (hun : A.units + 400 < cLine)
    (hx : (S l).length < 100) (hl : ∀ c ∈ l, okc c) (hps : TriplesOk ps.toList) (htk : 1 ≤ s.toks) (hgs : AllBare s.gens)
    (ret : ∀ R h' tk' gs' (ps' : Array Value) (vals : List Value) c, ItemsV (trans l.length [] l) vals → Fr h₀ L h' m → News h₀ L h' ((70, tabObj ps') :: (R, W.listOf vals.toArray c) :: rest) → @LT.lt Nat _ 70 R → AllBare gs' → TriplesOk ps'.toList → 1 ≤ tk' → Q (.ref R) { s with heap := h', toks := tk', gens := gs' }) :
    wpAny (model PySem.Challenge.rw_ik0204_01.prog w) A (call (.ref 75) [.str (S l) tx, .none, .str (Str.ofString "?") tq]) Q E s := by
  obtain ⟨C, LD, F'⟩ := at_with (l := [(70, tabObj ps)]) B F X T (fun q hq => N q (List.mem_append_left (as := [(70, tabObj ps)]) rest hq)) hA hf hke
  refine translate w p loose mean mg mb A h₀ _ _ [] s Q E tx tq l ps hx hl C LD (codeHd w.params C.part) hps htk hgs hhd hdp hun fun R h' tk' gs' ps' vals c hit kp LD' lt hgs' hps' htk' hvl => ?_
  obtain ⟨F2, N2⟩ := back_with (l := [(70, tabObj ps)]) (rest := rest) F N (fun q hq hm => no q hq (List.mem_singleton.mp hm)) kp LD'
  refine ret R h' tk' gs' ps' vals c hit F2 (fun q hq => N2 q ?_) lt hgs' hps' htk'
  rcases List.mem_cons.mp hq with rfl | hq
  · exact .tail _ (.head _)
  rcases List.mem_cons.mp hq with rfl | hq
  · exact .head _
  · exact .tail _ (.tail _ hq)
theorem law_read' (B : Below A₀ h₀ [] h₀) (F : Fr h₀ L s.heap m) (X : (Mine.KK w.params).In h₀) (T : Top p loose mean mg mb h₀) (N : News h₀ L s.heap rest)
    (hA : A.frames = some [env]) (hf : env.frame = some L) (hke : env.scope.kind = .function) (hhd : A.handled = none) (hdp : A.depth + 100 < recursionLimit) (hun : A.units + 800 < cLine)
    (hx : (S l).length < 1000) (hl : ∀ c ∈ l, okc c)
    (ret : ∀ xs h' tk' c' (acc' : Array Value) R, rd0 l = some xs → Strs acc'.toList xs → Fr h₀ L h' m → News h₀ L h' ((R, listO acc' c') :: rest) → Q (.ref R) { s with heap := h', toks := tk' })
    (bad : ∀ h' tk', rd0 l = .none → Fr h₀ L h' m → News h₀ L h' rest → Q .none { s with heap := h', toks := tk' }) :
    wpAny (model PySem.Challenge.rw_ik0204_01.prog w) A (call (.ref 777) [.str (S l) tx]) Q E s := by
  have C := at_here B F X T hA hf hke
  have D : KtsDicts ([env].filterMap (·.frame)) s.heap := by
    rw [only_frame hf]
    intro b hb
    rw [List.mem_singleton.mp hb]
    obtain ⟨o, es, ep, e, hd, _⟩ := F.ns
    exact ⟨o, es, ep, e, hd⟩
  refine law_read w p loose mean mg mb A h₀ _ _ [] s Q E l tx hx hl C X T D hhd hdp hun (fun xs h' tk' c' acc' g₁ R hw hs T1 B1 k1 _ hR hR0 => ?_) fun h' tk' g₁ hw T1 B1 k1 _ => ?_
  · obtain ⟨F', N'⟩ := law_turn s (news := [(R, listO acc' c')]) B hf F N T1 k1 (fun q hq => by rw [List.mem_singleton.mp hq]; exact ⟨hR, hR0⟩)
    exact ret xs h' tk' c' acc' R (words_eq.symm.trans hw) hs F' N'
  · obtain ⟨F', N'⟩ := law_turn s (news := []) B hf F N T1 k1 (fun q hq => nomatch hq)
    exact bad h' tk' (words_eq.symm.trans hw) F' N'
theorem law_hold {ps : Array Value} {I : Addr} {vals : List Value} {ci : Nat} {wv : Value} (B : Below A₀ h₀ [] h₀) (F : Fr h₀ L s.heap m) (X : (Mine.KK w.params).In h₀) (T : Top p loose mean mg mb h₀) (N : News h₀ L s.heap ((70, tabObj ps) :: rest)) (no : ∀ q ∈ rest, q.1 ≠ 70)
    (hA : A.frames = some [env]) (hf : env.frame = some L) (hke : env.scope.kind = .function) (hhd : A.handled = none) (hdp : A.depth + 160 < recursionLimit) (hun : A.units + 1000 < cLine)
    (hx : (S l).length < 100) (hl : ∀ c ∈ l, okc c) (ham : am ≤ 3) (hps : TriplesOk ps.toList) (htk : 1 ≤ s.toks) (hgs : AllBare s.gens)
    (hI : (I, listO vals.toArray ci) ∈ rest) (hit : ItemsV (trans l.length [] l) vals)
    (hw : (wv = .none ∧ rd0 l = .none) ∨ ∃ W cw acc xs, wv = .ref W ∧ (W, listO acc cw) ∈ rest ∧ Strs acc.toList xs ∧ rd0 l = some xs)
    (ret : ∀ h' tk' gs' (ps' : Array Value), Fr h₀ L h' m → News h₀ L h' ((70, tabObj ps') :: rest) → AllBare gs' → TriplesOk ps'.toList → 1 ≤ tk' → Q (.bool true) { s with heap := h', toks := tk', gens := gs' }) :
    wpAny (model PySem.Challenge.rw_ik0204_01.prog w) A (call (.ref 791) [.str (S l) tx, .ref I, wv, .int am ta]) Q E s := by
  obtain ⟨C, LD, F'⟩ := at_with (l := [(70, tabObj ps)]) B F X T (fun q hq => N q (List.mem_append_left (as := [(70, tabObj ps)]) rest hq)) hA hf hke
  have NR : News h₀ L (hideAll s.heap ([(70, tabObj ps)].map (·.1))) rest := fun q hq => by
    have z := N q (.tail _ hq)
    exact ⟨hideAll_get _ z.1 (fun hm => no q hq (List.mem_singleton.mp hm)), z.2⟩
  have D : KtsDicts ([env].filterMap (·.frame)) (hideAll s.heap ([(70, tabObj ps)].map (·.1))) := by
    rw [only_frame hf]
    intro b hb
    rw [List.mem_singleton.mp hb]
    obtain ⟨o, es, ep, e, hd, _⟩ := F'.ns
    exact ⟨o, es, ep, e, hd⟩
  refine law_holds w p loose mean mg mb A h₀ _ _ [] s Q E l am tx ta I vals ci wv ps hx hl ham C X T D LD hps htk hgs (NR _ hI).1 hit ?_ hhd hdp hun fun h' tk' gs' ps' g₁ T1 B1 k1 _ LD' hgs' hps' htk' => ?_
  · rcases hw with hw | ⟨W, cw, acc, xs, e1, e2, e3, e4⟩
    · exact .inl hw
    · exact .inr ⟨W, cw, acc, xs, e1, (NR _ e2).1, e3, e4⟩
  · obtain ⟨F2, N2⟩ := law_turn s (news := [(70, tabObj ps')]) B hf F' NR T1 k1 LD'
    exact ret h' tk' gs' ps' F2 N2 hgs' hps' htk'
end
end Mine
end
section
set_option maxRecDepth 100000
set_option maxHeartbeats 4000000
namespace Mine
open PySem PySem.W PyProof.Rows PySem.Spec PySem.Calls
section
variable {prog : Program} {w : World} {A : Around} {E : Value → Shared → Prop} {s : Shared} {h₀ : Heap} {L : Addr} {m : Str → Option Value} {env : Env}
/-- how a turn of the comprehension ends -/
inductive TurnOut (h₀ : Heap) (L : Addr) (m : Str → Option Value) (s₁ : Shared) (I : Addr) (oI : Obj) (C : Addr) (oC : Obj) (D : Addr) (oD : Obj) (J : List (Addr × Obj) → Array GenState → Prop) (y : Value) (s' : Shared) : Prop
  | mk (q0 : y = .bool true) (h' : Heap) (tk' : Nat) (gs' : Array GenState) (news' : List (Addr × Obj)) (q2 : s' = { s₁ with heap := h', toks := tk', gens := gs' }) (q3 : Fr h₀ L h' m) (q4 : News h₀ L h' ((I, oI) :: (C, oC) :: (D, oD) :: news')) (q5 : LCg.Off3 I C D news') (q6 : 1 ≤ tk') (q7 : J news' gs') : TurnOut h₀ L m s₁ I oI C oC D oD J y s'
/-- what the comprehension over four numbers asks of its turns and its end -/
noncomputable def Turns4 (prog : Program) (w : World) (A : Around) (h₀ : Heap) (L : Addr) (m : Str → Option Value) (env : Env) (elt : Expr) (x : Str) (scope : Scope) (cl : List (Str × Addr)) (J : List (Addr × Obj) → Array GenState → Prop) (s₁ : Shared) : Prop :=
  ∀ i I oI C oC D ys m₂ h tk gs news' (E' : Value → Shared → Prop), i < 4 → LCg.NsObj oC m₂ → (∃ t, m₂ x = some (.int (i : Nat) t)) → Fr h₀ L h m → News h₀ L h ((I, oI) :: (C, oC) :: (D, LCg.lst ys) :: news') → LCg.Off3 I C D news' →
    ((@Ne Nat I C) ∧ (@Ne Nat I D) ∧ (@Ne Nat C D)) → 1 ≤ tk → J news' gs →
    wpAny (model prog w) A (eval elt (compEnvC scope cl C env)) (TurnOut h₀ L m s₁ I oI C oC D (LCg.lst ys) J) E' { s₁ with heap := h, toks := tk, gens := gs }
noncomputable def End4 (h₀ : Heap) (L : Addr) (m : Str → Option Value) (J : List (Addr × Obj) → Array GenState → Prop) (Q : Value → Shared → Prop) (s₁ : Shared) : Prop :=
  ∀ D h tk gs news', Fr h₀ L h m → News h₀ L h ((D, LCg.lst [.bool true, .bool true, .bool true, .bool true]) :: news') → LCg.Off1 D news' → 1 ≤ tk → J news' gs → Q (.ref D) { s₁ with heap := h, toks := tk, gens := gs }
/-- what the range gives -/
inductive Src4 (prog : Program) (w : World) (A : Around) (h₀ : Heap) (L : Addr) (m : Str → Option Value) (env : Env) (elt : Expr) (x : Str) (scope : Scope) (cl : List (Str × Addr)) (J : List (Addr × Obj) → Array GenState → Prop) (Q : Value → Shared → Prop) (xv : Value) (s₁ : Shared) : Prop
  | mk (r : Addr) (t u v : Tok) (news : List (Addr × Obj)) (q1 : xv = .ref r) (q2 : Fr h₀ L s₁.heap m) (q3 : News h₀ L s₁.heap news) (q4 : IsRange s₁.heap r 0 4 1 t u v) (q5 : 1 ≤ s₁.toks) (q6 : J news s₁.gens) (q7 : Turns4 prog w A h₀ L m env elt x scope cl J s₁) (q8 : End4 h₀ L m J Q s₁) : Src4 prog w A h₀ L m env elt x scope cl J Q xv s₁
inductive CompInv (h₀ : Heap) (L : Addr) (m : Str → Option Value) (dr : Drawn) (os : OsState) (I C D : Addr) (J : List (Addr × Obj) → Array GenState → Prop) (k : Nat) (s' : Shared) : Prop
  | mk (h' : Heap) (tk : Nat) (gs : Array GenState) (i : Nat) (m' : Str → Option Value) (news' : List (Addr × Obj)) (q1 : s' = ⟨h', gs, dr, tk, os⟩) (q2 : i ≤ 4) (q3 : k = 5 - i) (q4 : 1 ≤ tk)
    (q5 : IsRangeIter h' I (0 + ((i : Nat) : Int) * 1) (((4 : Nat) : Int) - ((i : Nat) : Int)) 1) (q6 : Fr h₀ L h' m) (q7 : h'.Ns C m') (q8 : News h₀ L h' ((D, LCg.lst (List.replicate i (.bool true))) :: news')) (q9 : LCg.Off3 I C D news') (q10 : J news' gs) : CompInv h₀ L m dr os I C D J k s'
theorem comp_J {elt iter : Expr} {x : Str} {px : Pos} {scope : Scope} {cl : List (Str × Addr)} {pos : Pos} {Q : Value → Shared → Prop} (J : List (Addr × Obj) → Array GenState → Prop)
    (hclos : closureFor scope env = pure cl) (hcell : ∀ y ∈ scope.names, y.2 ≠ .cell) (hkind : scope.kind = .function)
    (hnames : ∀ y ∈ scope.names, y.2 = .local → scope.names.lookup y.1 = some .local) (hx : scope.names.lookup x = some .local) (hh : A.handled = none)
    (h : wpAny (model prog w) A (eval iter env) (Src4 prog w A h₀ L m env elt x scope cl J Q) E s)
    (hs : ∀ x, foldedSetIterable iter env x = pure x := by intro _; rfl) :
    wpAny (model prog w) A (eval (.ListComp elt [⟨.Name x px, iter, [], 0⟩] scope pos) env) Q E s := by
  rw [eval_ListComp]
  refine wpAny_comprehension_free (use := none) rfl hs hclos hkind hnames (wpAny_mono h (fun xv s₁ h₁ => ?_) fun _ _ e => e)
  obtain ⟨r, t, u, v, news, rfl, F, N, hr, htk, hJ, turn, fin⟩ := h₁
  refine wpAny_pyIter_range hr (by decide) ?_
  obtain ⟨hp, gs₁, dr, tk₁, os⟩ := s₁
  dsimp only at F N hr htk hJ ⊢
  have W := LCg.range_walks (prog := prog) (w := w) (A := A) (I := hp.objs.size) hh 0 4
  generalize hi₂ : hp.push _ = hp₂
  have up₂ : ∀ b o, hp.get? b = some o → hp₂.get? b = some o := fun b o e => by subst hi₂; exact Heap.get?_push_of_some _ e
  have hst : IsRangeIter hp₂ hp.objs.size (0 + ((0 : Nat) : Int) * 1) (((4 : Nat) : Int) - ((0 : Nat) : Int)) 1 := by subst hi₂; exact Heap.get?_push_size _ rfl
  have hsz₂ : hp₂.objs.size = hp.objs.size + 1 := by subst hi₂; exact Heap.size_push ..
  clear hi₂
  generalize hI : hp.objs.size = I at *
  have FI : I < hp₂.objs.size := by omega
  have hIL : L ≠ I := hI ▸ Nat.ne_of_lt F.ns.lt
  have hI₀ : h₀.get? I = none := hI ▸ next_is_new F
  have off : ∀ p ∈ news, p.1 ≠ I := fun p hp => hI ▸ Nat.ne_of_lt (Heap.lt_size (N p hp).1)
  have F := F.keeps up₂
  have N := N.grown up₂
  clear up₂ hI hsz₂ hr
  refine wpAny_newObj_type (wpAny_newFunctionEnv hcell (by intro y hy; simp at hy) (fun h₁ hns₁ hsb₁ => ?_) hkind)
  dsimp only at hns₁ hsb₁ ⊢
  generalize hH2 : hp₂.push { cls := .type "list", dict := none, data := .seq ([] : List Value).toArray } = H2 at hns₁ hsb₁ ⊢
  have hC : H2.objs.size = hp₂.objs.size + 1 := by rw [← hH2, Heap.size_push]
  have old : ∀ b o, hp₂.get? b = some o → h₁.get? b = some o := fun b o e => hsb₁.extBut b o (by rw [hC]; exact Nat.ne_of_lt (Nat.lt_succ_of_lt (Heap.lt_size e))) (hH2 ▸ Heap.get?_push_of_some _ e |> fun z => Heap.get?_push_of_some _ z)
  have hacc : h₁.get? hp₂.objs.size = some (LCg.lst []) := hsb₁.extBut _ _ (by rw [hC]; exact Nat.ne_of_lt (Nat.lt_succ_self _)) (Heap.get?_push_of_some _ (hH2 ▸ Heap.get?_push_size _ rfl))
  have fresh₀ : ∀ a, hp₂.objs.size ≤ a → h₀.get? a = none := fun a ha => by
    cases e : h₀.get? a with
    | none => rfl
    | some o' => exact absurd (Heap.lt_size (F.keep a o' e)) (Nat.not_lt.mpr ha)
  have hLlt : L < hp₂.objs.size := F.ns.lt
  have hNlt : ∀ p ∈ news, p.1 < hp₂.objs.size := fun p hp => Heap.lt_size (N p hp).1
  generalize hDe : hp₂.objs.size = D at *
  generalize hCe : H2.objs.size = C at *
  have hD₀ : h₀.get? D = none := fresh₀ _ (Nat.le_refl _)
  have hC₀ : h₀.get? C = none := fresh₀ _ (by rw [hC]; exact Nat.le_succ _)
  have hDL : D ≠ L := Ne.symm (Nat.ne_of_lt hLlt)
  have hCL : C ≠ L := Ne.symm (Nat.ne_of_lt (hC ▸ Nat.lt_succ_of_lt hLlt))
  have hCI : I ≠ C := Nat.ne_of_lt (hC ▸ Nat.lt_succ_of_lt FI)
  have hDI : I ≠ D := Nat.ne_of_lt FI
  have hDC : D ≠ C := Nat.ne_of_lt (hC ▸ Nat.lt_succ_self _)
  have off₀ : LCg.Off3 I C D news := LCg.Off3.of fun p hp => ⟨off p hp, Nat.ne_of_lt (hC ▸ Nat.lt_succ_of_lt (hNlt p hp)), Nat.ne_of_lt (hNlt p hp)⟩
  have hst₁ : IsRangeIter h₁ I (0 + ((0 : Nat) : Int) * 1) (((4 : Nat) : Int) - ((0 : Nat) : Int)) 1 := old _ _ hst
  have F₁ := F.keeps old
  have N₁ : News h₀ L h₁ ((D, LCg.lst []) :: news) := fun p hp => by
    rcases List.mem_cons.mp hp with rfl | hp
    · exact ⟨hacc, hDL, hD₀⟩
    · exact ⟨old _ _ (N p hp).1, (N p hp).2⟩
  clear old hacc fresh₀ hLlt hNlt hsb₁ hH2 hst F N FI off
  have loop : ∀ s₃ : Shared, s₃ = ⟨h₁, gs₁, dr, tk₁ + ([] : List (Str × Value)).length, os⟩ →
      codeAny (model prog w) A (.compLoop (.ListComp elt [⟨.Name x px, iter, [], 0⟩] scope pos) 0 (.ref I) (.ref D) (compEnvC scope cl C env))
        (compPost (model prog w) A E none Q (.ref D) C) s₃ := by
    rintro s₃ rfl
    refine codeAny_compLoop_tests
      (CompInv h₀ L m dr os I C D J) ?_ 5
      ⟨h₁, _, gs₁, 0, _, news, rfl, Nat.zero_le _, rfl, htk, hst₁, F₁, hns₁, N₁, off₀, hJ⟩
    clear hst₁ F₁ N₁ off₀ hJ hns₁ htk
    rintro k s' ⟨h', tk, gs, i, m', news', rfl, hi, rfl, htk', hst', F', hn', N', off', hJ'⟩
    have off3 := off'.mem
    by_cases hlt : i < 4
    · refine with_toksQ (n := 1) htk' ?_
      refine W.item i _ _ _ hlt hst' fun v h₂ tk₂ hPv hst₂ hk₂ htk₂ => ?_
      refine with_toksQ (n := 1) htk₂ ?_
      refine wpAny_assign_Name (wpAny_storeName_local (lookup_relabel_local hx) (hn'.at' fun o e => hk₂ _ o (by simpa using Ne.symm hCI) e) (fun h₃ hn₃ hs₃ htk₃ => ?_) (by simp [compEnvC, relabel, hkind]))
      refine wpAny_tests_nil ?_
      simp only [if_true]
      have hst₃ : IsRangeIter h₃ I (0 + ((i + 1 : Nat) : Int) * 1) (((4 : Nat) : Int) - ((i + 1 : Nat) : Int)) 1 := hs₃.extBut _ _ hCI hst₂
      obtain ⟨oI, heI, hoI⟩ : ∃ oI, h₃.get? I = some oI ∧ ∀ h'', h''.get? I = some oI → IsRangeIter h'' I (0 + ((i + 1 : Nat) : Int) * 1) (((4 : Nat) : Int) - ((i + 1 : Nat) : Int)) 1 := ⟨_, hst₃, fun _ e => e⟩
      obtain ⟨oC, heC, hoC⟩ := LCg.ns_obj hn₃
      have F₃ : Fr h₀ L h₃ m := (LCg.fr_but F' hk₂ hIL hI₀).change hs₃ hCL hC₀
      have N₂ : News h₀ L h₂ ((D, LCg.lst (List.replicate i (.bool true))) :: news') := LCg.news_but N' hk₂ fun p hp => by
        rcases List.mem_cons.mp hp with rfl | hp
        · exact Ne.symm hDI
        · exact (off3 p hp).1
      have N₃ : News h₀ L h₃ ((I, oI) :: (C, oC) :: (D, LCg.lst (List.replicate i (.bool true))) :: news') := fun p hp => by
        rcases List.mem_cons.mp hp with rfl | hp
        · exact ⟨heI, Ne.symm hIL, hI₀⟩
        · rcases List.mem_cons.mp hp with rfl | hp
          · exact ⟨heC, hCL, hC₀⟩
          · have z := N₂ p hp
            refine ⟨hs₃.extBut _ _ ?_ z.1, z.2⟩
            rcases List.mem_cons.mp hp with rfl | hp
            · exact hDC
            · exact (off3 p hp).2.1
      refine wpAny_mono (turn i I oI C oC D _ _ h₃ _ gs news' _ hlt hoC (by obtain ⟨t, rfl⟩ := hPv; exact ⟨t, by simp⟩) F₃ N₃ off' ⟨hCI, hDI, Ne.symm hDC⟩ htk₃ hJ') (fun y s₄ h₄ => ?_) fun _ _ e => e
      obtain ⟨rfl, h₄, tk₄, gs₄, news₄, rfl, F₄, N₄, off₄, htk₄, hJ₄⟩ := h₄
      have zI := (N₄ (I, oI) List.mem_cons_self).1
      have zC := (N₄ (C, oC) (List.mem_cons_of_mem _ List.mem_cons_self)).1
      have zD := (N₄ (D, LCg.lst (List.replicate i (.bool true))) (List.mem_cons_of_mem _ (List.mem_cons_of_mem _ List.mem_cons_self))).1
      have N₄' : News h₀ L h₄ news₄ := fun p hp => N₄ p (List.mem_cons_of_mem _ (List.mem_cons_of_mem _ (List.mem_cons_of_mem _ hp)))
      refine append_at (hsz := by show (List.replicate i (Value.bool true)).toArray.size ≤ sizeLine; rw [List.size_toArray, List.length_replicate, sizeLine_eq]; omega) zD fun h₅ hs₅ hD₅ => ?_
      have off4 := off₄.mem
      refine ⟨5 - (i + 1), by omega, h₅, tk₄, gs₄, i + 1, _, news₄, rfl, hlt, rfl, htk₄, hs₅.extBut _ _ hDI (hoI _ zI), F₄.change hs₅ hDL hD₀, (hoC.ns zC).sameBut hs₅ (Ne.symm hDC), fun p hp => ?_, off₄, hJ₄⟩
      rcases List.mem_cons.mp hp with rfl | hp
      · refine ⟨hD₅.trans (congrArg some ((LCg.lst_snoc _ _).trans ?_)), hDL, hD₀⟩
        rw [List.replicate_succ']
      · exact ⟨hs₅.extBut _ _ (off4 p hp).2.2 (N₄' p hp).1, (N₄' p hp).2⟩
    · obtain rfl : i = 4 := Nat.le_antisymm hi (Nat.not_lt.mp hlt)
      refine with_toksQ (n := 1) htk' ?_
      refine W.done _ _ _ hst' fun h₂ tk₂ hk₂ htk₂ => ?_
      have N₂ := LCg.news_but N' hk₂ fun p hp => by
        rcases List.mem_cons.mp hp with rfl | hp
        · exact Ne.symm hDI
        · exact (off3 p hp).1
      have F₂ := LCg.fr_but F' hk₂ hIL hI₀
      refine ⟨m', hn'.at' fun o e => hk₂ _ o (by simpa using Ne.symm hCI) e, fun h'' hs'' => fin D h'' _ gs news' (F₂.change hs'' hCL hC₀) (fun p hp => ?_) off'.one htk₂ hJ'⟩
      refine ⟨hs''.extBut _ _ ?_ (N₂ p hp).1, (N₂ p hp).2⟩
      rcases List.mem_cons.mp hp with rfl | hp
      · exact hDC
      · exact (off3 p hp).2.1
  exact codeAny_compStart_list (loop _ rfl) (W.self 0 _ _ _ hst₁ (loop _ rfl))
/-- between two turns: the table has grown, all else stands -/
noncomputable def JJ (rest : List (Addr × Obj)) (nw : List (Addr × Obj)) (gs : Array GenState) : Prop := AllBare gs ∧ ∃ ps, nw = (70, tabObj ps) :: rest ∧ TriplesOk ps.toList
theorem comp_law {rest : List (Addr × Obj)} {ps : Array Value} (_F : Fr h₀ L s.heap m) (_N : News h₀ L s.heap ((70, tabObj ps) :: rest)) {elt iter : Expr} {x : Str} {px : Pos} {scope : Scope} {cl : List (Str × Addr)} {pos : Pos} {Q : Value → Shared → Prop}
    (hclos : closureFor scope env = pure cl) (hcell : ∀ y ∈ scope.names, y.2 ≠ .cell) (hkind : scope.kind = .function)
    (hnames : ∀ y ∈ scope.names, y.2 = .local → scope.names.lookup y.1 = some .local) (hx : scope.names.lookup x = some .local) (hh : A.handled = none)
    (h : wpAny (model prog w) A (eval iter env) (Src4 prog w A h₀ L m env elt x scope cl (JJ rest) Q) E s)
    (hs : ∀ x, foldedSetIterable iter env x = pure x := by intro _; rfl) :
    wpAny (model prog w) A (eval (.ListComp elt [⟨.Name x px, iter, [], 0⟩] scope pos) env) Q E s := comp_J (JJ rest) hclos hcell hkind hnames hx hh h hs
theorem news_swap {h : Heap} {a b : Addr × Obj} {r : List (Addr × Obj)} (N : News h₀ L h (a :: b :: r)) : News h₀ L h (b :: a :: r) := fun q hq => N q (by
  rcases List.mem_cons.mp hq with rfl | hq
  · exact .tail _ (.head _)
  rcases List.mem_cons.mp hq with rfl | hq
  · exact .head _
  · exact .tail _ (.tail _ hq))
/-- the table brought to the head -/
theorem news_table {h : Heap} {a b c d : Addr × Obj} {r : List (Addr × Obj)} (N : News h₀ L h (a :: b :: c :: d :: r)) : News h₀ L h (d :: a :: b :: c :: r) := fun q hq => N q (by
  rcases List.mem_cons.mp hq with rfl | hq
  · exact .tail _ (.tail _ (.tail _ (.head _)))
  rcases List.mem_cons.mp hq with rfl | hq
  · exact .head _
  rcases List.mem_cons.mp hq with rfl | hq
  · exact .tail _ (.head _)
  rcases List.mem_cons.mp hq with rfl | hq
  · exact .tail _ (.tail _ (.head _))
  · exact .tail _ (.tail _ (.tail _ (.tail _ hq))))
theorem table_news {h : Heap} {a b c d : Addr × Obj} {r : List (Addr × Obj)} (N : News h₀ L h (d :: a :: b :: c :: r)) : News h₀ L h (a :: b :: c :: d :: r) := fun q hq => N q (by
  rcases List.mem_cons.mp hq with rfl | hq
  · exact .tail _ (.head _)
  rcases List.mem_cons.mp hq with rfl | hq
  · exact .tail _ (.tail _ (.head _))
  rcases List.mem_cons.mp hq with rfl | hq
  · exact .tail _ (.tail _ (.tail _ (.head _)))
  rcases List.mem_cons.mp hq with rfl | hq
  · exact .head _
  · exact .tail _ (.tail _ (.tail _ (.tail _ hq))))
end
end Mine
end
section
set_option maxRecDepth 100000
set_option maxHeartbeats 4000000
namespace Mine
open PySem PySem.W PyProof.Rows PySem.Spec PySem.Calls
/-- a good end, whose generators are all bare -/
noncomputable def GoodB (c : ClaimW) (cl : Str → Option Addr) (args : List WData) (s₁ : Shared) (res : Result) (s' : Shared) : Prop :=
  (∃ v d, res = .ok (.ret v) ∧ ReadsW c.records cl s'.heap v d [] ∧ c.post args d args = true ∧ ∀ x, c.raises args x = false) ∧ (∀ b o, s₁.heap.get? b = some o → s'.heap.get? b = some o) ∧ s'.os = s₁.os ∧ AllBare s'.gens
/-- one table apart, that may have grown -/
theorem post_one {M : Model} {A : Around} {cd : Code} {s s₁ : Shared} {cw : ClaimW} {cl : Str → Option Addr} {mean : ExcName → Option Value} {args : List WData} {c P : Addr} (hT : TabsAt [(c, P)] s₁.heap)
    (h : codeAny M A cd (fun r s' => GoodB cw cl args { s₁ with heap := ghostOf s₁.heap [(c, P)] } r s' ∧ GrownAll [(c, P)] s'.heap) s) : codeAny M A cd (GoodWG cw cl mean args s₁) s := by
  refine codeAny_mono h fun r s' hq => ?_
  obtain ⟨⟨⟨v, d, rfl, h1, h2, h3⟩, hk, hos, hg⟩, hgr⟩ := hq
  obtain ⟨ps, hP⟩ := hgr.1
  have ht := hT (c, P) (.head _)
  have tab : s₁.heap.get? P = some (tabObj #[]) := ht.2
  have kept : ∀ b o, b ≠ P → s₁.heap.get? b = some o → s'.heap.get? b = some o := fun b o hb e =>
    hk b o (ghost_ne e (by simpa using hb))
  refine ⟨.inl ⟨v, d, [], rfl, h3, h1, h2, fun _ => ⟨List.nodup_nil, fun a ha => nomatch ha⟩⟩, ⟨fun b o e => ?_, fun b o e => ?_⟩, hos, hg⟩
  · by_cases hb : b = P
    · subst hb
      rw [tab] at e
      cases e
      exact .inr (.inl ⟨(ht.1.tab ht.2).isCodeTable, rfl, #[], ps, rfl, by rw [Array.empty_append]; exact hP⟩)
    · exact .inl (kept b o hb e)
  · by_cases hb : b = P
    · subst hb; exact ⟨_, hP⟩
    · exact ⟨o, kept b o hb e⟩
end Mine
end
section
open PySem PySem.W PyProof.Rows PySem.Calls PySem.Builtin PySem.Builtin.Str PySem.StrLaws PyProof.V
set_option maxRecDepth 100000
set_option maxHeartbeats 4000000
namespace Mine
noncomputable def tailOk (tl : List Nat) : Prop := tl.length ≤ 4 ∧ ∀ c ∈ tl, okc c
noncomputable abbrev signs : Str := Str.ofString " a\\'\"[]*!-"
/-- the sign of a draw -/
noncomputable def gch (k : Int) : Str := Txt.item signs (k.fmod 10)
theorem gch_S (k : Int) : ∃ c, okc c ∧ gch k = S [c] := by
  have h0 : 0 ≤ k.fmod 10 := Int.fmod_nonneg_of_pos _ (by decide)
  have h1 : k.fmod 10 < 10 := Int.fmod_lt_of_pos _ (by decide)
  unfold gch
  generalize k.fmod 10 = j at h0 h1
  obtain rfl | rfl | rfl | rfl | rfl | rfl | rfl | rfl | rfl | rfl : j = 0 ∨ j = 1 ∨ j = 2 ∨ j = 3 ∨ j = 4 ∨ j = 5 ∨ j = 6 ∨ j = 7 ∨ j = 8 ∨ j = 9 := by omega
  · exact ⟨32, by simp [okc], by decide +kernel⟩
  · exact ⟨97, by simp [okc], by decide +kernel⟩
  · exact ⟨92, by simp [okc], by decide +kernel⟩
  · exact ⟨39, by simp [okc], by decide +kernel⟩
  · exact ⟨34, by simp [okc], by decide +kernel⟩
  · exact ⟨91, by simp [okc], by decide +kernel⟩
  · exact ⟨93, by simp [okc], by decide +kernel⟩
  · exact ⟨42, by simp [okc], by decide +kernel⟩
  · exact ⟨33, by simp [okc], by decide +kernel⟩
  · exact ⟨45, by simp [okc], by decide +kernel⟩
theorem codes : ∀ ns : List Int, ∃ l : List Nat, l.length = ns.length ∧ (∀ c ∈ l, okc c) ∧ ns.map gch = l.map fun c => S [c]
  | [] => ⟨[], rfl, (by simp), rfl⟩
  | k :: ns => by
    obtain ⟨c, hc, e⟩ := gch_S k
    obtain ⟨l, h1, h2, h3⟩ := codes ns
    exact ⟨c :: l, by simp [h1], fun d hd => by
      rcases List.mem_cons.mp hd with rfl | hd
      · exact hc
      · exact h2 d hd, by simp [e, h3]⟩
theorem join_one : ∀ l : List Nat, Txt.join (Str.ofString "") (l.map fun c => S [c]) = S l := by
  have go : ∀ (r : List Nat) (acc : Array Nat), ((r.map fun c => S [c]).foldl (fun acc (p : Str) => acc ++ (Str.ofString "").cps ++ p.cps) acc) = acc ++ r.toArray := by
    intro r
    induction r with
    | nil => intro acc; simp
    | cons c r ih =>
      intro acc
      rw [List.map_cons, List.foldl_cons, ih, ofS_nil]
      apply Array.toList_inj.mp
      simp [S]
  intro l
  cases l with
  | nil => show glued _ [] = _; rfl
  | cons c r =>
    show glued (Str.ofString "") (S [c] :: r.map fun c => S [c]) = _
    unfold glued
    show (⟨_⟩ : Str) = ⟨_⟩
    rw [List.headD_cons, List.drop_one, List.tail_cons, go]
    congr 1
    apply Array.toList_inj.mp
    simp [S]
theorem draws9 {ys : List Value} {ns : List Int} {f : Int → Int} (h : IntsAre ys (List.map f (List.take 9 ns))) : (List.map f (List.take 9 ns)).length ≤ 9 := by rw [List.length_map, List.length_take]; exact Nat.min_le_left _ _
section
variable {prog : Program} {w : World} {A : Around} {s : Shared} {Q E : Value → Shared → Prop}
theorem strs_of : ∀ {ys : List Value} {ns : List Int}, CarriedAll ys (ns.map fun k => PyData.str (gch k)) → StrsAre ys (ns.map gch)
  | [], [], _ => .nil
  | _ :: _, k :: ns, .cons h hr => by
    cases h
    exact .cons _ _ (strs_of hr)
theorem join_draws {D : Addr} {ys : List Value} {ns : List Int} {t : Tok} (hl : s.heap.IsList D ys.toArray) (hc : CarriedAll ys (ns.map fun k => PyData.str (gch k))) (hn : ns.length ≤ 9)
    (h : ∀ l t' k, l.length ≤ 9 → (∀ c ∈ l, okc c) → Q (.str (S l) t') { s with toks := k }) : wpAny (model prog w) A (call (.builtin "str.join") [.str (Str.ofString "") t, .ref D]) Q E s := by
  obtain ⟨l, h1, h2, h3⟩ := codes ns
  have hs := strs_of hc
  rw [h3] at hs
  refine join_list hl (by simpa using hs) ?_ fun t' k => ?_
  · have e : ((l.map fun c => S [c]).map (·.length)).sum = l.length := by
      clear h1 h2 h3 hs
      induction l with
      | nil => rfl
      | cons c r ih =>
        simp only [List.map_cons, List.sum_cons, List.length_cons, ih, S_length, List.length_nil]
        omega
    rw [e, List.length_map, show (Str.ofString "").length = 0 from by decide +kernel]
    omega
  · rw [join_one]
    exact h l t' k (by omega) h2
theorem item_any {value slice : PySem.Expr} {D : Addr} {k : Int} {u : Tok} {its : Array Value} {v : Value} (hl : s.heap.IsList D its) (h0 : 0 ≤ k) (h2 : k < 2 ^ 63) (hx : its[k.toNat]? = some v) (h : Q v s)
    (hs : subscripted slice false (.ref D) (.int k u) = operate [.ref D, .int k u] (getItem (.ref D) (.int k u))) : wpAny (model prog w) A (subscriptTail value slice (.ref D) (.int k u)) Q E s :=
  tail_any hl.typeIs slot_list_getitem.lookup (wpAny_getItem_list hl h0 h2 hx h) hs
theorem tail_item {value slice : PySem.Expr} {D : Addr} {k : Int} {u t1 t2 t3 t4 : Tok} (hl : s.heap.IsList D #[.str (Str.ofString "\\ ") t1, .str (Str.ofString "") t2, .str (Str.ofString "a  ") t3, .str (Str.ofString "\\\\  ") t4])
    (h : ∀ tl t, tailOk tl → Q (.str (S tl) t) s)
    (hs : subscripted slice false (.ref D) (.int (k.fmod 4) u) = operate [.ref D, .int (k.fmod 4) u] (getItem (.ref D) (.int (k.fmod 4) u))) :
    wpAny (model prog w) A (subscriptTail value slice (.ref D) (.int (k.fmod 4) u)) Q E s := by
  have h0 : 0 ≤ k.fmod 4 := Int.fmod_nonneg_of_pos _ (by decide)
  have h1 : k.fmod 4 < 4 := Int.fmod_lt_of_pos _ (by decide)
  generalize k.fmod 4 = j at h0 h1 hs ⊢
  obtain rfl | rfl | rfl | rfl : j = 0 ∨ j = 1 ∨ j = 2 ∨ j = 3 := by omega
  · exact item_any (v := .str (Str.ofString "\\ ") t1) hl (by decide) (by decide) rfl (by rw [show Str.ofString "\\ " = S [92, 32] from by decide +kernel]; exact h _ _ ⟨by decide, by simp [okc]⟩) hs
  · exact item_any (v := .str (Str.ofString "") t2) hl (by decide) (by decide) rfl (by rw [show Str.ofString "" = S [] from by decide +kernel]; exact h _ _ ⟨by decide, by simp⟩) hs
  · exact item_any (v := .str (Str.ofString "a  ") t3) hl (by decide) (by decide) rfl (by rw [show Str.ofString "a  " = S [97, 32, 32] from by decide +kernel]; exact h _ _ ⟨by decide, by simp [okc]⟩) hs
  · exact item_any (v := .str (Str.ofString "\\\\  ") t4) hl (by decide) (by decide) rfl (by rw [show Str.ofString "\\\\  " = S [92, 92, 32, 32] from by decide +kernel]; exact h _ _ ⟨by decide, by simp [okc]⟩) hs
theorem add_S {x y : List Nat} {t u : Tok} (h : x.length + y.length ≤ 1000) (hq : ∀ t' k, Q (.str (S (x ++ y)) t') { s with toks := k }) : wpAny (model prog w) A (PySem.binaryOp .Add (.str (S x) t) (.str (S y) u)) Q E s := by
  refine PyProof.Rows.add_str (fun t' k => ?_) (by rw [S_length, S_length, sizeLine_eq]; omega)
  rw [S_append]
  exact hq t' k
theorem add_blank {y : List Nat} {t u : Tok} (h : y.length ≤ 900) (hq : ∀ t' k, Q (.str (S (32 :: y)) t') { s with toks := k }) : wpAny (model prog w) A (PySem.binaryOp .Add (.str (Str.ofString " ") t) (.str (S y) u)) Q E s := by
  rw [ofS_blank]
  exact add_S (by simp; omega) hq
end
theorem post_true (args : List WData) : PySem.Challenge.rw_ik0204_01.row.claim.post args (.bool true) args = true := by
  refine postW_of (X := true) ?_ ?_ rfl
  · rfl
  · simp [OpenLaw.row, WTm.value, PySem.W.same]
theorem line_len {l tl : List Nat} (h : l.length ≤ 9) (ht : tailOk tl) : (S ((32 :: l) ++ tl)).length < 100 := by
  have := ht.1
  rw [S_length, List.length_append, List.length_cons]
  omega
theorem line_ok {l tl : List Nat} (h : ∀ c ∈ l, okc c) (ht : tailOk tl) : ∀ c ∈ (32 :: l) ++ tl, okc c := fun c hc => by
  rcases List.mem_append.mp hc with hc | hc
  · rcases List.mem_cons.mp hc with rfl | hc
    · simp [okc]
    · exact h c hc
  · exact ht.2 c hc
end Mine
end
section
open PySem PySem.W PyProof.Rows PySem.Calls
set_option maxRecDepth 100000
set_option maxHeartbeats 8000000
set_option pp.deepTerms false
namespace Mine
set_option hygiene false in
local macro_rules | `(tactic| kn_posts) => `(tactic| refine post_one hT9 ?_)
theorem law_all : PySem.Challenge.rw_ik0204_01.Holds := by
  refine Mine.head (by rfl) (by rfl) (by rfl) ?_
  delta HK
  k_go0
  all_goals try k_fold
  repeat' (first | (k_unfold; (try dsimp only)) | ((fail_if_success (with_reducible show wpAny _ _ (subscriptTail (PySem.Expr.List _ _) _ (Value.ref _) (Value.int _ _)) _ _ _)); walk1) | ((fail_if_success (with_reducible show wpAny _ _ (subscriptTail (PySem.Expr.List _ _) _ (Value.ref _) (Value.int _ _)) _ _ _)); dsimp only; walk1))
  with_reducible rename News _ _ _ _ => N9
  refine' tail_item (News.isList N9 (.head _)) ?_ ?s
  case s => intros; rfl
  intro tl ttl htl
  repeat' (first | (k_unfold; (try dsimp only)) | ((fail_if_success (with_reducible show wpAny _ _ (eval (PySem.Expr.ListComp _ _ _ _) _) _ _ _)); walk1) | ((fail_if_success (with_reducible show wpAny _ _ (eval (PySem.Expr.ListComp _ _ _ _) _) _ _ _)); dsimp only; walk1))
  k_here
  k_dflt (refine LCg.ListComp_U (F₀ := by k_asm) (by with_unfolding_all rfl) (by decide) (by rfl) (by decide) (by rfl) ?_)
  walk1
  with_reducible rename News _ _ _ _ => N8
  with_reducible rename IntsAre _ (List.map _ _) => hI8
  have hd9 := draws9 hI8
  refine LCg.CompSrc.ledger (by rfl) (by k_asm) N8 (.tail _ (.head _)) ?hz ?_
  case hz => rw [List.size_toArray, hI8.length, sizeLine_eq]; omega
  intro g'
  refine kct_list gch hI8 (fun k' t' I' oI' C' oC' D' m' ys' h' tk' E' hk' hC' hx' F' N' off' ne' => ?_) ?_
  · (show KPfMark → _)
    intro hMark'
    (try simp only [LCg.Off3, and_true] at off')
    repeat' (first | (k_unfold; (try dsimp only)) | ((fail_if_success (with_reducible show KCtEl _ _ _ _)); walk1) | ((fail_if_success (with_reducible show KCtEl _ _ _ _)); dsimp only; walk1))
    exact kct_el rfl rfl rfl
  · unfold KPfDone
    intro ys2 hc2 hl2
    unfold LCg.FinE
    intro D2 h2 tk2 F2 N2 o2
    (try simp only [LCg.Off1, and_true] at o2)
    (try simp only [List.nil_append, List.cons_append] at N2)
    dsimp only
    repeat' (first | (k_unfold; (try dsimp only)) | ((fail_if_success (with_reducible show wpAny _ _ (call (Value.builtin _) [Value.str _ _, Value.ref _]) _ _ _)); walk1) | ((fail_if_success (with_reducible show wpAny _ _ (call (Value.builtin _) [Value.str _ _, Value.ref _]) _ _ _)); dsimp only; walk1))
    k_here
    refine join_draws (News.isList N2 (.head _)) hc2 hd9 fun l2 t2 k2 hl9 hok2 => ?_
    repeat' (first | (k_unfold; (try dsimp only)) | ((fail_if_success (with_reducible show wpAny _ _ (PySem.binaryOp _ (Value.str _ _) _) _ _ _)); walk1) | ((fail_if_success (with_reducible show wpAny _ _ (PySem.binaryOp _ (Value.str _ _) _) _ _ _)); dsimp only; walk1))
    k_here
    refine add_blank (by omega) fun t3 k3 => ?_
    repeat' (first | (k_unfold; (try dsimp only)) | ((fail_if_success (with_reducible show wpAny _ _ (PySem.binaryOp _ (Value.str _ _) _) _ _ _)); walk1) | ((fail_if_success (with_reducible show wpAny _ _ (PySem.binaryOp _ (Value.str _ _) _) _ _ _)); dsimp only; walk1))
    k_here
    refine add_S (by have := htl.1; rw [List.length_cons]; omega) fun t4 k4 => ?_
    have hx4 := line_len hl9 htl
    have hok4 := line_ok hok2 htl
    clear hl9 hok2 htl
    generalize (32 :: l2) ++ tl = l4 at *
    repeat' (first | (k_unfold; (try dsimp only)) | ((fail_if_success (with_reducible show wpAny _ _ (call (Value.ref _) _) _ _ _)); walk1) | ((fail_if_success (with_reducible show wpAny _ _ (call (Value.ref _) _) _ _ _)); dsimp only; walk1))
    with_reducible rename News _ _ _ _ => N5
    with_reducible rename Fr _ _ _ _ => F5
    have N6 : News _ _ _ ((70, tabObj #[]) :: [_, _, _]) := fun q hq => N5 q (by
      rcases List.mem_cons.mp hq with rfl | hq
      · exact .tail _ (.tail _ (.tail _ (.tail _ (.tail _ (.tail _ (.tail _ (.head _)))))))
      · exact .tail _ (.tail _ (.tail _ (.tail _ (List.mem_append_left (as := [_, _, _]) [(70, tabObj #[])] hq)))))
    clear N5
    k_here
    k_dflt (refine' law_trans ?kB F5 ?kX ?kT N6 ?kn ?kA ?kf ?kk ?kh ?kd ?ku hx4 hok4 ?kp ?kt ?kg ?ko; (case kB => k_asm); (case kX => k_asm); (case kT => k_asm); (case kA => exact rfl); (case kf => exact rfl); (case kk => exact rfl); (case kh => exact rfl))
    case kd => ktr_room
    case ku => ktr_units
    case kp => exact True.intro
    case kt => exact Nat.le_add_left _ _
    case kg => exact AllBare.of_eq (by assumption)
    case kn =>
      intro q hq
      rcases List.mem_cons.mp hq with rfl | hq
      · show @Ne Nat _ _; omega
      rcases List.mem_cons.mp hq with rfl | hq
      · show @Ne Nat _ _; omega
      rcases List.mem_cons.mp hq with rfl | hq
      · show @Ne Nat _ _; omega
      cases hq
    intro R5 h5 tk5 gs5 ps5 vals5 c5 hit5 F5' N5' l5 hgs5 hps5 htk5
    k_whole
    clear F5 N6
    repeat' (first | (k_unfold; (try dsimp only)) | ((fail_if_success (with_reducible show wpAny _ _ (call (Value.ref _) _) _ _ _)); walk1) | ((fail_if_success (with_reducible show wpAny _ _ (call (Value.ref _) _) _ _ _)); dsimp only; walk1))
    with_reducible rename News _ _ _ _ => N4
    (try simp only [List.cons_append, List.nil_append] at N4)
    k_here
    k_dflt (refine' law_read' ?kB7 ?kF7 ?kX7 ?kT7 N4 ?kA7 ?kf7 ?kk7 ?kh7 ?kd7 ?ku7 (by omega) hok4 ?ko7 ?kb7; (case kB7 => k_asm); (case kF7 => k_asm); (case kX7 => k_asm); (case kT7 => k_asm); (case kA7 => exact rfl); (case kf7 => exact rfl); (case kk7 => exact rfl); (case kh7 => exact rfl); (case kd7 => ktr_room); (case ku7 => ktr_units))
    · intro xs6 h6 tk6 c6 acc6 R6 hw6 hs6 F6 N6
      clear N4
      have hR6 : @Ne Nat R6 70 := fun e => by
        have a := (N6 _ (.head _)).1
        have b := (N6 _ (.tail _ (.head _))).1
        rw [show (R6, listO acc6 c6).1 = 70 from e] at a
        rw [show ((70 : Addr), tabObj ps5).1 = 70 from rfl, a] at b
        injection b with b
        have := congrArg Obj.cls b
        cases this
      k_whole
      repeat' (first | (k_unfold; (try dsimp only)) | ((fail_if_success (with_reducible show wpAny _ _ (eval (PySem.Expr.ListComp _ _ _ _) _) _ _ _)); walk1) | ((fail_if_success (with_reducible show wpAny _ _ (eval (PySem.Expr.ListComp _ _ _ _) _) _ _ _)); dsimp only; walk1))
      with_reducible rename Fr _ _ _ _ => F7
      with_reducible rename News _ _ _ _ => N7
      (try simp only [List.cons_append, List.nil_append] at N7)
      k_here
      have N8 := news_swap N7
      clear N7
      k_dflt (refine comp_law F7 N8 (by with_unfolding_all rfl) (by decide) (by rfl) (by decide) (by rfl) rfl ?_)
      repeat' (first | (k_unfold; (try dsimp only)) | ((fail_if_success (with_reducible show wpAny _ _ (call (Value.type _) _) _ _ _)); walk1) | ((fail_if_success (with_reducible show wpAny _ _ (call (Value.type _) _) _ _ _)); dsimp only; walk1))
      refine with_toksQ (n := 1) (Nat.le_add_left _ _) ?_
      walk1
      intro htkR
      with_reducible rename News _ _ _ _ => N9
      with_reducible rename Fr _ _ _ _ => F9
      refine ⟨_, _, _, _, _, rfl, F9, N9, (by assumption), htkR, ⟨hgs5, ps5, rfl, hps5⟩, ?_, ?_⟩
      · intro i I1 oI1 C1 oC1 D1 ys1 m1 hh1 tk1 gs1 nw1 E1 hi1 hC1 hx1 FT NT off1 ne1 htk1 hJ1
        obtain ⟨hgs1, ps1, rfl, hps1⟩ := hJ1
        obtain ⟨t1, hx1⟩ := hx1
        clear F9 N9
        repeat' (first | (k_unfold; (try dsimp only)) | ((fail_if_success (with_reducible show wpAny _ _ (call (Value.ref _) _) _ _ _)); walk1) | ((fail_if_success (with_reducible show wpAny _ _ (call (Value.ref _) _) _ _ _)); dsimp only; walk1))
        k_here
        refine law_hold (am := i) (by k_asm) FT (by k_asm) (by k_asm) (news_table NT) ?_ rfl rfl rfl rfl (by ktr_room) (by ktr_units) hx4 hok4 (by omega) hps1 (by first | assumption | exact Nat.le_add_left _ _) hgs1 (.tail _ (.tail _ (.tail _ (.tail _ (.head _))))) hit5 (.inr ⟨R6, c6, acc6, xs6, rfl, .tail _ (.tail _ (.tail _ (.head _))), hs6, hw6⟩) ?_
        · intro q hq
          have o1 := off1.1
          rcases List.mem_cons.mp hq with rfl | hq
          · exact fun e => o1.1 e.symm
          rcases List.mem_cons.mp hq with rfl | hq
          · exact fun e => o1.2.1 e.symm
          rcases List.mem_cons.mp hq with rfl | hq
          · exact fun e => o1.2.2 e.symm
          rcases List.mem_cons.mp hq with rfl | hq
          · exact hR6
          rcases List.mem_cons.mp hq with rfl | hq
          · exact Nat.ne_of_gt l5
          rcases List.mem_cons.mp hq with rfl | hq
          · show @Ne Nat _ _; omega
          rcases List.mem_cons.mp hq with rfl | hq
          · show @Ne Nat _ _; omega
          rcases List.mem_cons.mp hq with rfl | hq
          · show @Ne Nat _ _; omega
          cases hq
        · intro h3 tk3 gs3 ps3 F3 N3 hgs3 hps3 htk3
          exact ⟨rfl, h3, tk3, gs3, _, rfl, F3, table_news N3, ⟨off1.1, off1.2⟩, htk3, hgs3, ps3, rfl, hps3⟩
      · intro D1 hh1 tk1 gs1 nw1 FT NT off1 htk1 hJ1
        obtain ⟨hgs1, ps1, rfl, hps1⟩ := hJ1
        clear F9 N9
        repeat' (first | (k_unfold; (try dsimp only)) | walk1 | (dsimp only; walk1))
        with_reducible rename Fr _ _ _ _ => F2
        refine ⟨⟨.bool true, _, rfl, ReadsW.bool true, ?_, fun _ => rfl⟩, F2.keep, rfl, hgs1⟩
        exact post_true _
    · intro h6 tk6 hw6 F6 N6
      clear N4
      k_whole
      repeat' (first | (k_unfold; (try dsimp only)) | ((fail_if_success (with_reducible show wpAny _ _ (eval (PySem.Expr.ListComp _ _ _ _) _) _ _ _)); walk1) | ((fail_if_success (with_reducible show wpAny _ _ (eval (PySem.Expr.ListComp _ _ _ _) _) _ _ _)); dsimp only; walk1))
      with_reducible rename Fr _ _ _ _ => F7
      with_reducible rename News _ _ _ _ => N7
      (try simp only [List.cons_append, List.nil_append] at N7)
      k_here
      have N8 := N7
      clear N7
      k_dflt (refine comp_law F7 N8 (by with_unfolding_all rfl) (by decide) (by rfl) (by decide) (by rfl) rfl ?_)
      repeat' (first | (k_unfold; (try dsimp only)) | ((fail_if_success (with_reducible show wpAny _ _ (call (Value.type _) _) _ _ _)); walk1) | ((fail_if_success (with_reducible show wpAny _ _ (call (Value.type _) _) _ _ _)); dsimp only; walk1))
      refine with_toksQ (n := 1) (Nat.le_add_left _ _) ?_
      walk1
      intro htkR
      with_reducible rename News _ _ _ _ => N9
      with_reducible rename Fr _ _ _ _ => F9
      refine ⟨_, _, _, _, _, rfl, F9, N9, (by assumption), htkR, ⟨hgs5, ps5, rfl, hps5⟩, ?_, ?_⟩
      · intro i I1 oI1 C1 oC1 D1 ys1 m1 hh1 tk1 gs1 nw1 E1 hi1 hC1 hx1 FT NT off1 ne1 htk1 hJ1
        obtain ⟨hgs1, ps1, rfl, hps1⟩ := hJ1
        obtain ⟨t1, hx1⟩ := hx1
        clear F9 N9
        repeat' (first | (k_unfold; (try dsimp only)) | ((fail_if_success (with_reducible show wpAny _ _ (call (Value.ref _) _) _ _ _)); walk1) | ((fail_if_success (with_reducible show wpAny _ _ (call (Value.ref _) _) _ _ _)); dsimp only; walk1))
        k_here
        refine law_hold (am := i) (by k_asm) FT (by k_asm) (by k_asm) (news_table NT) ?_ rfl rfl rfl rfl (by ktr_room) (by ktr_units) hx4 hok4 (by omega) hps1 (by first | assumption | exact Nat.le_add_left _ _) hgs1 (.tail _ (.tail _ (.tail _ (.head _)))) hit5 (.inl ⟨rfl, hw6⟩) ?_
        · intro q hq
          have o1 := off1.1
          rcases List.mem_cons.mp hq with rfl | hq
          · exact fun e => o1.1 e.symm
          rcases List.mem_cons.mp hq with rfl | hq
          · exact fun e => o1.2.1 e.symm
          rcases List.mem_cons.mp hq with rfl | hq
          · exact fun e => o1.2.2 e.symm
          rcases List.mem_cons.mp hq with rfl | hq
          · exact Nat.ne_of_gt l5
          rcases List.mem_cons.mp hq with rfl | hq
          · show @Ne Nat _ _; omega
          rcases List.mem_cons.mp hq with rfl | hq
          · show @Ne Nat _ _; omega
          rcases List.mem_cons.mp hq with rfl | hq
          · show @Ne Nat _ _; omega
          cases hq
        · intro h3 tk3 gs3 ps3 F3 N3 hgs3 hps3 htk3
          exact ⟨rfl, h3, tk3, gs3, _, rfl, F3, table_news N3, ⟨off1.1, off1.2⟩, htk3, hgs3, ps3, rfl, hps3⟩
      · intro D1 hh1 tk1 gs1 nw1 FT NT off1 htk1 hJ1
        obtain ⟨hgs1, ps1, rfl, hps1⟩ := hJ1
        clear F9 N9
        repeat' (first | (k_unfold; (try dsimp only)) | walk1 | (dsimp only; walk1))
        with_reducible rename Fr _ _ _ _ => F2
        refine ⟨⟨.bool true, _, rfl, ReadsW.bool true, ?_, fun _ => rfl⟩, F2.keep, rfl, hgs1⟩
        exact post_true _
end Mine
end
theorem PySem.Challenge.cw_ik0204_01_holds : PySem.Challenge.rw_ik0204_01.Holds :=
  Mine.law_all
