import PyProof.Rows.All
import Wide.All
import OpenK.AllK
import Wide.FinOn
import Lean
import PySem.Challenge.RW_il0143_01
open PySem PySem.W PySem.Spec PySem.Calls PyProof.Rows
set_option Elab.async false
set_option maxRecDepth 100000
set_option compiler.extract_closed false
namespace Mine
section
open PySem PySem.W PyProof.Rows
set_option Elab.async false
set_option maxRecDepth 100000
set_option maxHeartbeats 0
/-! what stands in the heap when the law is called, as far as it is written out; the bodies are the program's own -/
noncomputable abbrev sS := PySem.Str.ofString
noncomputable def kE (P : Params) (k : String) (t : Tok) (v : Value) : DictEntry := { hash := PyData.keyHash P (sS k), key := .str (sS k) t, val := v }
noncomputable def stAt (i : Nat) : Stmt := (PySem.Challenge.pw_il0143_01.main.body.drop i).headD (.Pass default)
noncomputable def stIn (c : Stmt) (i : Nat) : Stmt := match c with
  | .ClassDef _ _ _ b _ _ _ _ _ _ _ => (b.drop i).headD (.Pass default)
  | _ => c
noncomputable def mkF (st : Stmt) (q : Str) (m c : Value) (cl : List (Str × Addr)) (ct : Value) : Obj := match st with
  | .FunctionDef n a b _ _ _ sc _ _ _ => { cls := .type "function", data := .func { name := n, qualname := q, params := a, body := .stmts b, scope := sc, globals := 3, closure := cl, defaults := .none, kwdefaults := .none, pyModule := m, code := c, closureTuple := ct } }
  | _ => { cls := .none, data := .dict #[] }
noncomputable def KH (P : Params) : Frag := [
(2, { cls := .none, data := .dict #[kE P "\x69mport.loaded._sre" 183 (.bool true), kE P "class._frozen_importlib.BuiltinImporter" 185 (.ref 14), kE P "watched.\x69mport" 206 (.ref 18), kE P "class._frozen_importlib.ModuleSpec" 216 (.ref 22), kE P "sys.modules.booked-epoch" 245 (.int 4 0), kE P "\x69mport.later-laid._sre" 270 (.bool true), kE P "watched.library" 272 (.ref 27), kE P "watched.library-objects" 0 (.str (sS "\x0c\x1e") 0), kE P "watched.library-deep._sre" 273 (.str (sS "\x04\x00\x00\x0b\x04\x00\x00\x0b\x04\x00\x00\x03\x04\x00\x00\x0b\x08\x04dict\x02") 0), kE P "\x69mport.loaded._collections" 280 (.bool true), kE P "sys.modules.landed._collections" 294 (.bool true), kE P "\x69mport.later-laid._collections" 309 (.bool true), kE P "watched.library-deep._collections" 311 (.str (sS "\x04\x00\x00\x1d\x04\x00\x00\x1d\x04\x00\x00\x03\x04\x00\x00\x1d\x08\x04dict\x02") 0), kE P "type.__subclasses__.collections.defaultdict.0" 751 (.int 209 0), kE P "type.__subclasses__.collections.defaultdict.n" 752 (.int 1 0)] 15 }),
(3, { cls := .type "dict", data := .dict #[kE P "__name__" 165 (.str (sS "law_il0143_01") 755), kE P "__doc__" 166 (.none), kE P "__package__" 167 (.none), kE P "__loader__" 168 (.builtin "__main__.__loader__#opaque"), kE P "__spec__" 169 (.none), kE P "__annotations__" 170 (.ref 6), kE P "__builtins__" 171 (.ref 4), kE P "__file__" 173 (.str (sS "/claim/cut.py") 172), kE P "__cached__" 174 (.none), kE P "_sre" 275 (.ref 12), kE P "defaultdict" 317 (.type "collections.defaultdict"), kE P "_wall" 330 (.ref 44), kE P "_plain_name" 341 (.ref 51), kE P "ABCMeta" 367 (.ref 68), kE P "_ABCLike" 410 (.ref 101), kE P "_abc_plain_meta" 417 (.ref 110), kE P "fspath" 429 (.ref 117), kE P "_check_arg_types" 442 (.ref 124), kE P "_get_sep" 451 (.ref 131), kE P "join" 462 (.ref 138), kE P "split" 473 (.ref 145), kE P "splitroot" 482 (.ref 152), kE P "normpath" 497 (.ref 159), kE P "_twin_re_1" 535 (.ref 164), kE P "_special_chars_map" 683 (.ref 166), kE P "escape" 690 (.ref 176), kE P "_translate" 711 (.ref 183), kE P "FreezableDefaultDict" 754 (.ref 209), kE P "_law_one" 764 (.ref 220), kE P "_law_takes" 770 (.ref 225), kE P "_law_book" 781 (.ref 232), kE P "_law_walk" 787 (.ref 237), kE P "_law_names" 797 (.ref 244), kE P "_law_fits" 803 (.ref 249), kE P "_law_rows" 809 (.ref 254), kE P "law" 815 (.ref 259)] 36 }),
(38, { cls := .type "tuple", data := .seq #[] }),
(40, { cls := .type "tuple", data := .seq #[.str (sS "k") 327] }),
(41, { cls := .type "tuple", data := .seq #[] }),
(43, { cls := .type "code", data := .fields #[.str (sS "_wall") 324, .str (sS "_wall") 325, .str (sS "/claim/cut.py") 326, .int 3 0, .int 1 0, .int 0 0, .int 0 0, .int 3 0, .ref 38, .bool true, .int 318 0, .ref 39, .none, .ref 40, .ref 41, .ref 42, .int 328 0, .int 3 0, .str (sS "/claim/cut.py") 329] }),
(44, mkF (stAt 2) (sS "_wall") (.str (sS "__main__") 164) (.ref 43) [] (.none)),
(45, { cls := .type "tuple", data := .seq #[] }),
(47, { cls := .type "tuple", data := .seq #[.str (sS "x") 336, .str (sS "what") 337, .str (sS "kind") 338] }),
(48, { cls := .type "tuple", data := .seq #[] }),
(50, { cls := .type "code", data := .fields #[.str (sS "_plain_name") 333, .str (sS "_plain_name") 334, .str (sS "/claim/cut.py") 335, .int 7 0, .int 2 0, .int 0 0, .int 0 0, .int 3 0, .ref 45, .bool true, .int 318 0, .ref 46, .none, .ref 47, .ref 48, .ref 49, .int 339 0, .int 7 0, .str (sS "/claim/cut.py") 340] }),
(51, mkF (stAt 4) (sS "_plain_name") (.str (sS "os") 331) (.ref 50) [] (.none)),
(52, { cls := .type "tuple", data := .seq #[.type "type"] }),
(59, { cls := .type "tuple", data := .seq #[] }),
(61, { cls := .type "tuple", data := .seq #[.str (sS "cls") 359, .str (sS "subclass") 360] }),
(62, { cls := .type "tuple", data := .seq #[] }),
(64, { cls := .type "code", data := .fields #[.str (sS "register") 356, .str (sS "ABCMeta.register") 357, .str (sS "/claim/cut.py") 358, .int 15 0, .int 2 0, .int 0 0, .int 0 0, .int 3 0, .ref 59, .bool true, .int 318 0, .ref 60, .none, .ref 61, .ref 62, .ref 63, .int 361 0, .int 15 0, .str (sS "/claim/cut.py") 362] }),
(65, mkF (stIn (stAt 6) 0) (sS "ABCMeta.register") (.str (sS "abc") 342) (.ref 64) [] (.none)),
(66, { cls := .type "tuple", data := .seq #[] }),
(67, { cls := .type "dict", data := .dict #[kE P "__module__" 351 (.str (sS "abc") 342), kE P "__firstlineno__" 355 (.int 13 354), kE P "register" 363 (.ref 65), kE P "__static_attributes__" 364 (.ref 66), kE P "__doc__" 365 (.none)] 2 }),
(68, { cls := .type "type", data := .cls { name := sS "ABCMeta", bases := [.type "type"], mro := [.ref 68, .type "type", .type "object"], ns := 67, qualname := sS "ABCMeta", subclasses := [.ref 101] }, slots := #[some (.ref 52), none, some (.str (sS "ABCMeta") 344), some (.str (sS "ABCMeta") 352), some (.builtin "type.__new__"), some (.bool true)] }),
(71, { cls := .type "tuple", data := .seq #[.ref 68] }),
(78, { cls := .type "tuple", data := .seq #[] }),
(80, { cls := .type "tuple", data := .seq #[.str (sS "cls") 385, .str (sS "instance") 386, .str (sS "C") 387] }),
(81, { cls := .type "tuple", data := .seq #[] }),
(83, { cls := .type "code", data := .fields #[.str (sS "__instancecheck__") 382, .str (sS "_ABCLike.__instancecheck__") 383, .str (sS "/claim/cut.py") 384, .int 20 0, .int 2 0, .int 0 0, .int 0 0, .int 3 0, .ref 78, .bool true, .int 318 0, .ref 79, .none, .ref 80, .ref 81, .ref 82, .int 388 0, .int 20 0, .str (sS "/claim/cut.py") 389] }),
(84, mkF (stIn (stAt 8) 0) (sS "_ABCLike.__instancecheck__") (.str (sS "collections.abc") 368) (.ref 83) [] (.none)),
(85, { cls := .type "tuple", data := .seq #[] }),
(87, { cls := .type "tuple", data := .seq #[.str (sS "cls") 394, .str (sS "C") 395] }),
(88, { cls := .type "tuple", data := .seq #[] }),
(90, { cls := .type "code", data := .fields #[.str (sS "__subclasscheck__") 391, .str (sS "_ABCLike.__subclasscheck__") 392, .str (sS "/claim/cut.py") 393, .int 26 0, .int 2 0, .int 0 0, .int 0 0, .int 3 0, .ref 85, .bool true, .int 318 0, .ref 86, .none, .ref 87, .ref 88, .ref 89, .int 396 0, .int 26 0, .str (sS "/claim/cut.py") 397] }),
(91, mkF (stIn (stAt 8) 1) (sS "_ABCLike.__subclasscheck__") (.str (sS "collections.abc") 368) (.ref 90) [] (.none)),
(92, { cls := .type "tuple", data := .seq #[] }),
(94, { cls := .type "tuple", data := .seq #[.str (sS "cls") 402, .str (sS "subclass") 403] }),
(95, { cls := .type "tuple", data := .seq #[] }),
(97, { cls := .type "code", data := .fields #[.str (sS "register") 399, .str (sS "_ABCLike.register") 400, .str (sS "/claim/cut.py") 401, .int 31 0, .int 2 0, .int 0 0, .int 0 0, .int 3 0, .ref 92, .bool true, .int 318 0, .ref 93, .none, .ref 94, .ref 95, .ref 96, .int 404 0, .int 31 0, .str (sS "/claim/cut.py") 405] }),
(98, mkF (stIn (stAt 8) 2) (sS "_ABCLike.register") (.str (sS "collections.abc") 368) (.ref 97) [] (.none)),
(99, { cls := .type "tuple", data := .seq #[] }),
(100, { cls := .type "dict", data := .dict #[kE P "__module__" 377 (.str (sS "collections.abc") 368), kE P "__firstlineno__" 381 (.int 18 380), kE P "__instancecheck__" 390 (.ref 84), kE P "__subclasscheck__" 398 (.ref 91), kE P "register" 406 (.ref 98), kE P "__static_attributes__" 407 (.ref 99), kE P "__doc__" 408 (.none)] 2 }),
(101, { cls := .type "type", data := .cls { name := sS "_ABCLike", bases := [.ref 68], mro := [.ref 101, .ref 68, .type "type", .type "object"], ns := 100, qualname := sS "_ABCLike" }, slots := #[some (.ref 71), none, some (.str (sS "_ABCLike") 370), some (.str (sS "_ABCLike") 378), some (.builtin "type.__new__"), some (.bool true)] }),
(104, { cls := .type "tuple", data := .seq #[] }),
(106, { cls := .type "tuple", data := .seq #[.str (sS "C") 414] }),
(107, { cls := .type "tuple", data := .seq #[] }),
(109, { cls := .type "code", data := .fields #[.str (sS "_abc_plain_meta") 411, .str (sS "_abc_plain_meta") 412, .str (sS "/claim/cut.py") 413, .int 33 0, .int 1 0, .int 0 0, .int 0 0, .int 3 0, .ref 104, .bool true, .int 318 0, .ref 105, .none, .ref 106, .ref 107, .ref 108, .int 415 0, .int 33 0, .str (sS "/claim/cut.py") 416] }),
(110, mkF (stAt 9) (sS "_abc_plain_meta") (.str (sS "collections.abc") 368) (.ref 109) [] (.none)),
(111, { cls := .type "tuple", data := .seq #[] }),
(113, { cls := .type "tuple", data := .seq #[.str (sS "path") 423, .str (sS "kind") 424, .str (sS "hook") 425, .str (sS "given") 426] }),
(114, { cls := .type "tuple", data := .seq #[] }),
(116, { cls := .type "code", data := .fields #[.str (sS "fspath") 420, .str (sS "fspath") 421, .str (sS "/claim/cut.py") 422, .int 37 0, .int 1 0, .int 0 0, .int 0 0, .int 3 0, .ref 111, .bool true, .int 318 0, .ref 112, .none, .ref 113, .ref 114, .ref 115, .int 427 0, .int 37 0, .str (sS "/claim/cut.py") 428] }),
(117, mkF (stAt 11) (sS "fspath") (.str (sS "os") 418) (.ref 116) [] (.none)),
(118, { cls := .type "tuple", data := .seq #[] }),
(120, { cls := .type "tuple", data := .seq #[.str (sS "funcname") 435, .str (sS "args") 436, .str (sS "hasstr") 437, .str (sS "hasbytes") 438, .str (sS "s") 439] }),
(121, { cls := .type "tuple", data := .seq #[] }),
(123, { cls := .type "code", data := .fields #[.str (sS "_check_arg_types") 432, .str (sS "_check_arg_types") 433, .str (sS "/claim/cut.py") 434, .int 54 0, .int 1 0, .int 0 0, .int 0 0, .int 7 0, .ref 118, .bool true, .int 318 0, .ref 119, .none, .ref 120, .ref 121, .ref 122, .int 440 0, .int 54 0, .str (sS "/claim/cut.py") 441] }),
(124, mkF (stAt 13) (sS "_check_arg_types") (.str (sS "cpy313.genericpath") 430) (.ref 123) [] (.none)),
(125, { cls := .type "tuple", data := .seq #[] }),
(127, { cls := .type "tuple", data := .seq #[.str (sS "path") 448] }),
(128, { cls := .type "tuple", data := .seq #[] }),
(130, { cls := .type "code", data := .fields #[.str (sS "_get_sep") 445, .str (sS "_get_sep") 446, .str (sS "/claim/cut.py") 447, .int 66 0, .int 1 0, .int 0 0, .int 0 0, .int 3 0, .ref 125, .bool true, .int 318 0, .ref 126, .none, .ref 127, .ref 128, .ref 129, .int 449 0, .int 66 0, .str (sS "/claim/cut.py") 450] }),
(131, mkF (stAt 15) (sS "_get_sep") (.str (sS "cpy313.posixpath") 443) (.ref 130) [] (.none)),
(132, { cls := .type "tuple", data := .seq #[] }),
(134, { cls := .type "tuple", data := .seq #[.str (sS "a") 455, .str (sS "p") 456, .str (sS "sep") 457, .str (sS "path") 458, .str (sS "b") 459] }),
(135, { cls := .type "tuple", data := .seq #[] }),
(137, { cls := .type "code", data := .fields #[.str (sS "join") 452, .str (sS "join") 453, .str (sS "/claim/cut.py") 454, .int 71 0, .int 1 0, .int 0 0, .int 0 0, .int 7 0, .ref 132, .bool true, .int 318 0, .ref 133, .none, .ref 134, .ref 135, .ref 136, .int 460 0, .int 71 0, .str (sS "/claim/cut.py") 461] }),
(138, mkF (stAt 16) (sS "join") (.str (sS "cpy313.posixpath") 443) (.ref 137) [] (.none)),
(139, { cls := .type "tuple", data := .seq #[] }),
(141, { cls := .type "tuple", data := .seq #[.str (sS "p") 466, .str (sS "sep") 467, .str (sS "i") 468, .str (sS "head") 469, .str (sS "tail") 470] }),
(142, { cls := .type "tuple", data := .seq #[] }),
(144, { cls := .type "code", data := .fields #[.str (sS "split") 463, .str (sS "split") 464, .str (sS "/claim/cut.py") 465, .int 88 0, .int 1 0, .int 0 0, .int 0 0, .int 3 0, .ref 139, .bool true, .int 318 0, .ref 140, .none, .ref 141, .ref 142, .ref 143, .int 471 0, .int 88 0, .str (sS "/claim/cut.py") 472] }),
(145, mkF (stAt 17) (sS "split") (.str (sS "cpy313.posixpath") 443) (.ref 144) [] (.none)),
(146, { cls := .type "tuple", data := .seq #[] }),
(148, { cls := .type "tuple", data := .seq #[.str (sS "p") 477, .str (sS "sep") 478, .str (sS "empty") 479] }),
(149, { cls := .type "tuple", data := .seq #[] }),
(151, { cls := .type "code", data := .fields #[.str (sS "splitroot") 474, .str (sS "splitroot") 475, .str (sS "/claim/cut.py") 476, .int 96 0, .int 1 0, .int 0 0, .int 0 0, .int 3 0, .ref 146, .bool true, .int 318 0, .ref 147, .none, .ref 148, .ref 149, .ref 150, .int 480 0, .int 96 0, .str (sS "/claim/cut.py") 481] }),
(152, mkF (stAt 18) (sS "splitroot") (.str (sS "cpy313.posixpath") 443) (.ref 151) [] (.none)),
(153, { cls := .type "tuple", data := .seq #[] }),
(155, { cls := .type "tuple", data := .seq #[.str (sS "path") 486, .str (sS "sep") 487, .str (sS "dot") 488, .str (sS "dotdot") 489, .str (sS "_") 490, .str (sS "initial_slashes") 491, .str (sS "comps") 492, .str (sS "new_comps") 493, .str (sS "comp") 494] }),
(156, { cls := .type "tuple", data := .seq #[] }),
(158, { cls := .type "code", data := .fields #[.str (sS "normpath") 483, .str (sS "normpath") 484, .str (sS "/claim/cut.py") 485, .int 110 0, .int 1 0, .int 0 0, .int 0 0, .int 3 0, .ref 153, .bool true, .int 318 0, .ref 154, .none, .ref 155, .ref 156, .ref 157, .int 495 0, .int 110 0, .str (sS "/claim/cut.py") 496] }),
(159, mkF (stAt 19) (sS "normpath") (.str (sS "cpy313.posixpath") 443) (.ref 158) [] (.none)),
(163, { cls := .type "tuple", data := .seq #[.int 14 0, .int 14 0, .int 4 0, .int 1 0, .int 1 0, .int 9 0, .int 0 0, .int 64 0, .int 0 0, .int 1342177280 0, .int 0 0, .int 0 0, .int 0 0, .int 0 0, .int 0 0, .int 17 0, .int 0 0, .int 13 0, .int 11 0, .int 9 0, .int 0 0, .int 64 0, .int 0 0, .int 1342177280 0, .int 0 0, .int 0 0, .int 0 0, .int 0 0, .int 0 0, .int 17 0, .int 1 0, .int 1 0] }),
(164, { cls := .type "re.Pattern", data := .fields #[.str (sS "([&~|])") 499, .int 32 534, .int 1 0, .none, .none, .ref 163, .int 0 0] }),
(166, { cls := .type "dict", data := .dict #[{ hash := 40, key := .int 40 539, val := .str (sS "\\(") 543 }, { hash := 41, key := .int 41 545, val := .str (sS "\\)") 549 }, { hash := 91, key := .int 91 551, val := .str (sS "\\[") 555 }, { hash := 93, key := .int 93 557, val := .str (sS "\\]") 561 }, { hash := 123, key := .int 123 563, val := .str (sS "\\{") 567 }, { hash := 125, key := .int 125 569, val := .str (sS "\\}") 573 }, { hash := 63, key := .int 63 575, val := .str (sS "\\?") 579 }, { hash := 42, key := .int 42 581, val := .str (sS "\\*") 585 }, { hash := 43, key := .int 43 587, val := .str (sS "\\+") 591 }, { hash := 45, key := .int 45 593, val := .str (sS "\\-") 597 }, { hash := 124, key := .int 124 599, val := .str (sS "\\|") 603 }, { hash := 94, key := .int 94 605, val := .str (sS "\\^") 609 }, { hash := 36, key := .int 36 611, val := .str (sS "\\$") 615 }, { hash := 92, key := .int 92 617, val := .str (sS "\\\\") 621 }, { hash := 46, key := .int 46 623, val := .str (sS "\\.") 627 }, { hash := 38, key := .int 38 629, val := .str (sS "\\&") 633 }, { hash := 126, key := .int 126 635, val := .str (sS "\\~") 639 }, { hash := 35, key := .int 35 641, val := .str (sS "\\#") 645 }, { hash := 32, key := .int 32 647, val := .str (sS "\\ ") 651 }, { hash := 9, key := .int 9 653, val := .str (sS "\\\t") 657 }, { hash := 10, key := .int 10 659, val := .str (sS "\\\n") 663 }, { hash := 13, key := .int 13 665, val := .str (sS "\\\x0d") 669 }, { hash := 11, key := .int 11 671, val := .str (sS "\\\x0b") 675 }, { hash := 12, key := .int 12 677, val := .str (sS "\\\x0c") 681 }] 24 }),
(170, { cls := .type "tuple", data := .seq #[] }),
(172, { cls := .type "tuple", data := .seq #[.str (sS "pattern") 687] }),
(173, { cls := .type "tuple", data := .seq #[] }),
(175, { cls := .type "code", data := .fields #[.str (sS "escape") 684, .str (sS "escape") 685, .str (sS "/claim/cut.py") 686, .int 138 0, .int 1 0, .int 0 0, .int 0 0, .int 3 0, .ref 170, .bool true, .int 318 0, .ref 171, .none, .ref 172, .ref 173, .ref 174, .int 688 0, .int 138 0, .str (sS "/claim/cut.py") 689] }),
(176, mkF (stAt 23) (sS "escape") (.str (sS "re") 536) (.ref 175) [] (.none)),
(177, { cls := .type "tuple", data := .seq #[] }),
(179, { cls := .type "tuple", data := .seq #[.str (sS "pat") 696, .str (sS "STAR") 697, .str (sS "QUESTION_MARK") 698, .str (sS "res") 699, .str (sS "add") 700, .str (sS "i") 701, .str (sS "n") 702, .str (sS "c") 703, .str (sS "j") 704, .str (sS "stuff") 705, .str (sS "chunks") 706, .str (sS "k") 707, .str (sS "chunk") 708] }),
(180, { cls := .type "tuple", data := .seq #[] }),
(182, { cls := .type "code", data := .fields #[.str (sS "_translate") 693, .str (sS "_translate") 694, .str (sS "/claim/cut.py") 695, .int 145 0, .int 3 0, .int 0 0, .int 0 0, .int 3 0, .ref 177, .bool true, .int 318 0, .ref 178, .none, .ref 179, .ref 180, .ref 181, .int 709 0, .int 145 0, .str (sS "/claim/cut.py") 710] }),
(183, mkF (stAt 25) (sS "_translate") (.str (sS "cpy313.fnmatch") 691) (.ref 182) [] (.none)),
(184, { cls := .type "tuple", data := .seq #[.type "collections.defaultdict"] }),
(187, { cls := .type "cell", data := .cell (some (.ref 209)) }),
(192, { cls := .type "tuple", data := .seq #[.ref 187] }),
(193, { cls := .type "tuple", data := .seq #[.str (sS "__class__") 729] }),
(195, { cls := .type "tuple", data := .seq #[.str (sS "self") 730, .str (sS "key") 731] }),
(196, { cls := .type "tuple", data := .seq #[] }),
(198, { cls := .type "code", data := .fields #[.str (sS "__missing__") 726, .str (sS "FreezableDefaultDict.__missing__") 727, .str (sS "/claim/cut.py") 728, .int 210 0, .int 2 0, .int 0 0, .int 0 0, .int 3 0, .ref 193, .bool true, .int 318 0, .ref 194, .none, .ref 195, .ref 196, .ref 197, .int 732 0, .int 210 0, .str (sS "/claim/cut.py") 733] }),
(199, mkF (stIn (stAt 27) 0) (sS "FreezableDefaultDict.__missing__") (.str (sS "cpy313.importlib.metadata._collections") 712) (.ref 198) [(sS "__class__", 187)] (.ref 192)),
(200, { cls := .type "tuple", data := .seq #[] }),
(202, { cls := .type "tuple", data := .seq #[.str (sS "self") 738] }),
(203, { cls := .type "tuple", data := .seq #[.str (sS "self") 739] }),
(205, { cls := .type "code", data := .fields #[.str (sS "freeze") 735, .str (sS "FreezableDefaultDict.freeze") 736, .str (sS "/claim/cut.py") 737, .int 213 0, .int 1 0, .int 0 0, .int 0 0, .int 3 0, .ref 200, .bool true, .int 318 0, .ref 201, .none, .ref 202, .ref 203, .ref 204, .int 740 0, .int 213 0, .str (sS "/claim/cut.py") 741] }),
(206, mkF (stIn (stAt 27) 1) (sS "FreezableDefaultDict.freeze") (.str (sS "cpy313.importlib.metadata._collections") 712) (.ref 205) [] (.none)),
(207, { cls := .type "tuple", data := .seq #[.str (sS "_frozen") 743] }),
(208, { cls := .type "dict", data := .dict #[kE P "__module__" 721 (.str (sS "cpy313.importlib.metadata._collections") 712), kE P "__firstlineno__" 725 (.int 208 724), kE P "__missing__" 734 (.ref 199), kE P "freeze" 742 (.ref 206), kE P "__static_attributes__" 744 (.ref 207), kE P "__dict__" 747 (.ref 210), kE P "__weakref__" 749 (.ref 211), kE P "__doc__" 750 (.none)] 5 }),
(209, { cls := .type "type", data := .cls { name := sS "FreezableDefaultDict", bases := [.type "collections.defaultdict"], mro := [.ref 209, .type "collections.defaultdict", .type "dict", .type "object"], ns := 208, qualname := sS "FreezableDefaultDict", slotNames := [sS ""] }, slots := #[some (.ref 184), none, some (.str (sS "FreezableDefaultDict") 714), some (.str (sS "FreezableDefaultDict") 722), some (.builtin "dict.__new__"), some (.bool true)] }),
(210, { cls := .type "getset_descriptor", data := .fields #[.str (sS "__dict__") 746, .ref 209, .builtin "function.__dict__", .builtin "function.__dict__#set"] }),
(211, { cls := .type "getset_descriptor", data := .fields #[.str (sS "__weakref__") 748, .ref 209, .builtin "ExceptionGroup.__weakref__", .none] }),
(214, { cls := .type "tuple", data := .seq #[] }),
(216, { cls := .type "tuple", data := .seq #[.str (sS "part") 760, .str (sS "sign") 761] }),
(217, { cls := .type "tuple", data := .seq #[] }),
(219, { cls := .type "code", data := .fields #[.str (sS "_law_one") 757, .str (sS "_law_one") 758, .str (sS "/claim/cut.py") 759, .int 216 0, .int 2 0, .int 0 0, .int 0 0, .int 3 0, .ref 214, .bool true, .int 318 0, .ref 215, .none, .ref 216, .ref 217, .ref 218, .int 762 0, .int 216 0, .str (sS "/claim/cut.py") 763] }),
(220, mkF (stAt 29) (sS "_law_one") (.str (sS "law_il0143_01") 755) (.ref 219) [] (.none)),
(221, { cls := .type "tuple", data := .seq #[] }),
(224, { cls := .type "code", data := .fields #[.str (sS "_law_takes") 765, .str (sS "_law_takes") 766, .str (sS "/claim/cut.py") 767, .int 226 0, .int 2 0, .int 0 0, .int 0 0, .int 3 0, .ref 221, .bool true, .int 318 0, .ref 222, .none, .none, .none, .ref 223, .int 768 0, .int 226 0, .str (sS "/claim/cut.py") 769] }),
(225, mkF (stAt 30) (sS "_law_takes") (.str (sS "law_il0143_01") 755) (.ref 224) [] (.none)),
(226, { cls := .type "tuple", data := .seq #[] }),
(228, { cls := .type "tuple", data := .seq #[.str (sS "paths") 774, .str (sS "book") 775, .str (sS "path") 776, .str (sS "head") 777, .str (sS "tail") 778] }),
(229, { cls := .type "tuple", data := .seq #[] }),
(231, { cls := .type "code", data := .fields #[.str (sS "_law_book") 771, .str (sS "_law_book") 772, .str (sS "/claim/cut.py") 773, .int 234 0, .int 1 0, .int 0 0, .int 0 0, .int 3 0, .ref 226, .bool true, .int 318 0, .ref 227, .none, .ref 228, .ref 229, .ref 230, .int 779 0, .int 234 0, .str (sS "/claim/cut.py") 780] }),
(232, mkF (stAt 31) (sS "_law_book") (.str (sS "law_il0143_01") 755) (.ref 231) [] (.none)),
(233, { cls := .type "tuple", data := .seq #[] }),
(236, { cls := .type "code", data := .fields #[.str (sS "_law_walk") 782, .str (sS "_law_walk") 783, .str (sS "/claim/cut.py") 784, .int 242 0, .int 2 0, .int 0 0, .int 0 0, .int 3 0, .ref 233, .bool true, .int 318 0, .ref 234, .none, .none, .none, .ref 235, .int 785 0, .int 242 0, .str (sS "/claim/cut.py") 786] }),
(237, mkF (stAt 32) (sS "_law_walk") (.str (sS "law_il0143_01") 755) (.ref 236) [] (.none)),
(238, { cls := .type "tuple", data := .seq #[] }),
(240, { cls := .type "tuple", data := .seq #[.str (sS "row") 791, .str (sS "names") 792, .str (sS "debt") 793, .str (sS "piece") 794] }),
(241, { cls := .type "tuple", data := .seq #[] }),
(243, { cls := .type "code", data := .fields #[.str (sS "_law_names") 788, .str (sS "_law_names") 789, .str (sS "/claim/cut.py") 790, .int 257 0, .int 1 0, .int 0 0, .int 0 0, .int 3 0, .ref 238, .bool true, .int 318 0, .ref 239, .none, .ref 240, .ref 241, .ref 242, .int 795 0, .int 257 0, .str (sS "/claim/cut.py") 796] }),
(244, mkF (stAt 33) (sS "_law_names") (.str (sS "law_il0143_01") 755) (.ref 243) [] (.none)),
(245, { cls := .type "tuple", data := .seq #[] }),
(248, { cls := .type "code", data := .fields #[.str (sS "_law_fits") 798, .str (sS "_law_fits") 799, .str (sS "/claim/cut.py") 800, .int 270 0, .int 2 0, .int 0 0, .int 0 0, .int 3 0, .ref 245, .bool true, .int 318 0, .ref 246, .none, .none, .none, .ref 247, .int 801 0, .int 270 0, .str (sS "/claim/cut.py") 802] }),
(249, mkF (stAt 34) (sS "_law_fits") (.str (sS "law_il0143_01") 755) (.ref 248) [] (.none)),
(250, { cls := .type "tuple", data := .seq #[] }),
(253, { cls := .type "code", data := .fields #[.str (sS "_law_rows") 804, .str (sS "_law_rows") 805, .str (sS "/claim/cut.py") 806, .int 279 0, .int 1 0, .int 0 0, .int 0 0, .int 3 0, .ref 250, .bool true, .int 318 0, .ref 251, .none, .none, .none, .ref 252, .int 807 0, .int 279 0, .str (sS "/claim/cut.py") 808] }),
(254, mkF (stAt 35) (sS "_law_rows") (.str (sS "law_il0143_01") 755) (.ref 253) [] (.none)),
(255, { cls := .type "tuple", data := .seq #[] }),
(258, { cls := .type "code", data := .fields #[.str (sS "law") 810, .str (sS "law") 811, .str (sS "/claim/cut.py") 812, .int 281 0, .int 1 0, .int 0 0, .int 0 0, .int 3 0, .ref 255, .bool true, .int 318 0, .ref 256, .none, .none, .none, .ref 257, .int 813 0, .int 281 0, .str (sS "/claim/cut.py") 814] }),
(259, mkF (stAt 36) (sS "law") (.str (sS "law_il0143_01") 755) (.ref 258) [] (.none))]
end

section
open PySem PySem.W PySem.Spec PySem.Calls PyProof.Rows
set_option Elab.async false
set_option maxRecDepth 100000

noncomputable abbrev PP : Program := PySem.Challenge.rw_il0143_01.row.prog
noncomputable abbrev Md (w : World) : Model := model PP w

noncomputable def Sub (g h : Heap) : Prop := ∀ b o, g.get? b = some o → h.get? b = some o
theorem Sub.refl (h : Heap) : Sub h h := fun _ _ e => e
theorem Sub.trans {a b c : Heap} (x : Sub a b) (y : Sub b c) : Sub a c := fun d o e => y d o (x d o e)

structure Wd (w : World) (G : Heap) : Prop where
  K : (KH w.params).In G
  T : ∃ mg mb p loose mean, Top p loose mean mg mb G
  t1 : G.get? 178 = none
  t2 : G.get? 201 = none
  c1 : CodeHd G 182 178
  c2 : CodeHd G 205 201
noncomputable def Wg (w : World) (h : Heap) : Prop := ∃ G, Wd w G ∧ Sub G h
theorem Wg.sub {w : World} {h h' : Heap} (x : Wg w h) (k : Sub h h') : Wg w h' := let ⟨G, a, b⟩ := x; ⟨G, a, b.trans k⟩

noncomputable abbrev Led := List (Addr × (Obj → Prop))

structure Fm (w : World) (B s : Shared) (own : Led) : Prop where
  wg : Wg w B.heap
  sat : ∀ p ∈ own, ∃ o, s.heap.get? p.1 = some o ∧ p.2 o
  nd : (own.map (·.1)).Nodup
  fresh : ∀ p ∈ own, B.heap.get? p.1 = none
  keep : Sub B.heap s.heap
  gens : s.gens = B.gens
  os : s.os = B.os

structure Ext (s s' : Shared) : Prop where
  keep : Sub s.heap s'.heap
  gens : s'.gens = s.gens
  os : s'.os = s.os
theorem Ext.refl (s : Shared) : Ext s s := ⟨Sub.refl _, rfl, rfl⟩
theorem Ext.trans {a b c : Shared} (x : Ext a b) (y : Ext b c) : Ext a c := ⟨x.keep.trans y.keep, y.gens.trans x.gens, y.os.trans x.os⟩

structure ExtB (S : List Addr) (s s' : Shared) : Prop where
  keep : ∀ b o, b ∉ S → s.heap.get? b = some o → s'.heap.get? b = some o
  gens : s'.gens = s.gens
  os : s'.os = s.os

inductive UpdE (a : Addr) (P P' : Obj → Prop) : Led → Led → Prop
  | head {r} : UpdE a P P' ((a, P) :: r) ((a, P') :: r)
  | tail {p r r'} : UpdE a P P' r r' → UpdE a P P' (p :: r) (p :: r')

theorem UpdE.t1 {a : Addr} {P P' : Obj → Prop} {p1 : Addr × (Obj → Prop)} {r : Led} : UpdE a P P' (p1 :: (a, P) :: r) (p1 :: (a, P') :: r) := .tail .head
theorem UpdE.t2 {a : Addr} {P P' : Obj → Prop} {p1 p2 : Addr × (Obj → Prop)} {r : Led} : UpdE a P P' (p1 :: p2 :: (a, P) :: r) (p1 :: p2 :: (a, P') :: r) := .tail .t1
theorem UpdE.t3 {a : Addr} {P P' : Obj → Prop} {p1 p2 p3 : Addr × (Obj → Prop)} {r : Led} : UpdE a P P' (p1 :: p2 :: p3 :: (a, P) :: r) (p1 :: p2 :: p3 :: (a, P') :: r) := .tail .t2
theorem UpdE.t4 {a : Addr} {P P' : Obj → Prop} {p1 p2 p3 p4 : Addr × (Obj → Prop)} {r : Led} : UpdE a P P' (p1 :: p2 :: p3 :: p4 :: (a, P) :: r) (p1 :: p2 :: p3 :: p4 :: (a, P') :: r) := .tail .t3
theorem UpdE.t5 {a : Addr} {P P' : Obj → Prop} {p1 p2 p3 p4 p5 : Addr × (Obj → Prop)} {r : Led} : UpdE a P P' (p1 :: p2 :: p3 :: p4 :: p5 :: (a, P) :: r) (p1 :: p2 :: p3 :: p4 :: p5 :: (a, P') :: r) := .tail .t4
theorem UpdE.t6 {a : Addr} {P P' : Obj → Prop} {p1 p2 p3 p4 p5 p6 : Addr × (Obj → Prop)} {r : Led} : UpdE a P P' (p1 :: p2 :: p3 :: p4 :: p5 :: p6 :: (a, P) :: r) (p1 :: p2 :: p3 :: p4 :: p5 :: p6 :: (a, P') :: r) := .tail .t5
theorem UpdE.t7 {a : Addr} {P P' : Obj → Prop} {p1 p2 p3 p4 p5 p6 p7 : Addr × (Obj → Prop)} {r : Led} : UpdE a P P' (p1 :: p2 :: p3 :: p4 :: p5 :: p6 :: p7 :: (a, P) :: r) (p1 :: p2 :: p3 :: p4 :: p5 :: p6 :: p7 :: (a, P') :: r) := .tail .t6
theorem UpdE.mem {a : Addr} {P P' : Obj → Prop} {l l' : Led} (U : UpdE a P P' l l') : (a, P) ∈ l := by
  induction U with
  | head => exact .head _
  | tail _ ih => exact .tail _ ih
theorem UpdE.map {a : Addr} {P P' : Obj → Prop} {l l' : Led} (U : UpdE a P P' l l') : l'.map (·.1) = l.map (·.1) := by
  induction U with
  | head => rfl
  | tail _ ih => simp only [List.map_cons, ih]
theorem UpdE.cases {a : Addr} {P P' : Obj → Prop} {l l' : Led} (U : UpdE a P P' l l') (nd : (l.map (·.1)).Nodup) : ∀ p ∈ l', p = (a, P') ∨ (p ∈ l ∧ p.1 ≠ a) := by
  induction U with
  | head =>
    intro p hp
    rcases List.mem_cons.mp hp with rfl | hp
    · exact .inl rfl
    · refine .inr ⟨.tail _ hp, fun e => ?_⟩
      simp only [List.map_cons, List.nodup_cons] at nd
      exact nd.1 (e ▸ List.mem_map_of_mem hp)
  | @tail q r r' U ih =>
    intro p hp
    simp only [List.map_cons, List.nodup_cons] at nd
    rcases List.mem_cons.mp hp with rfl | hp
    · refine .inr ⟨.head _, fun e => nd.1 (e ▸ List.mem_map_of_mem U.mem)⟩
    · rcases ih nd.2 p hp with h | ⟨h, h'⟩
      · exact .inl h
      · exact .inr ⟨.tail _ h, h'⟩

section
variable {w : World} {B s s' : Shared} {own own' : Led} {a : Addr} {P P' : Obj → Prop}

theorem Fm.lt (F : Fm w B s own) {p} (hp : p ∈ own) : p.1 < s.heap.objs.size := let ⟨_, e, _⟩ := F.sat p hp; Heap.lt_size e
theorem Fm.base (F : Fm w B s own) : Wg w s.heap := F.wg.sub F.keep

theorem Fm.start (W : Wg w s.heap) : Fm w s s [] := ⟨W, fun _ h => (nomatch h), List.nodup_nil, fun _ h => (nomatch h), Sub.refl _, rfl, rfl⟩

theorem Fm.ext (F : Fm w B s own) (x : Ext s s') : Fm w B s' own :=
  ⟨F.wg, fun p hp => let ⟨o, e, h⟩ := F.sat p hp; ⟨o, x.keep _ _ e, h⟩, F.nd, F.fresh, F.keep.trans x.keep, x.gens.trans F.gens, x.os.trans F.os⟩
theorem Fm.toExt (F : Fm w B s own) : Ext B s := ⟨F.keep, F.gens, F.os⟩

theorem Fm.same (F : Fm w B s own) (h : s'.heap = s.heap) (g : s'.gens = s.gens) (o : s'.os = s.os) : Fm w B s' own :=
  F.ext ⟨by rw [h]; exact Sub.refl _, g, o⟩
theorem Fm.tok (F : Fm w B s own) (t : Nat) : Fm w B { s with toks := t } own := F.same rfl rfl rfl

theorem Fm.weak (F : Fm w B s own) (h : own'.Sublist own) : Fm w B s own' :=
  ⟨F.wg, fun p hp => F.sat p (h.subset hp), (h.map _).nodup F.nd, fun p hp => F.fresh p (h.subset hp), F.keep, F.gens, F.os⟩
theorem Fm.perm (F : Fm w B s own) (h : ∀ p ∈ own', p ∈ own) (nd : (own'.map (·.1)).Nodup) : Fm w B s own' :=
  ⟨F.wg, fun p hp => F.sat p (h p hp), nd, fun p hp => F.fresh p (h p hp), F.keep, F.gens, F.os⟩

theorem Fm.push (F : Fm w B s own) {o : Obj} (hf : o.isFreed = false) (hP : P o) {t : Nat} :
    Fm w B { s with heap := s.heap.push o, toks := t } ((s.heap.objs.size, P) :: own) := by
  refine ⟨F.wg, fun p hp => ?_, ?_, fun p hp => ?_, fun b o' e => Heap.get?_push_of_some _ (F.keep b o' e), F.gens, F.os⟩
  · rcases List.mem_cons.mp hp with rfl | hp
    · exact ⟨o, Heap.get?_push_size _ hf, hP⟩
    · obtain ⟨o', e, h⟩ := F.sat p hp
      exact ⟨o', Heap.get?_push_of_some _ e, h⟩
  · rw [List.map_cons, List.nodup_cons]
    refine ⟨fun hm => ?_, F.nd⟩
    obtain ⟨p, hp, e⟩ := List.mem_map.mp hm
    exact absurd (F.lt hp) (by rw [e]; exact Nat.lt_irrefl _)
  · rcases List.mem_cons.mp hp with rfl | hp
    · cases q : B.heap.get? s.heap.objs.size with
      | none => rfl
      | some o' => exact absurd (Heap.lt_size (F.keep _ _ q)) (Nat.lt_irrefl _)
    · exact F.fresh p hp

theorem Fm.add (F : Fm w B s own) (x : Ext s s') (hn : s.heap.get? a = none) (ho : ∃ o, s'.heap.get? a = some o ∧ P o) : Fm w B s' ((a, P) :: own) := by
  have F' := F.ext x
  refine ⟨F.wg, fun p hp => ?_, ?_, fun p hp => ?_, F'.keep, F'.gens, F'.os⟩
  · rcases List.mem_cons.mp hp with rfl | hp
    · exact ho
    · exact F'.sat p hp
  · rw [List.map_cons, List.nodup_cons]
    refine ⟨fun hm => ?_, F.nd⟩
    obtain ⟨p, hp, e⟩ := List.mem_map.mp hm
    obtain ⟨o, e', _⟩ := F.sat p hp
    have e2 : p.1 = a := e
    rw [e2, hn] at e'; cases e'
  · rcases List.mem_cons.mp hp with rfl | hp
    · cases q : B.heap.get? a with
      | none => rfl
      | some o => have := F.keep _ _ q; rw [hn] at this; cases this
    · exact F.fresh p hp

theorem Fm.upd (F : Fm w B s own) (U : UpdE a P P' own own') {h' : Heap} (hs : Heap.SameBut a s.heap h') (ho : ∃ o, h'.get? a = some o ∧ P' o) {t : Nat} :
    Fm w B { s with heap := h', toks := t } own' := by
  have hm := U.mem
  refine ⟨F.wg, fun p hp => ?_, by rw [U.map]; exact F.nd, fun p hp => ?_, fun b o e => ?_, F.gens, F.os⟩
  · rcases U.cases F.nd p hp with rfl | ⟨hp, hne⟩
    · exact ho
    · obtain ⟨o, e, h⟩ := F.sat p hp
      exact ⟨o, (hs.2 _ hne).trans e, h⟩
  · rcases U.cases F.nd p hp with rfl | ⟨hp, _⟩
    · exact F.fresh (a, P) hm
    · exact F.fresh p hp
  · have hne : b ≠ a := fun e' => by have := F.fresh (a, P) hm; rw [← e', e] at this; cases this
    exact (hs.2 b hne).trans (F.keep b o e)

theorem Fm.extB (F : Fm w B s own) (U : UpdE a P P' own own') (x : ExtB [a] s s') (ho : ∃ o, s'.heap.get? a = some o ∧ P' o) : Fm w B s' own' := by
  have hm := U.mem
  refine ⟨F.wg, fun p hp => ?_, by rw [U.map]; exact F.nd, fun p hp => ?_, fun b o e => ?_, x.gens.trans F.gens, x.os.trans F.os⟩
  · rcases U.cases F.nd p hp with rfl | ⟨hp, hne⟩
    · exact ho
    · obtain ⟨o, e, h⟩ := F.sat p hp
      exact ⟨o, x.keep _ _ (by simpa using hne) e, h⟩
  · rcases U.cases F.nd p hp with rfl | ⟨hp, _⟩
    · exact F.fresh (a, P) hm
    · exact F.fresh p hp
  · have hne : b ≠ a := fun e' => by have := F.fresh (a, P) hm; rw [← e', e] at this; cases this
    exact x.keep b o (by simpa using hne) (F.keep b o e)

noncomputable def Has (B : Shared) (own : Led) (a : Addr) (P : Obj → Prop) : Prop := (a, P) ∈ own ∨ ∃ o, B.heap.get? a = some o ∧ P o
theorem Has.led (h : (a, P) ∈ own) : Has B own a P := .inl h
theorem Has.base (h : ∃ o, B.heap.get? a = some o ∧ P o) : Has B own a P := .inr h
theorem Fm.has (F : Fm w B s own) (h : Has B own a P) : ∃ o, s.heap.get? a = some o ∧ P o := h.elim (F.sat _) fun ⟨o, e, h⟩ => ⟨o, F.keep _ _ e, h⟩

theorem Fm.imp (F : Fm w B s own) (U : UpdE a P P' own own') (k : ∀ o, P o → P' o) : Fm w B s own' := by
  have ho := F.sat _ U.mem
  have := F.extB U (s' := s) ⟨fun _ _ _ e => e, rfl, rfl⟩ (let ⟨o, e, h⟩ := ho; ⟨o, e, k o h⟩)
  exact this
end

/-! what rows say -/
noncomputable def NsP (bs : List (Str × Value)) (o : Obj) : Prop := ∃ (m : Str → Option Value) (es : Array DictEntry) (ep : Nat), o.data = .dict es ep ∧ StrKeys es ∧ (∀ n, nsFind es n = m n) ∧ ∀ p ∈ bs, m p.1 = some p.2
noncomputable def CellP (v : Option Value) (o : Obj) : Prop := o.data = .cell v
noncomputable def LstP (xs : List Value) (o : Obj) : Prop := ∃ n, o = seqObj "list" xs.toArray n
noncomputable def TupP (xs : List Value) (o : Obj) : Prop := ∃ n, o = seqObj "tuple" xs.toArray n
noncomputable def ItP (l : Addr) (i : Nat) (o : Obj) : Prop := o.cls = .type "list_iterator" ∧ o.data = .fields #[.ref l, .int i 0]

structure Rm (A : Around) (n : Nat) : Prop where
  d : A.depth + 8 * n ≤ 900
  u : A.units + 100 * n ≤ 9000
  h : A.handled = none

theorem Rm.less {A : Around} {n m : Nat} (x : Rm A n) (h : m ≤ n := by omega) : Rm A m := ⟨by have := x.d; omega, by have := x.u; omega, x.h⟩
theorem Rm.in1 {A : Around} {n : Nat} (x : Rm A (n + 1)) : Rm A.in1 n := ⟨by have := x.d; show A.depth + 8 * n ≤ 900; omega, by have := x.u; simp only [Around.in1_units]; omega, x.h⟩
theorem Rm.deeper {A : Around} {n : Nat} {env : Env} (x : Rm A (n + 1)) : Rm (A.deeper env) n :=
  ⟨by have := x.d; show A.depth + 1 + 8 * n ≤ 900; omega, by have := x.u; simp only [Around.deeper_units]; omega, x.h⟩
theorem Rm.room {A : Around} {n : Nat} (x : Rm A n) : A.depth < recursionLimit := by have := x.d; show A.depth < 1000; omega
theorem Rm.units {A : Around} {n : Nat} (x : Rm A n) : A.units + 100 < cLine := by have := x.u; show A.units + 100 < 9900; omega
end

section
open PySem PySem.W PySem.Spec PySem.Calls PyProof.Rows
set_option Elab.async false
set_option maxRecDepth 100000

structure Ks (env : Env) (L : Addr) (cl : List (Str × Addr)) (ks : List (Str × NameKind)) : Prop where
  kind : env.scope.kind = .function
  glob : env.globals = mainGlobals
  bts : env.builtins = builtinsNs
  loc : env.locals = L
  cells : ∀ p ∈ cl, env.cells.lookup p.1 = some p.2
  kinds : ∀ p ∈ ks, env.kindOf p.1 = some p.2 ∧ (p.1 == ("__debug__" : Str)) = false ∧ (p.1 == ("__classdict__" : Str)) = false

noncomputable def Glo (x : Str) (v : Value) : Prop := ∀ (w : World) (G : Heap), Wd w G → ∃ mg, G.Ns mainGlobals mg ∧ (mg x = some v ∨ (mg x = none ∧ ∃ mb, G.Ns builtinsNs mb ∧ mb x = some v))
theorem Glo.ofK {x : Str} {v : Value} (h : ∀ P, nsIn (KH P) mainGlobals x = some (some v)) : Glo x v := fun w G W => by
  obtain ⟨mg, mb, p, loose, mean, T⟩ := W.T
  exact ⟨mg, T.g, .inl (mg_of W.K T.g (h _))⟩
theorem Glo.ofB {x : Str} {v : Value} (h : ∀ P, nsIn (KH P) mainGlobals x = some none) (hv : bootBuiltins x = some v) (hn : x ≠ "__name__") : Glo x v := fun w G W => by
  obtain ⟨mg, mb, p, loose, mean, T⟩ := W.T
  exact ⟨mg, T.g, .inr ⟨mg_none_of W.K T.g (h _), mb, T.b, (T.builtins x hn).trans hv⟩⟩

section
variable {w : World} {A : Around} {B s : Shared} {own own' : Led} {E : Value → Shared → Prop} {env : Env} {L : Addr} {cl : List (Str × Addr)} {ks : List (Str × NameKind)} {x : Str} {v : Value} {pos : Pos}

theorem Fm.ns {bs : List (Str × Value)} (F : Fm w B s own) (hL : (L, NsP bs) ∈ own) : ∃ m, s.heap.Ns L m ∧ ∀ p ∈ bs, m p.1 = some p.2 := by
  obtain ⟨o, e, m, es, ep, h1, h2, h3, h4⟩ := F.sat _ hL
  exact ⟨m, ⟨o, es, ep, e, h1, h2, h3⟩, h4⟩
theorem nsP_of {h : Heap} {m : Str → Option Value} {bs : List (Str × Value)} (hn : h.Ns L m) (hb : ∀ p ∈ bs, m p.1 = some p.2) : ∃ o, h.get? L = some o ∧ NsP bs o := by
  obtain ⟨o, es, ep, e, h1, h2, h3⟩ := hn
  exact ⟨o, e, m, es, ep, h1, h2, h3, hb⟩

theorem ld_loc {Q : Value → Shared → Prop} (F : Fm w B s own) (hk : Ks env L cl ks) (hx : (x, .local) ∈ ks) {bs : List (Str × Value)} (hL : (L, NsP bs) ∈ own) (hv : (x, v) ∈ bs) (h : Q v s) :
    wpAny (Md w) A (loadName env x) Q E s := by
  obtain ⟨m, hn, hb⟩ := F.ns hL
  exact wpAny_loadName_local hk.kind (hk.kinds _ hx).1 (by rw [hk.loc]; exact hn) (hb _ hv) h
theorem ld_cell {Q : Value → Shared → Prop} (F : Fm w B s own) (hk : Ks env L cl ks) (hx : (x, .cell) ∈ ks) {c : Addr} (hc : (x, c) ∈ cl) (ho : Has B own c (CellP (some v))) (h : Q v s) :
    wpAny (Md w) A (loadName env x) Q E s := by
  obtain ⟨o, e, hd⟩ := F.has ho
  exact wpAny_loadName_cell hk.kind (hk.kinds _ hx).1 (hk.cells _ hc) ⟨o, e, hd⟩ h
theorem ld_free {Q : Value → Shared → Prop} (F : Fm w B s own) (hk : Ks env L cl ks) (hx : (x, .free) ∈ ks) {c : Addr} (hc : (x, c) ∈ cl) (ho : Has B own c (CellP (some v))) (h : Q v s) :
    wpAny (Md w) A (loadName env x) Q E s := by
  obtain ⟨o, e, hd⟩ := F.has ho
  exact wpAny_loadName_free hk.kind (hk.kinds _ hx).1 (hk.cells _ hc) ⟨o, e, hd⟩ h (hk.kinds _ hx).2.2
theorem nm {Q : Value → Shared → Prop} (hk : Ks env L cl ks) {k : NameKind} (hx : (x, k) ∈ ks) (h : wpAny (Md w) A (loadName env x) Q E s) : wpAny (Md w) A (eval (.Name x pos) env) Q E s :=
  wpAny_Name h (hk.kinds _ hx).2.1
theorem e_loc {Q : Value → Shared → Prop} (F : Fm w B s own) (hk : Ks env L cl ks) (hx : (x, .local) ∈ ks) {bs : List (Str × Value)} (hL : (L, NsP bs) ∈ own) (hv : (x, v) ∈ bs) (h : Q v s) :
    wpAny (Md w) A (eval (.Name x pos) env) Q E s := nm hk hx (ld_loc F hk hx hL hv h)
theorem e_cell {Q : Value → Shared → Prop} (F : Fm w B s own) (hk : Ks env L cl ks) (hx : (x, .cell) ∈ ks) {c : Addr} (hc : (x, c) ∈ cl) (ho : Has B own c (CellP (some v))) (h : Q v s) :
    wpAny (Md w) A (eval (.Name x pos) env) Q E s := nm hk hx (ld_cell F hk hx hc ho h)
theorem e_free {Q : Value → Shared → Prop} (F : Fm w B s own) (hk : Ks env L cl ks) (hx : (x, .free) ∈ ks) {c : Addr} (hc : (x, c) ∈ cl) (ho : Has B own c (CellP (some v))) (h : Q v s) :
    wpAny (Md w) A (eval (.Name x pos) env) Q E s := nm hk hx (ld_free F hk hx hc ho h)
theorem e_glo {Q : Value → Shared → Prop} (F : Fm w B s own) (hk : Ks env L cl ks) (hx : (x, .globalImplicit) ∈ ks) (hg : Glo x v) (h : Q v s) :
    wpAny (Md w) A (eval (.Name x pos) env) Q E s := by
  obtain ⟨G, W, hsub⟩ := F.base
  obtain ⟨mg, g, hv⟩ := hg w G W
  refine Name_function_global hk.kind (hk.kinds _ hx).1 ?_ (hk.kinds _ hx).2.1
  rcases hv with hv | ⟨hn, mb, b, hv⟩
  · exact loadGlobal_global (by rw [hk.glob]; exact g.keeps hsub) hv h
  · exact loadGlobal_builtin (by rw [hk.glob]; exact g.keeps hsub) hn (by rw [hk.bts]; exact b.keeps hsub) hv h

theorem m1 {α : Type} {a b1 : α} {l : List α} : a ∈ b1 :: a :: l := .tail _ (.head _)
theorem m2 {α : Type} {a b1 b2 : α} {l : List α} : a ∈ b1 :: b2 :: a :: l := .tail _ m1
theorem m3 {α : Type} {a b1 b2 b3 : α} {l : List α} : a ∈ b1 :: b2 :: b3 :: a :: l := .tail _ m2
theorem m4 {α : Type} {a b1 b2 b3 b4 : α} {l : List α} : a ∈ b1 :: b2 :: b3 :: b4 :: a :: l := .tail _ m3
theorem m5 {α : Type} {a b1 b2 b3 b4 b5 : α} {l : List α} : a ∈ b1 :: b2 :: b3 :: b4 :: b5 :: a :: l := .tail _ m4
theorem m6 {α : Type} {a b1 b2 b3 b4 b5 b6 : α} {l : List α} : a ∈ b1 :: b2 :: b3 :: b4 :: b5 :: b6 :: a :: l := .tail _ m5
theorem m7 {α : Type} {a b1 b2 b3 b4 b5 b6 b7 : α} {l : List α} : a ∈ b1 :: b2 :: b3 :: b4 :: b5 :: b6 :: b7 :: a :: l := .tail _ m6
inductive Dr (x : Str) : List (Str × Value) → List (Str × Value) → Prop
  | nil : Dr x [] []
  | skip {v r r'} : Dr x r r' → Dr x ((x, v) :: r) r'
  | keep {p r r'} : p.1 ≠ x → Dr x r r' → Dr x (p :: r) (p :: r')
theorem Dr.spec {bs bs' : List (Str × Value)} (d : Dr x bs bs') : ∀ p ∈ bs', p ∈ bs ∧ p.1 ≠ x := by
  induction d with
  | nil => exact fun _ h => (nomatch h)
  | skip _ ih => exact fun p hp => ⟨.tail _ (ih p hp).1, (ih p hp).2⟩
  | keep h _ ih =>
    intro p hp
    rcases List.mem_cons.mp hp with rfl | hp
    · exact ⟨.head _, h⟩
    · exact ⟨.tail _ (ih p hp).1, (ih p hp).2⟩

theorem st_loc {Q : Unit → Shared → Prop} (F : Fm w B s own) (hk : Ks env L cl ks) (hx : (x, .local) ∈ ks) {bs bs' : List (Str × Value)} (U : UpdE L (NsP bs) (NsP ((x, v) :: bs')) own own') (hd : Dr x bs bs')
    (h : ∀ s', Fm w B s' own' → Q () s') : wpAny (Md w) A (storeName env x v) Q E s := by
  obtain ⟨m, hn, hb⟩ := F.ns U.mem
  refine wpAny_storeName_local (hk.kinds _ hx).1 (by rw [hk.loc]; exact hn) (fun h' hn' hs => h _ ?_) (by rw [hk.kind]; rfl)
  rw [hk.loc] at hn' hs
  refine F.upd U hs (nsP_of hn' fun p hp => ?_)
  rcases List.mem_cons.mp hp with rfl | hp
  · simp
  · have := hd.spec p hp
    simp only [this.2, if_false]
    exact hb p this.1
theorem st_cell {Q : Unit → Shared → Prop} (F : Fm w B s own) (hk : Ks env L cl ks) (hx : (x, .cell) ∈ ks) {c : Addr} (hc : (x, c) ∈ cl) {v₀ : Option Value} (U : UpdE c (CellP v₀) (CellP (some v)) own own')
    (h : ∀ s', Fm w B s' own' → Q () s') : wpAny (Md w) A (storeName env x v) Q E s := by
  obtain ⟨o, e, hd⟩ := F.sat _ U.mem
  refine wpAny_storeName_cell hk.kind (hk.kinds _ hx).1 (hk.cells _ hc) ⟨o, e, hd⟩ fun h' hv hs => h _ ?_
  exact F.upd U hs hv
end

/-! statements, two at a time -/
section
variable {M : Model} {A : Around} {E : Value → Shared → Prop} {s : Shared} {env : Env} {rest : List Stmt} {Q : Flow → Shared → Prop}
noncomputable def Nx (M : Model) (A : Around) (E : Value → Shared → Prop) (env : Env) (rest : List Stmt) (Q : Flow → Shared → Prop) (f : Flow) (s : Shared) : Prop := match f with
  | .next => wpAny M A (execs rest env) Q E s
  | f => Q f s
theorem nx_next (h : wpAny M A (execs rest env) Q E s) : Nx M A E env rest Q .next s := h
theorem nx_ret {v : Value} (h : Q (.ret v) s) : Nx M A E env rest Q (.ret v) s := h
theorem nx_cont (h : Q .cont s) : Nx M A E env rest Q .cont s := h
theorem nx_brk (h : Q .brk s) : Nx M A E env rest Q .brk s := h
theorem x_one {st : Stmt} (h : wpAny M A (exec st env) (Nx M A E env rest Q) E s) : wpAny M A (execs (st :: rest) env) Q E s :=
  wpAny_execs_cons (wpAny_mono h (fun f s' h' => by cases f <;> exact h') fun _ _ e => e)
theorem x_nil (h : Q .next s) : wpAny M A (execs [] env) Q E s := wpAny_execs_nil h
noncomputable abbrev KR {α : Type} (M : Model) (A : Around) (E : Value → Shared → Prop) (env : Env) (rest : List Stmt) (Q : Flow → Shared → Prop) (_ : α) (s : Shared) : Prop := wpAny M A (execs rest env) Q E s
noncomputable abbrev KS (M : Model) (A : Around) (E : Value → Shared → Prop) (env : Env) (x : Str) (rest : List Stmt) (Q : Flow → Shared → Prop) (v : Value) (s : Shared) : Prop := wpAny M A (storeName env x v) (KR M A E env rest Q) E s
noncomputable abbrev K2 (M : Model) (A : Around) (E : Value → Shared → Prop) (f : Value → Value → Sem Value) (Q : Value → Shared → Prop) (a b : Value) (s : Shared) : Prop := wpAny M A (f a b) Q E s
noncomputable abbrev K1 (M : Model) (A : Around) (E : Value → Shared → Prop) (env : Env) (r : Expr) (f : Value → Value → Sem Value) (Q : Value → Shared → Prop) (a : Value) (s : Shared) : Prop := wpAny M A (eval r env) (K2 M A E f Q a) E s
noncomputable abbrev KT (M : Model) (A : Around) (E : Value → Shared → Prop) (Q : Bool → Shared → Prop) (v : Value) (s : Shared) : Prop := wpAny M A (truthy v) Q E s
theorem o_bin {l : Expr} {op : Operator} {r : Expr} {pos : Pos} {Q : Value → Shared → Prop} (h : wpAny M A (eval l env) (K1 M A E env r (binaryOp op) Q) E s) : wpAny M A (eval (.BinOp l op r pos) env) Q E s := wpAny_BinOp h
theorem x_assign {x : Str} {pos' pos : Pos} {value : Expr} (h : wpAny M A (eval value env) (KS M A E env x rest Q) E s)
    (hs : swapsWith value (some (.Name x pos')) pos.line env = pure false := by with_unfolding_all rfl) : wpAny M A (execs (.Assign [.Name x pos'] value pos :: rest) env) Q E s := x_one (wpAny_Assign_Name h hs)
theorem x_aug {x : Str} {pos' pos : Pos} {op : Operator} {value : Expr} (h : wpAny M A (loadName env x) (fun old s₁ => wpAny M A (eval value env) (fun v s₂ => wpAny M A (inplaceOp op old v)
      (KS M A E env x rest Q) E s₂) E s₁) E s) : wpAny M A (execs (.AugAssign (.Name x pos') op value pos :: rest) env) Q E s := x_one (wpAny_AugAssign_Name h)
noncomputable def Br (M : Model) (A : Around) (E : Value → Shared → Prop) (env : Env) (body orelse rest : List Stmt) (Q : Flow → Shared → Prop) (b : Bool) (s : Shared) : Prop := match b with
  | true => wpAny M A (execs body env) (Nx M A E env rest Q) E s
  | false => wpAny M A (execs orelse env) (Nx M A E env rest Q) E s
theorem br_true {body orelse : List Stmt} (h : wpAny M A (execs body env) (Nx M A E env rest Q) E s) : Br M A E env body orelse rest Q true s := h
theorem br_false {body orelse : List Stmt} (h : wpAny M A (execs orelse env) (Nx M A E env rest Q) E s) : Br M A E env body orelse rest Q false s := h
theorem br_skip {body : List Stmt} (h : wpAny M A (execs rest env) Q E s) : Br M A E env body [] rest Q false s := x_nil (nx_next h)
theorem br_cases {body orelse : List Stmt} {b : Bool} (h1 : b = true → Br M A E env body orelse rest Q true s) (h2 : b = false → Br M A E env body orelse rest Q false s) : Br M A E env body orelse rest Q b s := by
  cases b
  · exact h2 rfl
  · exact h1 rfl
theorem x_if {test : Expr} {body orelse : List Stmt} {pos : Pos} (h : wpAny M A (isTrue test env (eval test env)) (Br M A E env body orelse rest Q) E s) : wpAny M A (execs (.If test body orelse pos :: rest) env) Q E s :=
  x_one (wpAny_If (wpAny_mono h (fun b s' h' => by cases b <;> exact h') fun _ _ e => e))
theorem x_ret {e : Expr} {pos : Pos} (h : wpAny M A (eval e env) (fun v => Q (.ret v)) E s) : wpAny M A (execs (.Return (some e) pos :: rest) env) Q E s :=
  x_one (wpAny_Return_some (wpAny_mono h (fun _ _ h' => h') fun _ _ e => e))
theorem x_cont {pos : Pos} (h : Q .cont s) : wpAny M A (execs (.Continue pos :: rest) env) Q E s := x_one (wpAny_Continue h)
theorem x_brk {pos : Pos} (h : Q .brk s) : wpAny M A (execs (.Break pos :: rest) env) Q E s := x_one (wpAny_Break h)

noncomputable def B2 (b : Bool) (P1 P2 : Prop) : Prop := match b with
  | true => P1
  | false => P2
end
section
variable {prog : Program} {w : World} {A : Around} {E : Value → Shared → Prop} {s : Shared} {env : Env} {rest : List Stmt} {Q : Flow → Shared → Prop}
theorem x_expr {e : Expr} {pos : Pos} (h : wpAny (model prog w) A (eval e env) (KR (model prog w) A E env rest Q) E s)
    (hi : interactive env = false := by with_unfolding_all rfl) (hs : swapsWith e none pos.line env = pure false := by with_unfolding_all rfl) : wpAny (model prog w) A (execs (.Expr e pos :: rest) env) Q E s := x_one (wpAny_Expr_any h hi hs)
end
end

section
open PySem PySem.W PySem.Spec PySem.Calls PyProof.Rows
set_option Elab.async false
set_option maxRecDepth 100000

noncomputable def retV : Flow → Value
  | .ret v => v
  | _ => .none
noncomputable def chk (sc : Scope) (ks : List (Str × NameKind)) : Bool := ks.all fun p => (sc.names.lookup p.1 == some p.2) && (!(p.1 == ("__debug__" : Str)) && !(p.1 == ("__classdict__" : Str)))
theorem kinds_of {env : Env} {ks : List (Str × NameKind)} (h : chk env.scope ks = true) : ∀ p ∈ ks, env.kindOf p.1 = some p.2 ∧ (p.1 == ("__debug__" : Str)) = false ∧ (p.1 == ("__classdict__" : Str)) = false := fun p hp => by
  have := List.all_eq_true.mp h p hp
  simp only [Bool.and_eq_true, Bool.not_eq_true', beq_iff_eq] at this
  exact ⟨this.1, this.2.1, this.2.2⟩
noncomputable def dEnv (fd : FuncData) (f L : Addr) : Env :=
  { scope := fd.scope, locals := L, globals := fd.globals, cells := fd.closure, qual := fd.qualname ++ ".<locals>.", func := some f, code := fd.code, frame := some L, builtins := fd.builtins }
theorem dKs {fd : FuncData} {f L : Addr} {ks : List (Str × NameKind)} (h : chk fd.scope ks = true) (hk : fd.scope.kind = .function) (hg : fd.globals = mainGlobals) (hb : fd.builtins = builtinsNs) (hc : ∀ p ∈ cl, fd.closure.lookup p.1 = some p.2) :
    Ks (dEnv fd f L) L cl ks := ⟨hk, hg, hb, rfl, hc, kinds_of h⟩

noncomputable def fdOf (K : Frag) (f : Addr) : FuncData := match K.lookup f with
  | some ⟨_, _, .func fd, _⟩ => fd
  | _ => default
noncomputable def isFnK (K : Frag) (f : Addr) : Bool := match K.lookup f with
  | some ⟨_, _, .func _, _⟩ => true
  | _ => false
theorem fd_at {K : Frag} {h : Heap} {f : Addr} (X : K.In h) (e : isFnK K f = true) : ∃ o, h.get? f = some o ∧ o.data = .func (fdOf K f) := by
  unfold isFnK at e
  unfold fdOf
  split at e
  · rename_i q
    exact ⟨_, X _ _ q, rfl⟩
  · cases e
noncomputable def plainFd (fd : FuncData) : Bool := fd.scope.isCoroutine == false && (fd.scope.isGenerator == false && (fd.scope.kind == .function && (fd.globals == mainGlobals && (fd.builtins == builtinsNs && (match fd.body with | .stmts _ => true | _ => false)))))
noncomputable def bodyOf (fd : FuncData) : List Stmt := match fd.body with
  | .stmts b => b
  | _ => []
theorem plain_fd {fd : FuncData} (h : plainFd fd = true) : fd.scope.isCoroutine = false ∧ fd.scope.isGenerator = false ∧ fd.scope.kind = .function ∧ fd.globals = mainGlobals ∧ fd.builtins = builtinsNs ∧ fd.body = .stmts (bodyOf fd) := by
  unfold plainFd at h
  simp only [Bool.and_eq_true, beq_iff_eq] at h
  obtain ⟨h1, h2, h3, h4, h5, h6⟩ := h
  refine ⟨h1, h2, h3, h4, h5, ?_⟩
  unfold bodyOf
  split at h6
  · rename_i q; rw [q]
  · cases h6

section
variable {w : World} {A : Around} {B s : Shared} {own : Led} {E : Value → Shared → Prop} {n : Nat} {R : Result → Shared → Prop}

theorem enter {f : Addr} {args : List Value} {binds bs : List (Str × Value)} (hA : Rm A (n + 1)) (W : Wg w s.heap) (hf : isFnK (KH w.params) f = true)
    (hp : plainFd (fdOf (KH w.params) f) = true) (hcd : codeIn (KH w.params) (fdOf (KH w.params) f).code (fdOf (KH w.params) f).qualname = true)
    (hbind : bindArgs (fdOf (KH w.params) f) ⟨args, []⟩ = pure binds) (hcell : ∀ x ∈ (fdOf (KH w.params) f).scope.names, x.2 ≠ .cell)
    (hloc : ∀ x ∈ binds, (fdOf (KH w.params) f).scope.names.lookup x.1 = some .local) (hbs : ∀ p ∈ bs, binds.reverse.lookup p.1 = some p.2)
    (h : ∀ L s', s.heap.objs.size ≤ L → Fm w s s' [(L, NsP bs)] → Rm (A.deeper (dEnv (fdOf (KH w.params) f) f L)) n →
      wpAny (Md w) (A.deeper (dEnv (fdOf (KH w.params) f) f L)) (execs (bodyOf (fdOf (KH w.params) f)) (dEnv (fdOf (KH w.params) f) f L)) (fun fl s'' => R (.ok (.ret (retV fl))) s'') (fun _ _ => False) s') :
    codeAny (Md w) A (.call (.ref f) ⟨args, []⟩) R s := by
  obtain ⟨G, WG, hs⟩ := id W
  obtain ⟨o, ho, hd⟩ := fd_at WG.K hf
  obtain ⟨p1, p2, p3, p4, p5, p6⟩ := plain_fd hp
  obtain ⟨mg, mb, p, loose, mean, T⟩ := WG.T
  refine codeAny_call_function hA.room (hs _ _ ho) hd p1 p2 p6 ((codeRec_of WG.K hcd).keeps hs) ?_
  rw [hbind]
  refine wpAny_pure (wpAny_newFunctionEnv hcell hloc (fun h₁ hns hsb => ⟨(T.nolimit.keeps hs).fresh _ hsb, ?_⟩) p3)
  have F0 : Fm w s { s with heap := s.heap.push { cls := .type "frame", data := .dict #[] }, toks := s.toks } ((s.heap.objs.size, fun _ => True) :: []) := (Fm.start W).push rfl trivial
  have F1 : Fm w s { s with heap := h₁, toks := s.toks + binds.length } ((s.heap.objs.size, NsP bs) :: []) := F0.upd (.head) hsb (nsP_of hns hbs)
  refine codeAny_func (wpAny_mono (h s.heap.objs.size _ (Nat.le_refl _) F1 hA.deeper) (fun fl s'' h' => ?_) fun _ _ x => x.elim)
  cases fl <;> exact h'
end
end

section
open PySem PySem.W PySem.Spec PySem.Calls PyProof.Rows
set_option Elab.async false
set_option maxRecDepth 100000

theorem kbp {w : World} {B : Shared} {own : Led} : KeptByPush (fun s => Fm w B s own) := by
  intro s ob k F
  have x : Ext s { s with heap := s.heap.push ob, toks := k } := ⟨fun b o e => Heap.get?_push_of_some _ e, rfl, rfl⟩
  exact F.ext x

section
variable {w : World} {A : Around} {B s : Shared} {own own' : Led} {E : Value → Shared → Prop} {env : Env} {L : Addr} {cl : List (Str × Addr)} {ks : List (Str × NameKind)} {x y : Str} {v : Value} {pos : Pos} {k : Nat} {t u : Tok} {Q : Value → Shared → Prop}

theorem e_str (F : Fm w B s own) (h : ∀ t' s', Fm w B s' own → Q (.str x t') s') : wpAny (Md w) A (eval (.Constant (.str x) k pos) env) Q E s := Constant_str (h _ _ (F.tok _))
theorem e_int (F : Fm w B s own) {i : Int} (h : ∀ t' s', Fm w B s' own → Q (.int i t') s') : wpAny (Md w) A (eval (.Constant (.int i) k pos) env) Q E s := wpAny_Constant_int (h _ _ (F.tok _))

noncomputable def Ev (M : Model) (A : Around) (E : Value → Shared → Prop) (env : Env) : List Expr → (List Value → Shared → Prop) → Shared → Prop
  | [], Q, s => Q [] s
  | e :: r, Q, s => wpAny M A (eval e env) (fun v s₁ => Ev M A E env r (fun vs s₂ => Q (v :: vs) s₂) s₁) E s
noncomputable abbrev KV (Q : List Value → Shared → Prop) (v : Value) (vs : List Value) (s : Shared) : Prop := Q (v :: vs) s
noncomputable abbrev KE (M : Model) (A : Around) (E : Value → Shared → Prop) (env : Env) (r : List Expr) (Q : List Value → Shared → Prop) (v : Value) (s : Shared) : Prop := Ev M A E env r (KV Q v) s
noncomputable abbrev KCall (M : Model) (A : Around) (E : Value → Shared → Prop) (f : Value) (Q : Value → Shared → Prop) (vs : List Value) (s : Shared) : Prop := wpAny M A (call f vs) Q E s
noncomputable abbrev KFn (w : World) (A : Around) (E : Value → Shared → Prop) (f : Addr) (Q : Value → Shared → Prop) (vs : List Value) (s : Shared) : Prop := Wg w s.heap ∧ wpAny (Md w) A (call (.ref f) vs) Q E s
theorem ev_nil {M : Model} {Q : List Value → Shared → Prop} (h : Q [] s) : Ev M A E env [] Q s := h
theorem ev_cons {M : Model} {e : Expr} {r : List Expr} {Q : List Value → Shared → Prop} (h : wpAny M A (eval e env) (KE M A E env r Q) E s) : Ev M A E env (e :: r) Q s := h

noncomputable def plainE : Expr → Bool
  | .Starred .. => false
  | _ => true
theorem starEach_plain : ∀ {args : List Expr}, args.all plainE = true → starEach args env = args.map fun e => (false, eval e env)
  | [], _ => rfl
  | e :: r, h => by
    simp only [List.all_cons, Bool.and_eq_true] at h
    have ih := starEach_plain h.2
    cases e <;> first | exact absurd h.1 Bool.false_ne_true | exact congrArg (_ :: ·) ih
theorem spliced_ev {M : Model} : ∀ {args : List Expr} {Q : List Value → Shared → Prop} {s : Shared}, args.all plainE = true → Ev M A E env args Q s → wpAny M A (spliced (backTo pos (starEach args env))) Q E s
  | [], _, _, _, h => spliced_nil h
  | e :: r, Q, s, hp, h => by
    have hp' := hp
    simp only [List.all_cons, Bool.and_eq_true] at hp'
    have he : starEach (e :: r) env = (false, eval e env) :: starEach r env := by rw [starEach_plain hp, starEach_plain hp'.2]; rfl
    exact args_cons (wpAny_mono h (fun v s₁ h₁ => spliced_ev hp'.2 h₁) fun _ _ x => x) he
theorem backTo_plain {args : List Expr} (h : args.all plainE = true) : (backTo pos (starEach args env)).any (·.1) = false := by
  rw [starEach_plain h]
  unfold backTo
  rw [List.map_map, List.any_map]
  simp
theorem evalArgs_ev {M : Model} {f : Value} {args : List Expr} {Q : Args → Shared → Prop} (hp : args.all plainE = true) (h : Ev M A E env args (fun vs s' => Q ⟨vs, []⟩ s') s) :
    wpAny M A (evalArgs f true (backTo pos (starEach args env)) []) Q E s := by
  cases args with
  | nil => exact PyProof.Rows.evalArgs_none h
  | cons e r =>
    have hp' := hp
    simp only [List.all_cons, Bool.and_eq_true] at hp'
    have he : starEach (e :: r) env = (false, eval e env) :: starEach r env := by rw [starEach_plain hp, starEach_plain hp'.2]; rfl
    have := spliced_ev (pos := pos) hp h
    rw [he] at this ⊢
    exact evalArgs_plain this

theorem cw_bi {id : String} {args : List Expr} (h : Ev (Md w) A E env args (KCall (Md w) A E (.builtin id) Q) s) (hp : args.all plainE = true := by with_unfolding_all rfl) :
    wpAny (Md w) A (callWith pos (.builtin id) [] (backTo pos (starEach args env)) []) Q E s :=
  callWith_builtin (backTo_plain hp) (evalArgs_ev hp h)
theorem cw_m {id : String} {a : Value} {args : List Expr} (h : Ev (Md w) A E env args (KV (KCall (Md w) A E (.builtin id) Q) a) s) (hp : args.all plainE = true := by with_unfolding_all rfl) :
    wpAny (Md w) A (callWith pos (.builtin id) [a] (backTo pos (starEach args env)) []) Q E s :=
  callWith_builtin (backTo_plain hp) (evalArgs_ev hp h)
theorem cw_ty {T : String} {args : List Expr} (h : Ev (Md w) A E env args (KCall (Md w) A E (.type T) Q) s) (hp : args.all plainE = true := by with_unfolding_all rfl) :
    wpAny (Md w) A (callWith pos (.type T) [] (backTo pos (starEach args env)) []) Q E s :=
  PyProof.Rows.callWith_type (backTo_plain hp) (evalArgs_ev hp h)
theorem cw_fnX {f : Addr} {first : List Value} {args : List Expr} (hf : isFnK (KH w.params) f = true) (h : Ev (Md w) A E env args (fun vs s₁ => Wg w s₁.heap ∧ wpAny (Md w) A (call (.ref f) (first ++ vs)) Q E s₁) s) (hp : args.all plainE = true := by with_unfolding_all rfl) :
    wpAny (Md w) A (callWith pos (.ref f) first (backTo pos (starEach args env)) []) Q E s := by
  have key : ∀ h, Wg w h → ∃ k, (k = Keeper.frame ∨ k = Keeper.machine ∨ k = Keeper.boundFrame) ∧ Looks (Md w) h (keeperOf (.ref f)) k := by
    intro h ⟨G, W, hs⟩
    obtain ⟨o, ho, hd⟩ := fd_at W.K hf
    refine ⟨.frame, .inl rfl, (Looks.ld (part := none) (hs _ _ ho)).andThen ?_⟩
    rw [hd]
    exact .now
  exact callWith_of (P := Wg w) (by rw [backTo_plain hp]; rfl) key (evalArgs_ev hp h)

theorem cw_fn {f : Addr} {args : List Expr} (hf : isFnK (KH w.params) f = true) (h : Ev (Md w) A E env args (KFn w A E f Q) s) (hp : args.all plainE = true := by with_unfolding_all rfl) :
    wpAny (Md w) A (callWith pos (.ref f) [] (backTo pos (starEach args env)) []) Q E s := cw_fnX hf h hp
theorem cw_fm {f : Addr} {a : Value} {args : List Expr} (hf : isFnK (KH w.params) f = true) (h : Ev (Md w) A E env args (KV (KFn w A E f Q) a) s) (hp : args.all plainE = true := by with_unfolding_all rfl) :
    wpAny (Md w) A (callWith pos (.ref f) [a] (backTo pos (starEach args env)) []) Q E s := cw_fnX hf h hp

theorem c_glo {f : Str} {np : Pos} {args : List Expr} {fv : Value} (F : Fm w B s own) (hk : Ks env L cl ks) (hx : (f, .globalImplicit) ∈ ks) (hg : Glo f fv)
    (h : wpAny (Md w) A (callWith pos fv [] (backTo pos (starEach args env)) []) Q E s) : wpAny (Md w) A (eval (.Call (.Name f np) args [] pos) env) Q E s :=
  Call_ (e_glo F hk hx hg h)

/-! texts -/
theorem o_add (F : Fm w B s own) (hz : x.length + y.length ≤ sizeLine) (h : ∀ t' s', Fm w B s' own → Q (.str (x ++ y) t') s') : wpAny (Md w) A (binaryOp .Add (.str x t) (.str y u)) Q E s :=
  PyProof.Rows.add_str (fun _ _ => h _ _ (F.tok _)) hz
theorem o_eqs (h : Q (.bool (x == y)) s) : wpAny (Md w) A (compareOp .Eq (.str x t) (.str y u)) Q E s := PyProof.Rows.eq_str h
theorem o_nes (h : Q (.bool (x != y)) s) : wpAny (Md w) A (compareOp .NotEq (.str x t) (.str y u)) Q E s := PyProof.Rows.ne_str h
theorem t_str {Q : Bool → Shared → Prop} (F : Fm w B s own) (hz : x.length ≤ sizeLine) (h : ∀ s', Fm w B s' own → Q ((x.length : Int) != 0) s') : wpAny (Md w) A (truthy (.str x t)) Q E s :=
  PySem.P.truthy_str (by rw [sizeLine_eq] at hz; omega) (h _ (F.same rfl rfl rfl))
theorem t_bool {b : Bool} {Q : Bool → Shared → Prop} (h : Q b s) : wpAny (Md w) A (truthy (.bool b)) Q E s := wpAny_truthy_bool h

theorem bt_cmp {l r : Expr} {op : CmpOp} {whole : Sem Value} {Q : Bool → Shared → Prop}
    (h : wpAny (Md w) A (eval l env) (K1 (Md w) A E env r (compareOp op) (KT (Md w) A E Q)) E s)
    (hm : behindInMarks op r = false := by with_unfolding_all rfl) : wpAny (Md w) A (isTrue (.Compare l [op] [r] pos) env whole) Q E s := wpAny_isTrue_Compare1 h hm
theorem bt_call {f : Expr} {args : List Expr} {Q : Bool → Shared → Prop}
    (h : wpAny (Md w) A (eval (.Call f args [] pos) env) (KT (Md w) A E Q) E s) : wpAny (Md w) A (isTrue (.Call f args [] pos) env (eval (.Call f args [] pos) env)) Q E s := isTrue_plain h
theorem bt_name {x : Str} {Q : Bool → Shared → Prop}
    (h : wpAny (Md w) A (eval (.Name x pos) env) (KT (Md w) A E Q) E s) : wpAny (Md w) A (isTrue (.Name x pos) env (eval (.Name x pos) env)) Q E s := isTrue_plain h

noncomputable abbrev KM2 (M : Model) (A : Around) (E : Value → Shared → Prop) (env : Env) (pos : Pos) (args : List Expr) (Q : Value → Shared → Prop) (fx : Value × List Value) (s : Shared) : Prop := wpAny M A (callWith pos fx.1 fx.2 (backTo pos (starEach args env)) []) Q E s
noncomputable abbrev KM (M : Model) (A : Around) (E : Value → Shared → Prop) (env : Env) (pos : Pos) (name : Str) (args : List Expr) (Q : Value → Shared → Prop) (ov : Value) (s : Shared) : Prop := ∀ pl, wpAny M A (getMethod ov name pl) (KM2 M A E env pos args Q) E s
theorem c_meth {o : Expr} {name : Str} {apos : Pos} {args : List Expr}
    (h : wpAny (Md w) A (eval o env) (KM (Md w) A E env pos name args Q) E s)
    (hb : attributeBase o name env (eval o env) = eval o env := by with_unfolding_all rfl) (hp : (args.all plainE && decide (args.length < 29)) = true := by with_unfolding_all rfl) (hline : (apos.endLine == pos.line) = true := by with_unfolding_all rfl) :
    wpAny (Md w) A (eval (.Call (.Attribute o name apos) args [] pos) env) Q E s := by
  rw [arm_eval_Call, hb]
  simp only [Bool.and_eq_true, decide_eq_true_eq] at hp
  have hform : methodCallForm (args.length + ([] : List Keyword).length) (backTo pos (starEach args env)) (backToKw pos (keywordEach [] env)) = true := by
    unfold methodCallForm
    have e1 : (backTo pos (starEach args env)).all (!·.1) = true := by
      have := backTo_plain (pos := pos) (env := env) hp.1
      rw [List.any_eq_false] at this
      rw [List.all_eq_true]
      intro x hx
      have := this x hx
      simpa using this
    rw [e1]
    show (true && (true && decide (args.length + 0 + 0 < 30))) = true
    simp only [Bool.true_and, decide_eq_true_eq]
    omega
  have hpos : methodCallPos true o env apos pos = pure pos := by unfold methodCallPos; simp [hline]
  refine wpAny_bind (wpAny_mono h (fun ov s₁ h₁ => wpAny_bind (wpAny_standAt ?_)) fun _ _ e => e)
  unfold methodCall
  rw [hform]
  unfold calleeOf
  simp only [if_true]
  refine wpAny_bind (wpAny_holding (wpAny_mono (h₁ _) (fun fx s₂ h₂ => wpAny_bind (wpAny_of_eq hpos h₂)) fun _ _ e => e))

theorem isList_of {l : Addr} {xs : List Value} (F : Fm w B s own) (h : Has B own l (LstP xs)) : s.heap.IsList l xs.toArray := by
  obtain ⟨o, e, n, rfl⟩ := F.has h
  exact ⟨_, e, rfl, n, rfl⟩
end

/-! membership and such, by search -/
theorem ofString_ne {a b : String} (h : (PySem.Str.ofString a == PySem.Str.ofString b) = false) {v : Value} : (((PySem.Str.ofString a, v) : Str × Value)).1 ≠ PySem.Str.ofString b := fun e => by
  have e' : PySem.Str.ofString a = PySem.Str.ofString b := e
  rw [e'] at h
  simp at h
end

section
open PySem PySem.W PySem.Spec PySem.Calls PyProof.Rows
set_option Elab.async false
set_option maxRecDepth 100000
noncomputable def okFn (K : Frag) (f : Addr) : Bool := isFnK K f && (plainFd (fdOf K f) && (codeIn K (fdOf K f).code (fdOf K f).qualname && (fdOf K f).scope.names.all fun x => !(x.2 == .cell)))
theorem enterD {w : World} {A : Around} {s : Shared} {n : Nat} {R : Result → Shared → Prop} {f : Addr} {args : List Value} {binds : List (Str × Value)} {ks : List (Str × NameKind)} (hA : Rm A (n + 1)) (W : Wg w s.heap)
    (hf : okFn (KH w.params) f = true)
    (hbind : bindArgs (fdOf (KH w.params) f) ⟨args, []⟩ = pure binds)
    (hloc : (binds.all fun x => (fdOf (KH w.params) f).scope.names.lookup x.1 == some .local) = true) (hnd' : decide ((binds.map (·.1)).Nodup) = true)
    (hks : chk (fdOf (KH w.params) f).scope ks = true)
    (h : ∀ L s', s.heap.objs.size ≤ L → Fm w s s' [(L, NsP binds)] → Rm (A.deeper (dEnv (fdOf (KH w.params) f) f L)) n → Ks (dEnv (fdOf (KH w.params) f) f L) L [] ks →
      wpAny (Md w) (A.deeper (dEnv (fdOf (KH w.params) f) f L)) (execs (bodyOf (fdOf (KH w.params) f)) (dEnv (fdOf (KH w.params) f) f L)) (fun fl s'' => R (.ok (.ret (retV fl))) s'') (fun _ _ => False) s') :
    codeAny (Md w) A (.call (.ref f) ⟨args, []⟩) R s := by
  have hnd := of_decide_eq_true hnd'
  unfold okFn at hf
  simp only [Bool.and_eq_true] at hf
  obtain ⟨h1, h2, h3, h4⟩ := hf
  have hp := plain_fd h2
  refine enter (binds := binds) (bs := binds) hA W h1 h2 h3 hbind (fun x hx => ?_) (fun x hx => ?_) (fun p hp => ?_) fun L s' hL F hA' => h L s' hL F hA' (dKs hks hp.2.2.1 hp.2.2.2.1 hp.2.2.2.2.1 fun _ h => (nomatch h))
  · have := List.all_eq_true.mp h4 x hx
    simpa using this
  · have := List.all_eq_true.mp hloc x hx
    simpa using this
  · have nd : (binds.reverse.map (·.1)).Nodup := by rw [List.map_reverse]; exact (List.reverse_perm _).nodup_iff.mpr hnd
    have hm : p ∈ binds.reverse := List.mem_reverse.mpr hp
    generalize binds.reverse = l at nd hm
    clear hbind hloc hnd hnd' h
    induction l with
    | nil => cases hm
    | cons q r ih =>
      rw [List.map_cons, List.nodup_cons] at nd
      rw [List.lookup_cons]
      rcases List.mem_cons.mp hm with rfl | hm
      · simp
      · have : (p.1 == q.1) = false := by
          rw [beq_eq_false_iff_ne]
          intro e
          exact nd.1 (e ▸ List.mem_map_of_mem hm)
        rw [this]
        exact ih nd.2 hm


theorem code_bi {w : World} {A : Around} {s : Shared} {R : Result → Shared → Prop} {id : String} {b : Builtin} {args : List Value} (hk : builtinKind id = none) (hp : plainId id = true)
    (hb : entryFor table id = some b) (ha : argsOk id ⟨args, []⟩)
    (h : wpAny (Md w) A.in1 (b ⟨args, []⟩) (fun fin s' => match fin with | .done f => R (.ok f) s' | .again c' => c'.quiet = true ∧ codeAny (Md w) A c' R s') (fun e s' => R (.error e) s') s) :
    codeAny (Md w) A (.call (.builtin id) ⟨args, []⟩) R s := by
  refine codeAny_call_builtin hp hb ?_
  simp only [checkBuiltinCall, hk]
  cases hsig : Manifest.signature? id with
  | none => exact wpAny_pure h
  | some sig =>
    simp only [argsOk, hsig] at ha
    have h2 : Bind.checkArgs id sig ⟨args, []⟩ = pure () := ha
    show wpAny _ A.in1 (Bind.checkArgs id sig ⟨args, []⟩) _ _ s
    rw [h2]; exact wpAny_pure h
theorem sub_tt : isSubtype (.type "tuple") (.type "tuple") = pure true := by kernel_rfl
theorem sub_ss : isSubtype (.type "str") (.type "str") = pure true := by kernel_rfl
theorem issub_one {w : World} {A : Around} {s : Shared} {E : Value → Shared → Prop} {k : Value} (hk : k = rawInt (0 + 1)) {Q : PySem.Fin → Shared → Prop} 
     (hq : Q (.done (.ret (.bool true))) s) :
    wpAny (Md w) A (Builtin.«issubclass.nested» ⟨[.type "str", .type "str", k], []⟩) Q E s := by
  subst hk
  have h1 : typeOf (.type "str") = pure (.type "type") := by kernel_rfl
  have h2 := sub_ss
  wp_walk
  exact hq
theorem kind_issn : builtinKind "issubclass.nested" = none := by decide +kernel
theorem plain_issn : plainId "issubclass.nested" = true := by decide +kernel
theorem args_issn (a b c : Value) : argsOk "issubclass.nested" ⟨[a, b, c], []⟩ := by unfold argsOk; kernel_rfl
theorem issub_nested {w : World} {A : Around} {s : Shared} {E : Value → Shared → Prop} {a : Addr} {n : Nat} {Q : PySem.Fin → Shared → Prop}
    (ho : s.heap.get? a = some (seqObj "tuple" [.type "str", .type "bytes"].toArray n)) (hq : Q (.done (.ret (.bool true))) s) :
    wpAny (Md w) A (Builtin.«issubclass.nested» ⟨[.type "str", .ref a, rawInt 0], []⟩) Q E s := by
  wp_walk
  refine wpAny_of_eq sub_tt ?_
  wp_walk
  refine code_bi kind_issn plain_issn F.entry_issubclass_nested (args_issn _ _ _) (issub_one rfl ?_)
  wp_walk
  exact hq
theorem o_issub {w : World} {A : Around} {s : Shared} {E : Value → Shared → Prop} {a : Addr} {n : Nat} {Q : Value → Shared → Prop}
    (ho : s.heap.get? a = some (seqObj "tuple" [.type "str", .type "bytes"].toArray n)) (hq : Q (.bool true) s) :
    wpAny (Md w) A (call (.builtin "issubclass") [.type "str", .ref a]) Q E s := by
  refine wpAny_call (code_bi F.kind_issubclass F.plain_issubclass F.entry_issubclass (F.args_issubclass_2 _ _) ?_)
  wp_walk
  refine ⟨Code.quiet_builtin _ (by decide +kernel), codeAny_builtin F.entry_issubclass_nested ?_⟩
  rw [Around.under_plain (show (Code.builtin "issubclass.nested" ⟨[.type "str", .ref a, rawInt 0], []⟩).weight = 0 from rfl) rfl]
  exact issub_nested ho hq
end

section
open PySem PySem.W PySem.Spec PySem.Calls PyProof.Rows
set_option Elab.async false
set_option maxRecDepth 100000

theorem g_isinstance : Glo (PySem.Str.ofString "isinstance") (.builtin "isinstance") := Glo.ofB (fun _ => by kernel_rfl) (by kernel_rfl) (by decide +kernel)
theorem g_issubclass : Glo (PySem.Str.ofString "issubclass") (.builtin "issubclass") := Glo.ofB (fun _ => by kernel_rfl) (by kernel_rfl) (by decide +kernel)
theorem g_bytes : Glo (PySem.Str.ofString "bytes") (.type "bytes") := Glo.ofB (fun _ => by kernel_rfl) (by kernel_rfl) (by decide +kernel)
theorem g_str : Glo (PySem.Str.ofString "str") (.type "str") := Glo.ofB (fun _ => by kernel_rfl) (by kernel_rfl) (by decide +kernel)
theorem g_type : Glo (PySem.Str.ofString "type") (.type "type") := Glo.ofB (fun _ => by kernel_rfl) (by kernel_rfl) (by decide +kernel)
theorem g_fspath : Glo (PySem.Str.ofString "fspath") (.ref 117) := Glo.ofK (fun _ => by kernel_rfl)
theorem g_getsep : Glo (PySem.Str.ofString "_get_sep") (.ref 131) := Glo.ofK (fun _ => by kernel_rfl)
theorem g_len : Glo (PySem.Str.ofString "len") (.builtin "len") := Glo.ofB (fun _ => by kernel_rfl) (by kernel_rfl) (by decide +kernel)

section
variable {w : World} {A : Around} {B s : Shared} {own own' : Led} {E : Value → Shared → Prop} {env : Env} {L : Addr} {cl : List (Str × Addr)} {ks : List (Str × NameKind)} {x y : Str} {v : Value} {pos : Pos} {k : Nat} {t u : Tok} {Q : Value → Shared → Prop}
theorem o_isi_false {T : String} (F : Fm w B s own) (hne : (Value.type "str" == Value.type T) = false) (hty : typeOf (.type T) = pure (.type "type")) (hsub : isSubtype (.type "str") (.type T) = pure false)
    (h : ∀ s', Fm w B s' own → Q (.bool false) s') : wpAny (Md w) A (call (.builtin "isinstance") [.str x t, .type T]) Q E s :=
  call_isinstance (isinstance_false_str hne hty hsub) (h _ (F.tok _))
theorem o_isi_strbytes (F : Fm w B s own) (h : ∀ s', Fm w B s' own → Q (.bool false) s') : wpAny (Md w) A (call (.builtin "isinstance") [.str x t, .type "bytes"]) Q E s :=
  o_isi_false F (by decide +kernel) (by kernel_rfl) (by kernel_rfl) h
theorem o_type (h : Q (.type "str") s) : wpAny (Md w) A (call (.type "type") [.str x t]) Q E s := call_type_of (Tx := "str") (typeIs_str _ _ _) (by decide +kernel) h
end
inductive TupK (w : World) (B : Shared) (P : List Value → Obj → Prop) (Q : Value → Shared → Prop) (vs : List Value) (s₁ : Shared) : Prop
  | mk (own' : Led) (F : Fm w B s₁ own') (hz : vs.length ≤ sizeLine) (h : ∀ a s', Fm w B s' ((a, P vs) :: own') → Q (.ref a) s')
inductive SlN (w : World) (B : Shared) (x : Str) (Q : Value → Shared → Prop) (j : Value) (s₂ : Shared) : Prop
  | mk (i : Int) (u : Tok) (own' : Led) (e : j = .int i u) (F : Fm w B s₂ own') (h : ∀ t' s', Fm w B s' own' → Q (.str (Txt.slice x none (some i)) t') s')
inductive SlS (w : World) (B : Shared) (x : Str) (Q : Value → Shared → Prop) (j : Value) (s₂ : Shared) : Prop
  | mk (i : Int) (u : Tok) (own' : Led) (e : j = .int i u) (F : Fm w B s₂ own') (h : ∀ t' s', Fm w B s' own' → Q (.str (Txt.slice x (some i) none) t') s')
inductive SlX (w : World) (A : Around) (E : Value → Shared → Prop) (env : Env) (e : Expr) (P : Str → Value → Shared → Prop) (o : Value) (s₁ : Shared) : Prop
  | mk (x : Str) (t : Tok) (eo : o = .str x t) (hz : x.length ≤ sizeLine) (h : wpAny (Md w) A (eval e env) (P x) E s₁)
noncomputable abbrev KN (M : Model) (A : Around) (E : Value → Shared → Prop) (env : Env) (r : Expr) (P : Value → Value → Shared → Prop) (o : Value) (s : Shared) : Prop := wpAny M A (eval r env) (P o) E s
section
variable {w : World} {A : Around} {B s : Shared} {own own' : Led} {E : Value → Shared → Prop} {env : Env} {L : Addr} {cl : List (Str × Addr)} {ks : List (Str × NameKind)} {x y : Str} {v : Value} {pos : Pos} {k : Nat} {t u : Tok} {Q : Value → Shared → Prop}
theorem e_slice_ns {vn : Str} {vp : Pos} {e : Expr} {p : Pos} (h : wpAny (Md w) A (eval (.Name vn vp) env) (SlX w A E env e fun x => SlN w B x Q) E s) :
    wpAny (Md w) A (eval (.Subscript (.Name vn vp) (.Slice none (some e) none p) pos) env) Q E s := by
  refine Subscript_ (wpAny_mono h (fun o s₁ h₁ => ?_) fun _ _ e => e)
  obtain ⟨x, t, rfl, hz, h₁⟩ := h₁
  refine wpAny_Slice (evalPart_none_step (evalPart_some_step (wpAny_mono h₁ (fun j s₂ h₂ => evalPart_none_step ?_) fun _ _ e => e)))
  obtain ⟨i, u, own', rfl, F, h₂⟩ := h₂
  exact tail_of_ItemOn (SBG.sliceItem_ns kbp F (fun s' t' => h₂ t' s') hz) rfl fun _ => rfl
theorem e_slice_sn {vn : Str} {vp : Pos} {e : Expr} {p : Pos} (h : wpAny (Md w) A (eval (.Name vn vp) env) (SlX w A E env e fun x => SlS w B x Q) E s) :
    wpAny (Md w) A (eval (.Subscript (.Name vn vp) (.Slice (some e) none none p) pos) env) Q E s := by
  refine Subscript_ (wpAny_mono h (fun o s₁ h₁ => ?_) fun _ _ e => e)
  obtain ⟨x, t, rfl, hz, h₁⟩ := h₁
  refine wpAny_Slice (evalPart_some_step (wpAny_mono h₁ (fun j s₂ h₂ => evalPart_none_step (evalPart_none_step ?_)) fun _ _ e => e))
  obtain ⟨i, u, own', rfl, F, h₂⟩ := h₂
  exact tail_of_ItemOn (SBG.sliceItem_sn kbp F (fun s' t' => h₂ t' s') hz) rfl fun _ => rfl
inductive SlB (w : World) (B : Shared) (x : Str) (Q : Value → Shared → Prop) (i : Int) (j : Value) (s₂ : Shared) : Prop
  | mk (i' : Int) (u : Tok) (own' : Led) (e : j = .int i' u) (F : Fm w B s₂ own') (h : ∀ t' s', Fm w B s' own' → Q (.str (Txt.slice x (some i) (some i')) t') s')
inductive SlA (w : World) (A : Around) (B : Shared) (E : Value → Shared → Prop) (env : Env) (e' : Expr) (x : Str) (Q : Value → Shared → Prop) (j : Value) (s₂ : Shared) : Prop
  | mk (i : Int) (u : Tok) (e : j = .int i u) (h : wpAny (Md w) A (eval e' env) (SlB w B x Q i) E s₂)
theorem e_slice_ss {vn : Str} {vp : Pos} {e e' : Expr} {p : Pos} (h : wpAny (Md w) A (eval (.Name vn vp) env) (SlX w A E env e fun x => SlA w A B E env e' x Q) E s) :
    wpAny (Md w) A (eval (.Subscript (.Name vn vp) (.Slice (some e) (some e') none p) pos) env) Q E s := by
  refine Subscript_ (wpAny_mono h (fun o s₁ h₁ => ?_) fun _ _ e => e)
  obtain ⟨x, t, rfl, hz, h₁⟩ := h₁
  refine wpAny_Slice (evalPart_some_step (wpAny_mono h₁ (fun j s₂ h₂ => evalPart_some_step ?_) fun _ _ e => e))
  obtain ⟨i, u, rfl, h₂⟩ := h₂
  refine wpAny_mono h₂ (fun j' s₃ h₃ => evalPart_none_step ?_) fun _ _ e => e
  obtain ⟨i', u', own', rfl, F, h₃⟩ := h₃
  exact tail_of_ItemOn (SBG.sliceItem_ss kbp F (fun s' t' => h₃ t' s') hz) rfl fun _ => rfl
theorem o_addi {a b : Int} (F : Fm w B s own) (h : ∀ t' s', Fm w B s' own → Q (.int (a + b) t') s') : wpAny (Md w) A (binaryOp .Add (.int a t) (.int b u)) Q E s := wpAny_add_int (h _ _ (F.tok _))
theorem m_rfind (F : Fm w B s own) (h : ∀ t' s', Fm w B s' own → Q (.int (Txt.rfind x y) t') s') : wpAny (Md w) A (call (.builtin "str.rfind") [.str x t, .str y u]) Q E s := SC.rfind (h _ _ (F.tok _))
theorem m_rstrip (F : Fm w B s own) (hz : x.length ≤ sizeLine) (h : ∀ t' s', Fm w B s' own → Q (.str (Txt.rstripChars x y) t') s') : wpAny (Md w) A (call (.builtin "str.rstrip") [.str x t, .str y u]) Q E s :=
  SC.rstripChars (fun _ k => h _ _ (F.tok k)) hz
theorem o_lens (F : Fm w B s own) (hz : x.length ≤ sizeLine) (h : ∀ t' s', Fm w B s' own → Q (.int x.length t') s') : wpAny (Md w) A (call (.builtin "len") [.str x t]) Q E s :=
  SBL.len (by rw [sizeLine_eq] at hz; omega) (h _ _ (F.same rfl rfl rfl))
noncomputable def rep (x : Str) (n : Nat) : Str := ⟨(List.replicate n x.cps).foldl (· ++ ·) #[]⟩
theorem o_rep {n : Nat} (F : Fm w B s own) (hx : x.length = 1) (h1 : 1 ≤ n) (hn : n ≤ sizeLine) (h : ∀ t' s', Fm w B s' own → Q (.str (rep x n) t') s') : wpAny (Md w) A (binaryOp .Mult (.str x t) (.int n u)) Q E s := by
  rw [sizeLine_eq] at hn
  have e1 : (decide ((n : Int) < -(2 ^ 63 : Int)) || decide ((n : Int) ≥ 2 ^ 63)) = false := by
    rw [decide_eq_false (by omega), decide_eq_false (by omega)]; rfl
  refine PySem.P.mul_str e1 (fun _ _ => ?_) (fun _ _ => ?_) ?_
  · rw [hx]
    have h0 : (0 : Int) < n := by omega
    have : (1 : Int) ≤ (2 ^ 63 - 1) / (n : Int) := by
      rw [Int.le_ediv_iff_mul_le h0]; omega
    omega
  · rw [hx, Int.toNat_natCast, Nat.one_mul]
    unfold PySem.Builtin.Str.tooLong
    exact decide_eq_false (by first | omega | (rw [sizeLine_eq]; omega))
  · rw [if_neg (by omega)]
    split
    · rename_i h2
      have hn1 : n = 1 := by
        rw [hx] at h2
        simp at h2
        omega
      subst hn1
      have e : rep x 1 = x := by
        unfold rep
        simp
      exact e ▸ h t s F
    · rw [Int.toNat_natCast]
      have hz : (rep x n).length ≤ sizeLine := by
        have : ∀ (m : Nat) (acc : Array Nat), ((List.replicate m x.cps).foldl (· ++ ·) acc).size = acc.size + m := by
          intro m
          induction m with
          | zero => intro acc; simp
          | succ m ih =>
            intro acc
            rw [List.replicate_succ, List.foldl_cons, ih]
            have : x.cps.size = 1 := hx
            simp [this]; omega
        have := this n #[]
        show ((List.replicate n x.cps).foldl (· ++ ·) #[]).size ≤ sizeLine
        rw [this, sizeLine_eq]; simp; omega
      exact ⟨hz, h _ _ (F.tok _)⟩
theorem e_tup {elts : List Expr} {k : Nat} (F : Fm w B s own) (h : Ev (Md w) A E env elts (TupK w B TupP Q) s)
    (hp : elts.all plainE = true := by with_unfolding_all rfl) : wpAny (Md w) A (eval (.Tuple elts k pos) env) Q E s := by
  refine Tuple_ (wpAny_mono (spliced_ev hp h) (fun vs s₁ h₁ => ?_) fun _ _ e => e)
  obtain ⟨own', F', hz, h'⟩ := h₁
  exact wpAny_newObj_type (h' _ _ (F'.push rfl ⟨0, rfl⟩)) (by show vs.toArray.size ≤ sizeLine; rw [List.size_toArray]; exact hz)
end
end

local macro_rules | `(tactic| omega) => `(tactic| lia)

section
open PySem PySem.W PySem.Spec PySem.Calls PyProof.Rows
set_option Elab.async false
set_option maxRecDepth 100000
noncomputable def New (s s' : Shared) (a : Addr) (P : Obj → Prop) : Prop := Ext s s' ∧ s.heap.get? a = none ∧ ∃ o, s'.heap.get? a = some o ∧ P o
theorem Fm.out {w : World} {s s' : Shared} {own : Led} {a : Addr} {P : Obj → Prop} (F : Fm w s s' own) (h : (a, P) ∈ own) : New s s' a P := ⟨F.toExt, F.fresh _ h, F.sat _ h⟩
theorem Fm.new {w : World} {B s s' : Shared} {own : Led} {a : Addr} {P : Obj → Prop} (F : Fm w B s own) (x : New s s' a P) : Fm w B s' ((a, P) :: own) := F.add x.1 x.2.1 x.2.2
theorem sub_of_but {h h' : Heap} (x : Heap.ExtBut h.objs.size h h') : Sub h h' := fun b o e => x b o (Nat.ne_of_lt (Heap.lt_size e)) e

inductive Un2 (w : World) (A : Around) (B : Shared) (E : Value → Shared → Prop) (env : Env) (a b : Str) (rest : List Stmt) (Q : Flow → Shared → Prop) (v : Value) (s₁ : Shared) : Prop
  | mk (t : Addr) (own' : Led) (v1 v2 : Value) (e : v = .ref t) (F : Fm w B s₁ own') (ht : Has B own' t (TupP [v1, v2])) (h : ∀ s₂, Fm w B s₂ own' → wpAny (Md w) A (storeName env a v1) (fun _ s₃ => KS (Md w) A E env b rest Q v2 s₃) E s₂)
inductive Sw2 (w : World) (A : Around) (B : Shared) (E : Value → Shared → Prop) (env : Env) (a b : Str) (rest : List Stmt) (Q : Flow → Shared → Prop) (v : Value) (s₁ : Shared) : Prop
  | mk (t : Addr) (own' : Led) (v1 v2 : Value) (e : v = .ref t) (F : Fm w B s₁ own') (ht : Has B own' t (TupP [v1, v2])) (h : ∀ s₂, Fm w B s₂ own' → wpAny (Md w) A (storeName env b v2) (fun _ s₃ => KS (Md w) A E env a rest Q v1 s₃) E s₂)
inductive Un3 (w : World) (A : Around) (B : Shared) (E : Value → Shared → Prop) (env : Env) (a b c : Str) (rest : List Stmt) (Q : Flow → Shared → Prop) (v : Value) (s₁ : Shared) : Prop
  | mk (t : Addr) (own' : Led) (v1 v2 v3 : Value) (e : v = .ref t) (F : Fm w B s₁ own') (ht : Has B own' t (TupP [v1, v2, v3])) (h : ∀ s₂, Fm w B s₂ own' → wpAny (Md w) A (storeName env a v1) (fun _ s₃ => wpAny (Md w) A (storeName env b v2) (fun _ s₄ => KS (Md w) A E env c rest Q v3 s₄) E s₃) E s₂)
section
variable {w : World} {A : Around} {B s : Shared} {own own' : Led} {E : Value → Shared → Prop} {env : Env} {L : Addr} {cl : List (Str × Addr)} {ks : List (Str × NameKind)} {x y : Str} {v : Value} {pos : Pos} {k : Nat} {t u : Tok} {n : Nat}

theorem isTup_of {a : Addr} {xs : List Value} (F : Fm w B s own) (h : Has B own a (TupP xs)) : IsTup s.heap a xs.toArray := by
  obtain ⟨o, e, n, rfl⟩ := F.has h
  exact ⟨_, e, rfl, n, rfl⟩

theorem o_unpack {Q : List Value → Shared → Prop} {a : Addr} {vs : List Value} {n : Nat} (hA : Rm A n) (F : Fm w B s own) (ht : Has B own a (TupP vs)) (h : ∀ s', Fm w B s' own → Q vs s') {k : Nat} (hk : k = vs.length) :
    wpAny (Md w) A (unpackItems (.ref a) k none) Q E s := by
  subst hk
  have := unpackItems_tuple (prog := PP) (w := w) (A := A) (E := E) (s := s) (Q := Q) hA.h (isTup_of F ht) (fun h' he => by
    have : vs.toArray.toList = vs := by simp
    rw [this]
    exact h _ (F.ext ⟨sub_of_but he, rfl, rfl⟩))
  rw [List.size_toArray] at this
  exact this

theorem x_swap2 {a b : Str} {elts : List Expr} {k : Nat} {tpos : Pos} {value : Expr} {rest : List Stmt} {Q : Flow → Shared → Prop} {n : Nat} (hA : Rm A n)
    (hw : swappedStores [.Tuple elts k tpos] value env = pure (some [a, b]))
    (h : wpAny (Md w) A (eval value env) (Sw2 w A B E env a b rest Q) E s)
    (hs : swapsWithSole [.Tuple elts k tpos] value pos.line env = pure false := by with_unfolding_all rfl) :
    wpAny (Md w) A (execs (.Assign [.Tuple elts k tpos] value pos :: rest) env) Q E s := by
  refine x_one (Assign_Tuple_swapped (wpAny_mono h (fun v s₁ h₁ => ?_) fun _ _ e => e) hs hw)
  obtain ⟨t, own', v1, v2, rfl, F, ht, h₁⟩ := h₁
  refine o_unpack hA F ht (fun s₂ F₂ => ?_) rfl
  show wpAny _ _ (do holding [v1] (bindName env b v2); do holding [] (bindName env a v1); pure ()) _ _ _
  exact wpAny_bind (wpAny_holding (wpAny_bindName (wpAny_mono (h₁ s₂ F₂) (fun _ s₃ h₃ => wpAny_bind (wpAny_holding (wpAny_bindName (wpAny_mono h₃ (fun _ s₄ h₄ => wpAny_pure h₄) fun _ _ e => e)))) fun _ _ e => e)))

theorem x_unp2 {a b : Str} {pa pb : Pos} {k : Nat} {tpos : Pos} {value : Expr} {rest : List Stmt} {Q : Flow → Shared → Prop} {n : Nat} (hA : Rm A n)
    (h : wpAny (Md w) A (eval value env) (Un2 w A B E env a b rest Q) E s)
    (hs : swapsWithSole [.Tuple [.Name a pa, .Name b pb] k tpos] value pos.line env = pure false := by with_unfolding_all rfl)
    (hw : swappedStores [.Tuple [.Name a pa, .Name b pb] k tpos] value env = pure none := by with_unfolding_all rfl) :
    wpAny (Md w) A (execs (.Assign [.Tuple [.Name a pa, .Name b pb] k tpos] value pos :: rest) env) Q E s := by
  refine x_one (Assign_Tuple (wpAny_mono h (fun v s₁ h₁ => ?_) fun _ _ e => e) hs hw)
  obtain ⟨t, own', v1, v2, rfl, F, ht, h₁⟩ := h₁
  show wpAny _ _ (do standAt tpos; unpack (.ref t) [(false, assign (.Name a pa) env), (false, assign (.Name b pb) env)]) _ _ _
  refine wpAny_bind (wpAny_standAt ?_)
  unfold unpack
  refine wpAny_bind (wpAny_holding (o_unpack hA F ht (fun s₂ F₂ => ?_) rfl))
  show wpAny _ _ (do holding [v2] (assign (.Name a pa) env v1); do holding [] (assign (.Name b pb) env v2); pure ()) _ _ _
  exact wpAny_bind (wpAny_holding (assign_Name (wpAny_mono (h₁ s₂ F₂) (fun _ s₃ h₃ => wpAny_bind (wpAny_holding (assign_Name (wpAny_mono h₃ (fun _ s₄ h₄ => wpAny_pure h₄) fun _ _ e => e)))) fun _ _ e => e)))
theorem x_unp3 {a b c : Str} {pa pb pc : Pos} {k : Nat} {tpos : Pos} {value : Expr} {rest : List Stmt} {Q : Flow → Shared → Prop} {n : Nat} (hA : Rm A n)
    (h : wpAny (Md w) A (eval value env) (Un3 w A B E env a b c rest Q) E s)
    (hs : swapsWithSole [.Tuple [.Name a pa, .Name b pb, .Name c pc] k tpos] value pos.line env = pure false := by with_unfolding_all rfl)
    (hw : swappedStores [.Tuple [.Name a pa, .Name b pb, .Name c pc] k tpos] value env = pure none := by with_unfolding_all rfl) :
    wpAny (Md w) A (execs (.Assign [.Tuple [.Name a pa, .Name b pb, .Name c pc] k tpos] value pos :: rest) env) Q E s := by
  refine x_one (Assign_Tuple (wpAny_mono h (fun v s₁ h₁ => ?_) fun _ _ e => e) hs hw)
  obtain ⟨t, own', v1, v2, v3, rfl, F, ht, h₁⟩ := h₁
  show wpAny _ _ (do standAt tpos; unpack (.ref t) [(false, assign (.Name a pa) env), (false, assign (.Name b pb) env), (false, assign (.Name c pc) env)]) _ _ _
  refine wpAny_bind (wpAny_standAt ?_)
  unfold unpack
  refine wpAny_bind (wpAny_holding (o_unpack hA F ht (fun s₂ F₂ => ?_) rfl))
  show wpAny _ _ (do holding [v2, v3] (assign (.Name a pa) env v1); do holding [v3] (assign (.Name b pb) env v2); do holding [] (assign (.Name c pc) env v3); pure ()) _ _ _
  exact wpAny_bind (wpAny_holding (assign_Name (wpAny_mono (h₁ s₂ F₂) (fun _ s₃ h₃ => wpAny_bind (wpAny_holding (assign_Name (wpAny_mono h₃ (fun _ s₄ h₄ => wpAny_bind (wpAny_holding (assign_Name (wpAny_mono h₄ (fun _ s₅ h₅ => wpAny_pure h₅) fun _ _ e => e)))) fun _ _ e => e)))) fun _ _ e => e)))

/-! tests: and, or, not -/
variable {Q : Bool → Shared → Prop}
theorem bt_and {a b : Expr} {whole : Sem Value} (h : wpAny (Md w) A (isTrue a env (eval a env)) (fun c s' => B2 c (wpAny (Md w) A (isTrue b env (eval b env)) Q E s') (Q false s')) E s) :
    wpAny (Md w) A (isTrue (.BoolOp .And [a, b] pos) env whole) Q E s :=
  isTrue_and (wpAny_mono h (fun c s' h' => by
    cases c
    · exact h'
    · exact isTrue_and (wpAny_mono (show wpAny _ _ _ _ _ _ from h') (fun d s'' h'' => by
        cases d
        · exact h''
        · exact isTrue_and_nil h'') fun _ _ e => e)) fun _ _ e => e)
theorem bt_or {a b : Expr} {whole : Sem Value} (h : wpAny (Md w) A (isTrue a env (eval a env)) (fun c s' => B2 c (Q true s') (wpAny (Md w) A (isTrue b env (eval b env)) Q E s')) E s) :
    wpAny (Md w) A (isTrue (.BoolOp .Or [a, b] pos) env whole) Q E s :=
  isTrue_or (wpAny_mono h (fun c s' h' => by
    cases c
    · exact isTrue_or (wpAny_mono (show wpAny _ _ _ _ _ _ from h') (fun d s'' h'' => by
        cases d
        · exact isTrue_or_nil h''
        · exact h'') fun _ _ e => e)
    · exact h') fun _ _ e => e)
theorem bt_not {a : Expr} {whole : Sem Value} (h : wpAny (Md w) A (isTrue a env (eval a env)) (fun c s' => Q (!c) s') E s) : wpAny (Md w) A (isTrue (.UnaryOp .Not a pos) env whole) Q E s := isTrue_not h
theorem b2 {b : Bool} {P1 P2 : Prop} (h1 : b = true → P1) (h2 : b = false → P2) : B2 b P1 P2 := by
  cases b
  · exact h2 rfl
  · exact h1 rfl
theorem b2_t {P1 P2 : Prop} (h : P1) : B2 true P1 P2 := h
theorem b2_f {P1 P2 : Prop} (h : P2) : B2 false P1 P2 := h
end

section
variable {M : Model} {A : Around} {E : Value → Shared → Prop} {s : Shared} {env : Env} {rest : List Stmt} {Q : Flow → Shared → Prop} {J : Shared → Prop}
noncomputable def Nj (J : Shared → Prop) (Q : Flow → Shared → Prop) (f : Flow) (s : Shared) : Prop := match f with
  | .next => J s
  | f => Q f s
theorem x_join {st : Stmt} (J : Shared → Prop) (h : wpAny M A (exec st env) (Nj J Q) E s) (k : ∀ s', J s' → wpAny M A (execs rest env) Q E s') : wpAny M A (execs (st :: rest) env) Q E s :=
  x_one (wpAny_mono h (fun f s' h' => by
    cases f
    · exact k _ h'
    · exact h'
    · exact h'
    · exact h') fun _ _ e => e)
noncomputable def Bj (M : Model) (A : Around) (E : Value → Shared → Prop) (env : Env) (body orelse : List Stmt) (Q : Flow → Shared → Prop) (b : Bool) (s : Shared) : Prop := match b with
  | true => wpAny M A (execs body env) Q E s
  | false => wpAny M A (execs orelse env) Q E s
theorem bj_true {body orelse : List Stmt} (h : wpAny M A (execs body env) Q E s) : Bj M A E env body orelse Q true s := h
theorem bj_false {body orelse : List Stmt} (h : wpAny M A (execs orelse env) Q E s) : Bj M A E env body orelse Q false s := h
theorem bj_cases {body orelse : List Stmt} {b : Bool} (h1 : b = true → wpAny M A (execs body env) Q E s) (h2 : b = false → wpAny M A (execs orelse env) Q E s) : Bj M A E env body orelse Q b s := by
  cases b
  · exact h2 rfl
  · exact h1 rfl
theorem ex_if {test : Expr} {body orelse : List Stmt} {pos : Pos} (h : wpAny M A (isTrue test env (eval test env)) (Bj M A E env body orelse Q) E s) : wpAny M A (exec (.If test body orelse pos) env) Q E s :=
  wpAny_If (wpAny_mono h (fun b s' h' => by cases b <;> exact h') fun _ _ e => e)
theorem j_end (h : J s) : wpAny M A (execs [] env) (Nj J Q) E s := x_nil h
end
end

local macro_rules | `(tactic| kd_mem) => `(tactic| with_reducible (first | exact List.mem_cons_self | exact m1 | exact m2 | exact m3 | exact m4 | exact m5 | exact m6 | exact m7 | (refine List.mem_cons_of_mem _ ?_; kd_mem)))
local macro_rules | `(tactic| kd_all) => `(tactic| with_reducible (first | exact UpdE.head | exact UpdE.t1 | exact UpdE.t2 | exact UpdE.t3 | exact UpdE.t4 | exact UpdE.t5 | exact UpdE.t6 | exact UpdE.t7 | (apply UpdE.tail; kd_all)))
local macro_rules | `(tactic| kd_p) => `(tactic| k_dflt (first | with_reducible exact Dr.nil | (with_reducible apply Dr.skip; kd_p) | (apply Dr.keep (ofString_ne (by kernel_rfl)); kd_p)))
local macro_rules | `(tactic| kst_mem) => `(tactic| with_reducible refine e_loc (by assumption) (by assumption) (by kd_mem) (by kd_mem) (by kd_mem) ?_)
local macro_rules | `(tactic| kst_all) => `(tactic| (with_reducible refine st_loc (by assumption) (by assumption) (by kd_mem) (by kd_all) (by kd_p) ?_; intro _ _))

section
open PySem PySem.W PySem.Spec PySem.Calls PyProof.Rows
set_option Elab.async false
set_option maxRecDepth 100000
set_option maxHeartbeats 0
theorem isfn_117 (P : Params) : isFnK (KH P) 117 = true := by kernel_rfl
theorem isfn_131 (P : Params) : isFnK (KH P) 131 = true := by kernel_rfl
theorem c_getsep {w : World} {A : Around} {s : Shared} {n : Nat} {R : Result → Shared → Prop} {x : Str} {t : Tok} (hA : Rm A (n + 1)) (W : Wg w s.heap)
    (h : ∀ t' s', Ext s s' → R (.ok (.ret (.str (Str.ofString "/") t'))) s') : codeAny (Md w) A (.call (.ref 131) ⟨[.str x t], []⟩) R s := by
  with_reducible refine enterD (binds := [(Str.ofString "path", .str x t)]) (ks := [(Str.ofString "path", .local), (Str.ofString "isinstance", .globalImplicit), (Str.ofString "bytes", .globalImplicit)]) hA W (by kernel_rfl) (by kernel_rfl) (by kernel_rfl) (by kernel_rfl) (by kernel_rfl) ?_
  intro L s' hL F hA' hk
  conv in bodyOf _ => whnf
  with_reducible refine x_if (bt_call (c_glo F hk (by kd_mem) g_isinstance (cw_bi (ev_cons ?_))))
  kst_mem
  with_reducible refine ev_cons (e_glo F hk (by kd_mem) g_bytes (ev_nil ?_))
  with_reducible refine o_isi_strbytes F ?_; intro s1 F1
  with_reducible refine t_bool (br_false (x_ret (e_str F1 ?_))); intro t2 s2 F2
  exact h _ _ F2.toExt

theorem c_fspath {w : World} {A : Around} {s : Shared} {n : Nat} {R : Result → Shared → Prop} {x : Str} {t : Tok} (hA : Rm A (n + 1)) (W : Wg w s.heap)
    (h : ∀ s', Ext s s' → R (.ok (.ret (.str x t))) s') : codeAny (Md w) A (.call (.ref 117) ⟨[.str x t], []⟩) R s := by
  with_reducible refine enterD (binds := [(Str.ofString "path", .str x t)]) (ks := [(Str.ofString "path", .local), (Str.ofString "kind", .local), (Str.ofString "type", .globalImplicit), (Str.ofString "issubclass", .globalImplicit), (Str.ofString "str", .globalImplicit), (Str.ofString "bytes", .globalImplicit)]) hA W (by kernel_rfl) (by kernel_rfl) (by kernel_rfl) (by kernel_rfl) (by kernel_rfl) ?_
  intro L s' hL F hA' hk
  conv in bodyOf _ => whnf
  with_reducible refine x_assign (c_glo F hk (by kd_mem) g_type (cw_ty (ev_cons ?_)))
  kst_mem
  with_reducible refine ev_nil (o_type ?_)
  kst_all
  rename_i s1 F1
  with_reducible refine x_if (bt_call (c_glo F1 hk (by kd_mem) g_issubclass (cw_bi (ev_cons ?_))))
  kst_mem
  with_reducible refine ev_cons (e_tup F1 (ev_cons (e_glo F1 hk (by kd_mem) g_str (ev_cons (e_glo F1 hk (by kd_mem) g_bytes (ev_nil ⟨_, F1, Nat.le_of_ble_eq_true rfl, ?_⟩))))))
  intro a s2 F2
  obtain ⟨o, ho, n', rfl⟩ := F2.sat _ List.mem_cons_self
  with_reducible refine ev_nil (o_issub ho (t_bool (br_true (x_ret ?_))))
  with_reducible refine e_loc F2 hk (by kd_mem) (by kd_mem) (by kd_mem) ?_
  exact h _ F2.toExt

noncomputable def spI (p : Str) : Int := Txt.rfind p (Str.ofString "/") + 1
noncomputable def spTail (p : Str) : Str := Txt.slice p (some (spI p)) none
noncomputable def spH0 (p : Str) : Str := Txt.slice p none (some (spI p))
noncomputable def spHead (p : Str) : Str := if (((spH0 p).length : Int) != 0) = true then (if (spH0 p != rep (Str.ofString "/") (spH0 p).length) = true then Txt.rstripChars (spH0 p) (Str.ofString "/") else spH0 p) else spH0 p

theorem c_split {w : World} {A : Around} {s : Shared} {n : Nat} {R : Result → Shared → Prop} {p : Str} {t : Tok} (hA : Rm A (n + 2)) (W : Wg w s.heap) (hz : p.length ≤ 10000)
    (h : ∀ a t1 t2 s', New s s' a (TupP [.str (spHead p) t1, .str (spTail p) t2]) → R (.ok (.ret (.ref a))) s') : codeAny (Md w) A (.call (.ref 145) ⟨[.str p t], []⟩) R s := by
  have hp1 : p.length ≤ sizeLine := by rw [sizeLine_eq]; omega
  with_reducible refine enterD (binds := [(Str.ofString "p", .str p t)]) (ks := [(Str.ofString "p", .local), (Str.ofString "sep", .local), (Str.ofString "i", .local), (Str.ofString "head", .local), (Str.ofString "tail", .local), (Str.ofString "fspath", .globalImplicit), (Str.ofString "_get_sep", .globalImplicit), (Str.ofString "len", .globalImplicit)]) hA W (by kernel_rfl) (by kernel_rfl) (by kernel_rfl) (by kernel_rfl) (by kernel_rfl) ?_
  intro L s' hL F hA' hk
  conv in bodyOf _ => whnf
  -- p = fspath(p)
  with_reducible refine x_assign (c_glo F hk (by kd_mem) g_fspath (cw_fn (isfn_117 _) (ev_cons ?_)))
  kst_mem
  with_reducible refine ev_nil ⟨F.base, wpAny_call (c_fspath hA' F.base ?_)⟩
  intro s1 x1
  have F1 := F.ext x1
  kst_all
  rename_i s2 F2
  -- sep = _get_sep(p)
  with_reducible refine x_assign (c_glo F2 hk (by kd_mem) g_getsep (cw_fn (isfn_131 _) (ev_cons ?_)))
  kst_mem
  with_reducible refine ev_nil ⟨F2.base, wpAny_call (c_getsep hA' F2.base ?_)⟩
  intro t3 s3 x3
  have F3 := F2.ext x3
  kst_all
  rename_i s4 F4
  -- i = p.rfind(sep) + 1
  with_reducible refine x_assign (o_bin (c_meth ?_))
  kst_mem
  with_reducible refine fun _ => ?_
  with_reducible refine GM.rfind ?_
  with_reducible refine cw_m (ev_cons ?_)
  kst_mem
  with_reducible refine ev_nil (m_rfind F4 ?_)
  intro t5 s5 F5
  with_reducible refine e_int F5 ?_
  intro t6 s6 F6
  with_reducible refine o_addi F6 ?_
  intro t7 s7 F7
  kst_all
  rename_i s8 F8
  -- head, tail = (p[:i], p[i:])
  with_reducible refine x_swap2 (B := s) hA' (a := Str.ofString "head") (b := Str.ofString "tail") (by kernel_rfl) (e_tup F8 (ev_cons (e_slice_ns (B := s) ?_)))
  kst_mem
  with_reducible refine ⟨_, _, rfl, hp1, ?_⟩
  kst_mem
  with_reducible refine ⟨_, _, _, rfl, F8, ?_⟩
  intro t9 s9 F9
  with_reducible refine ev_cons (e_slice_sn (B := s) ?_)
  kst_mem
  with_reducible refine ⟨_, _, rfl, hp1, ?_⟩
  kst_mem
  with_reducible refine ⟨_, _, _, rfl, F9, ?_⟩
  intro t10 s10 F10
  with_reducible refine ev_nil ⟨_, F10, Nat.le_of_ble_eq_true rfl, ?_⟩
  intro a11 s11 F11
  with_reducible refine ⟨_, _, _, _, rfl, F11, .led List.mem_cons_self, ?_⟩
  intro s12 F12
  kst_all
  kst_all
  rename_i s13 F13 s14 F14
  have hh1 : (Txt.slice p none (some (Txt.rfind p (Str.ofString "/") + 1))).length ≤ sizeLine := Nat.le_trans (Txt.slice_le p _ _) hp1
  have hH : spH0 p = Txt.slice p none (some (Txt.rfind p (Str.ofString "/") + 1)) := rfl
  -- if head and head != sep * len(head)
  clear F F1 F2 F3 F4 F5 F6 F7 F8 F9 F10 F11 F12 F13
  with_reducible refine x_join (fun s' => ∃ x tx, x = spHead p ∧ Fm w s s' [(a11, TupP [Value.str (Txt.slice p none (some (Txt.rfind p (Str.ofString "/") + 1))) t9, Value.str (Txt.slice p (some (Txt.rfind p (Str.ofString "/") + 1)) none) t10]), (L, NsP [(Str.ofString "head", .str x tx), (Str.ofString "tail", .str (spTail p) t10), (Str.ofString "i", .int (Txt.rfind p (Str.ofString "/") + 1) t7), (Str.ofString "sep", .str (Str.ofString "/") t3), (Str.ofString "p", .str p t)])]) (ex_if (bt_and (bt_name ?_))) ?_
  · kst_mem
    with_reducible refine t_str F14 hh1 ?_
    intro s15 F15
    with_reducible refine b2 (fun e1 => ?_) (fun e1 => bj_false (j_end ⟨_, t9, ?_, F15⟩))
    · with_reducible refine bt_cmp ?_
      kst_mem
      with_reducible refine o_bin ?_
      kst_mem
      with_reducible refine c_glo F15 hk (by kd_mem) g_len (cw_bi (ev_cons ?_))
      kst_mem
      with_reducible refine ev_nil (o_lens F15 hh1 ?_)
      intro t16 s16 F16
      with_reducible refine o_rep F16 (by kernel_rfl) ?_ hh1 ?_
      · have := bne_iff_ne.mp e1
        omega
      intro t17 s17 F17
      with_reducible refine o_nes (t_bool (bj_cases (fun e2 => ?_) (fun e2 => j_end ⟨_, t9, ?_, F17⟩)))
      · with_reducible refine x_assign (c_meth ?_)
        kst_mem
        with_reducible refine fun _ => ?_
        with_reducible refine GM.rstrip ?_
        with_reducible refine cw_m (ev_cons ?_)
        kst_mem
        with_reducible refine ev_nil (m_rstrip F17 hh1 ?_)
        intro t18 s18 F18
        kst_all
        rename_i s19 F19
        with_reducible refine j_end ⟨_, t18, ?_, F19⟩
        unfold spHead
        rw [hH, if_pos e1, if_pos e2]
      · unfold spHead
        rw [hH, if_pos e1, if_neg (by rw [e2]; exact Bool.false_ne_true)]
    · unfold spHead
      rw [hH, if_neg (by rw [e1]; exact Bool.false_ne_true)]
  · rintro s20 ⟨x, tx, hx, F20⟩
    with_reducible refine x_ret (e_tup F20 (ev_cons ?_))
    kst_mem
    with_reducible refine ev_cons ?_
    kst_mem
    with_reducible refine ev_nil ⟨_, F20, Nat.le_of_ble_eq_true rfl, ?_⟩
    intro a s21 F21
    subst hx
    exact h _ _ _ _ (F21.out List.mem_cons_self)
end

section
open PySem PySem.W PySem.Spec PySem.Calls PyProof.Rows
set_option Elab.async false
set_option maxRecDepth 100000
section
variable {w : World} {B s s' : Shared} {own own' : Led} {a : Addr} {P P' : Obj → Prop}
theorem Fm.perm' (F : Fm w B s own) (h : own'.Perm own) : Fm w B s own' :=
  F.perm (fun p hp => h.mem_iff.mp hp) ((h.map _).nodup_iff.mpr F.nd)
theorem Fm.drop1 (F : Fm w B s ((a, P) :: own)) {h' : Heap} (hs : Heap.ExtBut a s.heap h') {t : Nat} : Fm w B { s with heap := h', toks := t } own := by
  have nd := F.nd
  rw [List.map_cons, List.nodup_cons] at nd
  refine ⟨F.wg, fun p hp => ?_, nd.2, fun p hp => F.fresh p (.tail _ hp), fun b o e => ?_, F.gens, F.os⟩
  · obtain ⟨o, e, h⟩ := F.sat p (.tail _ hp)
    have hne : p.1 ≠ a := fun e' => nd.1 (List.mem_map.mpr ⟨p, hp, e'⟩)
    exact ⟨o, hs _ _ hne e, h⟩
  · have hne : b ≠ a := fun e' => by have := F.fresh (a, P) (.head _); rw [← e', e] at this; cases this
    exact hs b _ hne (F.keep b o e)

noncomputable def RngP (a b c : Int) (o : Obj) : Prop := ∃ t u v, o = { cls := .type "range", dict := none, data := .fields #[.int a t, .int b u, .int c v], slots := #[] }
noncomputable def RItP (x left step : Int) (o : Obj) : Prop := o = { cls := .type "range_iterator", dict := none, data := .fields #[rawInt x, rawInt left, rawInt step], slots := #[] }
noncomputable def TItP (l : Addr) (i : Nat) (o : Obj) : Prop := o.cls = .type "tuple_iterator" ∧ o.data = .fields #[.ref l, .int i 0]
structure Src (w : World) (B : Shared) (ok : Led → Prop) (v : Value) (n : Nat) (row : Nat → Obj → Prop) (val : Nat → Value → Prop) : Prop where
  iter : ∀ {A : Around} {s own} {Q : Value → Shared → Prop} {E}, Fm w B s own → ok own → (∀ it s', Fm w B s' ((it, row 0) :: own) → Q (.ref it) s') → wpAny (Md w) A (pyIter v) Q E s
  self : ∀ {A : Around} {s own it i} {Q : Value → Shared → Prop} {E}, Fm w B s own → (it, row i) ∈ own → Q (.ref it) s → wpAny (Md w) A (pyIter (.ref it)) Q E s
  next : ∀ {A : Around} {s own it i} {Q : Option Value → Shared → Prop} {E}, A.handled = none → i < n → Fm w B s ((it, row i) :: own) → ok own → (∀ v s', val i v → Fm w B s' ((it, row (i + 1)) :: own) → Q (some v) s') → wpAny (Md w) A (pyNext (.ref it)) Q E s
  done : ∀ {A : Around} {s own it} {Q : Option Value → Shared → Prop} {E}, A.handled = none → Fm w B s ((it, row n) :: own) → ok own → (∀ s', Fm w B s' own → Q none s') → wpAny (Md w) A (pyNext (.ref it)) Q E s

theorem Has.cons {B : Shared} {p} (h : Has B own a P) : Has B (p :: own) a P := h.elim (fun m => .inl (.tail _ m)) .inr
theorem srcList {l : Addr} {xs : List Value} : Src w B (fun own => Has B own l (LstP xs)) (.ref l) xs.length (ItP l) (fun i v => xs[i]? = some v) where
  iter := fun F ok h => wpAny_pyIter_list (isList_of F ok) (h _ _ (F.push rfl ⟨rfl, rfl⟩))
  self := fun F hm h => by
    obtain ⟨o, e, h1, h2⟩ := F.sat _ hm
    exact wpAny_pyIter_listiter ⟨o, e, h1, h2⟩ h
  next := fun {A s own it i Q E} hh hi F ok h => by
    obtain ⟨o, e, h1, h2⟩ := F.sat _ (.head _)
    refine wpAny_pyNext_list_item ⟨o, e, h1, h2⟩ (isList_of F ok.cons) (x := xs[i]) (by simp [hi]) fun h' hit hs => h _ _ (by simp [hi]) ?_
    obtain ⟨o', e', h1', h2'⟩ := hit
    exact F.upd .head hs ⟨o', e', h1', h2'⟩
  done := fun {A s own it Q E} hh F ok h => by
    obtain ⟨o, e, h1, h2⟩ := F.sat _ (.head _)
    exact wpAny_pyNext_list_end hh ⟨o, e, h1, h2⟩ (isList_of F ok.cons) (by simp) fun h' he => h _ (F.drop1 he)
theorem srcTup {l : Addr} {xs : List Value} : Src w B (fun own => Has B own l (TupP xs)) (.ref l) xs.length (TItP l) (fun i v => xs[i]? = some v) := by
  have tup : ∀ {s own}, Fm w B s own → Has B own l (TupP xs) → s.heap.IsTuple l xs.toArray := fun F h => by
    obtain ⟨o, e, n, rfl⟩ := F.has h
    exact ⟨_, e, rfl, n, rfl⟩
  exact {
  iter := fun F ok h => wpAny_pyIter_tuple (tup F ok) (h _ _ (F.push rfl ⟨rfl, rfl⟩))
  self := fun {A s own it i Q E} Z hm h => by
    obtain ⟨o, e, h1, h2⟩ := Z.sat _ hm
    have hit : s.heap.IsTupleIter it l i := ⟨o, e, h1, h2⟩
    refine wpAny_pyIter_slot hit.typeIs F.slot_tuple_iterator_iter (wpAny_call_entry F.slot_tuple_iterator_iter hit.typeIs F.entry_tuple_iterator_iter ?_ (F.args_tuple_iterator_iter_1 _))
    show wpAny _ _ (ret (.ref it)) _ _ s
    exact wpAny_pure ⟨_, rfl, "tuple_iterator", _, hit.typeIs, F.slot_tuple_iterator_next.lookup, h⟩
  next := fun {A s own it i Q E} hh hi F ok h => by
    obtain ⟨o, e, h1, h2⟩ := F.sat _ (.head _)
    refine wpAny_pyNext_tuple_item ⟨o, e, h1, h2⟩ (tup F ok.cons) (x := xs[i]) (by simp [hi]) fun h' hit hs => h _ _ (by simp [hi]) ?_
    obtain ⟨o', e', h1', h2'⟩ := hit
    exact F.upd .head hs ⟨o', e', h1', h2'⟩
  done := fun {A s own it Q E} hh F ok h => by
    obtain ⟨o, e, h1, h2⟩ := F.sat _ (.head _)
    exact wpAny_pyNext_tuple_end hh ⟨o, e, h1, h2⟩ (tup F ok.cons) (by simp) fun h' he => h _ (F.drop1 he) }
theorem srcRng {r : Addr} {a : Int} {n : Nat} (h1 : -100000 ≤ a) (h2 : a + n ≤ 1000000) : Src w B (fun own => Has B own r (RngP a (a + n) 1)) (.ref r) n (fun i => RItP (a + i) (n - i : Int) 1) (fun i v => ∃ t, v = .int (a + i) t) where
  iter := fun {A s own Q E} F ok h => by
    obtain ⟨o, e, t, u, v, rfl⟩ := F.has ok
    refine wpAny_pyIter_range e (small_one (by omega) (by omega) (by omega) (by omega)) (h _ _ (F.push rfl ?_))
    rw [rangeSize_one]
    have e1 : (if a < a + n then a + n - a else 0) = (n : Int) := by split <;> omega
    have e2 : a + ((0 : Nat) : Int) = a := by omega
    have e3 : (n : Int) - ((0 : Nat) : Int) = n := by omega
    unfold RItP
    rw [e1, e2, e3]
  self := fun {A s own it i Q E} Z hm h => by
    obtain ⟨o, e, h1⟩ := Z.sat _ hm
    have hT : s.TypeIs (.ref it) "range_iterator" := ⟨_, e, by rw [h1]⟩
    refine wpAny_pyIter_slot hT F.slot_range_iterator_iter (wpAny_call_entry F.slot_range_iterator_iter hT F.entry_range_iterator_iter ?_ (F.args_range_iterator_iter_1 _))
    show wpAny _ _ (ret (.ref it)) _ _ s
    exact wpAny_pure ⟨_, rfl, "range_iterator", _, hT, F.slot_range_iterator_next.lookup, h⟩
  next := fun {A s own it i Q E} hh hi F ok h => by
    obtain ⟨o, e, ho⟩ := F.sat _ (.head _)
    refine wpAny_pyNext_range_item (x := a + i) (left := (n : Int) - i) (step := 1) (e.trans (congrArg some ho)) (by omega) fun h' hit hs => h _ _ ⟨_, rfl⟩ ?_
    refine F.upd (t := s.toks + 1) .head hs ⟨_, hit, ?_⟩
    have e1 : a + ((i + 1 : Nat) : Int) = a + i + 1 := by push_cast; omega
    have e2 : (n : Int) - ((i + 1 : Nat) : Int) = n - i - 1 := by push_cast; omega
    show RItP _ _ _ _
    unfold RItP
    rw [e1, e2]
  done := fun {A s own it Q E} hh F ok h => by
    obtain ⟨o, e, ho⟩ := F.sat _ (.head _)
    exact wpAny_pyNext_range_end hh (x := a + n) (left := (n : Int) - n) (step := 1) (e.trans (congrArg some ho)) (by omega) fun h' he => h _ (F.drop1 he)
end

section
variable {w : World} {A : Around} {B s : Shared} {own own' : Led} {E : Value → Shared → Prop} {env : Env} {L : Addr} {cl : List (Str × Addr)} {ks : List (Str × NameKind)} {x y : Str} {v : Value} {pos : Pos} {k : Nat} {t u : Tok} {n : Nat} {rest : List Stmt} {Q : Flow → Shared → Prop}

noncomputable def Ec (J : Prop) : Flow → Prop
  | .next | .cont => J
  | _ => False
theorem ec_next {J : Prop} (h : J) : Ec J .next := h
theorem ec_cont {J : Prop} (h : J) : Ec J .cont := h
noncomputable def Turn (w : World) (A : Around) (env : Env) (x : Str) (body : List Stmt) (v : Value) (K : Shared → Prop) (s : Shared) : Prop :=
  wpAny (Md w) A (storeName env x v) (fun _ s₂ => wpAny (Md w) A (execs body env) (fun f s₃ => Ec (K s₃) f) (fun _ _ => False) s₂) (fun _ _ => False) s
inductive ForP (w : World) (A : Around) (B : Shared) (env : Env) (x : Str) (body : List Stmt) (R : Shared → Prop) (v : Value) (s₁ : Shared) : Prop
  | mk (ok : Led → Prop) (n : Nat) (row : Nat → Obj → Prop) (val : Nat → Value → Prop) (own : Led) (S : Src w B ok v n row val) (F : Fm w B s₁ own) (hok : ok own) (J : Nat → Led → Prop) (J0 : J 0 own) (Jok : ∀ i own, J i own → ok own)
    (turn : ∀ it i v own s (K : Shared → Prop), (∀ own' s', J (i + 1) own' → Fm w B s' ((it, row (i + 1)) :: own') → K s') → i < n → J i own → Fm w B s ((it, row (i + 1)) :: own) → val i v → Turn w A env x body v K s)
    (fin : ∀ own s, J n own → Fm w B s own → R s)

theorem step_lt {k n i : Nat} (hk : k = n - i) (h : i < n) : n - (i + 1) < k := by omega
theorem x_for {x : Str} {px : Pos} {iter : Expr} {body : List Stmt} (hA : Rm A n)
    (h : wpAny (Md w) A (eval iter env) (ForP w A B env x body (fun s => wpAny (Md w) A (execs rest env) Q E s)) E s)
    (hs : ∀ x, foldedSetIterable iter env x = pure x := by intro _; with_unfolding_all rfl) :
    wpAny (Md w) A (execs (.For (.Name x px) iter body [] pos :: rest) env) Q E s := by
  refine x_one (wpAny_For (wpAny_mono h (fun v s₁ h₁ => ?_) fun _ _ e => e) hs)
  obtain ⟨ok, n, row, val, own, S, F, hok, J, J0, Jok, turn, fin⟩ := h₁
  refine S.iter F hok fun it s₂ F₂ => ?_
  refine codeAny_forLoop (fun k s' => ∃ i own, k = n - i ∧ i ≤ n ∧ J i own ∧ Fm w B s' ((it, row i) :: own)) ?_ n ⟨0, own, rfl, Nat.zero_le _, J0, F₂⟩
  rintro k s' ⟨i, own, hk, hi, hJ, F'⟩
  by_cases hlt : i < n
  · refine S.next hA.h hlt F' (Jok _ _ hJ) fun v s₃ hv F₃ => ?_
    refine wpAny_assign_Name (wpAny_mono (turn it i v own s₃ (fun s' => ∃ m, m < k ∧ ∃ i own, m = n - i ∧ i ≤ n ∧ J i own ∧ Fm w B s' ((it, row i) :: own)) (fun own' s' hJ' F₅ => ⟨n - (i + 1), step_lt hk hlt, i + 1, own', rfl, hlt, hJ', F₅⟩) hlt hJ F₃ hv)
      (fun _ s₄ h₄ => wpAny_mono h₄ (fun f s₅ h₅ => ?_) fun _ _ e => e.elim) fun _ _ e => e.elim)
    cases f with
    | next => exact h₅
    | cont => exact h₅
    | brk => exact h₅.elim
    | ret v => exact h₅.elim
  · have : i = n := by omega
    subst this
    refine S.done hA.h F' (Jok _ _ hJ) fun s₃ F₃ => wpAny_execs_nil ?_
    exact fin own s₃ hJ F₃

noncomputable def WTurn (w : World) (A : Around) (E : Value → Shared → Prop) (env : Env) (test : Expr) (body rest : List Stmt) (Q : Flow → Shared → Prop) (K : Shared → Prop) (s : Shared) : Prop :=
  wpAny (Md w) A (isTrue test env (eval test env)) (fun b s₁ => B2 b (wpAny (Md w) A (execs body env) (fun f s₂ => Ec (K s₂) f) (fun _ _ => False) s₁) (wpAny (Md w) A (execs rest env) Q E s₁)) (fun _ _ => False) s
theorem wturn {test : Expr} {body : List Stmt} {K : Shared → Prop} (h : wpAny (Md w) A (isTrue test env (eval test env)) (fun b s₁ => B2 b (wpAny (Md w) A (execs body env) (fun f s₂ => Ec (K s₂) f) (fun _ _ => False) s₁) (wpAny (Md w) A (execs rest env) Q E s₁)) (fun _ _ => False) s) :
  WTurn w A E env test body rest Q K s := h
theorem x_while {test : Expr} {body : List Stmt} (J : Nat → Shared → Prop) (n : Nat) (h0 : J n s)
    (h : ∀ n s (K : Shared → Prop), (∀ m s', m < n → J m s' → K s') → J n s → WTurn w A E env test body rest Q K s) :
    wpAny (Md w) A (execs (.While test body [] pos :: rest) env) Q E s := by
  refine x_one (wpAny_While ?_)
  refine codeAny_whileLoop J (fun n s hJ => ?_) n h0
  refine wpAny_mono (h n s (fun s' => ∃ m, m < n ∧ J m s') (fun m _ a b => ⟨m, a, b⟩) hJ) (fun b s₁ h₁ => ?_) fun _ _ e => e.elim
  cases b with
  | true =>
    refine wpAny_mono (show wpAny _ _ _ _ _ _ from h₁) (fun f s₂ h₂ => ?_) fun _ _ e => e.elim
    cases f with
    | next => exact h₂
    | cont => exact h₂
    | brk => exact h₂.elim
    | ret v => exact h₂.elim
  | false => exact wpAny_execs_nil h₁

theorem o_range1 {b : Nat} {Q : Value → Shared → Prop} (F : Fm w B s own) (h : ∀ r s', Fm w B s' ((r, RngP 0 (0 + b) 1) :: own) → Q (.ref r) s') : wpAny (Md w) A (call (.type "range") [.int b t]) Q E s :=
  call_range_1 (h _ _ (F.push rfl ⟨_, _, _, by rw [Int.zero_add]⟩))
theorem o_range2 {a : Int} {b : Nat} {Q : Value → Shared → Prop} (F : Fm w B s own) (h : ∀ r s', Fm w B s' ((r, RngP a (a + b) 1) :: own) → Q (.ref r) s') : wpAny (Md w) A (call (.type "range") [.int a t, .int (a + b) u]) Q E s :=
  call_range_2 (h _ _ (F.push rfl ⟨_, _, _, rfl⟩))
theorem o_append {l : Addr} {xs : List Value} {Q : Value → Shared → Prop} (F : Fm w B s own) (U : UpdE l (LstP xs) (LstP (xs ++ [v])) own own') (hz : xs.length ≤ sizeLine) (h : ∀ s', Fm w B s' own' → Q .none s') :
    wpAny (Md w) A (call (.builtin "list.append") [.ref l, v]) Q E s := by
  obtain ⟨o, e, m, rfl⟩ := F.sat _ U.mem
  refine wpAny_list_append_plain (hsz := by rw [List.size_toArray]; exact hz) ⟨m, e⟩ fun h' hl hs => ?_
  obtain ⟨m', e'⟩ := hl
  exact h _ (F.upd U hs ⟨_, e', m', by simp [seqObj]⟩)
end
end

section
open PySem PySem.W PySem.Spec PySem.Calls PyProof.Rows
set_option Elab.async false
set_option maxRecDepth 100000
noncomputable def cellNames (sc : Scope) : List Str := (sc.names.filter fun x => x.2 == .cell).map (·.1)
noncomputable def BindP (M : Model) (A : Around) (E : Value → Shared → Prop) (env : Env) : List (Str × Value) → (Shared → Prop) → Shared → Prop
  | [], K, s => K s
  | (n, v) :: r, K, s => wpAny M A (storeName env n v) (fun _ s' => BindP M A E env r K s') E s
theorem bp_nil {M : Model} {A : Around} {E : Value → Shared → Prop} {env : Env} {K : Shared → Prop} {s : Shared} (h : K s) : BindP M A E env [] K s := h
theorem bp_cons {M : Model} {A : Around} {E : Value → Shared → Prop} {env : Env} {K : Shared → Prop} {s : Shared} {n : Str} {v : Value} {r : List (Str × Value)}
    (h : wpAny M A (storeName env n v) (fun _ s' => BindP M A E env r K s') E s) : BindP M A E env ((n, v) :: r) K s := h
theorem bp_run {M : Model} {A : Around} {E : Value → Shared → Prop} {env : Env} (f : Str × Value → PUnit → Sem (ForInStep PUnit)) (hf : ∀ n v u, f (n, v) u = (do storeName env n v; pure (.yield ⟨⟩))) {Q : PUnit → Shared → Prop} :
    ∀ (binds : List (Str × Value)) (s : Shared), BindP M A E env binds (fun s' => Q ⟨⟩ s') s → wpAny M A (forIn binds ⟨⟩ f) Q E s
  | [], s, h => by rw [List.forIn_nil]; exact wpAny_pure h
  | (n, v) :: r, s, h => by
    rw [List.forIn_cons, hf]
    exact wpAny_bind (wpAny_bind (wpAny_mono h (fun _ s' h' => wpAny_pure (bp_run f hf r s' h')) fun _ _ e => e))

section
variable {w : World} {A : Around} {B s : Shared} {own own' : Led} {E : Value → Shared → Prop} {env : Env}

theorem lay_cells (f : Str × NameKind → List (Str × Addr) → Sem (ForInStep (List (Str × Addr))))
    (hf : ∀ name kind cells, f (name, kind) cells = if kind == .cell then (do let a ← alloc { cls := .type "cell", data := .cell none }; pure (.yield ((name, a) :: cells))) else pure (.yield cells)) :
    ∀ (names : List (Str × NameKind)) (acc : List (Str × Addr)) (s : Shared) (own : Led) (Q : List (Str × Addr) → Shared → Prop), Fm w B s own →
      (∀ cr s', cr.map (·.1) = ((names.filter fun x => x.2 == .cell).map (·.1)).reverse → Fm w B s' (cr.map (fun p => (p.2, CellP none)) ++ own) → Q (cr ++ acc) s') → wpAny (Md w) A (forIn names acc f) Q E s
  | [], acc, s, own, Q, F, h => by rw [List.forIn_nil]; exact wpAny_pure (h [] s rfl F)
  | (name, kind) :: r, acc, s, own, Q, F, h => by
    rw [List.forIn_cons, hf]
    by_cases hk : kind == NameKind.cell
    · rw [if_pos hk]
      refine wpAny_bind (wpAny_bind (wpAny_alloc (wpAny_pure ?_)))
      refine lay_cells f hf r _ _ ((s.heap.objs.size, CellP none) :: own) Q (F.push (o := { cls := .type "cell", data := .cell none }) (P := CellP none) (t := s.toks) rfl rfl) fun cr s' hcr F' => ?_
      have := h (cr ++ [(name, s.heap.objs.size)]) s' (by simp [hk, hcr]) (by simpa using F')
      simpa using this
    · rw [if_neg hk]
      exact wpAny_bind (wpAny_pure (lay_cells f hf r _ _ own Q F fun cr s' hcr F' => h cr s' (by simpa [hk] using hcr) F'))

theorem wp_newEnv {scope : Scope} {globals : Addr} {closure : List (Str × Addr)} {binds : List (Str × Value)} {qual : Str} {func : Option Addr} {code : Value} {around : Option Env} {builtins : Addr} {Q : Env → Shared → Prop}
    (F : Fm w B s own) (h : ∀ L cr s1, cr.map (·.1) = (cellNames scope).reverse → Fm w B s1 (cr.map (fun p => (p.2, CellP none)) ++ (L, NsP []) :: own) →
      BindP (Md w) A E (newEnv scope L globals (cr ++ closure) qual func code around builtins) binds (fun s3 => Q (newEnv scope L globals (cr ++ closure) qual func code around builtins) s3) s1) :
    wpAny (Md w) A (newFunctionEnv scope globals closure binds qual func code around builtins) Q E s := by
  have nsNew : ∀ c, NsP [] { cls := c, data := .dict #[] } := fun c => ⟨fun _ => none, #[], _, rfl, fun e he => by simp at he, fun n => rfl, fun p hp => by simp at hp⟩
  cases around with
  | none =>
    simp only [newFunctionEnv, Option.isSome_none, Bool.false_eq_true, if_false]
    refine wpAny_bind (wpAny_alloc (wpAny_bind ?_))
    refine lay_cells _ (fun name kind cells => by cases hkc : kind == NameKind.cell <;> simp [hkc]) _ _ _ ((s.heap.objs.size, NsP []) :: own) _ (F.push (t := s.toks) rfl (nsNew _)) fun cr s' hcr F' => ?_
    exact wpAny_bind (bp_run (env := newEnv scope s.heap.objs.size globals (cr ++ closure) qual func code none builtins) _ (fun _ _ _ => rfl) binds s' (by
      have := h s.heap.objs.size cr s' hcr F'
      refine (?_ : BindP _ _ _ _ _ _ _)
      exact bpm this fun s' h' => wpAny_pure h'))
  | some outer =>
    simp only [newFunctionEnv, Option.isSome_some, if_true]
    refine wpAny_bind (wpAny_alloc (wpAny_bind ?_))
    refine lay_cells _ (fun name kind cells => by cases hkc : kind == NameKind.cell <;> simp [hkc]) _ _ _ ((s.heap.objs.size, NsP []) :: own) _ (F.push (t := s.toks) rfl (nsNew _)) fun cr s' hcr F' => ?_
    exact wpAny_bind (bp_run (env := newEnv scope s.heap.objs.size globals (cr ++ closure) qual func code (some outer) builtins) _ (fun _ _ _ => rfl) binds s' (by
      have := h s.heap.objs.size cr s' hcr F'
      refine (?_ : BindP _ _ _ _ _ _ _)
      exact bpm this fun s' h' => wpAny_pure h'))
where bpm {M : Model} {A : Around} {E : Value → Shared → Prop} {env : Env} {K K' : Shared → Prop} : ∀ {binds : List (Str × Value)} {s : Shared}, BindP M A E env binds K s → (∀ s, K s → K' s) → BindP M A E env binds K' s
  | [], _, h, k => k _ h
  | (_, _) :: _, _, h, k => wpAny_mono (show wpAny _ _ _ _ _ _ from h) (fun _ _ h' => bpm h' k) fun _ _ e => e

theorem lookup_app : ∀ {cr cl : List (Str × Addr)}, (cr.map (·.1)).Nodup → ∀ p ∈ cr, (cr ++ cl).lookup p.1 = some p.2
  | q :: r, cl, nd, p, hp => by
    rw [List.map_cons, List.nodup_cons] at nd
    rw [List.cons_append, List.lookup_cons]
    rcases List.mem_cons.mp hp with rfl | hp
    · simp
    · have : (p.1 == q.1) = false := by
        rw [beq_eq_false_iff_ne]
        intro e
        exact nd.1 (List.mem_map.mpr ⟨p, hp, e⟩)
      rw [this]
      exact lookup_app nd.2 p hp

noncomputable def cEnv (fd : FuncData) (f L : Addr) (cr : List (Str × Addr)) : Env :=
  { scope := fd.scope, locals := L, globals := fd.globals, cells := cr ++ fd.closure, qual := fd.qualname ++ ".<locals>.", func := some f, code := fd.code, frame := some L, builtins := fd.builtins }
noncomputable def okFnC (K : Frag) (f : Addr) (cs : List Str) : Bool := isFnK K f && (plainFd (fdOf K f) && (codeIn K (fdOf K f).code (fdOf K f).qualname && ((cellNames (fdOf K f).scope == cs) && decide cs.reverse.Nodup)))
theorem enterC {n : Nat} {R : Result → Shared → Prop} {f : Addr} {args : List Value} {binds : List (Str × Value)} {ks : List (Str × NameKind)} {cs : List Str} (hA : Rm A (n + 1)) (W : Wg w s.heap)
    (hf : okFnC (KH w.params) f cs = true)
    (hbind : bindArgs (fdOf (KH w.params) f) ⟨args, []⟩ = pure binds)
    (hks : chk (fdOf (KH w.params) f).scope ks = true)
    (h : ∀ L cr s', cr.map (·.1) = cs.reverse → Fm w s s' (cr.map (fun p => (p.2, CellP none)) ++ [(L, NsP [])]) → Rm (A.deeper (cEnv (fdOf (KH w.params) f) f L cr)) n →
      Ks (cEnv (fdOf (KH w.params) f) f L cr) L cr ks → ∀ E A',
      BindP (Md w) A' E (cEnv (fdOf (KH w.params) f) f L cr) binds (fun s' => Wg w s'.heap ∧
        wpAny (Md w) (A.deeper (cEnv (fdOf (KH w.params) f) f L cr)) (execs (bodyOf (fdOf (KH w.params) f)) (cEnv (fdOf (KH w.params) f) f L cr)) (fun fl s'' => R (.ok (.ret (retV fl))) s'') (fun _ _ => False) s') s') :
    codeAny (Md w) A (.call (.ref f) ⟨args, []⟩) R s := by
  unfold okFnC at hf
  simp only [Bool.and_eq_true, beq_iff_eq, decide_eq_true_eq] at hf
  obtain ⟨h1, h2, h3, h4, h5⟩ := hf
  obtain ⟨G, WG, hs⟩ := id W
  obtain ⟨o, ho, hdt⟩ := fd_at WG.K h1
  obtain ⟨p1, p2, p3, p4, p5, p6⟩ := plain_fd h2
  refine codeAny_call_function hA.room (hs _ _ ho) hdt p1 p2 p6 ((codeRec_of WG.K h3).keeps hs) ?_
  rw [hbind]
  refine wpAny_pure (wp_newEnv (Fm.start W) fun L cr s1 hcr F => ?_)
  rw [h4] at hcr
  refine wp_newEnv.bpm (h L cr s1 hcr F hA.deeper ⟨p3, p4, p5, rfl, lookup_app (by rw [hcr]; exact h5), kinds_of hks⟩ _ _) fun s' h' => ?_
  obtain ⟨⟨G', WG', hs'⟩, h'⟩ := h'
  obtain ⟨mg, mb, p, loose, mean, T⟩ := WG'.T
  refine ⟨T.nolimit.keeps hs', codeAny_func (wpAny_mono h' (fun fl s'' h' => ?_) fun _ _ x => x.elim)⟩
  cases fl <;> exact h'
end

/-! comprehensions -/
section
variable {w : World} {A : Around} {B s : Shared} {own own' : Led} {E : Value → Shared → Prop} {env : Env} {L : Addr} {n : Nat} {rest : List Stmt} {x y : Str} {px pos : Pos}
noncomputable def cchk (scope : Scope) : Bool := (scope.kind == .function) && scope.names.all fun z => !(z.2 == .local) || (scope.names.lookup z.1 == some .local)
theorem cchk_of {scope : Scope} (h : cchk scope = true) : scope.kind = .function ∧ ∀ z ∈ scope.names, z.2 = .local → scope.names.lookup z.1 = some .local := by
  unfold cchk at h
  rw [Bool.and_eq_true, beq_iff_eq, List.all_eq_true] at h
  refine ⟨h.1, fun z hz hl => ?_⟩
  have := h.2 z hz
  simpa [hl] using this
theorem Fm.letGo {C : Addr} {bs : List (Str × Value)} (F : Fm w B s ((C, NsP bs) :: own)) : ∃ m, s.heap.Ns C m ∧ ∀ h', Heap.SameBut C s.heap h' → Fm w B { s with heap := h' } own := by
  obtain ⟨m, hn, _⟩ := F.ns (.head _)
  exact ⟨m, hn, fun h' hs => F.drop1 hs.extBut⟩

noncomputable def CTurn (w : World) (A : Around) (cenv : Env) (x : Str) (ifs : List Expr) (elt : Expr) (v : Value) (K : Value → Shared → Prop) (N : Shared → Prop) (s : Shared) : Prop :=
  wpAny (Md w) A (storeName cenv x v) (fun _ s₂ =>
    wpAny (Md w) A (forIn ifs true fun c r => if r = true then do let ok ← isTrue c cenv (eval c cenv); pure (ForInStep.yield ok) else pure (ForInStep.yield r)) (fun ok s₃ =>
      B2 ok (wpAny (Md w) A (eval elt cenv) K (fun _ _ => False) s₃) (N s₃)) (fun _ _ => False) s₂) (fun _ _ => False) s
noncomputable def CTurns (w : World) (A : Around) (B : Shared) (cenv : Env) (x : Str) (ifs : List Expr) (elt : Expr) (n : Nat) (row : Nat → Obj → Prop) (val : Nat → Value → Prop) (C it D : Addr) (J : Nat → List Value → Led → Prop) : Prop :=
  ∀ i v ys own s (K : Value → Shared → Prop) (N : Shared → Prop),
    (∀ y own' bs s', J (i + 1) (ys ++ [y]) own' → Fm w B s' ((C, NsP bs) :: (it, row (i + 1)) :: (D, LstP ys) :: own') → K y s') → (∀ own' bs s', J (i + 1) ys own' → Fm w B s' ((C, NsP bs) :: (it, row (i + 1)) :: (D, LstP ys) :: own') → N s') →
    i < n → J i ys own → ys.length ≤ i → Fm w B s ((C, NsP []) :: (it, row (i + 1)) :: (D, LstP ys) :: own) → val i v →
    CTurn w A cenv x ifs elt v K N s
noncomputable def CInv (w : World) (B : Shared) (n : Nat) (row : Nat → Obj → Prop) (C it D : Addr) (J : Nat → List Value → Led → Prop) (k : Nat) (s' : Shared) : Prop :=
  ∃ i ys own, k = n - i ∧ i ≤ n ∧ ys.length ≤ i ∧ J i ys own ∧ Fm w B s' ((C, NsP []) :: (it, row i) :: (D, LstP ys) :: own)
inductive CompJ (w : World) (A : Around) (B : Shared) (cenv : Env) (x : Str) (ifs : List Expr) (elt : Expr) (ok : Led → Prop) (n : Nat) (row : Nat → Obj → Prop) (val : Nat → Value → Prop) (C it D : Addr) (own : Led) (R : List Value → Led → Shared → Prop) : Prop
  | mk (J : Nat → List Value → Led → Prop) (J0 : J 0 [] own) (Jok : ∀ i ys own, J i ys own → ok own) (turn : CTurns w A B cenv x ifs elt n row val C it D J)
    (fin : ∀ ys own s, J n ys own → ys.length ≤ n → R ys own s)
inductive CompP (w : World) (B : Shared) (T : (Led → Prop) → Nat → (Nat → Obj → Prop) → (Nat → Value → Prop) → Led → Prop) (v : Value) (s₁ : Shared) : Prop
  | mk (ok : Led → Prop) (n : Nat) (row : Nat → Obj → Prop) (val : Nat → Value → Prop) (own : Led) (S : Src w B ok v n row val) (hz : n ≤ sizeLine) (F : Fm w B s₁ own) (hok : ok own) (okE : ∀ own p, ok own → ok (p :: own)) (t : T ok n row val own)

theorem nsP_nil {bs : List (Str × Value)} {o : Obj} (h : NsP bs o) : NsP [] o := by
  obtain ⟨m, es, ep, h1, h2, h3, _⟩ := h
  exact ⟨m, es, ep, h1, h2, h3, fun p hp => by cases hp⟩
theorem comp_loop {elt iter : Expr} {ifs : List Expr} {scope : Scope} {cenv : Env} {R : Result → Shared → Prop} {ok : Led → Prop} {n0 : Nat} {row : Nat → Obj → Prop} {val : Nat → Value → Prop} {v : Value} {C it D : Addr} (hA : Rm A n0)
    (S : Src w B ok v n row val) (hz : n ≤ sizeLine) (J : Nat → List Value → Led → Prop) (Jok : ∀ i ys own, J i ys own → ok own) (J0 : J 0 [] own)
    (F : Fm w B s ((C, NsP []) :: (it, row 0) :: (D, LstP []) :: own)) 
    (turn : CTurns w A B cenv x ifs elt n row val C it D J)
    (fin : ∀ ys own s, J n ys own → ys.length ≤ n → Fm w B s ((C, NsP []) :: (D, LstP ys) :: own) → R (.ok .next) s) (okE : ∀ own p, ok own → ok (p :: own)) :
    codeAny (Md w) A (.compLoop (.ListComp elt [⟨.Name x px, iter, ifs, 0⟩] scope pos) 0 (.ref it) (.ref D) cenv) R s := by
  refine codeAny_compLoop_tests (CInv w B n row C it D J) ?_ n ⟨0, [], own, rfl, Nat.zero_le _, Nat.le_refl _, J0, F⟩
  rintro k s' ⟨i, ys, own, hk, hi, hl, hJ, F'⟩
  have F2 : Fm w B s' ((it, row i) :: (C, NsP []) :: (D, LstP ys) :: own) := F'.perm' (.swap ..)
  have ok2 : ok ((C, NsP []) :: (D, LstP ys) :: own) := okE _ _ (okE _ _ (Jok _ _ _ hJ))
  have weak : ∀ {s r bs}, Fm w B s ((C, NsP bs) :: r) → Fm w B s ((C, NsP []) :: r) := fun F =>
    F.imp .head fun o h => nsP_nil h
  by_cases hlt : i < n
  · refine S.next hA.h hlt F2 ok2 fun v s₃ hv F₃ => ?_
    have F3 : Fm w B s₃ ((C, NsP []) :: (it, row (i + 1)) :: (D, LstP ys) :: own) := F₃.perm' (.swap ..)
    refine wpAny_assign_Name (wpAny_mono (turn i v ys own s₃ (fun y s₆ => wpAny (Md w) A (call (.builtin "list.append") [.ref D, y]) (fun _ s₇ => ∃ m, m < k ∧ CInv w B n row C it D J m s₇) (fun _ _ => False) s₆) (fun s₅ => ∃ m, m < k ∧ CInv w B n row C it D J m s₅) (fun y own' bs s₆ hJ' F₆ => o_append (weak F₆) (.tail (.tail .head)) (by omega) fun s₇ F₇ => ⟨n - (i + 1), step_lt hk hlt, i + 1, ys ++ [y], own', rfl, hlt, by simp; omega, hJ', F₇⟩)
      (fun own' bs s₅ hJ' F₅ => ⟨n - (i + 1), step_lt hk hlt, i + 1, ys, own', rfl, hlt, by omega, hJ', weak F₅⟩) hlt hJ hl F3 hv) (fun _ s₄ h₄ => wpAny_mono h₄ (fun b s₅ h₅ => ?_) fun _ _ e => e.elim) fun _ _ e => e.elim)
    cases b with
    | false => exact (if_neg Bool.false_ne_true).mpr h₅
    | true => exact (if_pos rfl).mpr (wpAny_mono (show wpAny _ _ _ _ _ _ from h₅) (fun _ _ h₆ => wpAny_mono h₆ (fun _ _ z => z) fun _ _ e => e.elim) fun _ _ e => e.elim)
  · have : i = n := by omega
    subst this
    exact S.done hA.h F2 ok2 fun s₃ F₃ => fin ys own s₃ hJ hl F₃

theorem comp_use {elt iter : Expr} {ifs : List Expr} {scope : Scope} {cl : List (Str × Addr)} {cs : List Str} {p2 : Pos} {use : Option (Value → Sem Unit)} {Q : Value → Shared → Prop} {n0 : Nat} (hA : Rm A n0)
    (hclos : closureFor scope env = pure cl) (hok : cchk scope = true) (hcs : cellNames scope = cs)
    (h : wpAny (Md w) A (eval iter env) (CompP w B fun ok n row val own => ∀ C it D cr, cr.map (·.1) = cs.reverse →
        CompJ w A B (compEnvC scope (cr ++ cl) C env) x ifs elt ok n row val C it D (cr.map (fun p => (p.2, CellP none)) ++ own) fun ys own s => Fm w B s ((C, NsP []) :: (D, LstP ys) :: own) → match use with
          | none => ∀ s', Fm w B s' ((D, LstP ys) :: own) → Q (.ref D) s'
          | some u => wpAny (Md w) A (u (.ref D)) (fun _ s' => ∃ own' bs, Fm w B s' ((C, NsP bs) :: own') ∧ ∀ s'', Fm w B s'' own' → Q .none s'') E s) E s)
    (hs : ∀ x, foldedSetIterable iter env x = pure x := by intro _; with_unfolding_all rfl) :
    wpAny (Md w) A (comprehension (.ListComp elt [⟨.Name x px, iter, ifs, 0⟩] scope pos) scope env p2 (newList []) false (eval iter env) use) Q E s := by
  obtain ⟨hkind, hnames⟩ := cchk_of hok
  refine wpAny_comprehension_free rfl hs hclos hkind hnames (wpAny_mono h (fun v s₁ h₁ => ?_) fun _ _ e => e)
  obtain ⟨ok, n, row, val, own, S, hz, F, hok, okE, h₁⟩ := h₁
  refine S.iter F hok fun it s₂ F₂ => ?_
  refine wpAny_newObj_type (hd := by size_fits) ?_
  have F₃ := F₂.push (o := { cls := .type "list", dict := none, data := .seq ([] : List Value).toArray }) (P := LstP []) (t := s₂.toks) rfl ⟨_, rfl⟩
  refine wp_newEnv F₃ fun C cr s₄ hcr F₄ => bp_nil ?_
  rw [hcs] at hcr
  obtain ⟨J, J0, Jok, turn, fin⟩ := h₁ C it _ cr hcr
  have F₅ : Fm w B s₄ ((C, NsP []) :: (it, row 0) :: (s₂.heap.objs.size, LstP []) :: (cr.map (fun p => (p.2, CellP none)) ++ own)) := by
    refine F₄.perm' ?_
    refine (List.Perm.cons _ ((List.Perm.swap ..).trans ?_)).trans List.perm_middle.symm
    exact (List.Perm.cons _ List.perm_middle.symm).trans List.perm_middle.symm
  have loop := comp_loop (elt := elt) (iter := iter) (ifs := ifs) (scope := scope) (px := px) (pos := pos) (x := x) (cenv := compEnvC scope (cr ++ cl) C env)
    (R := compPost (Md w) A E use Q (.ref s₂.heap.objs.size) C) hA S hz J Jok J0 F₅ turn (fun ys own s hJ hl F => ?_) okE
  · exact codeAny_compStart_list loop (S.self (i := 0) F₅ (.tail _ (.head _)) loop)
  · have := fin ys own s hJ hl F
    cases use with
    | none => obtain ⟨m, hn, hg⟩ := F.letGo; exact ⟨m, hn, fun h' hs => this _ (hg h' hs)⟩
    | some u =>
      refine wpAny_mono (show wpAny _ _ _ _ _ _ from this) (fun _ s' h' => ?_) fun _ _ e => e
      obtain ⟨own', bs, F', hq⟩ := h'
      obtain ⟨m, hn, hg⟩ := F'.letGo
      exact ⟨m, hn, fun h' hs => hq _ (hg h' hs)⟩

theorem cKs {scope : Scope} {cl' cl : List (Str × Addr)} {C : Addr} {ks' : List (Str × NameKind)} {ks} {cl0} (hk : Ks env L cl0 ks) (h : chk (relabel scope env) ks' = true) (hkind : cchk scope = true) (hc : ∀ p ∈ cl', cl.lookup p.1 = some p.2) :
    Ks (compEnvC scope cl C env) C cl' ks' := ⟨(cchk_of hkind).1, hk.glob, hk.bts, rfl, hc, kinds_of h⟩
theorem look_of {cl : List (Str × Addr)} (h : decide ((cl.map (·.1)).Nodup) = true) : ∀ p ∈ cl, cl.lookup p.1 = some p.2 := fun p hp => by
  have := lookup_app (cl := []) (of_decide_eq_true h) p hp
  rwa [List.append_nil] at this
theorem e_comp {elt iter : Expr} {ifs : List Expr} {scope : Scope} {cl : List (Str × Addr)} {Q : Value → Shared → Prop} {n0 : Nat} {cl0 ks ks'} (hA : Rm A n0) (hk : Ks env L cl0 ks)
    (hclos : closureFor scope env = pure cl) (hok : (cchk scope && cellNames scope == []) = true) (hks : chk (relabel scope env) ks' = true) (hnd : decide (((cl : List (Str × Addr)).map (·.1)).Nodup) = true)
    (h : wpAny (Md w) A (eval iter env) (CompP w B fun ok n row val own => ∀ C it D, Ks (compEnvC scope cl C env) C cl ks' →
        CompJ w A B (compEnvC scope cl C env) x ifs elt ok n row val C it D own fun ys own s => Fm w B s ((D, LstP ys) :: own) → Q (.ref D) s) E s)
    (hs : ∀ x, foldedSetIterable iter env x = pure x := by intro _; with_unfolding_all rfl) :
    wpAny (Md w) A (eval (.ListComp elt [⟨.Name x px, iter, ifs, 0⟩] scope pos) env) Q E s := by
  rw [Bool.and_eq_true, beq_iff_eq] at hok
  rw [eval_ListComp]
  refine comp_use (B := B) hA hclos hok.1 hok.2 (wpAny_mono h (fun v s₁ h₁ => ?_) fun _ _ e => e) hs
  obtain ⟨ok, n, row, val, own, S, hz, F, hkk, okE, h₁⟩ := h₁
  refine ⟨ok, n, row, val, own, S, hz, F, hkk, okE, fun C it D cr hcr => ?_⟩
  obtain ⟨J, J0, Jok, turn, fin⟩ := h₁ C it D (cKs hk hks hok.1 (look_of hnd))
  cases cr with
  | cons _ _ => simp at hcr
  | nil => exact ⟨J, J0, Jok, turn, fun ys own s hJ hl F s' F' => fin ys own s' hJ hl F'⟩
theorem x_comp {elt iter : Expr} {ifs : List Expr} {scope : Scope} {cl : List (Str × Addr)} {py spos : Pos} {Q : Flow → Shared → Prop} {n0 : Nat} {cl0 ks ks'} (hA : Rm A n0) (hk : Ks env L cl0 ks)
    (hclos : closureFor scope env = pure cl) (hok : (cchk scope && cellNames scope == []) = true) (hks : chk (relabel scope env) ks' = true) (hnd : decide (((cl : List (Str × Addr)).map (·.1)).Nodup) = true)
    (h : wpAny (Md w) A (eval iter env) (CompP w B fun ok n row val own => ∀ C it D, Ks (compEnvC scope cl C env) C cl ks' →
        CompJ w A B (compEnvC scope cl C env) x ifs elt ok n row val C it D own fun ys own s => Fm w B s ((C, NsP []) :: (D, LstP ys) :: own) → wpAny (Md w) A (storeName env y (.ref D)) (fun _ s' => ∃ own' bs, Fm w B s' ((C, NsP bs) :: own') ∧
          ∀ s'', Fm w B s'' own' → wpAny (Md w) A (execs rest env) Q E s'') E s) E s)
    (hsw : swapsWith (.ListComp elt [⟨.Name x px, iter, ifs, 0⟩] scope pos) (some (.Name y py)) spos.line env = pure true := by with_unfolding_all rfl)
    (hs : ∀ x, foldedSetIterable iter env x = pure x := by intro _; with_unfolding_all rfl) :
    wpAny (Md w) A (execs (.Assign [.Name y py] (.ListComp elt [⟨.Name x px, iter, ifs, 0⟩] scope pos) spos :: rest) env) Q E s := by
  rw [Bool.and_eq_true, beq_iff_eq] at hok
  refine x_one ?_
  rw [exec_Assign_Name_used _ _ _ _ hsw]
  refine wpAny_bind (wpAny_standAt (wpAny_bind ?_))
  show wpAny _ A (do let _ ← comprehension (.ListComp elt [⟨.Name x px, iter, ifs, 0⟩] scope pos) scope env _ (newList []) false (eval iter env) (some (assign (.Name y py) env))) _ _ s
  refine wpAny_bind (wpAny_mono (comp_use (B := B) (Q := fun _ s' => wpAny (Md w) A (execs rest env) Q E s') hA hclos hok.1 hok.2 (wpAny_mono h (fun v s₁ h₁ => ?_) fun _ _ e => e) hs) (fun _ s' h' => wpAny_pure (wpAny_pure h')) fun _ _ e => e)
  obtain ⟨ok, n, row, val, own, S, hz, F, hkk, okE, h₁⟩ := h₁
  refine ⟨ok, n, row, val, own, S, hz, F, hkk, okE, fun C it D cr hcr => ?_⟩
  obtain ⟨J, J0, Jok, turn, fin⟩ := h₁ C it D (cKs hk hks hok.1 (look_of hnd))
  cases cr with
  | cons _ _ => simp at hcr
  | nil => exact ⟨J, J0, Jok, turn, fun ys own s hJ hl F => wpAny_assign_Name (fin ys own s hJ hl F)⟩

theorem ct_none {cenv : Env} {elt : Expr} {v : Value} {K : Value → Shared → Prop} {N : Shared → Prop}
    (h : wpAny (Md w) A (storeName cenv x v) (fun _ s₂ => wpAny (Md w) A (eval elt cenv) K (fun _ _ => False) s₂) (fun _ _ => False) s) :
    CTurn w A cenv x [] elt v K N s := wpAny_mono h (fun _ s₂ h₂ => wpAny_tests_nil h₂) fun _ _ e => e
theorem ct_one {cenv : Env} {elt c : Expr} {v : Value} {K : Value → Shared → Prop} {N : Shared → Prop}
    (h : wpAny (Md w) A (storeName cenv x v) (fun _ s₂ => wpAny (Md w) A (isTrue c cenv (eval c cenv)) (fun ok s₃ => B2 ok
      (wpAny (Md w) A (eval elt cenv) K (fun _ _ => False) s₃) (N s₃)) (fun _ _ => False) s₂) (fun _ _ => False) s) :
    CTurn w A cenv x [c] elt v K N s := wpAny_mono h (fun _ s₂ h₂ => wpAny_tests_one h₂) fun _ _ e => e
end
end

section
open PySem PySem.W PySem.Spec PySem.Calls PyProof.Rows
set_option Elab.async false
set_option maxRecDepth 100000
set_option maxHeartbeats 0
section
variable {w : World} {A : Around} {B s : Shared} {own own' : Led} {E : Value → Shared → Prop} {env : Env} {x y : Str} {v : Value} {pos : Pos} {k : Nat} {t u : Tok} {Q : Value → Shared → Prop} {l : Addr} {xs ys : List Value} {value slice : Expr} {n : Nat}

theorem seq_eq (T : String) (xs : List Value) : ({ cls := .type T, data := .seq xs.toArray } : Obj) = seqObj T xs.toArray 0 := rfl
theorem e_list {elts : List Expr} (h : Ev (Md w) A E env elts (TupK w B LstP Q) s)
    (hp : elts.all plainE = true := by with_unfolding_all rfl) : wpAny (Md w) A (eval (.List elts pos) env) Q E s := by
  refine List_ (wpAny_mono (spliced_ev hp h) (fun vs s₁ h₁ => ?_) fun _ _ e => e)
  obtain ⟨own', F', hz, h'⟩ := h₁
  exact wpAny_newObj_type (h' _ _ (F'.push rfl ⟨0, rfl⟩)) (by show vs.toArray.size ≤ sizeLine; rw [List.size_toArray]; exact hz)
theorem o_addl {b : Addr} (F : Fm w B s own) (hl : Has B own l (LstP xs)) (hb : Has B own b (LstP ys)) (hz : xs.length + ys.length ≤ sizeLine) (h : ∀ D s', Fm w B s' ((D, LstP (xs ++ ys)) :: own) → Q (.ref D) s') :
    wpAny (Md w) A (binaryOp .Add (.ref l) (.ref b)) Q E s := by
  obtain ⟨o, ho, n, rfl⟩ := F.has hl
  obtain ⟨o2, ho2, n2, rfl⟩ := F.has hb
  refine concat_meets ⟨_, ho, rfl⟩ ⟨_, ho2, rfl⟩ noFill_list_add seq_list_add PySem.F.slot_list_add PySem.F.entry_list_add (PySem.F.args_list_add_2 _ _) (list_addW l b xs.toArray ys.toArray n n2 _ _ _ _ (by simpa using hz)) ⟨ho, ho2, ?_⟩
  refine h _ _ (F.push (t := s.toks) rfl ⟨0, ?_⟩)
  first | rfl | rw [List.append_toArray]
theorem flat1 {α : Type} (v : α) : ∀ m : Nat, (List.replicate m [v]).flatten = List.replicate m v
  | 0 => rfl
  | m + 1 => by rw [List.replicate_succ, List.flatten_cons, flat1 v m]; rfl
theorem hTL {v : Value} (m : Nat) (hm : m ≤ 256) : ¬ Builtin.List.listTooLong ([v].toArray.size * (m : Int).toNat) = true := by
  unfold Builtin.List.listTooLong
  rw [Int.toNat_natCast]
  have : sizeLine = 16777216 := sizeLine_eq
  simp
  omega
theorem hTL1 (m : Nat) (hm : m ≤ 256) : ¬ (!Builtin.List.listFitsIndex (m : Int)) = true := by
  unfold Builtin.List.listFitsIndex
  simp
  omega
theorem o_mull {m : Nat} (Z : Fm w B s own) (hl : Has B own l (LstP [v])) (hm : m ≤ 256) (h : ∀ D s', Fm w B s' ((D, LstP (List.replicate m v)) :: own) → Q (.ref D) s') :
    wpAny (Md w) A (binaryOp .Mult (.ref l) (.int m u)) Q E s := by
  obtain ⟨o, ho, n, rfl⟩ := Z.has hl
  have k1 := hTL1 m hm
  have k3 := hTL (v := v) m hm
  have hz : ([v] : List Value).toArray.size * (m : Int).toNat ≤ 256 := by rw [Int.toNat_natCast, List.size_toArray, List.length_singleton, Nat.one_mul]; exact hm
  have hm2 : (m : Int).toNat = m := Int.toNat_natCast m
  generalize (m : Int) = x at *
  have key := fun h => lm_list_mul_any l [v].toArray n none #[] x u k1 h k3
  replace key := key (by omega)
  refine wpAny_binaryOp_repeat_ref (T := "list") (U := "int") (by decide) ⟨_, ho, rfl⟩ (fun s' => typeIs_int s' _ u) noFill_list_mul F.fills_int_mul F.slot_int_rmul repeat_list F.slot_int_index.lookup
    (call_meets F.slot_int_rmul (typeIs_int s _ u) F.entry_int_rmul (F.args_int_rmul_2 _ _) (lm_int_rmul_list_any _ u l [v].toArray n _ _)
      ⟨ho, rfl, ⟨_, ho, rfl⟩, call_meets F.slot_list_mul ⟨_, ho, rfl⟩ F.entry_list_mul (F.args_list_mul_2 _ _)
        key
        ⟨ho, ?_⟩⟩)
  refine h _ _ (Z.push (t := s.toks) rfl ⟨0, ?_⟩)
  rw [listMul_foldl_if]
  rw [hm2, flat1]
theorem o_li {i : Nat} (F : Fm w B s own) (hl : Has B own l (LstP xs)) (hi : i < 100000) (hx : xs[i]? = some v) (h : Q v s) 
    (hs : subscripted slice false (.ref l) (.int i u) = operate [.ref l, .int i u] (getItem (.ref l) (.int i u)) := by with_unfolding_all rfl) : wpAny (Md w) A (subscriptTail value slice (.ref l) (.int i u)) Q E s :=
  tail_any (isList_of F hl).typeIs slot_list_getitem.lookup (wpAny_getItem_list (isList_of F hl) (by omega) (by omega) (x := v) (by simpa using hx) h) hs
theorem neg1_nat {n : Nat} (h : 1 ≤ n) : (-1 + (n : Int)).toNat = n - 1 := by omega
theorem o_lneg (F : Fm w B s own) (hl : Has B own l (LstP xs)) (hx : xs.getLast? = some v) (h : Q v s) 
    (hs : subscripted slice false (.ref l) (.int (-1) u) = operate [.ref l, .int (-1) u] (getItem (.ref l) (.int (-1) u)) := by with_unfolding_all rfl) : wpAny (Md w) A (subscriptTail value slice (.ref l) (.int (-1) u)) Q E s := by
  have hne : xs ≠ [] := fun e => by rw [e] at hx; cases hx
  have hlen : 1 ≤ xs.length := by cases xs with | nil => exact absurd rfl hne | cons _ _ => simp
  refine tail_any (isList_of F hl).typeIs slot_list_getitem.lookup (wpAny_getItem_list_neg (isList_of F hl) (by omega) (by rw [List.size_toArray]; omega) (by omega) (x := v) ?_ h) hs
  rw [List.getLast?_eq_getElem?] at hx
  have e : (-1 + (xs.toArray.size : Int)).toNat = xs.length - 1 := by rw [List.size_toArray]; exact neg1_nat hlen
  rw [e]
  simpa using hx
theorem o_si {i : Nat} (F : Fm w B s own) (hi : i < x.length) (hi2 : i < 100000) (h : ∀ t' s', Fm w B s' own → Q (.str (Txt.item x i) t') s')
    (hs : subscripted slice false (.str x t) (.int i u) = operate [.str x t, .int i u] (getItem (.str x t) (.int i u)) := by with_unfolding_all rfl)
    (ht : ∀ r, letTemporaryGo value (.str x t) r = pure () := by intro _; with_unfolding_all rfl) : wpAny (Md w) A (subscriptTail value slice (.str x t) (.int i u)) Q E s :=
  item_str (by simp [fitsSsize]; omega) (by omega) (by omega) (fun _ => h _ _ (F.tok _)) hs ht
theorem o_lsl {vl vu vk : Value} {lo hi st : Option Int} {ops : List Value} (F : Fm w B s own) (hl : Has B own l (LstP xs)) (hz : xs.length ≤ sizeLine) (pl : IsPart vl lo) (pu : IsPart vu hi) (pk : IsPart vk st) (h0 : st ≠ some 0)
    (h : ∀ D s', Fm w B s' ((D, LstP (slicePick xs.toArray lo hi st).toList) :: own) → Q (.ref D) s')
    (hs : ∀ i, subscripted slice false (.ref l) (.ref i) = operate (ops ++ []) (getItem (.ref l) (.ref i)) ∨ subscripted slice false (.ref l) (.ref i) = operate [.ref i, .ref l] (getItem (.ref l) (.ref i)) ∨ subscripted slice false (.ref l) (.ref i) = operate [.ref l, .ref i] (getItem (.ref l) (.ref i))) :
    wpAny (Md w) A (subscriptTail value slice (.ref l) (.ref s.heap.objs.size)) Q E { s with heap := s.heap.push { cls := .type "slice", data := .fields #[vl, vu, vk] } } := by
  have hl' := isList_of F hl
  have key : wpAny (Md w) A (getItem (.ref l) (.ref s.heap.objs.size)) Q E { s with heap := s.heap.push { cls := .type "slice", data := .fields #[vl, vu, vk] } } := by
    refine wpAny_getItem_list_slice (hl'.push _) (Heap.IsSliceOf.new ..) pl pu pk h0 ?_ (by rw [List.size_toArray]; exact hz)
    have F1 : Fm w B { s with heap := s.heap.push { cls := .type "slice", data := .fields #[vl, vu, vk] } } own := F.ext ⟨fun b o e => Heap.get?_push_of_some _ e, rfl, rfl⟩
    exact h _ _ (F1.push (t := s.toks) rfl ⟨0, by rw [Array.toArray_toList]⟩)
  have hT := Heap.IsList.typeIs (s := { s with heap := s.heap.push { cls := .type "slice", data := .fields #[vl, vu, vk] } }) (hl'.push _)
  rcases hs s.heap.objs.size with e | e | e
  · exact tail_any hT list_getitem_lookup key e
  · exact tail_any hT list_getitem_lookup key e
  · exact tail_any hT list_getitem_lookup key e

inductive LslK (w : World) (B : Shared) (Q : Value → Shared → Prop) (o j : Value) (s₂ : Shared) : Prop
  | mk (l : Addr) (xs : List Value) (i : Int) (u : Tok) (own' : Led) (e1 : o = .ref l) (e2 : j = .int i u) (F : Fm w B s₂ own') (hl : Has B own' l (LstP xs)) (hz : xs.length ≤ sizeLine)
      (h : ∀ D s', Fm w B s' ((D, LstP (slicePick xs.toArray none (some i) none).toList) :: own') → Q (.ref D) s')
theorem e_lsl_ns {e : Expr} {p : Pos} (h : wpAny (Md w) A (eval value env) (KN (Md w) A E env e (LslK w B Q)) E s) :
    wpAny (Md w) A (eval (.Subscript value (.Slice none (some e) none p) pos) env) Q E s := by
  refine Subscript_ (wpAny_mono h (fun o s₁ h₁ => ?_) fun _ _ e => e)
  refine wpAny_Slice (evalPart_none_step (evalPart_some_step (wpAny_mono h₁ (fun j s₂ h₂ => evalPart_none_step ?_) fun _ _ e => e)))
  obtain ⟨l, xs, i, u, own', rfl, rfl, F, hl, hz, h₂⟩ := h₂
  exact o_lsl (ops := []) F hl hz .none (.int i u) .none (by simp) h₂ fun i => .inr (.inl rfl)
theorem e_sub (h : wpAny (Md w) A (eval value env) (K1 (Md w) A E env slice (subscriptTail value slice) Q) E s) : wpAny (Md w) A (eval (.Subscript value slice pos) env) Q E s := Subscript_ h

/-! membership -/
theorem strs_any {vs : List Value} {zs : List Str} (hs : StrsAre vs zs) (f : Value → Bool) (g : Str → Bool) (hfg : ∀ z t, f (.str z t) = g z) : vs.any f = zs.any g := by
  induction hs with
  | nil => rfl
  | cons y t _ ih => rw [List.any_cons, List.any_cons, hfg, ih]
noncomputable def isS (x : Str) : Value → Bool
  | .str y _ => y == x
  | _ => false
theorem strs_mem {vs : List Value} {zs : List Str} (hs : StrsAre vs zs) : ∀ v ∈ vs, ∃ z t, v = .str z t ∧ z ∈ zs := by
  induction hs with
  | nil => exact fun _ h => (nomatch h)
  | cons y t _ ih =>
    intro v hv
    rcases List.mem_cons.mp hv with rfl | hv
    · exact ⟨y, t, rfl, .head _⟩
    · obtain ⟨z, t, e, h⟩ := ih v hv; exact ⟨z, t, e, .tail _ h⟩
theorem any_isS {vs : List Value} {zs : List Str} (hs : StrsAre vs zs) : vs.any (isS x) = decide (x ∈ zs) := by
  rw [strs_any hs (isS x) (fun z => z == x) (fun _ _ => rfl)]
  rw [Bool.eq_iff_iff, List.any_eq_true, decide_eq_true_iff]
  constructor
  · rintro ⟨z, hz, e⟩; rw [beq_iff_eq] at e; exact e ▸ hz
  · exact fun h => ⟨x, h, beq_self_eq_true x⟩
noncomputable def isB (b : Bool) : Value → Bool
  | .bool c => c == b
  | _ => false
theorem o_inb {bs : List Bool} {b : Bool} (F : Fm w B s own) (hl : Has B own l (LstP (bs.map .bool))) (h : Q (.bool (decide (b ∈ bs))) s) : wpAny (Md w) A (compareOp .In (.bool b) (.ref l)) Q E s := by
  refine SeqAt.in_listAt (isB b) (isList_of F hl) (fun y hy => ?_) ?_
  · obtain ⟨c, hc, rfl⟩ := List.mem_map.mp (show y ∈ bs.map .bool by simpa using hy)
    exact SeqAt.EqAt.bool_bool c b
  · rw [List.any_toArray, List.any_map]
    have : bs.any (isB b ∘ Value.bool) = decide (b ∈ bs) := by
      rw [Bool.eq_iff_iff, List.any_eq_true, decide_eq_true_iff]
      constructor
      · rintro ⟨z, hz, e⟩
        have e' : (z == b) = true := e
        rw [beq_iff_eq] at e'; exact e' ▸ hz
      · exact fun h => ⟨b, h, by show (b == b) = true; exact beq_self_eq_true b⟩
    rw [this]; exact h

/-! methods -/
theorem g_lm {name : Str} {id : String} {pl : Sem Bool} {Q : Value × List Value → Shared → Prop} (F : Fm w B s own) (hl : Has B own l (LstP xs)) (slot : Slot "list" name id) (hty : typeOf (.builtin id) = pure (.type "method_descriptor")) (h : Q (.builtin id, [.ref l]) s) :
    wpAny (Md w) A (getMethod (.ref l) name pl) Q E s := by
  obtain ⟨o, e, n, rfl⟩ := F.has hl
  exact getMethod_builtin ⟨_, e, rfl⟩ PySem.F.plainAttrs_list slot hty (fun a e' => by cases e'; exact ⟨_, e, rfl⟩) h
theorem m_pop {v : Value} (F : Fm w B s own) (U : UpdE l (LstP (xs ++ [v])) (LstP xs) own own') (hz : xs.length + 1 ≤ sizeLine) (h : ∀ s', Fm w B s' own' → Q v s') : wpAny (Md w) A (call (.builtin "list.pop") [.ref l]) Q E s := by
  obtain ⟨o, e, n, rfl⟩ := F.sat _ U.mem
  have hz' : (xs ++ [v]).toArray.size ≤ sizeLine := by rw [List.size_toArray, List.length_append]; exact hz
  have hk : (xs ++ [v]).toArray.size - 1 = xs.length := by rw [List.size_toArray, List.length_append]; rfl
  have hy : (xs ++ [v]).toArray[(xs ++ [v]).toArray.size - 1]? = some v := by rw [hk]; simp
  refine call_meets PySem.F.slot_list_pop ⟨_, e, rfl⟩ PySem.F.entry_list_pop (PySem.F.args_list_pop_1 _) (PySem.MeetsSeq.list_pop_last l _ n v hy hz') ⟨e, h _ (F.upd U (t := s.toks) (Heap.SameBut.update ..) ?_)⟩
  have q := PySem.IsL.update e (fun its => its.eraseIdxIfInBounds ((xs ++ [v]).toArray.size - 1))
  have e2 : (xs ++ [v]).toArray.eraseIdxIfInBounds ((xs ++ [v]).toArray.size - 1) = xs.toArray := by rw [hk, kl_erase, List.append_nil]
  rw [e2] at q
  exact ⟨_, q, _, rfl⟩
theorem m_insert0 (F : Fm w B s own) (U : UpdE l (LstP xs) (LstP (v :: xs)) own own') (hz : xs.length ≤ sizeLine) (h : ∀ s', Fm w B s' own' → Q .none s') : wpAny (Md w) A (call (.builtin "list.insert") [.ref l, .int 0 u, v]) Q E s := by
  obtain ⟨o, e, n, rfl⟩ := F.sat _ U.mem
  refine call_meets PySem.F.slot_list_insert ⟨_, e, rfl⟩ PySem.F.entry_list_insert (PySem.F.args_list_insert_3 _ _ _) (PySem.AutoSeq1.list_insert_list_int_val_1 l _ n 0 u v (by decide) (by rw [List.size_toArray]; exact hz)) ⟨e, h _ (F.upd U (t := s.toks) (Heap.SameBut.update ..) ?_)⟩
  have q := PySem.IsL.update e (fun its => (its.extract 0 0).push v ++ its.extract 0)
  have e2 : (xs.toArray.extract 0 0).push v ++ xs.toArray.extract 0 = (v :: xs).toArray := by rw [kl_ins_eq]; simp
  simp only [e2] at q
  show ∃ o, (s.heap.update l (Obj.mapSeq fun its => (its.extract 0 0).push v ++ its.extract 0)).get? l = some o ∧ _
  exact ⟨_, q, _, rfl⟩
theorem strVals {vs : List Value} {zs : List Str} (hs : StrsAre vs zs) : ∃ l : List (Str × Tok), vs = strValues l ∧ l.map (·.1) = zs := by
  induction hs with
  | nil => exact ⟨[], rfl, rfl⟩
  | cons y t _ ih => obtain ⟨l, e1, e2⟩ := ih; exact ⟨(y, t) :: l, by rw [e1]; rfl, by rw [← e2]; rfl⟩
theorem strsOf : ∀ (l : List (Str × Tok)), StrsAre (strValues l) (l.map (·.1))
  | [] => .nil
  | (y, t) :: r => .cons y t (strsOf r)
theorem m_join {zs : List Str} (F : Fm w B s own) (hl : Has B own l (LstP xs)) (hs : StrsAre xs zs) (hok : JoinOk x zs = true) (h : ∀ t' s', Fm w B s' own → Q (.str (Txt.join x zs) t') s') : wpAny (Md w) A (call (.builtin "str.join") [.str x t, .ref l]) Q E s := by
  obtain ⟨l', rfl, e⟩ := strVals hs
  exact SC.join (isList_of F hl) e hok fun t' k => h t' _ (F.tok k)
theorem m_split (F : Fm w B s own) (hy : (y.length == 0) = false) (h : ∀ D vs s', StrsAre vs (Txt.split x y) → Fm w B s' ((D, LstP vs) :: own) → Q (.ref D) s')
    (hsz : x.length ≤ sizeLine) (hsz2 : (PySem.Builtin.Str.partsBetween x (Builtin.Str.occurrences x y 0 x.length (x.length + 1)) y.length).length ≤ sizeLine) : wpAny (Md w) A (call (.builtin "str.split") [.str x t, .str y u]) Q E s := by
  have push : ∀ l : List (Str × Tok), ∀ tk, Fm w B { s with heap := s.heap.push { cls := .type "list", data := .seq (strValues l).toArray }, toks := tk } ((s.heap.objs.size, LstP (strValues l)) :: own) := fun l tk => F.push rfl ⟨0, rfl⟩
  cases h1 : (decide (x.length < y.length) || decide (Builtin.Str.strKind x < Builtin.Str.strKind y))
  · cases hf : (Builtin.Str.occurrences x y 0 x.length (x.length + 1)).isEmpty
    · refine call_meets PySem.F.slot_str_split (typeIs_str _ _ _) PySem.F.entry_str_split (PySem.F.args_str_split_2 _ _) (PySem.meets_str_split_sep x y t u h1 hy hf hsz hsz2) ?_
      show wants Q E _ { s with toks := _, heap := s.heap.push { cls := .type "list", data := .seq (strsFrom s.toks (PySem.Builtin.Str.partsBetween x (Builtin.Str.occurrences x y 0 x.length (x.length + 1)) y.length)).toArray } }
      rw [strsFrom_eq]
      have e : (numbered s.toks (PySem.Builtin.Str.partsBetween x (Builtin.Str.occurrences x y 0 x.length (x.length + 1)) y.length)).map (·.1) = Txt.split x y := ((numbered_texts _ _).trans ((if_neg (ne_true_of_eq_false h1)).trans (if_neg (ne_true_of_eq_false hf))).symm)
      exact h _ _ _ (e ▸ strsOf _) (push _ _)
    · have e : Txt.split x y = [x] := (if_neg (ne_true_of_eq_false h1)).trans (if_pos hf)
      exact call_meets PySem.F.slot_str_split (typeIs_str _ _ _) PySem.F.entry_str_split (PySem.F.args_str_split_2 _ _) (PySem.meets_str_split_not_found x y t u h1 hy hf) (h _ _ _ (e ▸ strsOf [(x, t)]) (push [(x, t)] s.toks))
  · have e : Txt.split x y = [x] := if_pos h1
    exact call_meets PySem.F.slot_str_split (typeIs_str _ _ _) PySem.F.entry_str_split (PySem.F.args_str_split_2 _ _) (PySem.meets_str_split_cannot_occur x y t u h1) (h _ _ _ (e ▸ strsOf [(x, t)]) (push [(x, t)] s.toks))
end
end

section
open PySem PySem.W PySem.Spec PySem.Calls PyProof.Rows
set_option Elab.async false
set_option maxRecDepth 100000
set_option maxHeartbeats 0
theorem isfn_152 (P : Params) : isFnK (KH P) 152 = true := by kernel_rfl
theorem g_splitroot : Glo (PySem.Str.ofString "splitroot") (.ref 152) := Glo.ofK (fun _ => by kernel_rfl)
theorem c_splitroot {w : World} {A : Around} {s : Shared} {n : Nat} {R : Result → Shared → Prop} {p : Str} {t : Tok} (hA : Rm A (n + 2)) (W : Wg w s.heap) (hz : p.length ≤ 10000)
    (h1 : Txt.slice p none (some 1) = Str.ofString "/") (h2 : (Txt.slice p (some 1) (some 2) != Str.ofString "/") = true)
    (h : ∀ a t1 t2 t3 s', New s s' a (TupP [.str (Str.ofString "") t1, .str (Str.ofString "/") t2, .str (Txt.slice p (some 1) none) t3]) → R (.ok (.ret (.ref a))) s') : codeAny (Md w) A (.call (.ref 152) ⟨[.str p t], []⟩) R s := by
  have hp1 : p.length ≤ sizeLine := by rw [sizeLine_eq]; omega
  with_reducible refine enterD (binds := [(Str.ofString "p", .str p t)]) (ks := [(Str.ofString "p", .local), (Str.ofString "sep", .local), (Str.ofString "empty", .local), (Str.ofString "fspath", .globalImplicit), (Str.ofString "isinstance", .globalImplicit), (Str.ofString "bytes", .globalImplicit)]) hA W (by kernel_rfl) (by kernel_rfl) (by kernel_rfl) (by kernel_rfl) (by kernel_rfl) ?_
  intro L s' hL F hA' hk
  conv in bodyOf _ => whnf
  with_reducible refine x_assign (c_glo F hk (by kd_mem) g_fspath (cw_fn (isfn_117 _) (ev_cons ?_)))
  kst_mem
  with_reducible refine ev_nil ⟨F.base, wpAny_call (c_fspath hA' F.base ?_)⟩
  intro s1 x1
  have F1 := F.ext x1
  kst_all
  rename_i s2 F2
  with_reducible refine x_if (bt_call (c_glo F2 hk (by kd_mem) g_isinstance (cw_bi (ev_cons ?_))))
  kst_mem
  with_reducible refine ev_cons (e_glo F2 hk (by kd_mem) g_bytes (ev_nil ?_))
  with_reducible refine o_isi_strbytes F2 ?_; intro s3 F3
  with_reducible refine t_bool (br_false (x_assign (e_str F3 ?_))); intro t4 s4 F4
  kst_all
  rename_i s5 F5
  with_reducible refine x_assign (e_str F5 ?_); intro t6 s6 F6
  kst_all
  rename_i s7 F7
  with_reducible refine x_nil (nx_next ?_)
  -- if p[:1] != sep
  with_reducible refine x_if (bt_cmp (e_slice_ns (B := s) ?_))
  kst_mem
  with_reducible refine ⟨_, _, rfl, hp1, ?_⟩
  with_reducible refine e_int F7 ?_; intro t8 s8 F8
  with_reducible refine ⟨_, _, _, rfl, F8, ?_⟩
  intro t9 s9 F9
  kst_mem
  with_reducible refine o_nes ?_
  rw [h1]
  with_reducible refine t_bool (br_false (x_if (bt_or (bt_cmp (e_slice_ss (B := s) ?_)))))
  kst_mem
  with_reducible refine ⟨_, _, rfl, hp1, ?_⟩
  with_reducible refine e_int F9 ?_; intro t10 s10 F10
  with_reducible refine ⟨_, _, rfl, ?_⟩
  with_reducible refine e_int F10 ?_; intro t11 s11 F11
  with_reducible refine ⟨_, _, _, rfl, F11, ?_⟩
  intro t12 s12 F12
  kst_mem
  with_reducible refine o_nes ?_
  rw [h2]
  with_reducible refine t_bool (b2_t (br_true (x_ret (e_tup F12 (ev_cons ?_)))))
  kst_mem
  with_reducible refine ev_cons ?_
  kst_mem
  with_reducible refine ev_cons (e_slice_sn (B := s) ?_)
  kst_mem
  with_reducible refine ⟨_, _, rfl, hp1, ?_⟩
  with_reducible refine e_int F12 ?_; intro t13 s13 F13
  with_reducible refine ⟨_, _, _, rfl, F13, ?_⟩
  intro t14 s14 F14
  with_reducible refine ev_nil ⟨_, F14, Nat.le_of_ble_eq_true rfl, ?_⟩
  intro a s15 F15
  exact h _ _ _ _ _ (F15.out List.mem_cons_self)
end

section
open PySem PySem.W PySem.Spec PySem.Calls PyProof.Rows
set_option Elab.async false
set_option maxRecDepth 100000
set_option maxHeartbeats 0
theorem ns_weak {bs bs' : List (Str × Value)} (h : ∀ p ∈ bs', p ∈ bs) : ∀ o, NsP bs o → NsP bs' o := fun o ⟨m, es, ep, h1, h2, h3, h4⟩ => ⟨m, es, ep, h1, h2, h3, fun p hp => h4 p (h p hp)⟩
theorem sub_nil {α : Type} {l : List α} : ∀ p ∈ ([] : List α), p ∈ l := fun _ h => (nomatch h)
theorem sub_cons {α : Type} {a : α} {l l' : List α} (h : a ∈ l) (t : ∀ p ∈ l', p ∈ l) : ∀ p ∈ a :: l', p ∈ l := fun p hp => by
  rcases List.mem_cons.mp hp with rfl | hp
  · exact h
  · exact t p hp
theorem Fm.nsw {w : World} {B s : Shared} {own own' : Led} {L : Addr} {bs bs' : List (Str × Value)} (F : Fm w B s own) (U : UpdE L (NsP bs) (NsP bs') own own') (h : ∀ p ∈ bs', p ∈ bs) : Fm w B s own' := F.imp U (ns_weak h)
section
variable {w : World} {A : Around} {B s : Shared} {own own' : Led} {E : Value → Shared → Prop} {env : Env} {x y : Str} {v : Value} {pos : Pos} {k : Nat} {t u : Tok} {l : Addr} {xs ys : List Value}
theorem bt_or3 {a b c : Expr} {whole : Sem Value} {Q : Bool → Shared → Prop} (h : wpAny (Md w) A (isTrue a env (eval a env)) (fun r s' => B2 r (Q true s') (wpAny (Md w) A (isTrue b env (eval b env)) (fun r s' => B2 r (Q true s')
      (wpAny (Md w) A (isTrue c env (eval c env)) Q E s')) E s')) E s) :
    wpAny (Md w) A (isTrue (.BoolOp .Or [a, b, c] pos) env whole) Q E s :=
  isTrue_or (wpAny_mono h (fun r s' h' => by
    cases r
    · exact isTrue_or (wpAny_mono (show wpAny _ _ _ _ _ _ from h') (fun r s' h' => by
        cases r
        · exact isTrue_or (wpAny_mono (show wpAny _ _ _ _ _ _ from h') (fun d s'' h'' => by
            cases d
            · exact isTrue_or_nil h''
            · exact h'') fun _ _ e => e)
        · exact h') fun _ _ e => e)
    · exact h') fun _ _ e => e)
theorem e_or {a b : Expr} {Q : Value → Shared → Prop} (h : wpAny (Md w) A (eval a env) (fun v s₁ => wpAny (Md w) A (truthy v) (fun c s₂ => B2 c (Q v s₂) (wpAny (Md w) A (eval b env) Q E s₂)) E s₁) E s) :
    wpAny (Md w) A (eval (.BoolOp .Or [a, b] pos) env) Q E s :=
  BoolOp_or (wpAny_mono h (fun v s₁ h₁ => wpAny_mono h₁ (fun c s₂ h₂ => by cases c <;> exact h₂) fun _ _ e => e) fun _ _ e => e)
theorem e_and {a b : Expr} {Q : Value → Shared → Prop} (h : wpAny (Md w) A (eval a env) (fun v s₁ => wpAny (Md w) A (truthy v) (fun c s₂ => B2 c (wpAny (Md w) A (eval b env) Q E s₂) (Q v s₂)) E s₁) E s) :
    wpAny (Md w) A (eval (.BoolOp .And [a, b] pos) env) Q E s :=
  BoolOp_and (wpAny_mono h (fun v s₁ h₁ => wpAny_mono h₁ (fun c s₂ h₂ => by cases c <;> exact h₂) fun _ _ e => e) fun _ _ e => e)
theorem e_neg1 {p : Pos} {Q : Value → Shared → Prop} (F : Fm w B s own) (h : ∀ t' s', Fm w B s' own → Q (.int (-1) t') s') : wpAny (Md w) A (eval (.UnaryOp .USub (.Constant (.int 1) k p) pos) env) Q E s :=
  wpAny_UnaryOp (e_int F fun t' s' F' => neg_int (h _ _ (F'.tok _)))
theorem e_bool {b : Bool} {Q : Value → Shared → Prop} (h : Q (.bool b) s) : wpAny (Md w) A (eval (.Constant (.bool b) k pos) env) Q E s := wpAny_Constant_bool h
theorem e_none {Q : Value → Shared → Prop} (h : Q .none s) : wpAny (Md w) A (eval (.Constant .none k pos) env) Q E s := wpAny_Constant_none h
theorem t_list {Q : Bool → Shared → Prop} (F : Fm w B s own) (hl : Has B own l (LstP xs)) (hz : xs.length ≤ 1000000) (h : ∀ s', Fm w B s' own → Q (!xs.isEmpty) s') : wpAny (Md w) A (truthy (.ref l)) Q E s := by
  refine wpAny_truthy_list (isList_of F hl) (by rw [List.size_toArray]; omega) ?_
  have e : xs.toArray.isEmpty = xs.isEmpty := by cases xs <;> rfl
  rw [e]
  exact h _ (F.tok _)
theorem o_lenl {Q : Value → Shared → Prop} (F : Fm w B s own) (hl : Has B own l (LstP xs)) (hz : xs.length ≤ 1000000) (h : ∀ t' s', Fm w B s' own → Q (.int xs.length t') s') : wpAny (Md w) A (call (.builtin "len") [.ref l]) Q E s := by
  refine call_len_list (isList_of F hl) (by rw [List.size_toArray]; omega) ?_
  rw [List.size_toArray]
  exact h _ _ (F.tok _)
theorem o_isnone {Q : Value → Shared → Prop} (h : Q (.bool (v == .none)) s) : wpAny (Md w) A (compareOp .Is v .none) Q E s := is_none h
theorem o_eqi {a b : Int} {Q : Value → Shared → Prop} (h : Q (.bool (a == b)) s) : wpAny (Md w) A (compareOp .Eq (.int a t) (.int b u)) Q E s := PySem.P.eq_int h
theorem o_gti {a b : Int} {Q : Value → Shared → Prop} (h : Q (.bool (decide (a > b))) s) : wpAny (Md w) A (compareOp .Gt (.int a t) (.int b u)) Q E s := PySem.P.gt_int h
theorem o_lti {a b : Int} {Q : Value → Shared → Prop} (h : Q (.bool (decide (a < b))) s) : wpAny (Md w) A (compareOp .Lt (.int a t) (.int b u)) Q E s := PySem.P.lt_int h
theorem o_add1 {a : Nat} {Q : Value → Shared → Prop} (F : Fm w B s own) (h : ∀ t' s', Fm w B s' own → Q (.int ((a + 1 : Nat) : Int) t') s') : wpAny (Md w) A (binaryOp .Add (.int (a : Int) t) (.int 1 u)) Q E s := o_addi F h
theorem o_iadd1 {a : Nat} {Q : Value → Shared → Prop} (F : Fm w B s own) (h : ∀ t' s', Fm w B s' own → Q (.int ((a + 1 : Nat) : Int) t') s') : wpAny (Md w) A (inplaceOp .Add (.int (a : Int) t) (.int 1 u)) Q E s := wpAny_iadd_int (h _ _ (F.tok _))
theorem o_iaddi {a b : Int} {Q : Value → Shared → Prop} (F : Fm w B s own) (h : ∀ t' s', Fm w B s' own → Q (.int (a + b) t') s') : wpAny (Md w) A (inplaceOp .Add (.int a t) (.int b u)) Q E s := wpAny_iadd_int (h _ _ (F.tok _))
theorem o_isubi {a b : Int} {Q : Value → Shared → Prop} (F : Fm w B s own) (h : ∀ t' s', Fm w B s' own → Q (.int (a - b) t') s') : wpAny (Md w) A (inplaceOp .Sub (.int a t) (.int b u)) Q E s := isub_int (h _ _ (F.tok _))
theorem o_iadds {Q : Value → Shared → Prop} (F : Fm w B s own) (hz : x.length + y.length ≤ sizeLine) (h : ∀ t' s', Fm w B s' own → Q (.str (x ++ y) t') s') : wpAny (Md w) A (inplaceOp .Add (.str x t) (.str y u)) Q E s :=
  PyProof.Rows.iadd_str (fun _ _ => h _ _ (F.tok _)) hz
end
section
variable {w : World} {A : Around} {B s : Shared} {env : Env} {x : Str}
theorem turn {body : List Stmt} {v : Value} {K : Shared → Prop} (h : wpAny (Md w) A (storeName env x v) (fun _ s₂ => wpAny (Md w) A (execs body env) (fun f s₃ => Ec (K s₃) f) (fun _ _ => False) s₂) (fun _ _ => False) s) :
  Turn w A env x body v K s := h
end
inductive Rem {α : Type} (p : α) : List α → List α → Prop
  | head {r} : Rem p (p :: r) r
  | tail {q r r2} : Rem p r r2 → Rem p (q :: r) (q :: r2)
inductive Sel {α : Type} : List α → List α → Prop
  | nil {l} : Sel [] l
  | cons {p r l l2} : Rem p l l2 → Sel r l2 → Sel (p :: r) l
theorem Rem.t1 {α : Type} {p q1 : α} {r : List α} : Rem p (q1 :: p :: r) (q1 :: r) := .tail .head
theorem Rem.t2 {α : Type} {p q1 q2 : α} {r : List α} : Rem p (q1 :: q2 :: p :: r) (q1 :: q2 :: r) := .tail .t1
theorem Rem.t3 {α : Type} {p q1 q2 q3 : α} {r : List α} : Rem p (q1 :: q2 :: q3 :: p :: r) (q1 :: q2 :: q3 :: r) := .tail .t2
theorem Rem.t4 {α : Type} {p q1 q2 q3 q4 : α} {r : List α} : Rem p (q1 :: q2 :: q3 :: q4 :: p :: r) (q1 :: q2 :: q3 :: q4 :: r) := .tail .t3
theorem Rem.t5 {α : Type} {p q1 q2 q3 q4 q5 : α} {r : List α} : Rem p (q1 :: q2 :: q3 :: q4 :: q5 :: p :: r) (q1 :: q2 :: q3 :: q4 :: q5 :: r) := .tail .t4
theorem Rem.t6 {α : Type} {p q1 q2 q3 q4 q5 q6 : α} {r : List α} : Rem p (q1 :: q2 :: q3 :: q4 :: q5 :: q6 :: p :: r) (q1 :: q2 :: q3 :: q4 :: q5 :: q6 :: r) := .tail .t5
theorem Rem.t7 {α : Type} {p q1 q2 q3 q4 q5 q6 q7 : α} {r : List α} : Rem p (q1 :: q2 :: q3 :: q4 :: q5 :: q6 :: q7 :: p :: r) (q1 :: q2 :: q3 :: q4 :: q5 :: q6 :: q7 :: r) := .tail .t6
theorem Rem.perm {α : Type} {p : α} {l l2 : List α} (h : Rem p l l2) : l.Perm (p :: l2) := by
  induction h with
  | head => exact .refl _
  | tail _ ih => exact (ih.cons _).trans (.swap ..)
theorem Sel.spec {α : Type} {l' l : List α} (h : Sel l' l) : ∃ m, l.Perm (l' ++ m) := by
  induction h with
  | @nil l => exact ⟨l, .refl _⟩
  | @cons p r l l2 R _ ih =>
    obtain ⟨m, ih⟩ := ih
    exact ⟨m, R.perm.trans (ih.cons _)⟩
theorem Fm.sel {w : World} {B s : Shared} {own own' : Led} (F : Fm w B s own) (h : Sel own' own) : Fm w B s own' :=
  let ⟨_, hm⟩ := h.spec
  (F.perm' hm.symm).weak (List.sublist_append_left _ _)
theorem Sel.refl' {α : Type} : ∀ {l : List α}, Sel l l
  | [] => .nil
  | _ :: _ => .cons .head Sel.refl'
theorem Sel.skip {α : Type} {r l : List α} {q : α} (h : Sel r l) : Sel r (q :: l) := by
  induction h with
  | nil => exact .nil
  | cons R _ ih => exact .cons (.tail R) ih
end

local macro_rules | `(tactic| kqd_sub) => `(tactic| k_dflt (first | with_reducible exact sub_nil | (with_reducible refine sub_cons (by kd_mem) ?_; kqd_sub)))
local macro_rules | `(tactic| kd_in) => `(tactic| with_reducible (first | exact List.Sublist.refl _ | (refine List.Sublist.cons_cons _ ?_; kd_in) | (refine List.Sublist.cons _ ?_; kd_in)))
local macro_rules | `(tactic| kqd_in) => `(tactic| with_reducible (first | exact Rem.head | exact Rem.t1 | exact Rem.t2 | exact Rem.t3 | exact Rem.t4 | exact Rem.t5 | exact Rem.t6 | exact Rem.t7 | (apply Rem.tail; kqd_in)))
local macro_rules | `(tactic| kqd_all) => `(tactic| with_reducible (first | exact Sel.nil | exact Sel.refl' | (refine Sel.cons (by kqd_in) ?_; kqd_all) | (refine Sel.skip ?_; kqd_all)))

section
open PySem PySem.W PySem.Spec PySem.Calls PyProof.Rows
set_option Elab.async false
set_option maxRecDepth 100000
set_option maxHeartbeats 0
theorem strs_len {vs : List Value} {zs : List Str} (h : StrsAre vs zs) : vs.length = zs.length := by
  induction h with
  | nil => rfl
  | cons _ _ _ ih => simp [ih]
theorem strs_get {vs : List Value} {zs : List Str} (h : StrsAre vs zs) : ∀ {i : Nat} {v : Value}, vs[i]? = some v → ∃ z t, v = .str z t ∧ zs[i]? = some z := by
  induction h with
  | nil => intro i v e; simp at e
  | cons y t _ ih =>
    intro i v e
    cases i with
    | zero => simp at e; exact ⟨y, t, e.symm, rfl⟩
    | succ i => exact ih (by simpa using e)
theorem strs_app {vs vs' : List Value} {zs zs' : List Str} (h : StrsAre vs zs) (h' : StrsAre vs' zs') : StrsAre (vs ++ vs') (zs ++ zs') := by
  induction h with
  | nil => exact h'
  | cons y t _ ih => exact .cons y t ih
theorem strs_snoc {vs : List Value} : ∀ {zs : List Str} {z : Str}, StrsAre vs (zs ++ [z]) → ∃ vs0 t, vs = vs0 ++ [.str z t] ∧ StrsAre vs0 zs := by
  induction vs with
  | nil => intro zs z h; cases zs <;> cases h
  | cons v r ih =>
    intro zs z h
    cases zs with
    | nil =>
      cases h with
      | cons y t h' => cases h'; exact ⟨[], t, rfl, .nil⟩
    | cons y ys =>
      cases h with
      | cons _ t h' =>
        obtain ⟨vs0, t', rfl, h0⟩ := ih h'
        exact ⟨.str y t :: vs0, t', rfl, .cons y t h0⟩

noncomputable def nStep (acc : List Str) (c : Str) : List Str :=
  if (!((c.length : Int) != 0)) = true then acc else if (c == Str.ofString ".") = true then acc
  else if (c != Str.ofString "..") = true then acc ++ [c]
  else match acc.getLast? with
    | none => acc
    | some z => if (z == Str.ofString "..") = true then acc ++ [c] else acc.dropLast
theorem nStep_len (acc : List Str) (c : Str) : (nStep acc c).length ≤ acc.length + 1 := by
  unfold nStep
  split
  · omega
  · split
    · omega
    · split
      · simp
      · split
        · omega
        · split
          · simp
          · simp; omega
theorem nFold_len : ∀ (zs acc : List Str), (zs.foldl nStep acc).length ≤ acc.length + zs.length
  | [], acc => by simp
  | z :: r, acc => by
    have := nFold_len r (nStep acc z)
    have := nStep_len acc z
    simp only [List.foldl_cons, List.length_cons]
    omega
theorem nFold_mem {P : Str → Prop} : ∀ (zs acc : List Str), (∀ z ∈ zs, P z) → (∀ z ∈ acc, P z) → ∀ z ∈ zs.foldl nStep acc, P z
  | [], acc, _, h => h
  | z :: r, acc, hz, h => by
    refine nFold_mem r (nStep acc z) (fun y hy => hz y (.tail _ hy)) ?_
    have hzz := hz z (.head _)
    have snoc : ∀ y ∈ acc ++ [z], P y := fun y hy => by
      rcases List.mem_append.mp hy with hy | hy
      · exact h y hy
      · rw [List.mem_singleton.mp hy]; exact hzz
    unfold nStep
    split
    · exact h
    · split
      · exact h
      · split
        · exact snoc
        · split
          · exact h
          · split
            · exact snoc
            · exact fun y hy => h y ((List.dropLast_sublist acc).subset hy)
noncomputable def nComps (p : Str) : List Str := (Txt.split (Txt.slice p (some 1) none) (Str.ofString "/")).foldl nStep []
noncomputable def nPath (p : Str) : Str := Str.ofString "/" ++ Txt.join (Str.ofString "/") (nComps p)

theorem sum_le {zs : List Str} {b : Nat} (h : ∀ z ∈ zs, z.length ≤ b) : (zs.map (·.length)).sum ≤ zs.length * b := by
  induction zs with
  | nil => simp
  | cons z r ih =>
    have h1 := h z (.head _)
    have h2 := ih fun y hy => h y (.tail _ hy)
    simp only [List.map_cons, List.sum_cons, List.length_cons, Nat.succ_mul]
    omega
theorem g_isfn_159 (P : Params) : isFnK (KH P) 159 = true := by kernel_rfl
theorem g_normpath : Glo (PySem.Str.ofString "normpath") (.ref 159) := Glo.ofK (fun _ => by kernel_rfl)
noncomputable abbrev npB (Dn : Addr) (q : Str) (t13 t12 t8 t6 t4 : Tok) : List (Str × Value) := [(Str.ofString "new_comps", .ref Dn), (Str.ofString "path", .str q t13), (Str.ofString "initial_slashes", .str (Str.ofString "/") t12), (Str.ofString "dotdot", .str (Str.ofString "..") t8), (Str.ofString "dot", .str (Str.ofString ".") t6), (Str.ofString "sep", .str (Str.ofString "/") t4)]
theorem snoc_or {α : Type} (l : List α) : l = [] ∨ ∃ i y, l = i ++ [y] := by
  rcases List.eq_nil_or_concat l with h | ⟨i, y, h⟩
  · exact .inl h
  · exact .inr ⟨i, y, by rw [h, List.concat_eq_append]⟩
theorem hsl : (!(((Str.ofString "/").length : Int) != 0)) = false := by decide +kernel
theorem join_le {sep : Str} {zs : List Str} {b : Nat} (h : ∀ z ∈ zs, z.length ≤ b) : (Txt.join sep zs).length ≤ zs.length * b + zs.length * sep.length := by
  have h1 : Txt.join sep zs = Str.join sep zs := StrLaws.glued_eq_join sep zs
  rw [h1]
  have h2 := StrLaws.join_length_le sep zs
  have h3 := sum_le h
  omega
theorem c_normpath {w : World} {A : Around} {s : Shared} {n : Nat} {R : Result → Shared → Prop} {p : Str} {t : Tok} (hA : Rm A (n + 3)) (W : Wg w s.heap) (hz : p.length ≤ 10000) (h0 : ((p.length : Int) != 0) = true)
    (h1 : Txt.slice p none (some 1) = Str.ofString "/") (h2 : (Txt.slice p (some 1) (some 2) != Str.ofString "/") = true)
    (h3 : (PySem.Builtin.Str.partsBetween (Txt.slice p (some 1) none) (Builtin.Str.occurrences (Txt.slice p (some 1) none) (Str.ofString "/") 0 (Txt.slice p (some 1) none).length ((Txt.slice p (some 1) none).length + 1)) (Str.ofString "/").length).length ≤ sizeLine)
    (h4 : (Txt.split (Txt.slice p (some 1) none) (Str.ofString "/")).length ≤ 16) (h5 : ∀ z ∈ Txt.split (Txt.slice p (some 1) none) (Str.ofString "/"), z.length ≤ 16)
    (h : ∀ t' s', Ext s s' → R (.ok (.ret (.str (nPath p) t'))) s') : codeAny (Md w) A (.call (.ref 159) ⟨[.str p t], []⟩) R s := by
  have hp1 : p.length ≤ sizeLine := by rw [sizeLine_eq]; omega
  have hp2 : (Txt.slice p (some 1) none).length ≤ sizeLine := Nat.le_trans (Txt.slice_le p _ _) hp1
  with_reducible refine enterD (binds := [(Str.ofString "path", .str p t)]) (ks := [(Str.ofString "path", .local), (Str.ofString "sep", .local), (Str.ofString "dot", .local), (Str.ofString "dotdot", .local), (Str.ofString "_", .local), (Str.ofString "initial_slashes", .local), (Str.ofString "comps", .local), (Str.ofString "new_comps", .local), (Str.ofString "comp", .local), (Str.ofString "fspath", .globalImplicit), (Str.ofString "isinstance", .globalImplicit), (Str.ofString "bytes", .globalImplicit), (Str.ofString "splitroot", .globalImplicit)]) hA W (by kernel_rfl) (by kernel_rfl) (by kernel_rfl) (by kernel_rfl) (by kernel_rfl) ?_
  intro L s' hL F hA' hk
  conv in bodyOf _ => whnf
  with_reducible refine x_assign (c_glo F hk (by kd_mem) g_fspath (cw_fn (isfn_117 _) (ev_cons ?_)))
  kst_mem
  with_reducible refine ev_nil ⟨F.base, wpAny_call (c_fspath (n := n + 1) hA' F.base ?_)⟩
  intro s1 x1
  have F1 := F.ext x1
  kst_all
  rename_i s2 F2
  with_reducible refine x_if (bt_call (c_glo F2 hk (by kd_mem) g_isinstance (cw_bi (ev_cons ?_))))
  kst_mem
  with_reducible refine ev_cons (e_glo F2 hk (by kd_mem) g_bytes (ev_nil ?_))
  with_reducible refine o_isi_strbytes F2 ?_; intro s3 F3
  with_reducible refine t_bool (br_false (x_assign (e_str F3 ?_))); intro t4 s4 F4
  kst_all
  rename_i s5 F5
  with_reducible refine x_assign (e_str F5 ?_); intro t6 s6 F6
  kst_all
  rename_i s7 F7
  with_reducible refine x_assign (e_str F7 ?_); intro t8 s8 F8
  kst_all
  rename_i s9 F9
  with_reducible refine x_nil (nx_next ?_)
  with_reducible refine x_if (bt_not (bt_name ?_))
  kst_mem
  with_reducible refine t_str F9 hp1 ?_; intro s10 F10
  rw [h0, Bool.not_true]
  with_reducible refine br_skip ?_
  -- _, initial_slashes, path = splitroot(path)
  with_reducible refine x_unp3 (B := s) hA' (c_glo F10 hk (by kd_mem) g_splitroot (cw_fn (isfn_152 _) (ev_cons ?_)))
  kst_mem
  with_reducible refine ev_nil ⟨F10.base, wpAny_call (c_splitroot hA' F10.base hz h1 h2 ?_)⟩
  intro a t11 t12 t13 s14 N14
  have F14 := F10.new N14
  with_reducible refine ⟨_, _, _, _, _, rfl, F14, .led List.mem_cons_self, ?_⟩
  intro s15 F15
  replace F15 := F15.weak (List.sublist_cons_self _ _)
  kst_all
  rename_i s16 F16
  kst_all
  rename_i s17 F17
  kst_all
  rename_i s18 F18
  -- comps = path.split(sep)
  with_reducible refine x_assign (c_meth ?_)
  kst_mem
  with_reducible refine fun _ => ?_
  with_reducible refine GM.split ?_
  with_reducible refine cw_m (ev_cons ?_)
  kst_mem
  with_reducible refine ev_nil (m_split F18 (by kernel_rfl) ?_ hp2 h3)
  intro Dc vs s19 hvs F19
  kst_all
  rename_i s20 F20
  -- new_comps = []
  with_reducible refine x_assign (e_list (ev_nil ⟨_, F20, Nat.zero_le _, ?_⟩))
  intro Dn s21 F21
  kst_all
  rename_i s22 F22
  with_reducible refine x_for (B := s) hA' ?_
  kst_mem
  replace F22 := F22.nsw (bs' := npB Dn (Txt.slice p (some 1) none) t13 t12 t8 t6 t4) (by kd_all) (by kqd_sub)
  clear F F1 F2 F3 F4 F5 F6 F7 F8 F9 F10 F14 F15 F16 F17 F18 F19 F20 F21
  with_reducible refine ⟨_, _, _, _, _, srcList (l := Dc) (xs := vs), F22, .led (by kd_mem), fun i own => ∃ ws, StrsAre ws (((Txt.split (Txt.slice p (some 1) none) (Str.ofString "/")).take i).foldl nStep []) ∧ own = [(Dn, LstP ws), (Dc, LstP vs), (L, NsP (npB Dn (Txt.slice p (some 1) none) t13 t12 t8 t6 t4))], ?_, ?_, ?_, ?_⟩
  · exact ⟨[], .nil, rfl⟩
  · rintro i own ⟨ws, hws, rfl⟩
    exact .led (by kd_mem)
  · rintro it i v own s23 Kx hKx hi ⟨ws, hws, rfl⟩ F23 hv
    obtain ⟨z, tz, rfl, hz1⟩ := strs_get hvs hv
    have hzl : z.length ≤ 16 := h5 z (List.mem_of_getElem? hz1)
    have hzs : z.length ≤ sizeLine := by rw [sizeLine_eq]; omega
    have htk : ((Txt.split (Txt.slice p (some 1) none) (Str.ofString "/")).take (i + 1)).foldl nStep [] = nStep (((Txt.split (Txt.slice p (some 1) none) (Str.ofString "/")).take i).foldl nStep []) z := by
      rw [List.take_add_one, hz1, List.foldl_append]; rfl
    have hal : (((Txt.split (Txt.slice p (some 1) none) (Str.ofString "/")).take i).foldl nStep []).length ≤ 16 := by
      have h1 := nFold_len ((Txt.split (Txt.slice p (some 1) none) (Str.ofString "/")).take i) []
      have h2 := List.length_take_le i (Txt.split (Txt.slice p (some 1) none) (Str.ofString "/"))
      have h3 : ((Txt.split (Txt.slice p (some 1) none) (Str.ofString "/")).take i).length ≤ (Txt.split (Txt.slice p (some 1) none) (Str.ofString "/")).length := by rw [List.length_take]; omega
      simp only [List.length_nil] at h1
      omega
    generalize ((Txt.split (Txt.slice p (some 1) none) (Str.ofString "/")).take i).foldl nStep [] = acc at hws hal htk
    have hwl : ws.length ≤ 16 := by rw [strs_len hws]; exact hal
    have hwl2 : ws.length ≤ sizeLine := by rw [sizeLine_eq]; omega
    with_reducible refine turn ?_
    kst_all
    rename_i s24 F24
    have back : ∀ {s' : Shared} {ws'}, Fm w s s' [(it, ItP Dc (i + 1)), (Dn, LstP ws'), (Dc, LstP vs), (L, NsP ((Str.ofString "comp", .str z tz) :: npB Dn (Txt.slice p (some 1) none) t13 t12 t8 t6 t4))] → Fm w s s' [(it, ItP Dc (i + 1)), (Dn, LstP ws'), (Dc, LstP vs), (L, NsP (npB Dn (Txt.slice p (some 1) none) t13 t12 t8 t6 t4))] :=
      fun F => F.nsw (by kd_all) fun _ h => .tail _ h
    -- if not comp or comp == dot
    with_reducible refine x_if (bt_or (bt_not (bt_name ?_)))
    kst_mem
    with_reducible refine t_str F24 hzs ?_; intro s25 F25
    with_reducible refine b2 (fun e1 => br_true (x_cont (nx_cont (ec_cont (hKx _ _ ⟨ws, ?_, rfl⟩ (back F25)))))) (fun e1 => ?_)
    · rw [htk]; unfold nStep; rw [if_pos e1]; exact hws
    with_reducible refine bt_cmp ?_
    kst_mem
    kst_mem
    with_reducible refine o_eqs (t_bool (br_cases (fun e2 => br_true (x_cont (nx_cont (ec_cont (hKx _ _ ⟨ws, ?_, rfl⟩ (back F25)))))) (fun e2 => br_skip ?_)))
    · rw [htk]; unfold nStep; rw [if_neg (by rw [e1]; exact Bool.false_ne_true), if_pos e2]; exact hws
    have hst : nStep acc z = if (z != Str.ofString "..") = true then acc ++ [z]
        else match acc.getLast? with
        | none => acc
        | some y => if (y == Str.ofString "..") = true then acc ++ [z] else acc.dropLast := by
      unfold nStep
      rw [if_neg (by rw [e1]; exact Bool.false_ne_true), if_neg (by rw [e2]; exact Bool.false_ne_true)]
    rw [hst] at htk
    clear hst
    -- the append
    have app : ∀ {s'' : Shared} {Q}, Fm w s s'' [(it, ItP Dc (i + 1)), (Dn, LstP ws), (Dc, LstP vs), (L, NsP ((Str.ofString "comp", .str z tz) :: npB Dn (Txt.slice p (some 1) none) t13 t12 t8 t6 t4))] →
        (∀ s₃, Fm w s s₃ [(it, ItP Dc (i + 1)), (Dn, LstP (ws ++ [.str z tz])), (Dc, LstP vs), (L, NsP ((Str.ofString "comp", .str z tz) :: npB Dn (Txt.slice p (some 1) none) t13 t12 t8 t6 t4))] → Q .none s₃) →
        wpAny (Md w) (A.deeper (dEnv (fdOf (KH w.params) 159) 159 L)) (call (.builtin "list.append") [.ref Dn, .str z tz]) Q (fun _ _ => False) s'' := fun F h => o_append F (by kd_all) hwl2 h
    with_reducible refine x_if (bt_or3 (bt_cmp ?_))
    kst_mem
    kst_mem
    with_reducible refine o_nes (t_bool (b2 (fun e3 => br_true (x_expr (c_meth ?_))) (fun e3 => bt_and (bt_not (bt_name ?_)))))
    · kst_mem
      with_reducible refine fun _ => ?_
      with_reducible refine g_lm F25 (.led (by kd_mem)) slot_list_append type_list_append ?_
      with_reducible refine cw_m (ev_cons ?_)
      kst_mem
      with_reducible refine ev_nil (app F25 ?_)
      intro s26 F26
      with_reducible refine x_nil (nx_next (x_nil (ec_next (hKx _ _ ⟨_, ?_, rfl⟩ (back F26)))))
      rw [htk, if_pos e3]
      exact strs_app hws (.cons z tz .nil)
    · kst_mem
      with_reducible refine t_str F25 (Nat.le_of_ble_eq_true rfl) ?_; intro s26 F26
      rw [hsl]
      with_reducible refine b2_f (b2_f (bt_and (bt_name ?_)))
      kst_mem
      with_reducible refine t_list F26 (.led (by kd_mem)) (Nat.le_trans hwl (Nat.le_of_ble_eq_true rfl)) ?_; intro s27 F27
      rw [if_neg (by rw [e3]; exact Bool.false_ne_true)] at htk
      clear app F26 F25 F24
      rcases snoc_or acc with rfl | ⟨init, y, rfl⟩
      · cases hws
        rw [show (!([] : List Value).isEmpty) = false from rfl]
        with_reducible refine b2_f (br_false (x_if (bt_name ?_)))
        kst_mem
        with_reducible refine t_list F27 (.led (by kd_mem)) (Nat.zero_le _) ?_; intro s28 F28
        rw [show (!([] : List Value).isEmpty) = false from rfl]
        with_reducible refine br_skip (x_nil (nx_next (x_nil (ec_next (hKx _ _ ⟨_, ?_, rfl⟩ (back F28))))))
        rw [htk]; exact .nil
      · obtain ⟨ws0, ty, rfl, hws0⟩ := strs_snoc hws
        have hne : (ws0 ++ [Value.str y ty]).isEmpty = false := by cases ws0 <;> rfl
        rw [hne, Bool.not_false]
        have hgl : (init ++ [y]).getLast? = some y := List.getLast?_concat
        rw [hgl] at htk
        with_reducible refine b2_t (bt_cmp (e_sub ?_))
        kst_mem
        with_reducible refine e_neg1 F27 ?_; intro t28 s28 F28
        with_reducible refine o_lneg F28 (.led (by kd_mem)) List.getLast?_concat ?_
        kst_mem
        with_reducible refine o_eqs (t_bool (br_cases (fun e4 => br_true (x_expr (c_meth ?_))) (fun e4 => br_false (x_if (bt_name ?_)))))
        · kst_mem
          with_reducible refine fun _ => ?_
          with_reducible refine g_lm F28 (.led (by kd_mem)) slot_list_append type_list_append ?_
          with_reducible refine cw_m (ev_cons ?_)
          kst_mem
          with_reducible refine ev_nil (o_append F28 (by kd_all) hwl2 ?_)
          intro s29 F29
          with_reducible refine x_nil (nx_next (x_nil (ec_next (hKx _ _ ⟨_, ?_, rfl⟩ (back F29)))))
          rw [htk]
          show StrsAre _ (if (y == Str.ofString "..") = true then _ else _)
          rw [if_pos e4]
          exact strs_app hws (.cons z tz .nil)
        · kst_mem
          with_reducible refine t_list F28 (.led (by kd_mem)) (Nat.le_trans hwl (Nat.le_of_ble_eq_true rfl)) ?_; intro s29 F29
          rw [hne, Bool.not_false]
          with_reducible refine br_true (x_expr (c_meth ?_))
          kst_mem
          with_reducible refine fun _ => ?_
          with_reducible refine g_lm F29 (.led (by kd_mem)) PySem.F.slot_list_pop PySem.F.type_list_pop ?_
          with_reducible refine cw_m (ev_nil (m_pop F29 (by kd_all) ?_ ?_))
          · rw [List.length_append] at hwl2; exact hwl2
          intro s30 F30
          with_reducible refine x_nil (nx_next (x_nil (nx_next (x_nil (ec_next (hKx _ _ ⟨_, ?_, rfl⟩ (back F30)))))))
          rw [htk]
          show StrsAre _ (if (y == Str.ofString "..") = true then _ else _)
          rw [if_neg (by rw [e4]; exact Bool.false_ne_true), List.dropLast_concat]
          exact hws0
  · rintro own s23 ⟨ws, hws, rfl⟩ F23
    rw [List.take_of_length_le (Nat.le_of_eq (strs_len hvs).symm)] at hws
    have hwl : (nComps p).length ≤ 16 := by
      have h1 := nFold_len (Txt.split (Txt.slice p (some 1) none) (Str.ofString "/")) []
      show (List.foldl nStep [] _).length ≤ 16
      simp only [List.length_nil] at h1
      omega
    have hwz : ∀ z ∈ nComps p, z.length ≤ 16 := nFold_mem _ [] h5 fun _ h => (nomatch h)
    have hsum := sum_le hwz
    have hjl : (Txt.join (Str.ofString "/") (nComps p)).length ≤ 1000 := by
      have h1 := join_le (sep := Str.ofString "/") hwz
      have h2 : (Str.ofString "/").length = 1 := by kernel_rfl
      rw [h2] at h1
      omega
    have hnl : (nPath p).length = 1 + (Txt.join (Str.ofString "/") (nComps p)).length := by
      have h2 : (Str.ofString "/").length = 1 := by kernel_rfl
      unfold nPath
      rw [Str.length_append, h2]
    have hbig : 2000 ≤ sizeLine := Nat.le_of_ble_eq_true rfl
    with_reducible refine x_assign ?_
    kst_mem
    kst_all
    rename_i s24 F24
    -- path = initial_slashes + sep.join(comps)
    with_reducible refine x_assign (o_bin ?_)
    kst_mem
    with_reducible refine c_meth ?_
    kst_mem
    with_reducible refine fun _ => ?_
    with_reducible refine GM.join ?_
    with_reducible refine cw_m (ev_cons ?_)
    kst_mem
    with_reducible refine ev_nil (m_join F24 (.led (by kd_mem)) (zs := nComps p) hws (joinOk_of_weight ?_ (Nat.le_of_ble_eq_true rfl)) ?_)
    · omega
    intro t25 s25 F25
    with_reducible refine o_add F25 ?_ ?_
    · have h2 : (Str.ofString "/").length = 1 := by kernel_rfl
      rw [h2]; omega
    intro t26 s26 F26
    kst_all
    rename_i s27 F27
    with_reducible refine x_ret (e_or ?_)
    kst_mem
    with_reducible refine t_str F27 ?_ ?_
    · exact Nat.le_trans (Nat.le_of_eq hnl) (by omega)
    intro s28 F28
    have hnz : (((nPath p).length : Int) != 0) = true := by rw [bne_iff_ne]; omega
    have hnz' : (((Str.ofString "/" ++ Txt.join (Str.ofString "/") (nComps p)).length : Int) != 0) = true := hnz
    rw [hnz']
    exact h _ _ F28.toExt
end

section
open PySem PySem.W PySem.Spec PySem.Calls PyProof.Rows
set_option Elab.async false
set_option maxRecDepth 100000
set_option maxHeartbeats 0
section
variable {w : World} {A : Around} {B s : Shared} {own own' : Led} {E : Value → Shared → Prop} {env : Env} {rest : List Stmt} {pos : Pos}
theorem enterV {n : Nat} {R : Result → Shared → Prop} {f : Addr} {args vs : List Value} {binds : Value → List (Str × Value)} {ks : List (Str × NameKind)} (hA : Rm A (n + 1)) (W : Wg w s.heap)
    (hf : okFnC (KH w.params) f [] = true) (hz : vs.length ≤ 1000)
    (hbind : bindArgs (fdOf (KH w.params) f) ⟨args, []⟩ = (newTuple vs >>= fun t => pure (binds t)))
    (hks : chk (fdOf (KH w.params) f).scope ks = true)
    (h : ∀ L t s', Fm w s s' [(L, NsP []), (t, TupP vs)] → Rm (A.deeper (cEnv (fdOf (KH w.params) f) f L [])) n →
      Ks (cEnv (fdOf (KH w.params) f) f L []) L [] ks → ∀ E A',
      BindP (Md w) A' E (cEnv (fdOf (KH w.params) f) f L []) (binds (.ref t)) (fun s' => Wg w s'.heap ∧
        wpAny (Md w) (A.deeper (cEnv (fdOf (KH w.params) f) f L [])) (execs (bodyOf (fdOf (KH w.params) f)) (cEnv (fdOf (KH w.params) f) f L [])) (fun fl s'' => R (.ok (.ret (retV fl))) s'') (fun _ _ => False) s') s') :
    codeAny (Md w) A (.call (.ref f) ⟨args, []⟩) R s := by
  unfold okFnC at hf
  simp only [Bool.and_eq_true, beq_iff_eq, decide_eq_true_eq] at hf
  obtain ⟨h1, h2, h3, h4, h5⟩ := hf
  obtain ⟨G, WG, hs⟩ := id W
  obtain ⟨o, ho, hdt⟩ := fd_at WG.K h1
  obtain ⟨p1, p2, p3, p4, p5, p6⟩ := plain_fd h2
  refine codeAny_call_function hA.room (hs _ _ ho) hdt p1 p2 p6 ((codeRec_of WG.K h3).keeps hs) ?_
  rw [hbind]
  refine wpAny_bind (wpAny_newObj_type ?_ (by show vs.toArray.size ≤ sizeLine; rw [List.size_toArray]; exact Nat.le_trans hz (Nat.le_of_ble_eq_true rfl)))
  have F0 : Fm w s _ [(s.heap.objs.size, TupP vs)] := (Fm.start W).push (o := { cls := .type "tuple", data := .seq vs.toArray }) (t := s.toks) rfl ⟨0, rfl⟩
  refine wpAny_pure (wp_newEnv F0 fun L cr s1 hcr F => ?_)
  rw [h4] at hcr
  cases cr with
  | cons _ _ => simp at hcr
  | nil =>
    refine wp_newEnv.bpm (h L _ s1 F hA.deeper ⟨p3, p4, p5, rfl, fun _ h => (nomatch h), kinds_of hks⟩ _ _) fun s' h' => ?_
    obtain ⟨⟨G', WG', hs'⟩, h'⟩ := h'
    obtain ⟨mg, mb, p, loose, mean, T⟩ := WG'.T
    refine ⟨T.nolimit.keeps hs', codeAny_func (wpAny_mono h' (fun fl s'' h' => ?_) fun _ _ x => x.elim)⟩
    cases fl <;> exact h'
theorem x_try {body : List Stmt} {h₀ : ExceptHandler} {hs : List ExceptHandler} {Q : Flow → Shared → Prop} (h : wpAny (Md w) A (execs body env) (Nx (Md w) A E env rest Q) (fun _ _ => False) s) :
    wpAny (Md w) A (execs (.Try body (h₀ :: hs) [] [] pos :: rest) env) Q E s := by
  refine x_one (wpAny_Try_except (wpAny_mono h (fun f s' h' => ?_) fun _ _ e => e.elim))
  cases f with
  | next => exact wpAny_execs_nil h'
  | _ => exact h'
theorem m_startswith {x y : Str} {t u : Tok} {Q : Value → Shared → Prop} (h : Q (.bool (Txt.startswith x y)) s) : wpAny (Md w) A (call (.builtin "str.startswith") [.str x t, .str y u]) Q E s := SC.startswith h
theorem m_endswith {x y : Str} {t u : Tok} {Q : Value → Shared → Prop} (h : Q (.bool (Txt.endswith x y)) s) : wpAny (Md w) A (call (.builtin "str.endswith") [.str x t, .str y u]) Q E s := SC.endswith h
end
end

section
open PySem PySem.W PySem.Spec PySem.Calls PyProof.Rows
set_option Elab.async false
set_option maxRecDepth 100000
set_option maxHeartbeats 0
theorem isfn_138 (P : Params) : isFnK (KH P) 138 = true := by kernel_rfl
theorem g_join : Glo (PySem.Str.ofString "join") (.ref 138) := Glo.ofK (fun _ => by kernel_rfl)
noncomputable def jn (a b : Str) : Str :=
  if Txt.startswith b (Str.ofString "/") = true then b else if (!((a.length : Int) != 0)) = true then b
  else if Txt.endswith a (Str.ofString "/") = true then a ++ b else a ++ (Str.ofString "/" ++ b)
noncomputable abbrev joB (a b : Str) (ta tb tp : Tok) (path : Str) (tq : Tok) (tup : Addr) : List (Str × Value) := [(Str.ofString "path", .str path tq), (Str.ofString "sep", .str (Str.ofString "/") tb), (Str.ofString "a", .str a ta), (Str.ofString "p", .ref tup)]
theorem c_join {w : World} {A : Around} {s : Shared} {n : Nat} {R : Result → Shared → Prop} {a b : Str} {t u : Tok} (hA : Rm A (n + 2)) (W : Wg w s.heap) (hza : a.length ≤ 10000) (hzb : b.length ≤ 10000)
    (h : ∀ t' s', Ext s s' → R (.ok (.ret (.str (jn a b) t'))) s') : codeAny (Md w) A (.call (.ref 138) ⟨[.str a t, .str b u], []⟩) R s := by
  have hbig : 100000 ≤ sizeLine := Nat.le_of_ble_eq_true rfl
  have hsl1 : (Str.ofString "/").length = 1 := by kernel_rfl
  with_reducible refine enterV (vs := [.str b u]) (binds := fun tp => [(Str.ofString "a", .str a t), (Str.ofString "p", tp)]) (ks := [(Str.ofString "a", .local), (Str.ofString "p", .local), (Str.ofString "sep", .local), (Str.ofString "path", .local), (Str.ofString "b", .local), (Str.ofString "fspath", .globalImplicit), (Str.ofString "_get_sep", .globalImplicit)]) hA W (by kernel_rfl) (Nat.le_of_ble_eq_true rfl) (by kernel_rfl) (by kernel_rfl) ?_
  intro L tp s1 F1 hA' hk E' A'
  with_reducible refine bp_cons ?_
  kst_all
  rename_i s2 F2
  with_reducible refine bp_cons ?_
  kst_all
  rename_i s3 F3
  with_reducible refine bp_nil ⟨F3.base, ?_⟩
  conv in bodyOf _ => whnf
  clear F1 F2
  with_reducible refine x_assign (c_glo F3 hk (by kd_mem) g_fspath (cw_fn (isfn_117 _) (ev_cons ?_)))
  kst_mem
  with_reducible refine ev_nil ⟨F3.base, wpAny_call (c_fspath hA' F3.base ?_)⟩
  intro s4 x4
  have F4 := F3.ext x4
  kst_all
  rename_i s5 F5
  with_reducible refine x_assign (c_glo F5 hk (by kd_mem) g_getsep (cw_fn (isfn_131 _) (ev_cons ?_)))
  kst_mem
  with_reducible refine ev_nil ⟨F5.base, wpAny_call (c_getsep hA' F5.base ?_)⟩
  intro t6 s6 x6
  have F6 := F5.ext x6
  kst_all
  rename_i s7 F7
  with_reducible refine x_assign ?_
  kst_mem
  kst_all
  rename_i s8 F8
  with_reducible refine x_try ?_
  with_reducible refine x_for (B := s) hA' ?_
  kst_mem
  with_reducible refine ⟨_, _, _, _, _, srcTup (l := tp) (xs := [.str b u]), F8, .led (by kd_mem), fun i own => ∃ path tq, path = (if i = 0 then a else jn a b) ∧ own = [(L, NsP (joB a b t t6 u path tq tp)), (tp, TupP [.str b u])], ?_, ?_, ?_, ?_⟩
  · exact ⟨a, t, rfl, rfl⟩
  · rintro i own ⟨path, tq, _, rfl⟩
    exact .led (by kd_mem)
  · rintro it i v own s9 Kx hKx hi ⟨path, tq, hpath, rfl⟩ F9 hv
    have hi0 : i = 0 := by simp at hi; omega
    subst hi0
    rw [if_pos rfl] at hpath
    subst hpath
    have hv' : v = .str b u := by simp at hv; exact hv.symm
    subst hv'
    with_reducible refine turn ?_
    kst_all
    rename_i s10 F10
    with_reducible refine x_assign (c_glo F10 hk (by kd_mem) g_fspath (cw_fn (isfn_117 _) (ev_cons ?_)))
    kst_mem
    with_reducible refine ev_nil ⟨F10.base, wpAny_call (c_fspath hA' F10.base ?_)⟩
    intro s11 x11
    have F11 := F10.ext x11
    kst_all
    rename_i s12 F12
    have fin : ∀ {s' : Shared} {z : Str} {tz : Tok} {bs}, z = jn path b → Fm w s s' [(it, TItP tp 1), (L, NsP ((Str.ofString "path", .str z tz) :: (Str.ofString "b", .str b u) :: bs)), (tp, TupP [.str b u])] → (∀ p ∈ [(Str.ofString "sep", Value.str (Str.ofString "/") t6), (Str.ofString "a", .str path t), (Str.ofString "p", .ref tp)], p ∈ bs) →
        Kx s' := fun {s' z tz bs} e F hb => by
      refine hKx _ _ ⟨z, tz, e, rfl⟩ (F.nsw (by kd_all) fun p hp => ?_)
      rcases List.mem_cons.mp hp with rfl | hp
      · exact .head _
      · exact .tail _ (.tail _ (hb p hp))
    with_reducible refine x_if (bt_or (bt_call (c_meth ?_)))
    kst_mem
    with_reducible refine fun _ => ?_
    with_reducible refine GM.startswith ?_
    with_reducible refine cw_m (ev_cons ?_)
    kst_mem
    with_reducible refine ev_nil (m_startswith (t_bool (b2 (fun e1 => br_true (x_assign ?_)) (fun e1 => bt_not (bt_name ?_)))))
    · kst_mem
      kst_all
      rename_i s13 F13
      with_reducible refine x_nil (nx_next (x_nil (ec_next (fin ?_ F13 (by kqd_sub)))))
      unfold jn; rw [if_pos e1]
    · kst_mem
      with_reducible refine t_str F12 (Nat.le_trans hza (by omega)) ?_; intro s13 F13
      with_reducible refine br_cases (fun e2 => br_true (x_assign ?_)) (fun e2 => br_false (x_if (bt_call (c_meth ?_))))
      · kst_mem
        kst_all
        rename_i s14 F14
        with_reducible refine x_nil (nx_next (x_nil (ec_next (fin ?_ F14 (by kqd_sub)))))
        unfold jn; rw [if_neg (by rw [e1]; exact Bool.false_ne_true), if_pos e2]
      · kst_mem
        with_reducible refine fun _ => ?_
        with_reducible refine GM.endswith ?_
        with_reducible refine cw_m (ev_cons ?_)
        kst_mem
        with_reducible refine ev_nil (m_endswith (t_bool (br_cases (fun e3 => br_true (x_aug ?_)) (fun e3 => br_false (x_aug ?_)))))
        · with_reducible refine ld_loc F13 hk (by kd_mem) (by kd_mem) (by kd_mem) ?_
          kst_mem
          with_reducible refine o_iadds F13 (by omega) ?_
          intro t14 s14 F14
          kst_all
          rename_i s15 F15
          with_reducible refine x_nil (nx_next (x_nil (nx_next (x_nil (ec_next (fin ?_ F15 (by kqd_sub)))))))
          unfold jn; rw [if_neg (by rw [e1]; exact Bool.false_ne_true), if_neg (by rw [e2]; exact Bool.false_ne_true), if_pos e3]
        · with_reducible refine ld_loc F13 hk (by kd_mem) (by kd_mem) (by kd_mem) ?_
          with_reducible refine o_bin ?_
          kst_mem
          kst_mem
          with_reducible refine o_add F13 (by rw [hsl1]; omega) ?_
          intro t14 s14 F14
          with_reducible refine o_iadds F14 (by rw [Str.length_append, hsl1]; omega) ?_
          intro t15 s15 F15
          kst_all
          rename_i s16 F16
          with_reducible refine x_nil (nx_next (x_nil (nx_next (x_nil (ec_next (fin ?_ F16 (by kqd_sub)))))))
          unfold jn; rw [if_neg (by rw [e1]; exact Bool.false_ne_true), if_neg (by rw [e2]; exact Bool.false_ne_true), if_neg (by rw [e3]; exact Bool.false_ne_true)]
  · rintro own s9 ⟨path, tq, hpath, rfl⟩ F9
    rw [if_neg (by simp)] at hpath
    subst hpath
    with_reducible refine x_nil (nx_next (x_ret ?_))
    kst_mem
    exact h _ _ F9.toExt
end

section
open PySem PySem.W PySem.Spec PySem.Calls PyProof.Rows
set_option Elab.async false
set_option maxRecDepth 100000
set_option maxHeartbeats 0
theorem isfn_220 (P : Params) : isFnK (KH P) 220 = true := by kernel_rfl
theorem g_law_one : Glo (PySem.Str.ofString "_law_one") (.ref 220) := Glo.ofK (fun _ => by kernel_rfl)
noncomputable def inS (c x : Str) : Bool := !(Builtin.Str.occurrences x c 0 x.length 1).isEmpty
noncomputable def one (p c : Str) : Bool :=
  if (p == Str.ofString ".") = true then true else if (p == Str.ofString "[ab]") = true then inS c (Str.ofString "ab")
  else if (p == Str.ofString "[^a]") = true then c != Str.ofString "a" else if (p == Str.ofString "[*]") = true then c == Str.ofString "*"
  else if (p == c) = true then true else p == Str.ofString "\\" ++ c
section
variable {w : World} {A : Around} {B s : Shared} {own : Led} {E : Value → Shared → Prop} {env : Env} {x y : Str} {v : Value} {pos : Pos} {k : Nat} {t u : Tok} {Q : Value → Shared → Prop}
theorem e_cmp {l r : Expr} {op : CmpOp} (h : wpAny (Md w) A (eval l env) (K1 (Md w) A E env r (compareOp op) Q) E s)
    (hm : behindInMarks op r = false := by with_unfolding_all rfl) : wpAny (Md w) A (eval (.Compare l [op] [r] pos) env) Q E s := wpAny_Compare1 h hm
theorem o_ins (h : Q (.bool (inS y x)) s) : wpAny (Md w) A (compareOp .In (.str y u) (.str x t)) Q E s := PySem.P.in_str h
end
theorem neg_of {b : Bool} (h : b = false) : ¬ b = true := by rw [h]; exact Bool.false_ne_true
theorem c_law_one {w : World} {A : Around} {s : Shared} {n : Nat} {R : Result → Shared → Prop} {p c : Str} {t u : Tok} (hA : Rm A (n + 1)) (W : Wg w s.heap) (hc : c.length ≤ 1000)
    (h : ∀ s', Ext s s' → R (.ok (.ret (.bool (one p c)))) s') : codeAny (Md w) A (.call (.ref 220) ⟨[.str p t, .str c u], []⟩) R s := by
  have hbig : 100000 ≤ sizeLine := Nat.le_of_ble_eq_true rfl
  have hsl1 : (Str.ofString "\\").length = 1 := by kernel_rfl
  with_reducible refine enterD (binds := [(Str.ofString "part", .str p t), (Str.ofString "sign", .str c u)]) (ks := [(Str.ofString "part", .local), (Str.ofString "sign", .local)]) hA W (by kernel_rfl) (by kernel_rfl) (by kernel_rfl) (by kernel_rfl) (by kernel_rfl) ?_
  intro L s' hL F hA' hk
  conv in bodyOf _ => whnf
  with_reducible refine x_if (bt_cmp ?_)
  kst_mem
  with_reducible refine e_str F ?_; intro t1 s1 F1
  with_reducible refine o_eqs (t_bool (br_cases (fun e1 => br_true (x_ret (e_bool ?_))) (fun e1 => br_skip ?_)))
  · have : one p c = true := by unfold one; rw [if_pos e1]
    rw [← this]; exact h _ F1.toExt
  with_reducible refine x_if (bt_cmp ?_)
  kst_mem
  with_reducible refine e_str F1 ?_; intro t2 s2 F2
  with_reducible refine o_eqs (t_bool (br_cases (fun e2 => br_true (x_ret (e_cmp ?_))) (fun e2 => br_skip ?_)))
  · kst_mem
    with_reducible refine e_str F2 ?_; intro t3 s3 F3
    with_reducible refine o_ins ?_
    have : one p c = inS c (Str.ofString "ab") := by unfold one; rw [if_neg (neg_of e1), if_pos e2]
    rw [← this]; exact h _ F3.toExt
  with_reducible refine x_if (bt_cmp ?_)
  kst_mem
  with_reducible refine e_str F2 ?_; intro t3 s3 F3
  with_reducible refine o_eqs (t_bool (br_cases (fun e3 => br_true (x_ret (e_cmp ?_))) (fun e3 => br_skip ?_)))
  · kst_mem
    with_reducible refine e_str F3 ?_; intro t4 s4 F4
    with_reducible refine o_nes ?_
    have : one p c = (c != Str.ofString "a") := by unfold one; rw [if_neg (neg_of e1), if_neg (neg_of e2), if_pos e3]
    rw [← this]; exact h _ F4.toExt
  with_reducible refine x_if (bt_cmp ?_)
  kst_mem
  with_reducible refine e_str F3 ?_; intro t4 s4 F4
  with_reducible refine o_eqs (t_bool (br_cases (fun e4 => br_true (x_ret (e_cmp ?_))) (fun e4 => br_skip ?_)))
  · kst_mem
    with_reducible refine e_str F4 ?_; intro t5 s5 F5
    with_reducible refine o_eqs ?_
    have : one p c = (c == Str.ofString "*") := by unfold one; rw [if_neg (neg_of e1), if_neg (neg_of e2), if_neg (neg_of e3), if_pos e4]
    rw [← this]; exact h _ F5.toExt
  with_reducible refine x_ret (e_or (e_cmp ?_))
  kst_mem
  kst_mem
  with_reducible refine o_eqs (t_bool (b2 (fun e5 => ?_) (fun e5 => e_cmp ?_)))
  · have : one p c = (p == c) := by unfold one; rw [if_neg (neg_of e1), if_neg (neg_of e2), if_neg (neg_of e3), if_neg (neg_of e4), if_pos e5, e5]
    rw [← this]; exact h _ F4.toExt
  · kst_mem
    with_reducible refine o_bin (e_str F4 ?_); intro t5 s5 F5
    kst_mem
    with_reducible refine o_add F5 (by rw [hsl1]; omega) ?_; intro t6 s6 F6
    with_reducible refine o_eqs ?_
    have : one p c = (p == Str.ofString "\\" ++ c) := by unfold one; rw [if_neg (neg_of e1), if_neg (neg_of e2), if_neg (neg_of e3), if_neg (neg_of e4), if_neg (neg_of e5)]
    rw [← this]; exact h _ F6.toExt
end

section
open PySem PySem.W PySem.Spec PySem.Calls PyProof.Rows
set_option Elab.async false
set_option maxRecDepth 100000
set_option maxHeartbeats 0
theorem isfn_225 (P : Params) : isFnK (KH P) 225 = true := by kernel_rfl
theorem g_law_takes : Glo (PySem.Str.ofString "_law_takes") (.ref 225) := Glo.ofK (fun _ => by kernel_rfl)
theorem g_range : Glo (PySem.Str.ofString "range") (.type "range") := Glo.ofB (fun _ => by kernel_rfl) (by kernel_rfl) (by decide +kernel)
theorem lay_c {cr : List (Str × Addr)} {a : Str} {r : List Str} (h : cr.map (·.1) = a :: r) : ∃ x c', cr = (a, x) :: c' ∧ c'.map (·.1) = r := by
  cases cr with
  | nil => cases h
  | cons p c' =>
    obtain ⟨b, x⟩ := p
    obtain ⟨rfl, h2⟩ := List.cons.inj h
    exact ⟨x, c', rfl, h2⟩
theorem lay3 {cr : List (Str × Addr)} {a b c : Str} (h : cr.map (·.1) = [a, b, c]) : ∃ x y z, cr = [(a, x), (b, y), (c, z)] := by
  obtain ⟨x, c1, e1, h1⟩ := lay_c h
  obtain ⟨y, c2, e2, h2⟩ := lay_c h1
  obtain ⟨z, c3, e3, h3⟩ := lay_c h2
  exact ⟨x, y, z, by rw [e1, e2, e3, List.map_eq_nil_iff.mp h3]⟩
theorem pick_take (xs : List Value) (j : Nat) : (slicePick xs.toArray none (some (j : Int)) none).toList = xs.take j := by
  rw [slicePick_upto' xs.toArray j]
noncomputable def stStar (r : List Bool) : List Bool := (List.range r.length).map fun k => decide (true ∈ r.take (k + 1))
noncomputable def stPart (f : Nat → Bool) (n : Nat) (r : List Bool) : List Bool := false :: (List.range n).map fun k => r.getD k false && f k
inductive PartsAre : List Value → List (Option Str) → Prop
  | nil : PartsAre [] []
  | none {vs ps} : PartsAre vs ps → PartsAre (.none :: vs) (none :: ps)
  | some (y : Str) (t : Tok) {vs ps} : PartsAre vs ps → PartsAre (.str y t :: vs) (some y :: ps)
theorem parts_len {vs : List Value} {ps : List (Option Str)} (h : PartsAre vs ps) : vs.length = ps.length := by
  induction h with
  | nil => rfl
  | none _ ih => simp [ih]
  | some _ _ _ ih => simp [ih]
theorem parts_get {vs : List Value} {ps : List (Option Str)} (h : PartsAre vs ps) : ∀ {i : Nat} {v : Value}, vs[i]? = some v → (v = .none ∧ ps[i]? = some none) ∨ ∃ z t, v = .str z t ∧ ps[i]? = some (some z) := by
  induction h with
  | nil => intro i v e; simp at e
  | none _ ih =>
    intro i v e
    cases i with
    | zero => simp at e; exact .inl ⟨e.symm, rfl⟩
    | succ i => simpa using ih (by simpa using e)
  | some y t _ ih =>
    intro i v e
    cases i with
    | zero => simp at e; exact .inr ⟨y, t, e.symm, rfl⟩
    | succ i => simpa using ih (by simpa using e)
noncomputable def tkStep (name : Str) (r : List Bool) : Option Str → List Bool
  | none => stStar r
  | some p => stPart (fun k => one p (Txt.item name k)) name.length r
noncomputable def takes (ps : List (Option Str)) (name : Str) : Bool := ((ps.foldl (tkStep name) (true :: List.replicate name.length false)).getLast?).getD false
theorem tk_len (name : Str) (p : Option Str) (r : List Bool) (h : r.length = name.length + 1) : (tkStep name r p).length = name.length + 1 := by
  cases p <;> simp [tkStep, stStar, stPart, h]
theorem tkf_len (name : Str) : ∀ (ps : List (Option Str)) (r : List Bool), r.length = name.length + 1 → (ps.foldl (tkStep name) r).length = name.length + 1
  | [], _, h => h
  | p :: ps, r, h => tkf_len name ps _ (tk_len name p r h)

theorem c_law_takes {w : World} {A : Around} {s : Shared} {n : Nat} {R : Result → Shared → Prop} {lp : Addr} {vs : List Value} {ps : List (Option Str)} {name : Str} {t : Tok} (hA : Rm A (n + 2)) (W : Wg w s.heap)
    (hp : ∃ o, s.heap.get? lp = some o ∧ LstP vs o) (hps : PartsAre vs ps) (hn : name.length ≤ 100)
    (h : ∀ s', Ext s s' → R (.ok (.ret (.bool (takes ps name)))) s') : codeAny (Md w) A (.call (.ref 225) ⟨[.ref lp, .str name t], []⟩) R s := by
  have hbig : 100000 ≤ sizeLine := Nat.le_of_ble_eq_true rfl
  with_reducible refine enterC (cs := [Str.ofString "name", Str.ofString "reach", Str.ofString "part"]) (binds := [(Str.ofString "parts", .ref lp), (Str.ofString "name", .str name t)]) (ks := [(Str.ofString "parts", .local), (Str.ofString "name", .cell), (Str.ofString "reach", .cell), (Str.ofString "part", .cell), (Str.ofString "len", .globalImplicit), (Str.ofString "range", .globalImplicit)]) hA W (by kernel_rfl) (by kernel_rfl) (by kernel_rfl) ?_
  intro L cr s1 hcr F1 hA' hk E' A'
  obtain ⟨cp, cre, cn, rfl⟩ := lay3 hcr
  replace F1 : Fm w s s1 [(cp, CellP none), (cre, CellP none), (cn, CellP none), (L, NsP [])] := F1
  with_reducible refine bp_cons ?_
  kst_all
  rename_i s2 F2
  with_reducible refine bp_cons ?_
  with_reducible refine st_cell F2 hk (by kd_mem) (by kd_mem) (by kd_all) ?_
  intro s3 F3
  with_reducible refine bp_nil ⟨F3.base, ?_⟩
  conv in bodyOf _ => whnf
  clear F1 F2
  -- reach = [True] + [False] * len(name)
  with_reducible refine x_assign (o_bin (e_list (ev_cons (e_bool (ev_nil ⟨_, F3, Nat.le_of_ble_eq_true rfl, ?_⟩)))))
  intro D1 s4 F4
  with_reducible refine o_bin (e_list (ev_cons (e_bool (ev_nil ⟨_, F4, Nat.le_of_ble_eq_true rfl, ?_⟩))))
  intro D2 s5 F5
  with_reducible refine c_glo F5 hk (by kd_mem) g_len (cw_bi (ev_cons (e_cell F5 hk (by kd_mem) (by kd_mem) (.led (by kd_mem)) (ev_nil (o_lens F5 (by omega) ?_)))))
  intro t6 s6 F6
  with_reducible refine o_mull F6 (.led (by kd_mem)) (by omega) ?_
  intro D3 s7 F7
  with_reducible refine o_addl F7 (.led (by kd_mem)) (.led (by kd_mem)) (by simp; omega) ?_
  intro D4 s8 F8
  with_reducible refine st_cell F8 hk (by kd_mem) (by kd_mem) (by kd_all) ?_
  intro s9 F9
  have e0 : ([Value.bool true] ++ List.replicate name.length (Value.bool false)) = (true :: List.replicate name.length false).map Value.bool := by simp
  rw [e0] at F9
  replace F9 := F9.weak (own' := [(D4, LstP ((true :: List.replicate name.length false).map Value.bool)), (cp, CellP none), (cre, CellP (some (.ref D4))), (cn, CellP (some (.str name t))), (L, NsP [(Str.ofString "parts", .ref lp)])]) (by kd_in)
  clear F3 F4 F5 F6 F7 F8
  with_reducible refine x_for (B := s) hA' ?_
  kst_mem
  with_reducible refine ⟨_, _, _, _, _, srcList (l := lp) (xs := vs), F9, .base hp, fun i own => ∃ (D : Addr) (pv : Option Value), own = [(D, LstP (((ps.take i).foldl (tkStep name) (true :: List.replicate name.length false)).map Value.bool)), (cp, CellP pv), (cre, CellP (some (.ref D))), (cn, CellP (some (.str name t))), (L, NsP [(Str.ofString "parts", .ref lp)])], ?_, ?_, ?_, ?_⟩
  · exact ⟨D4, none, rfl⟩
  · rintro i own ⟨D, pv, rfl⟩
    exact .base hp
  · rintro it i v own s10 Kx hKx hi ⟨D, pv, rfl⟩ F10 hv
    have htk : ∀ q, ps[i]? = some q → (ps.take (i + 1)).foldl (tkStep name) (true :: List.replicate name.length false) = tkStep name ((ps.take i).foldl (tkStep name) (true :: List.replicate name.length false)) q := fun q hq => by
      rw [List.take_add_one, hq, List.foldl_append]; rfl
    have hl : ((ps.take i).foldl (tkStep name) (true :: List.replicate name.length false)).length = name.length + 1 := tkf_len name _ _ (by simp)
    generalize (ps.take i).foldl (tkStep name) (true :: List.replicate name.length false) = bs at F10 htk hl
    with_reducible refine turn ?_
    with_reducible refine st_cell F10 hk (by kd_mem) (by kd_mem) (by kd_all) ?_
    intro s11 F11
    clear F9 F10
    with_reducible refine x_if (bt_cmp (e_cell F11 hk (by kd_mem) (by kd_mem) (.led (by kd_mem)) (e_none (o_isnone ?_))))
    rcases parts_get hps hv with ⟨rfl, hq⟩ | ⟨q, tq, rfl, hq⟩
    · rw [show (Value.none == Value.none) = true from rfl]
      with_reducible refine t_bool (br_true (x_assign (e_comp (B := s) (cl := [(Str.ofString "reach", cre)]) (ks' := [(Str.ofString "k", .local), (Str.ofString "reach", .cell)]) hA' hk (by kernel_rfl) (by kernel_rfl) (by kernel_rfl) (by kernel_rfl) ?_)))
      with_reducible refine c_glo F11 hk (by kd_mem) g_range (cw_ty (ev_cons (c_glo F11 hk (by kd_mem) g_len (cw_bi (ev_cons (e_cell F11 hk (by kd_mem) (by kd_mem) (.led (by kd_mem)) (ev_nil (o_lenl F11 (.led (by kd_mem)) ?_ ?_))))))))
      · simp; omega
      intro t12 s12 F12
      rw [List.length_map]
      with_reducible refine ev_nil (o_range1 F12 ?_)
      intro r s13 F13
      with_reducible refine ⟨_, _, _, _, _, srcRng (a := 0) (n := bs.length) (by omega) (by omega), by omega, F13, .led (by kd_mem), fun _ _ h => h.cons, fun C it2 Dn hkc => ⟨fun j ys own => ys = ((List.range j).map fun k => decide (true ∈ bs.take (k + 1))).map .bool ∧ own = [(r, RngP 0 (0 + bs.length) 1), (it, ItP lp (i + 1)), (D, LstP (bs.map .bool)), (cp, CellP (some .none)), (cre, CellP (some (.ref D))), (cn, CellP (some (.str name t))), (L, NsP [(Str.ofString "parts", .ref lp)])], ?_, ?_, ?_, ?_⟩⟩
      · exact ⟨rfl, rfl⟩
      · rintro i2 ys own2 ⟨_, rfl⟩
        exact .led (by kd_mem)
      · rintro i2 v2 ys own2 s14 Ky Kn hKy hKn hi2 ⟨rfl, rfl⟩ hlen F14 ⟨t14, rfl⟩
        clear F13 F12 F11
        with_reducible refine ct_none ?_
        kst_all
        rename_i s15 F15
        with_reducible refine e_cmp (e_bool (e_lsl_ns (B := s) (e_cell F15 hkc (by kd_mem) (by kd_mem) (.led (by kd_mem)) (o_bin ?_))))
        kst_mem
        with_reducible refine e_int F15 ?_; intro t16 s16 F16
        with_reducible refine o_addi F16 ?_; intro t17 s17 F17
        with_reducible refine ⟨D, bs.map .bool, _, _, _, rfl, rfl, F17, .led (by kd_mem), by simp; omega, ?_⟩
        intro D2 s18 F18
        have ei : (0 : Int) + (i2 : Int) + 1 = ((i2 + 1 : Nat) : Int) := by omega
        rw [ei, pick_take, ← List.map_take] at F18
        with_reducible refine o_inb F18 (.led (by kd_mem)) (hKy _ _ _ _ ⟨?_, rfl⟩ (F18.weak (by kd_in)))
        rw [List.range_succ, List.map_append, List.map_append]; rfl
      · rintro ys own2 s14 ⟨rfl, rfl⟩ hlen F14
        with_reducible refine st_cell F14 hk (by kd_mem) (by kd_mem) (by kd_all) ?_
        intro s15 F15
        with_reducible refine x_nil (nx_next (x_nil (ec_next (hKx _ _ ⟨Dn, some .none, rfl⟩ ?_))))
        rw [htk _ hq, show tkStep name bs none = (List.range bs.length).map (fun k => decide (true ∈ bs.take (k + 1))) from rfl]
        exact F15.sel (by kqd_all)
    · rw [show (Value.str q tq == Value.none) = false from rfl]
      with_reducible refine t_bool (br_false (x_assign (o_bin (e_list (ev_cons (e_bool (ev_nil ⟨_, F11, Nat.le_of_ble_eq_true rfl, ?_⟩)))))))
      intro D1 s12 F12
      with_reducible refine e_comp (B := s) (cl := [(Str.ofString "reach", cre), (Str.ofString "part", cp), (Str.ofString "name", cn)]) (ks' := [(Str.ofString "k", .local), (Str.ofString "reach", .cell), (Str.ofString "part", .cell), (Str.ofString "name", .cell), (Str.ofString "_law_one", .globalImplicit)]) hA' hk (by kernel_rfl) (by kernel_rfl) (by kernel_rfl) (by kernel_rfl) ?_
      with_reducible refine c_glo F12 hk (by kd_mem) g_range (cw_ty (ev_cons (c_glo F12 hk (by kd_mem) g_len (cw_bi (ev_cons (e_cell F12 hk (by kd_mem) (by kd_mem) (.led (by kd_mem)) (ev_nil (o_lens F12 (by omega) ?_))))))))
      intro t13 s13 F13
      with_reducible refine ev_nil (o_range1 F13 ?_)
      intro r s14 F14
      with_reducible refine ⟨_, _, _, _, _, srcRng (a := 0) (n := name.length) (by omega) (by omega), by omega, F14, .led (by kd_mem), fun _ _ h => h.cons, fun C it2 Dn hkc => ⟨fun j ys own => ys = ((List.range j).map fun k => bs.getD k false && one q (Txt.item name k)).map .bool ∧ own = [(r, RngP 0 (0 + name.length) 1), (D1, LstP [.bool false]), (it, ItP lp (i + 1)), (D, LstP (bs.map .bool)), (cp, CellP (some (.str q tq))), (cre, CellP (some (.ref D))), (cn, CellP (some (.str name t))), (L, NsP [(Str.ofString "parts", .ref lp)])], ?_, ?_, ?_, ?_⟩⟩
      · exact ⟨rfl, rfl⟩
      · rintro i2 ys own2 ⟨_, rfl⟩
        exact .led (by kd_mem)
      · rintro i2 v2 ys own2 s15 Ky Kn hKy hKn hi2 ⟨rfl, rfl⟩ hlen F15 ⟨t15, rfl⟩
        clear F14 F13 F12 F11
        have ei : (0 : Int) + (i2 : Int) = (i2 : Int) := by omega
        have hb1 : i2 < bs.length := by omega
        have hb2 : (bs.map Value.bool)[i2]? = some (.bool (bs.getD i2 false)) := by
          rw [List.getElem?_map, List.getD_eq_getElem?_getD, List.getElem?_eq_getElem hb1]; rfl
        have hj : ∀ b, b = (bs.getD i2 false && one q (Txt.item name i2)) → ((List.range i2).map fun k => bs.getD k false && one q (Txt.item name k)).map Value.bool ++ [Value.bool b] = ((List.range (i2 + 1)).map fun k => bs.getD k false && one q (Txt.item name k)).map Value.bool := by
          rintro b rfl
          rw [List.range_succ, List.map_append, List.map_append]; rfl
        rw [ei]
        with_reducible refine ct_none ?_
        kst_all
        rename_i s16 F16
        with_reducible refine e_and (e_sub (e_cell F16 hkc (by kd_mem) (by kd_mem) (.led (by kd_mem)) ?_))
        kst_mem
        with_reducible refine o_li F16 (.led (by kd_mem)) (by omega) hb2 ?_
        with_reducible refine t_bool (b2 (fun e1 => ?_) (fun e1 => hKy _ _ _ _ ⟨hj _ ?_, rfl⟩ F16))
        · with_reducible refine c_glo F16 hkc (by kd_mem) g_law_one (cw_fn (isfn_220 _) (ev_cons (e_cell F16 hkc (by kd_mem) (by kd_mem) (.led (by kd_mem)) (ev_cons (e_sub (e_cell F16 hkc (by kd_mem) (by kd_mem) (.led (by kd_mem)) ?_))))))
          kst_mem
          with_reducible refine o_si F16 hi2 (by omega) ?_
          intro t17 s17 F17
          with_reducible refine ev_nil ⟨F17.base, wpAny_call (c_law_one hA' F17.base ?_ ?_)⟩
          · exact Nat.le_of_ble_eq_true rfl
          intro s18 x18
          have F18 := F17.ext x18
          with_reducible refine hKy _ _ _ _ ⟨hj _ ?_, rfl⟩ F18
          rw [e1, Bool.true_and]
        · rw [e1, Bool.false_and]
      · rintro ys own2 s15 ⟨rfl, rfl⟩ hlen F15
        with_reducible refine o_addl F15 (.led (by kd_mem)) (.led (by kd_mem)) (by simp; omega) ?_
        intro D4 s16 F16
        rw [List.cons_append, List.nil_append] at F16
        with_reducible refine st_cell F16 hk (by kd_mem) (by kd_mem) (by kd_all) ?_
        intro s17 F17
        with_reducible refine x_nil (nx_next (x_nil (ec_next (hKx _ _ ⟨D4, some (.str q tq), rfl⟩ ?_))))
        rw [htk _ hq, show tkStep name bs (some q) = false :: (List.range name.length).map (fun k => bs.getD k false && one q (Txt.item name k)) from rfl, List.map_cons]
        exact F17.sel (by kqd_all)
  · rintro own s10 ⟨D, pv, rfl⟩ F10
    rw [List.take_of_length_le (Nat.le_of_eq (parts_len hps).symm)] at F10
    with_reducible refine x_ret (e_sub (e_cell F10 hk (by kd_mem) (by kd_mem) (.led (by kd_mem)) (e_neg1 F10 ?_)))
    intro t11 s11 F11
    have hl : (ps.foldl (tkStep name) (true :: List.replicate name.length false)).length = name.length + 1 := tkf_len name ps _ (by simp)
    obtain e | ⟨i, b, e⟩ := snoc_or (ps.foldl (tkStep name) (true :: List.replicate name.length false))
    · rw [e] at hl; simp at hl
    have hb : takes ps name = b := by unfold takes; rw [e, List.getLast?_concat]; rfl
    with_reducible refine o_lneg F11 (.led (by kd_mem)) (v := .bool b) ?_ ?_
    · rw [e, List.map_append]; exact List.getLast?_concat
    rw [← hb]
    exact h _ F11.toExt
end

section
open PySem PySem.W PySem.Spec PySem.Calls PyProof.Rows
set_option Elab.async false
set_option maxRecDepth 100000
set_option maxHeartbeats 0
noncomputable def LS (zs : List Str) (o : Obj) : Prop := ∃ vs, StrsAre vs zs ∧ LstP vs o
theorem UpdE.swap {a : Addr} {P P' P'' : Obj → Prop} {l l' : Led} (U : UpdE a P P'' l l') : ∃ l2, UpdE a P P' l l2 ∧ UpdE a P' P'' l2 l' := by
  induction U with
  | head => exact ⟨_, .head, .head⟩
  | tail _ ih => obtain ⟨l2, h1, h2⟩ := ih; exact ⟨_, .tail h1, .tail h2⟩
theorem strs_at {vs : List Value} {zs : List Str} (h : StrsAre vs zs) : ∀ {i : Nat} {z : Str}, zs[i]? = some z → ∃ t, vs[i]? = some (.str z t) := by
  induction h with
  | nil => intro i v e; simp at e
  | cons y t _ ih =>
    intro i v e
    cases i with
    | zero => simp at e; exact ⟨t, by simp [e]⟩
    | succ i => simpa using ih (by simpa using e)
section
variable {w : World} {A : Around} {B s : Shared} {own own' : Led} {E : Value → Shared → Prop} {env : Env} {x y z : Str} {v : Value} {pos : Pos} {k : Nat} {t u : Tok} {Q : Value → Shared → Prop} {l : Addr} {zs ys : List Str} {value slice : Expr} {n : Nat}
theorem Fm.hasLS (F : Fm w B s own) (h : Has B own l (LS zs)) : ∃ vs n, StrsAre vs zs ∧ s.heap.get? l = some (seqObj "list" vs.toArray n) := by
  obtain ⟨o, e, vs, hs, n, rfl⟩ := F.has h
  exact ⟨vs, n, hs, e⟩
theorem isListS {vs : List Value} {n : Nat} {h : Heap} (e : h.get? l = some (seqObj "list" vs.toArray n)) : h.IsList l vs.toArray := ⟨_, e, rfl, n, rfl⟩
theorem o_inS (F : Fm w B s own) (hl : Has B own l (LS zs)) (h : Q (.bool (decide (x ∈ zs))) s) : wpAny (Md w) A (compareOp .In (.str x t) (.ref l)) Q E s := by
  obtain ⟨vs, n, hs, e⟩ := F.hasLS hl
  refine SeqAt.in_listAt (isS x) (isListS e) (fun y hy => ?_) ?_
  · obtain ⟨z, t', rfl, _⟩ := strs_mem hs y (by simpa using hy)
    exact SeqAt.EqAt.str_str z t' x t
  · rw [List.any_toArray, any_isS hs]; exact h
theorem o_notinS (F : Fm w B s own) (hl : Has B own l (LS zs)) (h : Q (.bool (!decide (x ∈ zs))) s) : wpAny (Md w) A (compareOp .NotIn (.str x t) (.ref l)) Q E s := by
  obtain ⟨vs, n, hs, e⟩ := F.hasLS hl
  refine SeqAt.notIn_listAt (isS x) (isListS e) (fun y hy => ?_) ?_
  · obtain ⟨z, t', rfl, _⟩ := strs_mem hs y (by simpa using hy)
    exact SeqAt.EqAt.str_str z t' x t
  · rw [List.any_toArray, any_isS hs]; exact h
theorem o_liS {i : Nat} (F : Fm w B s own) (hl : Has B own l (LS zs)) (hi : i < 100000) (hx : zs[i]? = some z) (h : ∀ t, Q (.str z t) s)
    (hs : subscripted slice false (.ref l) (.int i u) = operate [.ref l, .int i u] (getItem (.ref l) (.int i u)) := by with_unfolding_all rfl) : wpAny (Md w) A (subscriptTail value slice (.ref l) (.int i u)) Q E s := by
  obtain ⟨vs, n, hss, e⟩ := F.hasLS hl
  obtain ⟨t, ht⟩ := strs_at hss hx
  exact tail_any (isListS e).typeIs slot_list_getitem.lookup (wpAny_getItem_list (isListS e) (by omega) (by omega) (x := .str z t) (by simpa using ht) (h t)) hs
theorem o_lnegS (F : Fm w B s own) (hl : Has B own l (LS zs)) (hx : zs.getLast? = some z) (h : ∀ t, Q (.str z t) s)
    (hs : subscripted slice false (.ref l) (.int (-1) u) = operate [.ref l, .int (-1) u] (getItem (.ref l) (.int (-1) u)) := by with_unfolding_all rfl) : wpAny (Md w) A (subscriptTail value slice (.ref l) (.int (-1) u)) Q E s := by
  obtain ⟨vs, n, hss, e⟩ := F.hasLS hl
  rw [List.getLast?_eq_getElem?] at hx
  obtain ⟨t, ht⟩ := strs_at hss hx
  have hlen : 1 ≤ vs.length := by
    have := List.getElem?_eq_some_iff.mp ht
    obtain ⟨h1, _⟩ := this
    omega
  have hz := strs_len hss
  refine tail_any (isListS e).typeIs slot_list_getitem.lookup (wpAny_getItem_list_neg (isListS e) (by omega) (by rw [List.size_toArray]; omega) (by omega) (x := .str z t) ?_ (h t)) hs
  have e1 : (-1 + (vs.toArray.size : Int)).toNat = zs.length - 1 := by rw [List.size_toArray, ← hz]; exact neg1_nat hlen
  rw [e1]
  simpa using ht
theorem o_lenS (F : Fm w B s own) (hl : Has B own l (LS zs)) (hz : zs.length ≤ 1000000) (h : ∀ t' s', Fm w B s' own → Q (.int zs.length t') s') : wpAny (Md w) A (call (.builtin "len") [.ref l]) Q E s := by
  obtain ⟨vs, n, hss, e⟩ := F.hasLS hl
  have hzz := strs_len hss
  refine call_len_list (isListS e) (by rw [List.size_toArray]; omega) ?_
  rw [List.size_toArray, hzz]
  exact h _ _ (F.tok _)
theorem o_appendS (F : Fm w B s own) (U : UpdE l (LS zs) (LS (zs ++ [z])) own own') (hz : zs.length ≤ 1000000) (h : ∀ s', Fm w B s' own' → Q .none s') :
    wpAny (Md w) A (call (.builtin "list.append") [.ref l, .str z t]) Q E s := by
  obtain ⟨o, e, vs, hs, m, rfl⟩ := F.sat _ U.mem
  have hzz := strs_len hs
  have hbig : 1000000 ≤ sizeLine := Nat.le_of_ble_eq_true rfl
  refine wpAny_list_append_plain (hsz := by rw [List.size_toArray]; omega) ⟨m, e⟩ fun h' hl hs' => ?_
  obtain ⟨m', e'⟩ := hl
  exact h _ (F.upd U hs' ⟨_, e', vs ++ [.str z t], strs_app hs (.cons z t .nil), m', by simp [seqObj]⟩)
theorem m_insertS (F : Fm w B s own) (U : UpdE l (LS zs) (LS (z :: zs)) own own') (hz : zs.length ≤ 1000000) (h : ∀ s', Fm w B s' own' → Q .none s') :
    wpAny (Md w) A (call (.builtin "list.insert") [.ref l, .int 0 u, .str z t]) Q E s := by
  have hbig : 1000000 ≤ sizeLine := Nat.le_of_ble_eq_true rfl
  obtain ⟨o, e, vs, hs, m, rfl⟩ := F.sat _ U.mem
  obtain ⟨own1, U1, U2⟩ := U.swap (P' := LstP vs)
  have F1 := F.extB U1 (s' := s) ⟨fun _ _ _ e => e, rfl, rfl⟩ ⟨_, e, m, rfl⟩
  obtain ⟨own2, U3, U4⟩ := U2.swap (P' := LstP (.str z t :: vs))
  exact m_insert0 F1 U3 (by rw [strs_len hs]; omega) fun s' F' => h s' (F'.imp U4 fun o ho => ⟨_, .cons z t hs, ho⟩)
theorem g_lmS {name : Str} {id : String} {pl : Sem Bool} {Q : Value × List Value → Shared → Prop} (F : Fm w B s own) (hl : Has B own l (LS zs)) (slot : Slot "list" name id) (hty : typeOf (.builtin id) = pure (.type "method_descriptor")) (h : Q (.builtin id, [.ref l]) s) :
    wpAny (Md w) A (getMethod (.ref l) name pl) Q E s := by
  obtain ⟨vs, n, hss, e⟩ := F.hasLS hl
  exact getMethod_builtin ⟨_, e, rfl⟩ PySem.F.plainAttrs_list slot hty (fun a e' => by cases e'; exact ⟨_, e, rfl⟩) h
theorem srcS : Src w B (fun own => Has B own l (LS zs)) (.ref l) zs.length (ItP l) (fun i v => ∃ z t, v = .str z t ∧ zs[i]? = some z) where
  iter := fun F ok h => by
    obtain ⟨vs, n, hss, e⟩ := F.hasLS ok
    exact wpAny_pyIter_list (isListS e) (h _ _ (F.push rfl ⟨rfl, rfl⟩))
  self := fun F hm h => by
    obtain ⟨o, e, h1, h2⟩ := F.sat _ hm
    exact wpAny_pyIter_listiter ⟨o, e, h1, h2⟩ h
  next := fun {A s own it i Q E} hh hi F ok h => by
    obtain ⟨vs, n, hss, el⟩ := F.hasLS ok.cons
    obtain ⟨o, e, h1, h2⟩ := F.sat _ (.head _)
    have hx : zs[i]? = some zs[i] := List.getElem?_eq_getElem hi
    obtain ⟨t, ht⟩ := strs_at hss hx
    refine wpAny_pyNext_list_item ⟨o, e, h1, h2⟩ (isListS el) (x := .str zs[i] t) (by simpa using ht) fun h' hit hs => h _ _ ⟨_, t, rfl, hx⟩ ?_
    obtain ⟨o', e', h1', h2'⟩ := hit
    exact F.upd .head hs ⟨o', e', h1', h2'⟩
  done := fun {A s own it Q E} hh F ok h => by
    obtain ⟨vs, n, hss, el⟩ := F.hasLS ok.cons
    obtain ⟨o, e, h1, h2⟩ := F.sat _ (.head _)
    exact wpAny_pyNext_list_end hh ⟨o, e, h1, h2⟩ (isListS el) (by simp [strs_len hss]) fun h' he => h _ (F.drop1 he)
noncomputable def cStr : Expr → Option Str
  | .Constant (.str x) _ _ => some x
  | _ => none
theorem cStr_of {e : Expr} {x : Str} (h : cStr e = some x) : ∃ k p, e = .Constant (.str x) k p := by
  unfold cStr at h
  split at h
  · cases h; exact ⟨_, _, rfl⟩
  · cases h
noncomputable def cStrs : List Expr → Option (List Str)
  | [] => some []
  | e :: r => match cStr e, cStrs r with
    | some x, some l => some (x :: l)
    | _, _ => none
theorem ev_strs {Q : List Value → Shared → Prop} : ∀ {es : List Expr} {zs : List Str} {s : Shared}, cStrs es = some zs → Fm w B s own → (∀ vs s', StrsAre vs zs → Fm w B s' own → Q vs s') → Ev (Md w) A E env es Q s := by
  intro es
  induction es generalizing Q with
  | nil => intro zs s e F h; cases e; exact h [] s .nil F
  | cons e r ih =>
    intro zs s hc F h
    rw [cStrs] at hc
    cases h1 : cStr e with
    | none => rw [h1] at hc; cases hc
    | some x =>
      cases h2 : cStrs r with
      | none => rw [h1, h2] at hc; cases hc
      | some l =>
        rw [h1, h2] at hc
        cases hc
        obtain ⟨k, p, rfl⟩ := cStr_of h1
        exact e_str F fun t' s' F' => ih h2 F' fun vs s'' hs F'' => h _ _ (.cons x t' hs) F''
theorem e_strs {elts : List Expr} (F : Fm w B s own) (hc : cStrs elts = some zs) (hz : zs.length ≤ 1000) (h : ∀ a s', Fm w B s' ((a, LS zs) :: own) → Q (.ref a) s')
    (hp : elts.all plainE = true := by with_unfolding_all rfl) : wpAny (Md w) A (eval (.List elts pos) env) Q E s :=
  e_list (B := B) (ev_strs hc F fun vs s' hs F' => ⟨own, F', by rw [strs_len hs]; exact Nat.le_trans hz (Nat.le_of_ble_eq_true rfl), fun a s'' F'' => h a s'' (F''.imp .head fun _ ho => ⟨vs, hs, ho⟩)⟩) hp
theorem strs_take {vs : List Value} {zs : List Str} (h : StrsAre vs zs) : ∀ n, StrsAre (vs.take n) (zs.take n) := by
  induction h with
  | nil => intro n; simp; exact .nil
  | cons y t _ ih =>
    intro n
    cases n with
    | zero => exact .nil
    | succ n => exact .cons y t (ih n)
theorem strs_rev {vs : List Value} {zs : List Str} (h : StrsAre vs zs) : StrsAre vs.reverse zs.reverse := by
  induction h with
  | nil => exact .nil
  | cons y t _ ih => rw [List.reverse_cons, List.reverse_cons]; exact strs_app ih (.cons y t .nil)
theorem o_lslI {xs : List Value} {vl vu vk : Value} {lo hi st : Option Int} (F : Fm w B s own) (hl' : s.heap.IsList l xs.toArray) (hz : xs.length ≤ sizeLine) (pl : IsPart vl lo) (pu : IsPart vu hi) (pk : IsPart vk st) (h0 : st ≠ some 0)
    (h : ∀ D s', Fm w B s' ((D, LstP (slicePick xs.toArray lo hi st).toList) :: own) → Q (.ref D) s')
    (hs : ∀ i, subscripted slice false (.ref l) (.ref i) = operate [.ref i, .ref l] (getItem (.ref l) (.ref i)) ∨ subscripted slice false (.ref l) (.ref i) = operate [.ref l, .ref i] (getItem (.ref l) (.ref i))) :
    wpAny (Md w) A (subscriptTail value slice (.ref l) (.ref s.heap.objs.size)) Q E { s with heap := s.heap.push { cls := .type "slice", data := .fields #[vl, vu, vk] } } := by
  have key : wpAny (Md w) A (getItem (.ref l) (.ref s.heap.objs.size)) Q E { s with heap := s.heap.push { cls := .type "slice", data := .fields #[vl, vu, vk] } } := by
    refine wpAny_getItem_list_slice (hl'.push _) (Heap.IsSliceOf.new ..) pl pu pk h0 ?_ (by rw [List.size_toArray]; exact hz)
    have F1 : Fm w B { s with heap := s.heap.push { cls := .type "slice", data := .fields #[vl, vu, vk] } } own := F.ext ⟨fun b o e => Heap.get?_push_of_some _ e, rfl, rfl⟩
    exact h _ _ (F1.push (t := s.toks) rfl ⟨0, by rw [Array.toArray_toList]⟩)
  have hT := Heap.IsList.typeIs (s := { s with heap := s.heap.push { cls := .type "slice", data := .fields #[vl, vu, vk] } }) (hl'.push _)
  rcases hs s.heap.objs.size with e | e
  · exact tail_any hT list_getitem_lookup key e
  · exact tail_any hT list_getitem_lookup key e
inductive RevS (w : World) (B : Shared) (Q : Value → Shared → Prop) (o j : Value) (s₂ : Shared) : Prop
  | mk (l : Addr) (zs : List Str) (u : Tok) (own' : Led) (e1 : o = .ref l) (e2 : j = .int (-1) u) (F : Fm w B s₂ own') (hl : Has B own' l (LS zs)) (hz : zs.length ≤ 1000)
      (h : ∀ D s', Fm w B s' ((D, LS zs.reverse) :: own') → Q (.ref D) s')
theorem e_revS {e : Expr} {p : Pos} (h : wpAny (Md w) A (eval value env) (KN (Md w) A E env e (RevS w B Q)) E s) :
    wpAny (Md w) A (eval (.Subscript value (.Slice none none (some e) p) pos) env) Q E s := by
  refine Subscript_ (wpAny_mono h (fun o s₁ h₁ => ?_) fun _ _ e => e)
  refine wpAny_Slice (evalPart_none_step (evalPart_none_step (evalPart_some_step (wpAny_mono h₁ (fun j s₂ h₂ => ?_) fun _ _ e => e))))
  obtain ⟨l, zs, u, own', rfl, rfl, F, hl, hz, h₂⟩ := h₂
  obtain ⟨vs, n, hss, el⟩ := F.hasLS hl
  refine o_lslI F (isListS el) (by rw [strs_len hss]; exact Nat.le_trans hz (Nat.le_of_ble_eq_true rfl)) .none .none (.int (-1) u) (by simp) (fun D s' F' => h₂ D s' (F'.imp .head fun o ho => ⟨vs.reverse, strs_rev hss, ?_⟩)) fun i => .inr rfl
  rw [krv_pick] at ho
  exact ho
inductive PreS (w : World) (B : Shared) (Q : Value → Shared → Prop) (o j : Value) (s₂ : Shared) : Prop
  | mk (l : Addr) (zs : List Str) (i : Nat) (u : Tok) (own' : Led) (e1 : o = .ref l) (e2 : j = .int (i : Nat) u) (F : Fm w B s₂ own') (hl : Has B own' l (LS zs)) (hz : zs.length ≤ 1000)
      (h : ∀ D s', Fm w B s' ((D, LS (zs.take i)) :: own') → Q (.ref D) s')
theorem e_preS {e : Expr} {p : Pos} (h : wpAny (Md w) A (eval value env) (KN (Md w) A E env e (PreS w B Q)) E s) :
    wpAny (Md w) A (eval (.Subscript value (.Slice none (some e) none p) pos) env) Q E s := by
  refine Subscript_ (wpAny_mono h (fun o s₁ h₁ => ?_) fun _ _ e => e)
  refine wpAny_Slice (evalPart_none_step (evalPart_some_step (wpAny_mono h₁ (fun j s₂ h₂ => evalPart_none_step ?_) fun _ _ e => e)))
  obtain ⟨l, zs, i, u, own', rfl, rfl, F, hl, hz, h₂⟩ := h₂
  obtain ⟨vs, n, hss, el⟩ := F.hasLS hl
  refine o_lslI F (isListS el) (by rw [strs_len hss]; exact Nat.le_trans hz (Nat.le_of_ble_eq_true rfl)) .none (.int i u) .none (by simp) (fun D s' F' => h₂ D s' (F'.imp .head fun o ho => ⟨vs.take i, strs_take hss i, ?_⟩)) fun i => .inl rfl
  rw [pick_take] at ho
  exact ho
end
end

section
open PySem PySem.W PySem.Spec PySem.Calls PyProof.Rows
set_option Elab.async false
set_option maxRecDepth 100000
set_option maxHeartbeats 0
theorem isfn_244 (P : Params) : isFnK (KH P) 244 = true := by kernel_rfl
theorem g_law_names : Glo (PySem.Str.ofString "_law_names") (.ref 244) := Glo.ofK (fun _ => by kernel_rfl)
noncomputable def nmStep (st : Int × List Str) (c : Str) : Int × List Str :=
  if (c == Str.ofString "..") = true then (st.1 + 1, st.2) else if (c == Str.ofString "") = true then st else if (c == Str.ofString ".") = true then st
  else if st.1 > 0 then (st.1 - 1, st.2) else (st.1, c :: st.2)
noncomputable def lawNames (zs : List Str) : List Str := (zs.reverse.foldl nmStep (0, [])).2
theorem nm_len : ∀ (zs : List Str) (st : Int × List Str), (zs.foldl nmStep st).2.length ≤ st.2.length + zs.length
  | [], st => by simp
  | z :: r, st => by
    have := nm_len r (nmStep st z)
    have h1 : (nmStep st z).2.length ≤ st.2.length + 1 := by
      unfold nmStep
      split
      · simp
      · split
        · simp
        · split
          · simp
          · split <;> simp
    simp only [List.foldl_cons, List.length_cons]
    omega
theorem c_law_names {w : World} {A : Around} {s : Shared} {n : Nat} {R : Result → Shared → Prop} {lr : Addr} {zs : List Str} (hA : Rm A (n + 1)) (W : Wg w s.heap)
    (hr : ∃ o, s.heap.get? lr = some o ∧ LS zs o) (hz : zs.length ≤ 100)
    (h : ∀ a s', New s s' a (LS (lawNames zs)) → R (.ok (.ret (.ref a))) s') : codeAny (Md w) A (.call (.ref 244) ⟨[.ref lr], []⟩) R s := by
  with_reducible refine enterD (binds := [(Str.ofString "row", .ref lr)]) (ks := [(Str.ofString "row", .local), (Str.ofString "names", .local), (Str.ofString "debt", .local), (Str.ofString "piece", .local)]) hA W (by kernel_rfl) (by kernel_rfl) (by kernel_rfl) (by kernel_rfl) (by kernel_rfl) ?_
  intro L s' hL F hA' hk
  conv in bodyOf _ => whnf
  with_reducible refine x_assign (e_strs F (zs := []) (by kernel_rfl) (Nat.zero_le _) ?_)
  intro Dn s1 F1
  kst_all
  rename_i s2 F2
  with_reducible refine x_assign (e_int F2 ?_); intro t3 s3 F3
  kst_all
  rename_i s4 F4
  with_reducible refine x_for (B := s) hA' (e_revS (B := s) ?_)
  kst_mem
  with_reducible refine e_neg1 F4 ?_; intro t5 s5 F5
  with_reducible refine ⟨_, _, _, _, rfl, rfl, F5, .base hr, by omega, ?_⟩
  intro Dr s6 F6
  replace F6 := F6.nsw (bs' := [(Str.ofString "debt", .int 0 t3), (Str.ofString "names", .ref Dn)]) (by kd_all) (by kqd_sub)
  clear F F1 F2 F3 F4 F5
  with_reducible refine ⟨_, _, _, _, _, srcS (l := Dr) (zs := zs.reverse), F6, .led (by kd_mem), fun i own => ∃ td, own = [(Dr, LS zs.reverse), (Dn, LS (((zs.reverse).take i).foldl nmStep (0, [])).2), (L, NsP [(Str.ofString "debt", .int (((zs.reverse).take i).foldl nmStep (0, [])).1 td), (Str.ofString "names", .ref Dn)])], ?_, ?_, ?_, ?_⟩
  · exact ⟨t3, rfl⟩
  · rintro i own ⟨td, rfl⟩
    exact .led (by kd_mem)
  · rintro it i v own s7 Kx hKx hi ⟨td, rfl⟩ F7 ⟨z, tz, rfl, hzi⟩
    have htk : ((zs.reverse).take (i + 1)).foldl nmStep (0, []) = nmStep (((zs.reverse).take i).foldl nmStep (0, [])) z := by
      rw [List.take_add_one, hzi, List.foldl_append]; rfl
    have hnl := nm_len ((zs.reverse).take i) (0, [])
    have hl2 : ((zs.reverse).take i).length ≤ 100 := by rw [List.length_take, List.length_reverse]; omega
    simp only [List.length_nil] at hnl
    generalize ((zs.reverse).take i).foldl nmStep (0, []) = st at F7 htk hnl
    obtain ⟨d, ns⟩ := st
    simp only at F7 hnl
    clear F6
    with_reducible refine turn ?_
    kst_all
    rename_i s8 F8
    with_reducible refine x_if (bt_cmp ?_)
    kst_mem
    with_reducible refine e_str F8 ?_; intro t9 s9 F9
    with_reducible refine o_eqs (t_bool (br_cases (fun e1 => br_true (x_aug (ld_loc F9 hk (by kd_mem) (by kd_mem) (by kd_mem) (e_int F9 ?_)))) (fun e1 => br_false (x_if (bt_or (bt_cmp ?_))))))
    · intro t10 s10 F10
      with_reducible refine o_iaddi F10 ?_; intro t11 s11 F11
      kst_all
      rename_i s12 F12
      have e : nmStep (d, ns) z = (d + 1, ns) := by unfold nmStep; rw [if_pos e1]
      with_reducible refine x_nil (nx_next (x_nil (ec_next (hKx _ _ ⟨t11, rfl⟩ ?_))))
      rw [htk, e]
      exact (F12.nsw (bs' := [(Str.ofString "debt", .int (d + 1) t11), (Str.ofString "names", .ref Dn)]) (by kd_all) (by kqd_sub)).sel (by kqd_all)
    · kst_mem
      with_reducible refine e_str F9 ?_; intro t10 s10 F10
      have back : ∀ {s' : Shared} {d' ns' td'} (bs), Fm w s s' [(it, ItP Dr (i + 1)), (Dr, LS zs.reverse), (Dn, LS ns'), (L, NsP bs)] → (∀ p ∈ [(Str.ofString "debt", Value.int d' td'), (Str.ofString "names", .ref Dn)], p ∈ bs) →
          Fm w s s' [(it, ItP Dr (i + 1)), (Dr, LS zs.reverse), (Dn, LS ns'), (L, NsP [(Str.ofString "debt", .int d' td'), (Str.ofString "names", .ref Dn)])] := fun bs F hb => F.nsw (by kd_all) hb
      with_reducible refine o_eqs (t_bool (b2 (fun e2 => br_true (x_cont (nx_cont (nx_cont (ec_cont (hKx _ _ ⟨td, rfl⟩ ?_)))))) (fun e2 => bt_cmp ?_)))
      · have e : nmStep (d, ns) z = (d, ns) := by unfold nmStep; rw [if_neg (neg_of e1), if_pos e2]
        rw [htk, e]
        exact back _ F10 (by kqd_sub)
      kst_mem
      with_reducible refine e_str F10 ?_; intro t11 s11 F11
      with_reducible refine o_eqs (t_bool (br_cases (fun e3 => br_true (x_cont (nx_cont (nx_cont (ec_cont (hKx _ _ ⟨td, rfl⟩ ?_)))))) (fun e3 => br_false (x_if (bt_cmp ?_)))))
      · have e : nmStep (d, ns) z = (d, ns) := by unfold nmStep; rw [if_neg (neg_of e1), if_neg (neg_of e2), if_pos e3]
        rw [htk, e]
        exact back _ F11 (by kqd_sub)
      kst_mem
      with_reducible refine e_int F11 ?_; intro t12 s12 F12
      with_reducible refine o_gti (t_bool (br_cases (fun e4 => br_true (x_aug (ld_loc F12 hk (by kd_mem) (by kd_mem) (by kd_mem) (e_int F12 ?_)))) (fun e4 => br_false (x_expr (c_meth ?_)))))
      · intro t13 s13 F13
        with_reducible refine o_isubi F13 ?_; intro t14 s14 F14
        kst_all
        rename_i s15 F15
        have e : nmStep (d, ns) z = (d - 1, ns) := by unfold nmStep; rw [if_neg (neg_of e1), if_neg (neg_of e2), if_neg (neg_of e3), if_pos (of_decide_eq_true e4)]
        with_reducible refine x_nil (nx_next (x_nil (nx_next (x_nil (nx_next (x_nil (ec_next (hKx _ _ ⟨t14, rfl⟩ ?_))))))))
        rw [htk, e]
        exact back _ F15 (by kqd_sub)
      · kst_mem
        with_reducible refine fun _ => ?_
        with_reducible refine g_lmS F12 (.led (by kd_mem)) PySem.F.slot_list_insert PySem.F.type_list_insert ?_
        with_reducible refine cw_m (ev_cons (e_int F12 ?_)); intro t13 s13 F13
        with_reducible refine ev_cons ?_
        kst_mem
        with_reducible refine ev_nil (m_insertS F13 (by kd_all) (by omega) ?_)
        intro s14 F14
        have e : nmStep (d, ns) z = (d, z :: ns) := by unfold nmStep; rw [if_neg (neg_of e1), if_neg (neg_of e2), if_neg (neg_of e3), if_neg (of_decide_eq_false e4)]
        with_reducible refine x_nil (nx_next (x_nil (nx_next (x_nil (nx_next (x_nil (ec_next (hKx _ _ ⟨td, rfl⟩ ?_))))))))
        rw [htk, e]
        exact back _ F14 (by kqd_sub)
  · rintro own s7 ⟨td, rfl⟩ F7
    rw [List.take_of_length_le (Nat.le_refl _)] at F7
    with_reducible refine x_ret ?_
    kst_mem
    exact h _ _ (F7.out (.tail _ (.head _)))
end

section
open PySem PySem.W PySem.Spec PySem.Calls PyProof.Rows
set_option Elab.async false
set_option maxRecDepth 100000
set_option maxHeartbeats 0
theorem isfn_249 (P : Params) : isFnK (KH P) 249 = true := by kernel_rfl
theorem g_law_fits : Glo (PySem.Str.ofString "_law_fits") (.ref 249) := Glo.ofK (fun _ => by kernel_rfl)
theorem lay4 {cr : List (Str × Addr)} {a b c d : Str} (h : cr.map (·.1) = [a, b, c, d]) : ∃ x y z u, cr = [(a, x), (b, y), (c, z), (d, u)] := by
  obtain ⟨x, c1, e1, h1⟩ := lay_c h
  obtain ⟨y, z, u, e2⟩ := lay3 h1
  exact ⟨x, y, z, u, by rw [e1, e2]⟩
inductive NatsAre : List Value → List Nat → Prop
  | nil : NatsAre [] []
  | cons (y : Nat) (t : Tok) {vs ps} : NatsAre vs ps → NatsAre (.int y t :: vs) (y :: ps)
theorem nats_len {vs : List Value} {ps : List Nat} (h : NatsAre vs ps) : vs.length = ps.length := by
  induction h with
  | nil => rfl
  | cons _ _ _ ih => simp [ih]
theorem nats_get {vs : List Value} {ps : List Nat} (h : NatsAre vs ps) : ∀ {i : Nat} {v : Value}, vs[i]? = some v → ∃ (z : Nat) (t : Tok), v = .int z t ∧ ps[i]? = some z := by
  induction h with
  | nil => intro i v e; simp at e
  | cons y t _ ih =>
    intro i v e
    cases i with
    | zero => simp at e; exact ⟨y, t, e.symm, rfl⟩
    | succ i => simpa using ih (by simpa using e)
theorem nats_take {vs : List Value} {zs : List Nat} (h : NatsAre vs zs) : ∀ n, NatsAre (vs.take n) (zs.take n) := by
  induction h with
  | nil => intro n; simp; exact .nil
  | cons y t _ ih =>
    intro n
    cases n with
    | zero => exact .nil
    | succ n => exact .cons y t (ih n)
theorem nats_app {vs vs' : List Value} {zs zs' : List Nat} (h : NatsAre vs zs) (h' : NatsAre vs' zs') : NatsAre (vs ++ vs') (zs ++ zs') := by
  induction h with
  | nil => exact h'
  | cons y t _ ih => exact .cons y t ih
noncomputable def LN (ps : List Nat) (o : Obj) : Prop := ∃ vs, NatsAre vs ps ∧ LstP vs o
noncomputable def mean1 : List Str := [Str.ofString "a", Str.ofString "b", Str.ofString "ab", Str.ofString ".a", Str.ofString "*"]
noncomputable def meansL : List (List Str) := [mean1, [Str.ofString "a"], [Str.ofString "b"], [Str.ofString "a", Str.ofString "b", Str.ofString "*"], [Str.ofString "a", Str.ofString "b"], [Str.ofString "b", Str.ofString ".a", Str.ofString "*"], [Str.ofString ".a"], [Str.ofString "b", Str.ofString "ab"], [Str.ofString "*"]]
noncomputable def ftStep (names : List Str) (r : List Bool) (p : Nat) : List Bool :=
  if p = 9 then stStar r else stPart (fun k => decide (names.getD k Str.empty ∈ meansL.getD p [])) names.length r
noncomputable def fits (ps : List Nat) (names : List Str) : Bool := ((ps.foldl (ftStep names) (true :: List.replicate names.length false)).getLast?).getD false
theorem ft_len (names : List Str) (p : Nat) (r : List Bool) (h : r.length = names.length + 1) : (ftStep names r p).length = names.length + 1 := by
  unfold ftStep
  split <;> simp [stStar, stPart, h]
theorem ftf_len (names : List Str) : ∀ (ps : List Nat) (r : List Bool), r.length = names.length + 1 → (ps.foldl (ftStep names) r).length = names.length + 1
  | [], _, h => h
  | p :: ps, r, h => ftf_len names ps _ (ft_len names p r h)
noncomputable abbrev mnRows (m0 m1 m2 m3 m4 m5 m6 m7 m8 : Addr) (t : Led) : Led := (m8, LS [Str.ofString "*"]) :: (m7, LS [Str.ofString "b", Str.ofString "ab"]) :: (m6, LS [Str.ofString ".a"]) :: (m5, LS [Str.ofString "b", Str.ofString ".a", Str.ofString "*"]) :: (m4, LS [Str.ofString "a", Str.ofString "b"]) :: (m3, LS [Str.ofString "a", Str.ofString "b", Str.ofString "*"]) :: (m2, LS [Str.ofString "b"]) :: (m1, LS [Str.ofString "a"]) :: (m0, LS [Str.ofString "a", Str.ofString "b", Str.ofString "ab", Str.ofString ".a", Str.ofString "*"]) :: t
theorem look_zip : ∀ (ms : List Addr) (zs : List (List Str)) (p : Nat), p < ms.length → ms.length ≤ zs.length → ∃ a, (ms.map Value.ref)[p]? = some (.ref a) ∧ (a, LS (zs.getD p [])) ∈ (ms.zip zs).map fun q => (q.1, LS q.2)
  | [], _, p, h, _ => absurd h (Nat.not_lt_zero p)
  | _ :: ms, [], _, _, h => absurd h (Nat.not_succ_le_zero ms.length)
  | m :: _, _ :: _, 0, _, _ => ⟨m, rfl, .head _⟩
  | _ :: ms, _ :: zs, p + 1, h, h2 => let ⟨a, h3, h4⟩ := look_zip ms zs p (Nat.lt_of_succ_lt_succ h) (Nat.le_of_succ_le_succ h2); ⟨a, h3, .tail _ h4⟩
theorem mn_at {m0 m1 m2 m3 m4 m5 m6 m7 m8 : Addr} {t : Led} {p : Nat} (h : p < 9) : ∃ a, ([m0, m1, m2, m3, m4, m5, m6, m7, m8].map Value.ref)[p]? = some (.ref a) ∧ (a, LS (meansL.getD p [])) ∈ mnRows m0 m1 m2 m3 m4 m5 m6 m7 m8 t := by
  obtain ⟨a, h1, h2⟩ := look_zip [m0, m1, m2, m3, m4, m5, m6, m7, m8] meansL p h (Nat.le_of_ble_eq_true rfl)
  exact ⟨a, h1, List.mem_append_left t (List.mem_reverse.mpr h2)⟩
noncomputable abbrev ftR (lp ln cp cre cm cn L lm : Addr) (ml : List Value) (mR : Led) (D : Addr) (pv : Option Value) (bs : List Bool) : Led := (D, LstP (bs.map Value.bool)) :: (cp, CellP pv) :: (cre, CellP (some (.ref D))) :: (cm, CellP (some (.ref lm))) :: (cn, CellP (some (.ref ln))) :: (L, NsP [(Str.ofString "picks", .ref lp)]) :: (lm, LstP ml) :: mR
theorem srcN {w : World} {B : Shared} {l : Addr} {ps : List Nat} : Src w B (fun own => Has B own l (LN ps)) (.ref l) ps.length (ItP l) (fun i v => ∃ (z : Nat) (t : Tok), v = .int z t ∧ ps[i]? = some z) where
  iter := fun F ok h => by
    obtain ⟨o, e, vs, hss, n, rfl⟩ := F.has ok
    exact wpAny_pyIter_list (isListS e) (h _ _ (F.push rfl ⟨rfl, rfl⟩))
  self := fun F hm h => by
    obtain ⟨o, e, h1, h2⟩ := F.sat _ hm
    exact wpAny_pyIter_listiter ⟨o, e, h1, h2⟩ h
  next := fun {A s own it i Q E} hh hi F ok h => by
    obtain ⟨_, el, vs, hss, n, rfl⟩ := F.has ok.cons
    obtain ⟨o, e, h1, h2⟩ := F.sat _ (.head _)
    have hi' : i < vs.length := by rw [nats_len hss]; exact hi
    obtain ⟨z, t, hz, hx⟩ := nats_get hss (List.getElem?_eq_getElem hi')
    refine wpAny_pyNext_list_item ⟨o, e, h1, h2⟩ (isListS el) (x := vs[i]) (by simp [hi']) fun h' hit hs => h _ _ ⟨z, t, hz, hx⟩ ?_
    obtain ⟨o', e', h1', h2'⟩ := hit
    exact F.upd .head hs ⟨o', e', h1', h2'⟩
  done := fun {A s own it Q E} hh F ok h => by
    obtain ⟨_, el, vs, hss, n, rfl⟩ := F.has ok.cons
    obtain ⟨o, e, h1, h2⟩ := F.sat _ (.head _)
    exact wpAny_pyNext_list_end hh ⟨o, e, h1, h2⟩ (isListS el) (by simp [nats_len hss]) fun h' he => h _ (F.drop1 he)

theorem c_law_fits {w : World} {A : Around} {s : Shared} {n : Nat} {R : Result → Shared → Prop} {lp ln : Addr} {ps : List Nat} {names : List Str} (hA : Rm A (n + 1)) (W : Wg w s.heap)
    (hp : ∃ o, s.heap.get? lp = some o ∧ LN ps o) (hps : ∀ p ∈ ps, p ≤ 9) (hn : ∃ o, s.heap.get? ln = some o ∧ LS names o) (hl : names.length ≤ 100)
    (h : ∀ s', Ext s s' → R (.ok (.ret (.bool (fits ps names)))) s') : codeAny (Md w) A (.call (.ref 249) ⟨[.ref lp, .ref ln], []⟩) R s := by
  have hbig : 100000 ≤ sizeLine := Nat.le_of_ble_eq_true rfl
  with_reducible refine enterC (cs := [Str.ofString "names", Str.ofString "means", Str.ofString "reach", Str.ofString "pick"]) (binds := [(Str.ofString "picks", .ref lp), (Str.ofString "names", .ref ln)]) (ks := [(Str.ofString "picks", .local), (Str.ofString "names", .cell), (Str.ofString "means", .cell), (Str.ofString "reach", .cell), (Str.ofString "pick", .cell), (Str.ofString "len", .globalImplicit), (Str.ofString "range", .globalImplicit)]) hA W (by kernel_rfl) (by kernel_rfl) (by kernel_rfl) ?_
  intro L cr s1 hcr F1 hA' hk E' A'
  obtain ⟨cp, cre, cm, cn, rfl⟩ := lay4 hcr
  replace F1 : Fm w s s1 [(cp, CellP none), (cre, CellP none), (cm, CellP none), (cn, CellP none), (L, NsP [])] := F1
  with_reducible refine bp_cons ?_
  kst_all
  rename_i s2 F2
  with_reducible refine bp_cons ?_
  with_reducible refine st_cell F2 hk (by kd_mem) (by kd_mem) (by kd_all) ?_
  intro s3 F3
  with_reducible refine bp_nil ⟨F3.base, ?_⟩
  conv in bodyOf _ => whnf
  clear F1 F2
  -- means
  with_reducible refine x_assign (e_list (B := s) ?_)
  with_reducible refine ev_cons (e_strs F3 (zs := [Str.ofString "a", Str.ofString "b", Str.ofString "ab", Str.ofString ".a", Str.ofString "*"]) (by kernel_rfl) (Nat.le_of_ble_eq_true rfl) ?_)
  intro m0 sm0 Fm0
  with_reducible refine ev_cons (e_strs Fm0 (zs := [Str.ofString "a"]) (by kernel_rfl) (Nat.le_of_ble_eq_true rfl) ?_)
  intro m1 sm1 Fm1
  with_reducible refine ev_cons (e_strs Fm1 (zs := [Str.ofString "b"]) (by kernel_rfl) (Nat.le_of_ble_eq_true rfl) ?_)
  intro m2 sm2 Fm2
  with_reducible refine ev_cons (e_strs Fm2 (zs := [Str.ofString "a", Str.ofString "b", Str.ofString "*"]) (by kernel_rfl) (Nat.le_of_ble_eq_true rfl) ?_)
  intro m3 sm3 Fm3
  with_reducible refine ev_cons (e_strs Fm3 (zs := [Str.ofString "a", Str.ofString "b"]) (by kernel_rfl) (Nat.le_of_ble_eq_true rfl) ?_)
  intro m4 sm4 Fm4
  with_reducible refine ev_cons (e_strs Fm4 (zs := [Str.ofString "b", Str.ofString ".a", Str.ofString "*"]) (by kernel_rfl) (Nat.le_of_ble_eq_true rfl) ?_)
  intro m5 sm5 Fm5
  with_reducible refine ev_cons (e_strs Fm5 (zs := [Str.ofString ".a"]) (by kernel_rfl) (Nat.le_of_ble_eq_true rfl) ?_)
  intro m6 sm6 Fm6
  with_reducible refine ev_cons (e_strs Fm6 (zs := [Str.ofString "b", Str.ofString "ab"]) (by kernel_rfl) (Nat.le_of_ble_eq_true rfl) ?_)
  intro m7 sm7 Fm7
  with_reducible refine ev_cons (e_strs Fm7 (zs := [Str.ofString "*"]) (by kernel_rfl) (Nat.le_of_ble_eq_true rfl) ?_)
  intro m8 sm8 Fm8
  with_reducible refine ev_nil ⟨_, Fm8, Nat.le_of_ble_eq_true rfl, ?_⟩
  intro lm s4 F4
  with_reducible refine st_cell F4 hk (by kd_mem) (by kd_mem) (by kd_all) ?_
  intro s5 F5
  clear F3 F4 Fm0 Fm1 Fm2 Fm3 Fm4 Fm5 Fm6 Fm7 Fm8
  -- reach
  with_reducible refine x_assign (o_bin (e_list (B := s) (ev_cons (e_bool (ev_nil ⟨_, F5, Nat.le_of_ble_eq_true rfl, ?_⟩)))))
  intro D1 s6 F6
  with_reducible refine o_bin (e_list (B := s) (ev_cons (e_bool (ev_nil ⟨_, F6, Nat.le_of_ble_eq_true rfl, ?_⟩))))
  intro D2 s7 F7
  with_reducible refine c_glo F7 hk (by kd_mem) g_len (cw_bi (ev_cons (e_cell F7 hk (by kd_mem) (by kd_mem) (.led (by kd_mem)) (ev_nil (o_lenS F7 (.base hn) (by omega) ?_)))))
  intro t8 s8 F8
  with_reducible refine o_mull F8 (.led (by kd_mem)) (by omega) ?_
  intro D3 s9 F9
  with_reducible refine o_addl F9 (.led (by kd_mem)) (.led (by kd_mem)) (by simp; omega) ?_
  intro D4 s10 F10
  with_reducible refine st_cell F10 hk (by kd_mem) (by kd_mem) (by kd_all) ?_
  intro s11 F11
  have e0 : ([Value.bool true] ++ List.replicate names.length (Value.bool false)) = (true :: List.replicate names.length false).map Value.bool := by simp
  rw [e0] at F11
  replace F11 := F11.sel (own' := ftR lp ln cp cre cm cn L lm [.ref m0, .ref m1, .ref m2, .ref m3, .ref m4, .ref m5, .ref m6, .ref m7, .ref m8] (mnRows m0 m1 m2 m3 m4 m5 m6 m7 m8 []) D4 none (true :: List.replicate names.length false)) (by kqd_all)
  have hmn : ∀ q, q < 9 → ∃ ma, ([.ref m0, .ref m1, .ref m2, .ref m3, .ref m4, .ref m5, .ref m6, .ref m7, .ref m8] : List Value)[q]? = some (.ref ma) ∧ (ma, LS (meansL.getD q [])) ∈ mnRows m0 m1 m2 m3 m4 m5 m6 m7 m8 [] := fun q h => mn_at (t := []) h
  generalize ([.ref m0, .ref m1, .ref m2, .ref m3, .ref m4, .ref m5, .ref m6, .ref m7, .ref m8] : List Value) = ml at F11 hmn
  generalize mnRows m0 m1 m2 m3 m4 m5 m6 m7 m8 [] = mR at F11 hmn
  clear F5 F6 F7 F8 F9 F10
  with_reducible refine x_for (B := s) hA' ?_
  kst_mem
  with_reducible refine ⟨_, _, _, _, _, srcN (l := lp) (ps := ps), F11, .base hp, fun i own => ∃ D pv, own = ftR lp ln cp cre cm cn L lm ml mR D pv ((ps.take i).foldl (ftStep names) (true :: List.replicate names.length false)), ?_, ?_, ?_, ?_⟩
  · exact ⟨D4, none, rfl⟩
  · rintro i own ⟨D, pv, rfl⟩
    exact .base hp
  · rintro it i v own s12 Kx hKx hi ⟨D, pv, rfl⟩ F12 ⟨q, tq, rfl, hq⟩
    clear F11
    have htk : (ps.take (i + 1)).foldl (ftStep names) (true :: List.replicate names.length false) = ftStep names ((ps.take i).foldl (ftStep names) (true :: List.replicate names.length false)) q := by
      rw [List.take_add_one, hq, List.foldl_append]; rfl
    have hq9 : q ≤ 9 := hps q (List.mem_of_getElem? hq)
    have hbl : ((ps.take i).foldl (ftStep names) (true :: List.replicate names.length false)).length = names.length + 1 := ftf_len names _ _ (by simp)
    generalize (ps.take i).foldl (ftStep names) (true :: List.replicate names.length false) = bs at F12 htk hbl
    with_reducible refine turn ?_
    with_reducible refine st_cell F12 hk (by kd_mem) (by kd_mem) (by kd_all) ?_
    intro s13 F13
    clear F12
    with_reducible refine x_if (bt_cmp (e_cell F13 hk (by kd_mem) (by kd_mem) (.led (by kd_mem)) (e_int F13 ?_)))
    intro t14 s14 F14
    clear F13
    with_reducible refine o_eqi (t_bool (br_cases (fun e1 => br_true (x_assign (e_comp (B := s) (cl := [(Str.ofString "reach", cre)]) (ks' := [(Str.ofString "k", .local), (Str.ofString "reach", .cell)]) hA' hk (by kernel_rfl) (by kernel_rfl) (by kernel_rfl) (by kernel_rfl) ?_))) (fun e1 => br_false ?_)))
    · with_reducible refine c_glo F14 hk (by kd_mem) g_range (cw_ty (ev_cons (c_glo F14 hk (by kd_mem) g_len (cw_bi (ev_cons (e_cell F14 hk (by kd_mem) (by kd_mem) (.led (by kd_mem)) (ev_nil (o_lenl F14 (.led (by kd_mem)) ?_ ?_))))))))
      · simp; omega
      intro t15 s15 F15
      rw [List.length_map]
      with_reducible refine ev_nil (o_range1 F15 ?_)
      intro r s16 F16
      clear F14 F15
      with_reducible refine ⟨_, _, _, _, _, srcRng (a := 0) (n := bs.length) (by omega) (by omega), by omega, F16, .led (by kd_mem), fun _ _ h => h.cons, fun C it2 Dn hkc => ⟨fun j ys own => ys = ((List.range j).map fun k => decide (true ∈ bs.take (k + 1))).map .bool ∧ own = (r, RngP 0 (0 + bs.length) 1) :: (it, ItP lp (i + 1)) :: ftR lp ln cp cre cm cn L lm ml mR D (some (.int q tq)) bs, ?_, ?_, ?_, ?_⟩⟩
      · exact ⟨rfl, rfl⟩
      · rintro i2 ys own2 ⟨_, rfl⟩
        exact .led (by kd_mem)
      · rintro i2 v2 ys own2 s17 Ky Kn hKy hKn hi2 ⟨rfl, rfl⟩ hlen F17 ⟨t17, rfl⟩
        clear F16
        with_reducible refine ct_none ?_
        kst_all
        rename_i s18 F18
        with_reducible refine e_cmp (e_bool (e_lsl_ns (B := s) (e_cell F18 hkc (by kd_mem) (by kd_mem) (.led (by kd_mem)) (o_bin ?_))))
        kst_mem
        with_reducible refine e_int F18 ?_; intro t19 s19 F19
        with_reducible refine o_addi F19 ?_; intro t20 s20 F20
        with_reducible refine ⟨D, bs.map .bool, _, _, _, rfl, rfl, F20, .led (by kd_mem), by simp; omega, ?_⟩
        intro D5 s21 F21
        have ei : (0 : Int) + (i2 : Int) + 1 = ((i2 + 1 : Nat) : Int) := by omega
        rw [ei, pick_take, ← List.map_take] at F21
        with_reducible refine o_inb F21 (.led (by kd_mem)) (hKy _ _ _ _ ⟨?_, rfl⟩ (F21.weak (by kd_in)))
        rw [List.range_succ, List.map_append, List.map_append]; rfl
      · rintro ys own2 s17 ⟨rfl, rfl⟩ hlen F17
        with_reducible refine st_cell F17 hk (by kd_mem) (by kd_mem) (by kd_all) ?_
        intro s18 F18
        have e9 : q = 9 := by have := beq_iff_eq.mp e1; omega
        with_reducible refine x_nil (nx_next (x_nil (ec_next (hKx _ _ ⟨Dn, some (.int q tq), rfl⟩ ?_))))
        rw [htk, show ftStep names bs q = (List.range bs.length).map (fun k => decide (true ∈ bs.take (k + 1))) from by unfold ftStep; rw [if_pos e9]; rfl]
        exact F18.sel (by kqd_all)
    · have hne9 : q ≠ 9 := fun e => by subst e; simp at e1
      have hq8 : q < 9 := by omega
      with_reducible refine x_assign (o_bin (e_list (B := s) (ev_cons (e_bool (ev_nil ⟨_, F14, Nat.le_of_ble_eq_true rfl, ?_⟩)))))
      intro D1 s15 F15
      with_reducible refine e_comp (B := s) (cl := [(Str.ofString "reach", cre), (Str.ofString "pick", cp), (Str.ofString "names", cn), (Str.ofString "means", cm)]) (ks' := [(Str.ofString "k", .local), (Str.ofString "reach", .cell), (Str.ofString "pick", .cell), (Str.ofString "names", .cell), (Str.ofString "means", .cell)]) hA' hk (by kernel_rfl) (by kernel_rfl) (by kernel_rfl) (by kernel_rfl) ?_
      with_reducible refine c_glo F15 hk (by kd_mem) g_range (cw_ty (ev_cons (c_glo F15 hk (by kd_mem) g_len (cw_bi (ev_cons (e_cell F15 hk (by kd_mem) (by kd_mem) (.led (by kd_mem)) (ev_nil (o_lenS F15 (.base hn) (by omega) ?_))))))))
      intro t16 s16 F16
      with_reducible refine ev_nil (o_range1 F16 ?_)
      intro r s17 F17
      clear F14 F15 F16
      with_reducible refine ⟨_, _, _, _, _, srcRng (a := 0) (n := names.length) (by omega) (by omega), by omega, F17, .led (by kd_mem), fun _ _ h => h.cons, fun C it2 Dn hkc => ⟨fun j ys own => ys = ((List.range j).map fun k => bs.getD k false && decide (names.getD k Str.empty ∈ meansL.getD q [])).map .bool ∧ own = (r, RngP 0 (0 + names.length) 1) :: (D1, LstP [.bool false]) :: (it, ItP lp (i + 1)) :: ftR lp ln cp cre cm cn L lm ml mR D (some (.int q tq)) bs, ?_, ?_, ?_, ?_⟩⟩
      · exact ⟨rfl, rfl⟩
      · rintro i2 ys own2 ⟨_, rfl⟩
        exact .led (by kd_mem)
      · rintro i2 v2 ys own2 s18 Ky Kn hKy hKn hi2 ⟨rfl, rfl⟩ hlen F18 ⟨t18, rfl⟩
        clear F17
        have ei : (0 : Int) + (i2 : Int) = (i2 : Int) := by omega
        have hb1 : i2 < bs.length := by omega
        have hb2 : (bs.map Value.bool)[i2]? = some (.bool (bs.getD i2 false)) := by
          rw [List.getElem?_map, List.getD_eq_getElem?_getD, List.getElem?_eq_getElem hb1]; rfl
        have hb3 : names[i2]? = some (names.getD i2 Str.empty) := by
          rw [List.getD_eq_getElem?_getD, List.getElem?_eq_getElem hi2]; rfl
        have hj : ∀ b, b = (bs.getD i2 false && decide (names.getD i2 Str.empty ∈ meansL.getD q [])) → ((List.range i2).map fun k => bs.getD k false && decide (names.getD k Str.empty ∈ meansL.getD q [])).map Value.bool ++ [Value.bool b] = ((List.range (i2 + 1)).map fun k => bs.getD k false && decide (names.getD k Str.empty ∈ meansL.getD q [])).map Value.bool := by
          rintro b rfl
          rw [List.range_succ, List.map_append, List.map_append]; rfl
        rw [ei]
        with_reducible refine ct_none ?_
        kst_all
        rename_i s19 F19
        with_reducible refine e_and (e_sub (e_cell F19 hkc (by kd_mem) (by kd_mem) (.led (by kd_mem)) ?_))
        kst_mem
        with_reducible refine o_li F19 (.led (by kd_mem)) (by omega) hb2 ?_
        with_reducible refine t_bool (b2 (fun e2 => ?_) (fun e2 => hKy _ _ _ _ ⟨hj _ ?_, rfl⟩ F19))
        · obtain ⟨ma, hma, hmr⟩ := hmn q hq8
          with_reducible refine e_cmp (e_sub (e_cell F19 hkc (by kd_mem) (by kd_mem) (.led (by kd_mem)) ?_))
          kst_mem
          with_reducible refine o_liS F19 (.base hn) (by omega) hb3 ?_
          intro t20
          with_reducible refine e_sub (e_cell F19 hkc (by kd_mem) (by kd_mem) (.led (by kd_mem)) (e_cell F19 hkc (by kd_mem) (by kd_mem) (.led (by kd_mem)) ?_))
          with_reducible refine o_li F19 (.led (by kd_mem)) (by omega) hma ?_
          with_reducible refine o_inS F19 (zs := meansL.getD q []) (.led ?_) (hKy _ _ _ _ ⟨hj _ ?_, rfl⟩ F19)
          · iterate 13 (refine List.mem_cons_of_mem _ ?_)
            exact hmr
          · rw [e2, Bool.true_and]
        · rw [e2, Bool.false_and]
      · rintro ys own2 s18 ⟨rfl, rfl⟩ hlen F18
        with_reducible refine o_addl F18 (.led (by kd_mem)) (.led (by kd_mem)) (by simp; omega) ?_
        intro D5 s19 F19
        replace F19 := F19.imp (P' := LstP ((false :: (List.range names.length).map fun k => bs.getD k false && decide (names.getD k Str.empty ∈ meansL.getD q [])).map Value.bool)) .head fun o ho => ho
        with_reducible refine st_cell F19 hk (by kd_mem) (by kd_mem) (by kd_all) ?_
        intro s20 F20
        with_reducible refine x_nil (nx_next (x_nil (ec_next (hKx _ _ ⟨D5, some (.int q tq), rfl⟩ ?_))))
        rw [htk, show ftStep names bs q = false :: (List.range names.length).map (fun k => bs.getD k false && decide (names.getD k Str.empty ∈ meansL.getD q [])) from by unfold ftStep; rw [if_neg hne9]; rfl]
        exact F20.sel (by kqd_all)
  · rintro own s12 ⟨D, pv, rfl⟩ F12
    rw [List.take_of_length_le (Nat.le_refl _)] at F12
    with_reducible refine x_ret (e_sub (e_cell F12 hk (by kd_mem) (by kd_mem) (.led (by kd_mem)) (e_neg1 F12 ?_)))
    intro t13 s13 F13
    have hl : (ps.foldl (ftStep names) (true :: List.replicate names.length false)).length = names.length + 1 := ftf_len names ps _ (by simp)
    obtain e | ⟨i, b, e⟩ := snoc_or (ps.foldl (ftStep names) (true :: List.replicate names.length false))
    · rw [e] at hl; simp at hl
    have hb : fits ps names = b := by unfold fits; rw [e, List.getLast?_concat]; rfl
    with_reducible refine o_lneg F13 (.led (by kd_mem)) (v := .bool b) ?_ ?_
    · rw [e, List.map_append]; exact List.getLast?_concat
    rw [← hb]
    exact h _ F13.toExt
end

section
open PySem PySem.W PySem.Spec PySem.Calls PyProof.Rows
set_option Elab.async false
set_option maxRecDepth 100000
set_option maxHeartbeats 0
noncomputable abbrev KK (w : World) : Frag := KH w.params
theorem cls_in (P : Params) : (clsIn (KH P) 209).isSome = true := by kernel_rfl
theorem f_new (P : Params) : findIn (KH P) (.ref 209) (Str.ofString "__init__") = some (some (.builtin "collections.defaultdict.__init__")) := by kernel_rfl
theorem f_ga (P : Params) : findIn (KH P) (.ref 209) (Str.ofString "__getattribute__") = some (some (.builtin "collections.defaultdict.__getattribute__")) := by kernel_rfl
theorem f_gat (P : Params) : findIn (KH P) (.ref 209) (Str.ofString "__getattr__") = some none := by kernel_rfl
theorem f_gi (P : Params) : findIn (KH P) (.ref 209) (Str.ofString "__getitem__") = some (some (.builtin "dict.__getitem__")) := by kernel_rfl
theorem f_mi (P : Params) : findIn (KH P) (.ref 209) (Str.ofString "__missing__") = some (some (.ref 199)) := by kernel_rfl
theorem f_fr (P : Params) : findIn (KH P) (.ref 209) (Str.ofString "freeze") = some (some (.ref 206)) := by kernel_rfl
theorem f_it (P : Params) : findIn (KH P) (.ref 209) (Str.ofString "__iter__") = some (some (.builtin "dict.__iter__")) := by kernel_rfl
theorem f_frozen (P : Params) : findIn (KH P) (.ref 209) (Str.ofString "_frozen") = some none := by kernel_rfl
theorem f_df (P : Params) : findIn (KH P) (.ref 209) (Str.ofString "default_factory") = some (some (.builtin "collections.defaultdict.default_factory")) := by kernel_rfl
theorem s_call (P : Params) : specialIn (KH P) (.ref 209) (Str.ofString "__call__") = some (some (.builtin "type.__call__")) := by kernel_rfl
theorem i_type (P : Params) : instIn (KH P) (.ref 209) (.type "type") = some true := by kernel_rfl
theorem m_self (P : Params) : mroIn (KH P) 209 (.ref 209) = some true := by kernel_rfl
theorem m_dict (P : Params) : mroIn (KH P) 209 (.type "dict") = some true := by kernel_rfl
theorem m_dd (P : Params) : mroIn (KH P) 209 (.type "collections.defaultdict") = some true := by kernel_rfl
theorem m_od (P : Params) : mroIn (KH P) 209 (.type "collections.OrderedDict") = some false := by kernel_rfl
theorem p_made (P : Params) (pr : Program) : peek (KH P) ⟨pr, P⟩ (Bind.madeBy (.ref 209)) = some (some "dict.__new__") := by kernel_rfl
theorem p_base (P : Params) (pr : Program) : peek (KH P) ⟨pr, P⟩ (Bind.staticBase (.ref 209)) = some (.ref 209) := by kernel_rfl
theorem p_mro (P : Params) (pr : Program) : peek (KH P) ⟨pr, P⟩ (mroOf (.ref 209)) = some [.ref 209, .type "collections.defaultdict", .type "dict", .type "object"] := by kernel_rfl
theorem p_isType (P : Params) (pr : Program) : peek (KH P) ⟨pr, P⟩ (isType (.ref 209)) = some true := by kernel_rfl
theorem p_del (P : Params) (pr : Program) : peek (KH P) ⟨pr, P⟩ (classHasDel 209) = some false := by kernel_rfl
theorem p_keeper (P : Params) (pr : Program) : specialIn (KH P) (.ref 209) (Str.ofString "__call__") = some (some (.builtin "type.__call__")) := s_call P
section
variable {w : World} {h : Heap}
theorem Wg.K (W : Wg w h) : (KK w).In h := let ⟨_, WG, hs⟩ := W; WG.K.keeps hs
theorem cls_row (X : (KK w).In h) : ∃ cd oC, h.get? 209 = some oC ∧ oC.data = .cls cd := by
  obtain ⟨cd, hcd⟩ := Option.isSome_iff_exists.mp (cls_in w.params)
  unfold clsIn at hcd
  split at hcd
  · rename_i ho; cases hcd; exact ⟨_, _, X _ _ ho, rfl⟩
  · cases hcd
end
end

section
open PySem PySem.W PySem.Spec PySem.Calls PyProof.Rows
set_option Elab.async false
set_option maxRecDepth 100000
set_option maxHeartbeats 0
theorem k_dn : builtinKind "dict.__new__" = some .builtinFn := by decide +kernel
theorem sp_dn : splitId "dict.__new__" = some ("dict", "__new__") := by decide +kernel
theorem en_dn : entryFor table "dict.__new__" = some Builtin.«dict.__new__» := entryFor_of_tree (by kernel_rfl)
theorem pl_dn : plainId "dict.__new__" = true := by decide +kernel
theorem qu_dn : ("dict.__new__" : String).startsWith "lifetime." = false := by decide +kernel
theorem ar_dn : argsOk "dict.__new__" ⟨[.ref 209, .type "list"], []⟩ := by unfold argsOk; kernel_rfl
theorem row_dn : (Manifest.signature? "dict.__new__").isSome = true := by kernel_rfl
theorem k_di : builtinKind "collections.defaultdict.__init__" = some .slot := by decide +kernel
theorem sp_di : splitId "collections.defaultdict.__init__" = some ("collections.defaultdict", "__init__") := by decide +kernel
theorem en_di : entryFor table "collections.defaultdict.__init__" = some Builtin.«collections.defaultdict.__init__» := entryFor_of_tree (by kernel_rfl)
theorem ar_di (a : Value) : argsOk "collections.defaultdict.__init__" ⟨[a, .type "list"], []⟩ := by unfold argsOk; kernel_rfl
theorem slot_di : Slot "collections.defaultdict" "__init__" "collections.defaultdict.__init__" := .of (owner := "collections.defaultdict") (n := "__init__") (by rw [typeLookup_type, builtinLookup_eq_fast]; kernel_rfl) (by decide +kernel) (by decide +kernel) (by decide +kernel)
  (by first | exact .inl (by decide +kernel) | exact .inr (by decide +kernel)) (by rw [isSubtype_type]; kernel_rfl)
theorem bi_di (self : Value) : bindSpecial (.builtin "collections.defaultdict.__init__") self = pure (.builtin "collections.defaultdict.__init__", [self]) := slot_di.bind self
theorem qu_di : ("collections.defaultdict.__init__" : String).startsWith "lifetime." = false := by decide +kernel
noncomputable abbrev bookNew (dx : Addr) : Obj := { cls := .ref 209, dict := some dx, data := .dict #[] }
section
variable {w : World} {A : Around} {h : Heap} {g : Array GenState} {d : Drawn} {t : Nat} {os : OsState} {R : Result → Shared → Prop}
theorem dict_new (W : Wg w h) (hq : R (.ok (.ret (.ref (h.objs.size + 1)))) ⟨(h.push emptyDict).push (bookNew h.objs.size), g, d, t, os⟩) :
    codeAny (Md w) A (.call (.builtin "dict.__new__") ⟨[.ref 209, .type "list"], []⟩) R ⟨h, g, d, t, os⟩ := by
  have X := W.K
  have made := Looks.of_peek (M := Md w) X (p_made w.params PP)
  have base := Looks.of_peek (M := Md w) X (p_base w.params PP)
  have mro := Looks.of_peek (M := Md w) X (p_mro w.params PP)
  have ity := Looks.of_peek (M := Md w) X (p_isType w.params PP)
  have sub := looks_mroIn (M := Md w) X (m_dict w.params)
  refine codeAny_call_builtin_code (Code.quiet_builtin _ qu_dn) ?_
  have ha := ar_dn
  cases hrow : Manifest.signature? "dict.__new__" with
  | none => have := row_dn; rw [hrow] at this; cases this
  | some sig =>
  simp only [argsOk, hrow] at ha
  simp only [checkBuiltinCall, k_dn, sp_dn, hrow]
  have hb : Bind.checkArgs "dict.__new__" sig ⟨[.ref 209, .type "list"], []⟩ = pure () := ha
  repeat (first | with_reducible refine wpAny_of_eq hb ?_ | simp only [bne_self_eq_false, Bool.false_eq_true, if_false] | lk)
  refine codeAny_builtin en_dn ?_
  unfold Builtin.«dict.__new__»
  have k : ∀ b o, h.get? b = some o → ((h.push emptyDict).push (bookNew h.objs.size)).get? b = some o := fun b o e => Heap.get?_push_of_some _ (Heap.get?_push_of_some _ e)
  have del : Looks (Md w) ((h.push emptyDict).push (bookNew h.objs.size)) (classHasDel 209) false := (Looks.of_peek (M := Md w) X (p_del w.params PP)).keeps k
  repeat lk
  rw [Heap.size_push]
  exact hq

end
end

section
open PySem PySem.W PySem.Spec PySem.Calls PyProof.Rows
set_option Elab.async false
set_option maxRecDepth 100000
set_option maxHeartbeats 0
theorem en_dx : entryFor table "dict.__init__" = some Builtin.«dict.__init__» := entryFor_of_tree (by kernel_rfl)
section
variable {w : World} {A : Around} {h : Heap} {g : Array GenState} {d : Drawn} {t : Nat} {os : OsState} {R : Result → Shared → Prop}
theorem dd_init {x dx : Addr} {Q : PySem.Fin → Shared → Prop} {E : Value → Shared → Prop} (hx : h.get? x = some (bookNew dx)) (so : ∀ h', Heap.SameBut x h h' → Looks (Md w) h' (isSubtype (.ref 209) (.type "collections.OrderedDict")) false)
    (hq : ∀ h', Heap.SameBut x h h' → h'.get? x = some { cls := .ref 209, dict := some dx, data := .dict #[], slots := #[some (.type "list")] } → Q (.done (.ret .none)) ⟨h', g, d, t, os⟩) :
    wpAny (Md w) A (Builtin.«collections.defaultdict.__init__» ⟨[.ref x, .type "list"], []⟩) Q E ⟨h, g, d, t, os⟩ := by
  have t1' : ∀ h' : Heap, h'.get? x = some { cls := .ref 209, dict := some dx, data := .dict #[], slots := #[some (.type "list")] } → Looks (Md w) h' (typeOf (.ref x)) (.ref 209) := fun h' e => (Looks.ld e).andThen .now
  have tl : Looks (Md w) h (specialOf (.type "list") (Str.ofString "__call__")) (some (.builtin "type.__call__")) := Looks.of_pure (by show typeOf (.type "list") >>= _ = _; rw [show typeOf (.type "list") = pure (.type "type") from by kernel_rfl]; exact tc_lookup)
  unfold Builtin.«collections.defaultdict.__init__»
  iterate 12 (first | rw [if_neg Bool.false_ne_true] | with_reducible refine wpAny_call ?_ | lk)
  refine wpAny_pure (wpAny_bind ?_)
  unfold Builtin.Collections_defaultdict.setFactory
  iterate 5 lk
  refine wpAny_pure ?_
  repeat lk
  show wpAny _ _ (updatePart x (some (slotPart 0)) _) _ _ _
  refine wpAny_updatePart hx ?_
  have hs : Heap.SameBut x h (h.update x fun o => { cls := o.cls, dict := o.dict, data := o.data, slots := (o.slots ++ Array.replicate (0 + 1 - o.slots.size) none).setIfInBounds 0 [Value.type "list"].head? }) := Heap.SameBut.update ..
  have hx' : (h.update x fun o => { cls := o.cls, dict := o.dict, data := o.data, slots := (o.slots ++ Array.replicate (0 + 1 - o.slots.size) none).setIfInBounds 0 [Value.type "list"].head? }).get? x = some { cls := .ref 209, dict := some dx, data := .dict #[], slots := #[some (.type "list")] } := Heap.get?_update_self _ hx rfl
  have t2 := t1' _ hx'
  have o2 := so _ hs
  generalize (h.update x fun o => { cls := o.cls, dict := o.dict, data := o.data, slots := (o.slots ++ Array.replicate (0 + 1 - o.slots.size) none).setIfInBounds 0 [Value.type "list"].head? }) = h2 at hs hx' t2 o2 ⊢
  refine wpAny_bind (wpAny_holding (wpAny_runValue (codeAny_builtin en_dx ?_)))
  unfold Builtin.«dict.__init__» Builtin.Dict.selfAndRest Builtin.Dict.notOrdered
  repeat lk
  exact hq _ hs hx'
theorem call_book (W : Wg w h) (hq : ∀ h', (∀ b o, b ≠ h.objs.size + 1 → ((h.push emptyDict).push (bookNew h.objs.size)).get? b = some o → h'.get? b = some o) →
      h'.get? (h.objs.size + 1) = some { cls := .ref 209, dict := some h.objs.size, data := .dict #[], slots := #[some (.type "list")] } → R (.ok (.ret (.ref (h.objs.size + 1)))) ⟨h', g, d, t, os⟩) :
    codeAny (Md w) A (.call (.ref 209) ⟨[.type "list"], []⟩) R ⟨h, g, d, t, os⟩ := by
  have X := W.K
  obtain ⟨cd, oC, hC, hCd⟩ := cls_row X
  have call := looks_specialIn (M := Md w) X (s_call w.params)
  have typ := looks_instIn (M := Md w) X (i_type w.params)
  have made := Looks.of_peek (M := Md w) X (p_made w.params PP)
  have mro := Looks.of_peek (M := Md w) X (p_mro w.params PP)
  refine codeAny_of_tree ?_
  show wpAny _ _ (callAny (.ref 209) _) _ _ _
  obtain ⟨c1, c2, c3, c4⟩ := oC
  dsimp only at hCd
  subst hCd
  refine nd_load hC ?_
  show wpAny _ _ (callAny.viaDunder (.ref 209) _) _ _ _
  unfold callAny.viaDunder
  refine wpAny_bind (call.at ?_)
  dsimp only
  rw [tc_bind]
  refine wpAny_bind (wpAny_pure (wpAny_bind (wpAny_pure ?_)))
  refine wpAny_pure (a := Fin.again (.call (.builtin "type.__call__") ⟨.ref 209 :: [.type "list"], []⟩)) (And.intro rfl ?_)
  refine codeAny_call_builtin_at (Code.quiet_builtin _ (by decide +kernel)) entry_typeCall (check_slot tc_kind tc_split typ (tc_args _ _ _) ?_)
  unfold Builtin.«type.__call__»
  repeat (first | rw [if_neg Bool.false_ne_true] | with_reducible refine wpAny_call ?_ | lk)
  refine dict_new W ?_
  have k : ∀ b o, h.get? b = some o → ((h.push emptyDict).push (bookNew h.objs.size)).get? b = some o := fun b o e => Heap.get?_push_of_some _ (Heap.get?_push_of_some _ e)
  have hx : ((h.push emptyDict).push (bookNew h.objs.size)).get? (h.objs.size + 1) = some (bookNew h.objs.size) := by heap_get
  have t1 : Looks (Md w) ((h.push emptyDict).push (bookNew h.objs.size)) (typeOf (.ref (h.objs.size + 1))) (.ref 209) := (Looks.ld hx).andThen .now
  have s1 := (looks_mroIn (M := Md w) X (m_self w.params)).keeps k
  have d1 := (looks_mroIn (M := Md w) X (m_dd w.params)).keeps k
  have i1 := (looks_findIn (M := Md w) X (f_new w.params)).keeps k
  have b1 : Looks (Md w) ((h.push emptyDict).push (bookNew h.objs.size)) (bindSpecial (.builtin "collections.defaultdict.__init__") (.ref (h.objs.size + 1))) (.builtin "collections.defaultdict.__init__", [.ref (h.objs.size + 1)]) := Looks.of_pure (bi_di _)
  have y1 : Looks (Md w) ((h.push emptyDict).push (bookNew h.objs.size)) (isInstance (.ref (h.objs.size + 1)) (.type "collections.defaultdict")) true := t1.andThen d1
  unfold isInstance callSpecial? specialOf
  repeat (first | with_reducible refine wpAny_call ?_ | lk)
  refine codeAny_call_builtin_at (Code.quiet_builtin _ qu_di) en_di (@check_slot (Md w) _ _ _ "collections.defaultdict.__init__" "collections.defaultdict" "__init__" (.ref (h.objs.size + 1)) [.type "list"] [] _ k_di sp_di y1 (ar_di (.ref (h.objs.size + 1))) ?_)
  have sub209 : ∀ h' : Heap, Heap.SameBut (h.objs.size + 1) ((h.push emptyDict).push (bookNew h.objs.size)) h' → ∀ b o, h.get? b = some o → h'.get? b = some o := fun h' hs b o e => (hs.2 b (by
    rintro rfl
    exact absurd (Heap.lt_size e) (Nat.not_lt.mpr (Nat.le_succ _)))).trans (k b o e)
  refine dd_init hx (fun h' hs => (looks_mroIn (M := Md w) X (m_od w.params)).keeps (sub209 h' hs)) fun h' hs hx' => ?_
  exact wpAny_pure (wpAny_pure (hq h' (fun b o hb e => (hs.2 b hb).trans e) hx'))
end
inductive EsAre (w : World) : List DictEntry → List (Str × Value) → Prop
  | nil : EsAre w [] []
  | cons (k : Str) (t : Tok) (v : Value) {r r'} : EsAre w r r' → EsAre w (⟨(strKind PP w).hash k, .str k t, v⟩ :: r) ((k, v) :: r')
noncomputable def BkP (w : World) (dx : Addr) (kvs : List (Str × Value)) (o : Obj) : Prop := ∃ es ep, o = { cls := .ref 209, dict := some dx, data := .dict es ep, slots := #[some (.type "list")] } ∧ EsAre w es.toList kvs
noncomputable def DxP : Option Value → Obj → Prop
  | none, o => o = emptyDict
  | some v, o => ∃ hsh t ep, o = { cls := .type "dict", data := .dict #[⟨hsh, .str (Str.ofString "_frozen") t, v⟩] ep }
theorem o_book {w : World} {A : Around} {B s : Shared} {own : Led} {E Q : Value → Shared → Prop} (F : Fm w B s own) (h : ∀ a dx s', (a == sysModules) = false → Fm w B s' ((a, BkP w dx []) :: (dx, DxP none) :: own) → Q (.ref a) s') :
    wpAny (Md w) A (call (.ref 209) [.type "list"]) Q E s := by
  have W := F.base
  have F0 := F
  obtain ⟨hh, g, d, t, os⟩ := s
  refine wpAny_call (call_book W fun h' hk hx => ?_)
  have F1 : Fm w B _ ((hh.objs.size, DxP none) :: own) := F0.push (o := emptyDict) (P := DxP none) (t := t) rfl rfl
  have F2 : Fm w B _ ((((hh.push emptyDict).objs.size), fun _ => True) :: (hh.objs.size, DxP none) :: own) := F1.push (o := bookNew hh.objs.size) (P := fun _ => True) (t := t) rfl trivial
  rw [Heap.size_push] at F2
  have h209 : 209 < hh.objs.size := by
    obtain ⟨cd, oC, hC, hCd⟩ := cls_row W.K
    exact Heap.lt_size hC
  have hne1 : ((hh.objs.size + 1 : Addr) == sysModules) = false := by
    rw [beq_eq_false_iff_ne]
    intro e
    have e' : hh.objs.size + 1 = 1 := e
    omega
  refine h _ hh.objs.size _ hne1 ?_
  refine F2.extB (s' := ⟨h', g, d, t, os⟩) .head ⟨fun b o hb e => hk b o (by simpa using hb) e, rfl, rfl⟩ ⟨_, hx, #[], 0, rfl, .nil⟩
end

section
open PySem PySem.W PySem.Spec PySem.Calls PyProof.Rows
set_option Elab.async false
set_option maxRecDepth 100000
set_option maxHeartbeats 0
theorem p_seq (P : Params) (pr : Program) : peek (KH P) ⟨pr, P⟩ (seqItemTypes.anyM fun n => isSubtype (.ref 209) (.type n)) = some false := by kernel_rfl
theorem slot_gi : Slot "dict" "__getitem__" "dict.__getitem__" := slot_dict_getitem
noncomputable def bkGet (kvs : List (Str × Value)) (k : Str) : Option Value := (kvs.find? fun p => p.1 == k).map (·.2)
theorem es_keys {w : World} {es : List DictEntry} {kvs : List (Str × Value)} (h : EsAre w es kvs) : KeysOf (strKind PP w) es.toArray := by
  intro e he
  have he' : e ∈ es := by simpa using he
  clear he
  induction h with
  | nil => cases he'
  | cons k t v _ ih =>
    rcases List.mem_cons.mp he' with rfl | he'
    · exact ⟨k, by show Value.isStrOf k (.str k t) = true; simp [Value.isStrOf], rfl⟩
    · exact ih he'
theorem es_find {w : World} {es : List DictEntry} {kvs : List (Str × Value)} (h : EsAre w es kvs) (k : Str) : findBy (strKind PP w).is es.toArray k = bkGet kvs k := by
  unfold findBy bkGet
  rw [List.find?_toArray]
  induction h with
  | nil => rfl
  | cons k' t v _ ih =>
    rw [List.find?_cons, List.find?_cons]
    have e : (strKind PP w).is k (.str k' t) = (k' == k) := by
      show Value.isStrOf k (.str k' t) = _
      simp [Value.isStrOf]
    simp only [e]
    cases k' == k
    · exact ih
    · rfl
section
variable {w : World} {A : Around} {s : Shared} {E : Value → Shared → Prop}
theorem bk_find {b dx : Addr} {kvs : List (Str × Value)} {k : Str} {t : Tok} {Q : Option Value → Shared → Prop} (hb : ∃ o, s.heap.get? b = some o ∧ BkP w dx kvs o) (h : Q (bkGet kvs k) { s with toks := s.toks + 1 }) :
    wpAny (Md w) A (dictGet b (.str k t)) Q E s := by
  obtain ⟨o, ho, es, ep, rfl, hes⟩ := hb
  have hk := es_keys hes
  have hf := es_find hes k
  rw [Array.toArray_toList] at hk hf
  have hkey : (strKind PP w).is k (.str k t) = true := by show Value.isStrOf k (.str k t) = true; simp [Value.isStrOf]
  unfold dictGet
  refine wpAny_holding ?_
  refine wpAny_bind ((strKind PP w).pyHash hkey (wpAny_bind (wpAny_dictFind_of (s := { s with toks := s.toks + 1 }) hkey ho rfl hk ?_)))
  rw [← hf, findBy_of_findIdx?] at h
  cases hi : es.findIdx? fun e => (strKind PP w).is k e.key with
  | none => rw [hi] at h; exact wpAny_pure h
  | some i => rw [hi] at h; exact wpAny_bind (wpAny_dictEntries (s := { s with toks := s.toks + 1 }) ho rfl (wpAny_pure h))

theorem check_meth {M : Model} {A : Around} {E : Value → Shared → Prop} {s : Shared} {i owner n : String} {self : Value} {rest : List Value} {kw : List (Str × Value)} {Q : Unit → Shared → Prop}
    (hk : builtinKind i = some .method) (hs : splitId i = some (owner, n)) (hi : Looks M s.heap (isInstance self (.type owner)) true) (ha : argsOk i ⟨self :: rest, kw⟩) (q : Q () s) :
    wpAny M A (checkBuiltinCall i ⟨self :: rest, kw⟩) Q E s := by
  simp only [checkBuiltinCall, hk, hs]
  refine wpAny_bind (hi.here ?_)
  simp only [Bool.not_true, Bool.false_eq_true, if_false]
  cases hsig : Manifest.signature? i with
  | none => exact wpAny_pure q
  | some sig =>
    simp only [argsOk, hsig] at ha
    have h2 : Bind.checkArgs i sig ⟨self :: rest, kw⟩ = pure () := ha
    show wpAny M A (Bind.checkArgs i sig ⟨self :: rest, kw⟩) Q E s
    rw [h2]; exact wpAny_pure q
theorem k_gi : builtinKind "dict.__getitem__" = some .method := by decide +kernel
theorem sp_gi : splitId "dict.__getitem__" = some ("dict", "__getitem__") := by decide +kernel
theorem qu_gi : ("dict.__getitem__" : String).startsWith "lifetime." = false := by decide +kernel
theorem w_gi (a : Args) : (Code.builtin "dict.__getitem__" a).weight = 0 := by kernel_rfl

structure BkAt (w : World) (h : Heap) (b : Addr) : Prop where
  wg : Wg w h
  ty : Looks (Md w) h (typeOf (.ref b)) (.ref 209)
  ne : (b == sysModules) = false
theorem BkAt.find {h : Heap} {b : Addr} (x : BkAt w h b) {name : Str} {r : Option Value} (e : findIn (KH w.params) (.ref 209) name = some r) : Looks (Md w) h (specialOf (.ref b) name) r := x.ty.andThen (looks_findIn x.wg.K e)
theorem BkAt.inst {h : Heap} {b : Addr} (x : BkAt w h b) {base : Value} {r : Bool} (e : mroIn (KH w.params) 209 base = some r) : Looks (Md w) h (isInstance (.ref b) base) r := x.ty.andThen (looks_mroIn x.wg.K e)

theorem bk_getitem {b : Addr} {key : Value} {Q : Value → Shared → Prop} (x : BkAt w s.heap b)
    (h : codeAny (Md w) A (.call (.builtin "dict.__getitem__") ⟨[.ref b, key], []⟩) (wants Q E) s) : wpAny (Md w) A (getItem (.ref b) key) Q E s := by
  have L1 := x.ty
  have L2 : Looks (Md w) s.heap (sequenceKey (.ref b) key "__getitem__") key := L1.andThen ((Looks.of_peek (M := Md w) x.wg.K (p_seq w.params PP)).andThen .now)
  have L3 := x.find (f_gi w.params)
  unfold getItem
  refine wpAny_holding (wpAny_bind (L2.here ?_))
  unfold callSpecial?
  refine wpAny_bind (wpAny_bind (L3.here ?_))
  dsimp only
  refine wpAny_holding (wpAny_bind (wpAny_of_eq (slot_gi.bind _) (wpAny_bind ?_)))
  refine wpAny_call (codeAny_mono h fun r s' z => ?_)
  rcases r with e | fl
  · exact z
  · cases fl with
    | ret v => exact wpAny_pure (wpAny_pure z)
    | _ => exact z.elim

theorem bk_gi_open {b : Addr} {key : Value} {R : Result → Shared → Prop} (x : BkAt w s.heap b)
    (h : wpAny (Md w) A.in1 (dictGet b key) (fun r s' => match r with
      | some v => R (.ok (.ret v)) s'
      | none => wpAny (Md w) A.in1 (Builtin.Dict.missed b key >>= fun z => match z with
        | some v => ret v
        | none => do
          if (← typeOf (.ref b)) != .type "dict" then
            if let some r ← callSpecial? (.ref b) "__missing__" [key] then rule "dict.__getitem__.missing-hook"; return ← ret r
          rule "dict.__getitem__.keyerror"
          raiseNew (← newExc (.type "KeyError") [key])) (fun fin s' => match fin with | .done f => R (.ok f) s' | .again c' => c'.quiet = true ∧ codeAny (Md w) A c' R s') (fun e s' => R (.error e) s') s') (fun e s' => R (.error e) s') s) :
    codeAny (Md w) A (.call (.builtin "dict.__getitem__") ⟨[.ref b, key], []⟩) R s := by
  refine codeAny_call_builtin_at (Code.quiet_builtin _ qu_gi) entry_dict_getitem (@check_meth (Md w) _ _ _ "dict.__getitem__" "dict" "__getitem__" (.ref b) [key] [] _ k_gi sp_gi (x.inst (m_dict w.params)) (args_dict_getitem _ _) ?_)
  rw [Around.under_plain (w_gi _) rfl]
  show wpAny _ _ (dictGet b key >>= _) _ _ s
  refine wpAny_bind (wpAny_mono h (fun r s' z => ?_) fun _ _ z => z)
  cases r with
  | some v => exact wpAny_pure z
  | none => exact z

theorem bk_hit {b dx : Addr} {kvs : List (Str × Value)} {k : Str} {t : Tok} {v : Value} {Q : Value → Shared → Prop} (x : BkAt w s.heap b) (hb : ∃ o, s.heap.get? b = some o ∧ BkP w dx kvs o) (hv : bkGet kvs k = some v)
    (h : Q v { s with toks := s.toks + 1 }) : wpAny (Md w) A (getItem (.ref b) (.str k t)) Q E s := by
  refine bk_getitem x (bk_gi_open x (bk_find hb ?_))
  rw [hv]
  exact h
theorem bk_miss {b dx : Addr} {kvs : List (Str × Value)} {k : Str} {t : Tok} {Q : Value → Shared → Prop} (x : BkAt w s.heap b) (hb : ∃ o, s.heap.get? b = some o ∧ BkP w dx kvs o) (hv : bkGet kvs k = none)
    (h : codeAny (Md w) A.in1 (.call (.ref 199) ⟨[.ref b, .str k t], []⟩) (wants Q E) { s with toks := s.toks + 1 }) : wpAny (Md w) A (getItem (.ref b) (.str k t)) Q E s := by
  refine bk_getitem x (bk_gi_open x (bk_find hb ?_))
  rw [hv]
  have L1 := x.ty
  have L3 := x.find (f_mi w.params)
  have Lb := bind_fn (M := Md w) x.wg.K (.ref b) (by kernel_rfl : typeIn (KH w.params) (.ref 199) = some (.type "function"))
  refine wpAny_bind ?_
  show wpAny _ _ (if (b == sysModules) = true then _ else _) _ _ _
  rw [if_neg (by rw [x.ne]; exact Bool.false_ne_true)]
  refine wpAny_pure ?_
  show wpAny _ _ (typeOf (.ref b) >>= _) _ _ _
  refine wpAny_bind (L1 A.in1 _ _ _ (fun _ _ e => e) ?_)
  rw [if_pos (by rfl)]
  refine wpAny_bind ?_
  unfold callSpecial?
  refine wpAny_bind (L3 A.in1 _ _ _ (fun _ _ e => e) ?_)
  dsimp only
  refine wpAny_holding (wpAny_bind (Lb A.in1 _ _ _ (fun _ _ e => e) (wpAny_bind ?_)))
  refine wpAny_call (codeAny_mono h fun r s' z => ?_)
  rcases r with e | fl
  · exact z
  · cases fl with
    | ret v => exact wpAny_pure (wpAny_bind (wpAny_rule (wpAny_pure z)))
    | _ => exact z.elim
end
end

section
open PySem PySem.W PySem.Spec PySem.Calls PyProof.Rows
set_option Elab.async false
set_option maxRecDepth 100000
set_option maxHeartbeats 0
theorem fo_missing (P : Params) : findObj (KH P) 209 (some emptyDict) (Str.ofString "_frozen") = some .missing := by kernel_rfl
theorem p_tnc (P : Params) (pr : Program) : peek (KH P) ⟨pr, P⟩ (typeNameCut 100 (.ref 209)) = some "FreezableDefaultDict" := by kernel_rfl
theorem sub_AE : isSubtype (.type "AttributeError") (.type "AttributeError") = pure true := sub_AttributeError
theorem en_ddga : entryFor table "collections.defaultdict.__getattribute__" = some Builtin.«object.__getattribute__» :=
  entryFor_alias (id' := "object.__getattribute__") (by kernel_rfl) (by decide +kernel) (by decide +kernel) (by kernel_rfl)
theorem slot_ddga : Slot "collections.defaultdict" "__getattribute__" "collections.defaultdict.__getattribute__" := .of (owner := "collections.defaultdict") (n := "__getattribute__") (by rw [typeLookup_type, builtinLookup_eq_fast]; kernel_rfl) (by decide +kernel) (by decide +kernel) (by decide +kernel)
  (by first | exact .inl (by decide +kernel) | exact .inr (by decide +kernel)) (by rw [isSubtype_type]; kernel_rfl)
theorem k_ddga : builtinKind "collections.defaultdict.__getattribute__" = some .slot := by decide +kernel
theorem sp_ddga : splitId "collections.defaultdict.__getattribute__" = some ("collections.defaultdict", "__getattribute__") := by decide +kernel
theorem qu_ddga : ("collections.defaultdict.__getattribute__" : String).startsWith "lifetime." = false := by decide +kernel
theorem ar_ddga (a b : Value) : argsOk "collections.defaultdict.__getattribute__" ⟨[a, b], []⟩ := by unfold argsOk; kernel_rfl
theorem w_ddga (a : Args) : (Code.builtin "collections.defaultdict.__getattribute__" a).weight = 0 := by kernel_rfl
structure BkI (w : World) (h : Heap) (b dx : Addr) (od : Obj) : Prop extends BkAt w h b where
  I : ∃ ox, InstAt h b ox 209 (some od)
section
variable {w : World} {A : Around} {h : Heap} {g : Array GenState} {d : Drawn} {t : Nat} {os : OsState} {E : Value → Shared → Prop}
theorem sh_ty {b : Addr} (x : BkAt w h b) : Looks (Md w) h (shownTypeOf (.ref b)) (.ref 209) := by
  unfold shownTypeOf
  exact x.ty.andThen (Looks.of_pure rfl)
theorem oga_miss {b dx : Addr} {tk : Tok} {R : Result → Shared → Prop} (hA : A.handled = none) (x : BkI w h b dx emptyDict)
    (hq : ∀ h' tk' e, Heap.NewAttrErr h h' e (.ref b) (Str.ofString "_frozen") → R (.error (.ref e)) ⟨h', g, d, tk', os⟩) :
    codeAny (Md w) A (.call (.builtin "collections.defaultdict.__getattribute__") ⟨[.ref b, .str (Str.ofString "_frozen") tk], []⟩) R ⟨h, g, d, t, os⟩ := by
  obtain ⟨ox, I⟩ := x.I
  have L1 := x.ty
  have L2 := looks_find (M := Md w) x.wg.K I (fo_missing w.params)
  refine codeAny_call_builtin_at (Code.quiet_builtin _ qu_ddga) en_ddga (@check_slot (Md w) _ _ _ "collections.defaultdict.__getattribute__" "collections.defaultdict" "__getattribute__" (.ref b) [.str (Str.ofString "_frozen") tk] [] _ k_ddga sp_ddga (x.inst (m_dd w.params)) (ar_ddga _ _) ?_)
  rw [Around.under_plain (w_ddga _) rfl]
  unfold Builtin.«object.__getattribute__»
  have L4 : Looks (Md w) h (typeNameOfCut 100 (.ref b)) "FreezableDefaultDict" := (sh_ty x.toBkAt).andThen (Looks.of_peek (M := Md w) x.wg.K (p_tnc w.params PP))
  repeat (first | with_reducible refine wpAny_raiseAttrError hA (fun h' tk' e he => ?_) ?_ | lk)
  · exact hq h' tk' e he
  · decide +kernel
end
end

section
open PySem PySem.W PySem.Spec PySem.Calls PyProof.Rows
set_option Elab.async false
set_option maxRecDepth 100000
set_option maxHeartbeats 0
theorem k_ga : builtinKind "getattr" = none := by decide +kernel
theorem pl_ga : plainId "getattr" = true := by decide +kernel
theorem en_ga : entryFor table "getattr" = some Builtin.«getattr» := entryFor_of_tree (by kernel_rfl)
theorem ar_ga (a b c : Value) : argsOk "getattr" ⟨[a, b, c], []⟩ := by unfold argsOk; kernel_rfl
theorem m_mod (P : Params) : mroIn (KH P) 209 (.type "module") = some false := by kernel_rfl
noncomputable abbrev froDict (hsh : Int) (t : Tok) (v : Value) (ep : Nat) : Obj := { cls := .type "dict", data := .dict #[⟨hsh, .str (Str.ofString "_frozen") t, v⟩] ep }
theorem fo_fro (P : Params) (hsh : Int) (t : Tok) (v : Value) (ep : Nat) : findObj (KH P) 209 (some (froDict hsh t v ep)) (Str.ofString "_frozen") = some (.value v) := by kernel_rfl
section
variable {w : World} {A : Around} {h : Heap} {g : Array GenState} {d : Drawn} {t : Nat} {os : OsState} {E : Value → Shared → Prop}
theorem oga_fro {b dx : Addr} {tk t' : Tok} {hsh : Int} {v : Value} {ep : Nat} {R : Result → Shared → Prop} (x : BkI w h b dx (froDict hsh t' v ep)) (hq : R (.ok (.ret v)) ⟨h, g, d, t, os⟩) :
    codeAny (Md w) A (.call (.builtin "collections.defaultdict.__getattribute__") ⟨[.ref b, .str (Str.ofString "_frozen") tk], []⟩) R ⟨h, g, d, t, os⟩ := by
  obtain ⟨ox, I⟩ := x.I
  have L1 := x.ty
  have L2 := looks_find (M := Md w) x.wg.K I (fo_fro w.params hsh t' v ep)
  refine codeAny_call_builtin_at (Code.quiet_builtin _ qu_ddga) en_ddga (@check_slot (Md w) _ _ _ "collections.defaultdict.__getattribute__" "collections.defaultdict" "__getattribute__" (.ref b) [.str (Str.ofString "_frozen") tk] [] _ k_ddga sp_ddga (x.inst (m_dd w.params)) (ar_ddga _ _) ?_)
  rw [Around.under_plain (w_ddga _) rfl]
  unfold Builtin.«object.__getattribute__»
  repeat lk
  exact hq

theorem gaq {b dx : Addr} {od : Obj} {tk : Tok} {Q : Option Value → Shared → Prop} (x : BkI w h b dx od)
    (hq : ∀ A', A'.handled = A.handled → codeAny (Md w) A' (.call (.builtin "collections.defaultdict.__getattribute__") ⟨[.ref b, .str (Str.ofString "_frozen") tk], []⟩) (fun r s' => match r with
      | .ok (.ret v) => handedIn v = true ∧ Q (some v) s'
      | .ok _ => False
      | .error e => ∃ a o, e = .ref a ∧ s'.heap.get? a = some o ∧ o.cls = .type "AttributeError" ∧ (∀ b o, h.get? b = some o → s'.heap.get? b = some o) ∧ Q none s') ⟨h, g, d, t, os⟩) :
    wpAny (Md w) A (getAttrBy? (.ref b) (.str (Str.ofString "_frozen") tk)) Q E ⟨h, g, d, t, os⟩ := by
  have L1 := x.ty
  have L2 := looks_findIn (M := Md w) x.wg.K (f_ga w.params)
  have L3 := looks_findIn (M := Md w) x.wg.K (f_gat w.params)
  have f4 := slot_ddga.bind (.ref b)
  unfold getAttrBy? getAttrBy
  refine wpAny_bind (wpAny_attempt (wpAny_holding (wpAny_bind (L1.at (wpAny_bind (L2.at ?_))))))
  show wpAny _ _ (getAttrByItsOwn (.ref b) _ (.ref 209) (.builtin "collections.defaultdict.__getattribute__") false false) _ _ _
  unfold getAttrByItsOwn hookBefore callGetattribute boundAndCalled
  refine wpAny_bind (L3.at (wpAny_bind (wpAny_attempt (wpAny_holding ?_))))
  show wpAny _ _ (bindSpecial (.builtin "collections.defaultdict.__getattribute__") (.ref b) >>= _) _ _ _
  refine wpAny_bind (wpAny_of_eq f4 ?_)
  refine wpAny_call (codeAny_mono (hq A rfl) fun r s' z => ?_)
  rcases r with e | fl
  · obtain ⟨a, o, rfl, ho, hc, hk, z⟩ := z
    show wpAny _ _ (getattributeRaised (.ref b) _ (.ref 209) (.ref a) none false false) _ _ _
    unfold getattributeRaised
    refine wpAny_bind (wpAny_isInstance (T := "AttributeError") (b := true) ⟨o, ho, hc⟩ sub_AE ?_)
    rw [if_pos rfl]
    refine wpAny_bind (wpAny_pure ?_)
    unfold hookOrError attributeErrorLeaves
    dsimp only
    rw [if_pos (show (!false) = true from rfl)]
    first | refine wpAny_throw ?_ | refine wpAny_bind (wpAny_throw ?_)
    refine wpAny_bind (wpAny_isInstance (T := "AttributeError") (b := true) ⟨o, ho, hc⟩ sub_AE ?_)
    rw [if_pos rfl]
    exact wpAny_pure z
  · cases fl with
    | ret v =>
      obtain ⟨hh, z⟩ := z
      show wpAny _ _ (handedOut v) _ _ _
      rw [handedOut_of hh]
      exact wpAny_pure (wpAny_pure z)
    | _ => exact z.elim

theorem ga3 {b dx : Addr} {od : Obj} {tk : Tok} {dflt : Value} {Q : Value → Shared → Prop} (x : BkI w h b dx od)
    (hq : ∀ A', A'.handled = A.handled → codeAny (Md w) A' (.call (.builtin "collections.defaultdict.__getattribute__") ⟨[.ref b, .str (Str.ofString "_frozen") tk], []⟩) (fun r s' => match r with
      | .ok (.ret v) => handedIn v = true ∧ Q v s'
      | .ok _ => False
      | .error e => ∃ a o, e = .ref a ∧ s'.heap.get? a = some o ∧ o.cls = .type "AttributeError" ∧ (∀ b o, h.get? b = some o → s'.heap.get? b = some o) ∧ Q dflt s') ⟨h, g, d, t, os⟩) :
    wpAny (Md w) A (call (.builtin "getattr") [.ref b, .str (Str.ofString "_frozen") tk, dflt]) Q E ⟨h, g, d, t, os⟩ := by
  refine wpAny_call (code_bi k_ga pl_ga en_ga (ar_ga _ _ _) ?_)
  unfold Builtin.«getattr»
  have L1 := x.ty
  have L2 := x.inst (m_mod w.params)
  have key : wpAny (Md w) A.in1 (getAttrBy? (.ref b) (.str (Str.ofString "_frozen") tk)) (fun r s' => Q (r.getD dflt) s') E ⟨h, g, d, t, os⟩ := gaq x fun A' hA' => hq A' hA'
  repeat (first | with_reducible refine wpAny_mono key (fun r s' z => ?_) (fun e s' z => z) | lk)
  cases r with
  | some v => exact wpAny_pure z
  | none => rw [if_neg (by decide)]; exact wpAny_pure z
end
end

section
open PySem PySem.W PySem.Spec PySem.Calls PyProof.Rows
set_option Elab.async false
set_option maxRecDepth 100000
set_option maxHeartbeats 0
theorem k_any (P : Params) : nsIn (KH P) cStatics "thirdparty.any" = some none := by kernel_rfl
theorem al_mi (P : Params) : alongIn (KH P) (Str.ofString "__missing__") [.type "collections.defaultdict", .type "dict", .type "object"] = some (some (.builtin "collections.defaultdict.__missing__")) := by kernel_rfl
theorem ty_mi : typeOf (.builtin "collections.defaultdict.__missing__") = pure (.type "method_descriptor") := by kernel_rfl
theorem lk_mdg : typeLookup (.type "method_descriptor") "__get__" = pure (some (.builtin "method_descriptor.__get__")) := by rw [typeLookup_type, builtinLookup_eq_fast]; kernel_rfl
theorem en_mdg : entryFor table "method_descriptor.__get__" = some Builtin.«method_descriptor.__get__» := entryFor_of_tree (by kernel_rfl)
theorem slot_mdg : Slot "method_descriptor" "__get__" "method_descriptor.__get__" := .of (owner := "method_descriptor") (n := "__get__") (by rw [typeLookup_type, builtinLookup_eq_fast]; kernel_rfl) (by decide +kernel) (by decide +kernel) (by decide +kernel)
  (by first | exact .inl (by decide +kernel) | exact .inr (by decide +kernel)) (by rw [isSubtype_type]; kernel_rfl)
theorem ar_mdg (a b c : Value) : argsOk "method_descriptor.__get__" ⟨[a, b, c], []⟩ := by unfold argsOk; kernel_rfl
noncomputable abbrev bmObj (b : Addr) : Obj := { cls := .type "builtin_function_or_method", data := .fields #[.builtin "collections.defaultdict.__missing__", .ref b] }
section
variable {w : World} {A : Around} {h : Heap} {g : Array GenState} {d : Drawn} {t : Nat} {os : OsState} {E : Value → Shared → Prop}
theorem md_get {b : Addr} {Q : PySem.Fin → Shared → Prop} (x : BkAt w h b) (hq : Q (.done (.ret (.ref h.objs.size))) ⟨h.push (bmObj b), g, d, t, os⟩) :
    wpAny (Md w) A (Builtin.«method_descriptor.__get__» ⟨[.builtin "collections.defaultdict.__missing__", .ref b, .ref 209], []⟩) Q E ⟨h, g, d, t, os⟩ := by
  have L1 := x.inst (m_dd w.params)
  have e1 : ".".intercalate ("collections.defaultdict.__missing__".cutAt '.').dropLast = "collections.defaultdict" := by decide +kernel
  have L2 : Looks (Md w) h (isInstance (.ref b) (.type (".".intercalate ("collections.defaultdict.__missing__".cutAt '.').dropLast))) true := by rw [e1]; exact L1
  unfold Builtin.«method_descriptor.__get__»
  repeat (first | with_reducible refine wpAny_newObj_type ?_ (by size_fits) | lk)
  exact hq

theorem sup_ga {so b : Addr} {tk : Tok} {Q : PySem.Fin → Shared → Prop} (x : BkAt w h b) (hso : h.get? so = some (ks_superObj 209 b 209)) (hne : b ≠ 209)
    (hq : Q (.done (.ret (.ref h.objs.size))) ⟨h.push (bmObj b), g, d, t, os⟩) :
    wpAny (Md w) A (Builtin.«super.__getattribute__» ⟨[.ref so, .str (Str.ofString "__missing__") tk], []⟩) Q E ⟨h, g, d, t, os⟩ := by
  have hC := Looks.of_peek (M := Md w) x.wg.K (p_mro w.params PP)
  have hno := looks_opaque (M := Md w) x.wg.K (k_any w.params) (C := 209)
  have hdt : (ks_superObj 209 b 209).data = .fields #[.ref 209, .ref b, .ref 209] := rfl
  have f0 : (#[.ref 209, .ref b, .ref 209] : Array Value)[0]? = some (.ref 209) := rfl
  have f1 : (#[.ref 209, .ref b, .ref 209] : Array Value)[1]? = some (.ref b) := rfl
  have f2 : (#[.ref 209, .ref b, .ref 209] : Array Value)[2]? = some (.ref 209) := rfl
  have hl : ((([.ref 209, .type "collections.defaultdict", .type "dict", .type "object"] : List Value).dropWhile (· != .ref 209)).drop 1) = [.type "collections.defaultdict", .type "dict", .type "object"] := by kernel_rfl
  have hn : (Str.ofString "__missing__" == Str.ofString "__class__") = false := by decide +kernel
  have hne' : (Value.ref b == Value.ref 209) = false := by simp [hne]
  have hTd : (⟨h, g, d, t, os⟩ : Shared).TypeIs (.builtin "collections.defaultdict.__missing__") "method_descriptor" := ty_mi
  unfold Builtin.«super.__getattribute__»
  iterate 22 (first
    | (with_reducible refine wpAny_field hso hdt f0 ?_) | (with_reducible refine wpAny_field hso hdt f1 ?_) | (with_reducible refine wpAny_field hso hdt f2 ?_)
    | (with_reducible refine ks_wpAny_notOpaque hno ?_)
    | (with_reducible refine Looks.at hC ?_; rw [hl])
    | (with_reducible refine wpAny_call_entry slot_mdg hTd en_mdg ?_ (ar_mdg _ _ _))
    | (with_reducible refine md_get x ?_)
    | (with_reducible refine ⟨_, rfl, ?_⟩)
    | (simp only [hn, hne', Bool.or_false, Bool.false_eq_true, if_false])
    | wp_step
    | dsimp only)
  refine wpAny_bind ?_
  rw [List.forIn_cons]
  have L5 : Looks (Md w) h (classOwn (.type "collections.defaultdict") (Str.ofString "__missing__")) (some (.builtin "collections.defaultdict.__missing__")) := looks_ownIn x.wg.K (by kernel_rfl)
  with_reducible refine wpAny_bind (wpAny_bind (Looks.at L5 ?_))
  dsimp only
  with_reducible refine wpAny_bind (wpAny_typeOf hTd ?_)
  with_reducible refine wpAny_bind (wpAny_of_eq lk_mdg ?_)
  dsimp only
  with_reducible refine wpAny_bind (wpAny_holding ?_)
  with_reducible refine wpAny_call_entry slot_mdg hTd en_mdg ?_ (ar_mdg _ _ _)
  with_reducible refine md_get x ⟨_, rfl, ?_⟩
  repeat lk
  exact hq

theorem sup_attr {so b : Addr} {Q : Value → Shared → Prop} (x : BkAt w h b) (hso : h.get? so = some (ks_superObj 209 b 209)) (hne : b ≠ 209)
    (hq : Q (.ref h.objs.size) ⟨h.push (bmObj b), g, d, t + 1, os⟩) :
    wpAny (Md w) A (getAttr (.ref so) (Str.ofString "__missing__") true) Q E ⟨h, g, d, t, os⟩ := by
  have hlk := PySem.F.ks_slot_super_ga.lookup
  have hT : ∀ t', (⟨h, g, d, t', os⟩ : Shared).TypeIs (.ref so) "super" := fun _ => ⟨_, hso, rfl⟩
  unfold getAttr getAttrBy
  refine wpAny_bind (wpAny_mkText (wpAny_holding (wpAny_bind (wpAny_typeOf (hT _) (wpAny_bind (wpAny_of_eq hlk ?_))))))
  show wpAny _ _ (getAttrByItsOwn (.ref so) (.str (Str.ofString "__missing__") t) (.type "super") (.builtin "super.__getattribute__") true true) _ _ _
  unfold getAttrByItsOwn hookBefore callGetattribute boundAndCalled
  refine wpAny_bind (wpAny_of_eq (show (if onTheHeap (.type "super") then typeLookup (.type "super") "__getattr__" else pure none) = pure none from rfl) ?_)
  refine wpAny_bind (wpAny_attempt (wpAny_holding ?_))
  show wpAny _ _ (bindSpecial (.builtin "super.__getattribute__") (.ref so) >>= _) _ _ _
  refine wpAny_bind (wpAny_of_eq (PySem.F.ks_slot_super_ga.bind _) ?_)
  refine wpAny_mono (Q := fun v s' => v = .ref h.objs.size ∧ s' = ⟨h.push (bmObj b), g, d, t + 1, os⟩) (E := fun _ _ => False)
    (wpAny_call_entry PySem.F.ks_slot_super_ga (hT _) PySem.F.ks_entry_super_ga (sup_ga x hso hne ⟨_, rfl, rfl, rfl⟩) (PySem.F.ks_gaArgs_super _ _)) (fun v s' hv => ?_) fun _ _ z => z.elim
  obtain ⟨rfl, rfl⟩ := hv
  exact wpAny_pure hq
end
end

section
open PySem PySem.W PySem.Spec PySem.Calls PyProof.Rows
set_option Elab.async false
set_option maxRecDepth 100000
set_option maxHeartbeats 0
theorem ty_bf : typeOf (.type "list") = pure (.type "type") := by kernel_rfl
theorem en_mi : entryFor table "collections.defaultdict.__missing__" = some Builtin.«collections.defaultdict.__missing__» := entryFor_of_tree (by kernel_rfl)
theorem k_mi : builtinKind "collections.defaultdict.__missing__" = some .method := by decide +kernel
theorem sp_mi : splitId "collections.defaultdict.__missing__" = some ("collections.defaultdict", "__missing__") := by decide +kernel
theorem qu_mi : ("collections.defaultdict.__missing__" : String).startsWith "lifetime." = false := by decide +kernel
theorem ar_mi (a b : Value) : argsOk "collections.defaultdict.__missing__" ⟨[a, b], []⟩ := by unfold argsOk; kernel_rfl
theorem w_mi (a : Args) : (Code.builtin "collections.defaultdict.__missing__" a).weight = 0 := by kernel_rfl
theorem ty_cls (P : Params) : typeIn (KH P) (.ref 209) = some (.type "type") := by kernel_rfl
theorem cls_qn (P : Params) : (clsIn (KH P) 209).map (·.qualname) = some (Str.ofString "FreezableDefaultDict") := by kernel_rfl
theorem en_sd : entryFor table "dict.setdefault" = some Builtin.«dict.setdefault» := entryFor_of_tree (by kernel_rfl)
theorem w_sd (a : Args) : (Code.builtin "dict.setdefault" a).weight = 0 := by kernel_rfl
section
variable {w : World} {A : Around} {s : Shared} {E : Value → Shared → Prop}
theorem cb_mi {b : Addr} {key : Value} {Q : Unit → Shared → Prop} (x : BkAt w s.heap b) (hob : ∃ o, s.heap.get? b = some o ∧ ∀ c, o.data ≠ .cls c) (h : Q () s) :
    wpAny (Md w) A (checkBoundCall "collections.defaultdict.__missing__" ⟨[.ref b, key], []⟩) Q E s := by
  obtain ⟨ob, hob, hnc⟩ := hob
  obtain ⟨hh, g, d, t, os⟩ := s
  have L1 := x.inst (m_mod w.params)
  have L2 := x.ty
  obtain ⟨cd, hcd⟩ := Option.isSome_iff_exists.mp (cls_in w.params)
  have L4 := looks_clsIn (M := Md w) x.wg.K hcd
  have L5 := looks_typeIn (M := Md w) x.wg.K (ty_cls w.params)
  unfold checkBoundCall
  iterate 16 (first | with_reducible refine ks_wpAny_isType_inst hob hnc ?_ | lk)
  have hqn : cd.qualname = Str.ofString "FreezableDefaultDict" := by
    have := cls_qn w.params
    rw [hcd] at this
    exact Option.some.inj this
  rw [hqn]
  exact wpAny_of_eq (by kernel_rfl) h
theorem bm_call {q b : Addr} {key : Value} {R : Result → Shared → Prop} (x : BkAt w s.heap b) (hob : ∃ o, s.heap.get? b = some o ∧ ∀ c, o.data ≠ .cls c) (hq : s.heap.get? q = some (bmObj b)) (h : codeAny (Md w) A (.builtin "collections.defaultdict.__missing__" ⟨[.ref b, key], []⟩) R s) :
    codeAny (Md w) A (.call (.ref q) ⟨[key], []⟩) R s := by
  refine codeAny_of_tree ?_
  show wpAny _ A.in1 (callAny (.ref q) _) _ _ _
  unfold callAny
  refine wpAny_bind (wpAny_load hq ?_)
  show wpAny _ _ (checkBoundCall "collections.defaultdict.__missing__" ⟨[.ref b, key], []⟩ >>= fun _ => again (.builtin "collections.defaultdict.__missing__" ⟨[.ref b, key], []⟩)) _ _ _
  refine wpAny_bind (cb_mi x hob (wpAny_pure ⟨Code.quiet_builtin _ qu_mi, h⟩))

end
end

section
open PySem PySem.W PySem.Spec PySem.Calls PyProof.Rows
set_option Elab.async false
set_option maxRecDepth 100000
set_option maxHeartbeats 0
theorem en_li : entryFor table "list.__init__" = some Builtin.«list.__init__» := entryFor_of_tree (by kernel_rfl)
section
variable {w : World} {A : Around} {s : Shared} {E : Value → Shared → Prop}
theorem cb_eq (f : Value) (pos : List Value) : callBorrowed f pos = (call f pos []).keep [borrowed] := by
  show Sem.call _ none false [borrowed] _ = Sem.call _ none false ([borrowed] ++ []) _
  congr 1
  funext r
  rcases r with e | fl
  · rfl
  · cases fl <;> rfl
theorem newCall_list_0 : checkBuiltinCall "list.__new__" ⟨[.type "list"], []⟩ = pure () := by kernel_rfl
theorem typeCall_list_0 : checkTypeCall "list" ⟨[], []⟩ = pure () := by kernel_rfl
theorem args_init_0 (a : Value) : argsOk "list.__init__" ⟨[a], []⟩ := by unfold argsOk; kernel_rfl
theorem list0 {Q : Value → Shared → Prop} (h : ∀ h', (∀ b o, s.heap.get? b = some o → h'.get? b = some o) → (∃ n, h'.get? s.heap.objs.size = some (seqObj "list" #[] n)) → Q (.ref s.heap.objs.size) { s with heap := h' }) : wpAny (Md w) A (call (.type "list") []) Q E s := by
  refine callType_codes (Q₁ := fun obj s₁ => obj = .ref s.heap.objs.size ∧ s₁ = { s with heap := s.heap.push (seqObj "list" #[] 0) }) PySem.F.called_list typeCall_list_0 en_li ?_ fun obj s₁ h₁ => ?_
  · refine codeAny_of_tree ?_
    show wpAny _ A.in1.in1 (do checkBuiltinCall "list.__new__" ⟨[.type "list"], []⟩; again (.builtin "list.__new__" ⟨[.type "list"], []⟩)) _ _ s
    refine wpAny_bind (wpAny_of_eq newCall_list_0 (wpAny_pure ⟨plainId_quiet PySem.F.plain_list_new _, codeAny_builtin_stack PySem.F.entry_list_new rfl fun p st => ?_⟩))
    rw [Around.under_plainId PySem.F.plain_list_new _]
    have hsub := sub_list_self
    have hown := owner_list_new
    obtain ⟨hp, g, d, tk, os⟩ := s
    simp only [hown]
    wp_walk
    exact ⟨rfl, rfl⟩
  · obtain ⟨rfl, rfl⟩ := h₁
    have ho : (s.heap.push (seqObj "list" #[] 0)).get? s.heap.objs.size = some (seqObj "list" #[] 0) := Heap.get?_push_size _ rfl
    refine ⟨⟨_, ho, rfl⟩, args_init_0 _, ?_⟩
    obtain ⟨hp, g, d, tk, os⟩ := s
    unfold Builtin.«list.__init__»
    repeat (first | with_reducible refine wpAny_updateSeq ho rfl ?_ (Nat.zero_le _) (Nat.zero_le _) | lk)
    refine ⟨rfl, h _ (fun b o e => ?_) ?_⟩
    · exact ((Heap.SameBut.update ..).2 b (Nat.ne_of_lt (Heap.lt_size e))).trans (Heap.get?_push_of_some _ e)
    · exact ⟨_, PySem.IsL.update ho _⟩
end
end

section
open PySem PySem.W PySem.Spec PySem.Calls PyProof.Rows
set_option Elab.async false
set_option maxRecDepth 100000
set_option maxHeartbeats 0
section
variable {w : World} {A : Around} {s : Shared} {E : Value → Shared → Prop}
theorem BkAt.keeps {h h' : Heap} {b : Addr} (x : BkAt w h b) (k : ∀ c o, h.get? c = some o → h'.get? c = some o) : BkAt w h' b := ⟨x.wg.sub k, x.ty.keeps k, x.ne⟩
theorem es_app {w : World} {es es' : List DictEntry} {kvs kvs' : List (Str × Value)} (h : EsAre w es kvs) (h' : EsAre w es' kvs') : EsAre w (es ++ es') (kvs ++ kvs') := by
  induction h with
  | nil => exact h'
  | cons k t v _ ih => exact .cons k t v ih
theorem es_len {w : World} {es : List DictEntry} {kvs : List (Str × Value)} (h : EsAre w es kvs) : es.length = kvs.length := by
  induction h with
  | nil => rfl
  | cons _ _ _ _ ih => simp [ih]
theorem bk_setd {b dx : Addr} {kvs : List (Str × Value)} {k : Str} {t : Tok} {v : Value} {Q : Value → Shared → Prop} (hb : ∃ o, s.heap.get? b = some o ∧ BkP w dx kvs o) (hv : bkGet kvs k = none) (hz : kvs.length ≤ 100000)
    (hq : ∀ h' tk, Heap.SameBut b s.heap h' → (∃ o, h'.get? b = some o ∧ BkP w dx (kvs ++ [(k, v)]) o) → Q v { s with heap := h', toks := tk }) :
    wpAny (Md w) A (dictSetDefault b (.str k t) v) Q E s := by
  obtain ⟨o, ho, es, ep, rfl, hes⟩ := hb
  have hk := es_keys hes
  have hf := es_find hes k
  rw [Array.toArray_toList] at hk hf
  have hlen := es_len hes
  rw [Array.length_toList] at hlen
  have hbig : 200000 ≤ sizeLine := Nat.le_of_ble_eq_true rfl
  have hkey : (strKind PP w).is k (.str k t) = true := by show Value.isStrOf k (.str k t) = true; simp [Value.isStrOf]
  unfold dictSetDefault
  refine wpAny_holding ?_
  refine wpAny_bind ((strKind PP w).pyHash hkey (wpAny_bind (wpAny_dictFind_of (s := { s with toks := s.toks + 1 }) hkey ho rfl hk ?_)))
  rw [hv, findBy_of_findIdx?] at hf
  cases hi : es.findIdx? fun e => (strKind PP w).is k e.key with
  | some i =>
    rw [hi] at hf
    obtain ⟨hlt, _⟩ := Array.findIdx?_eq_some_iff_getElem.mp hi
    simp [Array.getElem?_eq_getElem hlt] at hf
  | none =>
    refine wpAny_bind (wpAny_rule (wpAny_bind (wpAny_updateDictKeys (hz := by omega) (s := { s with toks := s.toks + 1 }) ho rfl (wpAny_pure (hq _ _ (Heap.SameBut.update ..) ⟨_, Heap.get?_update_self _ ho rfl, _, _, rfl, ?_⟩)))))
    rw [Array.toList_push]
    exact es_app hes (.cons k t v .nil)
end
end

section
open PySem PySem.W PySem.Spec PySem.Calls PyProof.Rows
set_option Elab.async false
set_option maxRecDepth 100000
set_option maxHeartbeats 0
theorem qu_sd : ("dict.setdefault" : String).startsWith "lifetime." = false := by decide +kernel
section
variable {w : World} {A : Around} {s : Shared} {E : Value → Shared → Prop}
theorem sd_run {b dx : Addr} {kvs : List (Str × Value)} {k : Str} {t : Tok} {v : Value} {R : Result → Shared → Prop} (x : BkAt w s.heap b) (hb : ∃ o, s.heap.get? b = some o ∧ BkP w dx kvs o) (hv : bkGet kvs k = none) (hz : kvs.length ≤ 100000)
    (hq : ∀ h' tk, Heap.SameBut b s.heap h' → (∃ o, h'.get? b = some o ∧ BkP w dx (kvs ++ [(k, v)]) o) → R (.ok (.ret v)) { s with heap := h', toks := tk }) :
    codeAny (Md w) A (.builtin "dict.setdefault" ⟨[.ref b, .str k t, v], []⟩) R s := by
  refine codeAny_builtin en_sd ?_
  rw [Around.under_plain (w_sd _) rfl]
  have key := bk_setd (A := A.in1) (E := fun e s' => R (.error e) s') (Q := fun r s' => R (.ok (.ret r)) s') (v := v) hb hv hz hq (t := t)
  have L1 := x.ty
  have L2 := x.inst (m_od w.params)
  have e1 : (b == sysModules) = false := x.ne
  obtain ⟨hp, g, d, tk, os⟩ := s
  dsimp only at L1 L2 key
  have key2 : wpAny (Md w) A.in1 (dictSetDefault b (.str k t) ((some v).getD .none)) (fun r s' => R (.ok (.ret r)) s') (fun e s' => R (.error e) s') ⟨hp, g, d, tk, os⟩ := key
  have L3 : Looks (Md w) hp (typeOf ([.ref b, .str k t, v].headD .none)) (.ref 209) := L1
  have L4 : Looks (Md w) hp (isInstance ([.ref b, .str k t, v].headD .none) (.type "collections.OrderedDict")) false := L2
  unfold Builtin.«dict.setdefault» Builtin.Dict.keyAndDefault Builtin.Dict.notOrdered Builtin.Dict.nameIsSure
  repeat (first | with_reducible refine wpAny_mono key2 (fun r s' z => ?_) (fun e s' z => z) | (rw [if_neg (ne_true_of_eq_false e1)]) | lk)
  exact z
theorem dd_missing {b dx : Addr} {kvs : List (Str × Value)} {k : Str} {t : Tok} {R : Result → Shared → Prop} (x : BkAt w s.heap b) (hb : ∃ o, s.heap.get? b = some o ∧ BkP w dx kvs o) (hv : bkGet kvs k = none) (hz : kvs.length ≤ 100000)
    (hq : ∀ h' tk, (∀ c o, c ≠ b → s.heap.get? c = some o → h'.get? c = some o) → (∃ o, h'.get? b = some o ∧ BkP w dx (kvs ++ [(k, .ref s.heap.objs.size)]) o) → (∃ n, h'.get? s.heap.objs.size = some (seqObj "list" #[] n)) →
      R (.ok (.ret (.ref s.heap.objs.size))) { s with heap := h', toks := tk }) :
    codeAny (Md w) A (.builtin "collections.defaultdict.__missing__" ⟨[.ref b, .str k t], []⟩) R s := by
  refine codeAny_builtin en_mi ?_
  rw [Around.under_plain (w_mi _) rfl]
  have hbl : b < s.heap.objs.size := let ⟨_, e, _⟩ := hb; Heap.lt_size e
  obtain ⟨ob, hob, es, ep, rfl, hes⟩ := id hb
  unfold Builtin.«collections.defaultdict.__missing__» Builtin.Collections_defaultdict.factory?
  iterate 12 lk
  refine wpAny_bind (wpAny_loadPart hob (wpAny_pure (wpAny_pure ?_)))
  show wpAny _ _ (callOutOfASlot (.type "list") >>= fun value => again (.builtin "dict.setdefault" ⟨[.ref b, .str k t, value], []⟩)) _ _ _
  unfold callOutOfASlot
  refine wpAny_bind (wpAny_bind (wpAny_of_eq (show borrowsExactly (.type "list") = pure true from rfl) ?_))
  rw [if_pos rfl, cb_eq]
  refine wpAny_keep (list0 fun h' hk hn => ?_)
  refine wpAny_pure ⟨Code.quiet_builtin _ qu_sd, ?_⟩
  refine sd_run (x.keeps hk) ⟨_, hk _ _ hob, es, ep, rfl, hes⟩ hv hz fun h2 tk hs hb2 => ?_
  refine hq h2 tk (fun c o hc e => (hs.2 c hc).trans (hk c o e)) hb2 ?_
  obtain ⟨n, hn⟩ := hn
  exact ⟨n, (hs.2 _ (Nat.ne_of_gt hbl)).trans hn⟩
end
end

section
open PySem PySem.W PySem.Spec PySem.Calls PyProof.Rows
set_option Elab.async false
set_option maxRecDepth 100000
set_option maxHeartbeats 0
section
variable {prog : Program} {w : World} {A : Around} {c : Code} {E : Value → Shared → Prop} {s : Shared} {env : Env} {pos : Pos}
theorem at_Call {func : Expr} {args : List Expr} {Q : Value → Shared → Prop}
    (h : PySem.wpAt (model prog w) A c (eval func env) (fun f s₁ => PySem.wpAt (model prog w) A c (callWith pos f [] (backTo pos (starEach args env)) []) Q E s₁) E s)
    (he : eval (.Call func args [] pos) env = (do callWith pos (← eval func env) [] (backTo pos (starEach args env)) (backToKw pos (keywordEach [] env))) := by with_unfolding_all rfl) :
    PySem.wpAt (model prog w) A c (eval (.Call func args [] pos) env) Q E s := by
  rw [he]; exact PySem.wpAt_bind h
theorem at_callWith_bi {id : String} {first : List Value} {args : List (Bool × Sem Value)} {Q : Value → Shared → Prop} (hplain : args.any (·.1) = false)
    (h : PySem.wpAt (model prog w) A c (evalArgs (.builtin id) true args []) (fun a s₁ => wpAny (model prog w) A (call (.builtin id) (first ++ a.pos) a.kw) Q E s₁) E s) :
    PySem.wpAt (model prog w) A c (callWith pos (.builtin id) first args []) Q E s := by
  unfold callWith
  refine PySem.wpAt_bind (ks_wpAt_holding (PySem.wpAt_mono h (fun a s₁ h₁ => PySem.wpAt_of_wpAny (wpAny_bind (wpAny_standAt ?_))) fun _ _ x => x))
  rw [hplain]
  refine wpAny_bind (wpAny_pure ?_)
  exact wpAny_bind (wpAny_mono h₁ (fun r s₂ hr => wpAny_bind (wpAny_holding (wpAny_point (wpAny_pure hr)))) fun _ _ x => x)
theorem at_spliced_nil {Q : List Value → Shared → Prop} (h : Q [] s) : PySem.wpAt (model prog w) A c (spliced []) Q E s := PySem.wpAt_of_wpAny (spliced_nil h)
theorem at_spliced_cons {x : Sem Value} {rest : List (Bool × Sem Value)} {Q : List Value → Shared → Prop} (h : PySem.wpAt (model prog w) A c x (fun v s₁ => PySem.wpAt (model prog w) A c (spliced rest) (fun vs s₂ => Q (v :: vs) s₂) E s₁) E s) :
    PySem.wpAt (model prog w) A c (spliced ((false, x) :: rest)) Q E s := by
  rw [spliced]
  refine PySem.wpAt_bind (PySem.wpAt_mono h (fun v s₁ h₁ => ?_) fun _ _ e => e)
  simp only [Bool.false_eq_true, if_false]
  first
    | exact PySem.wpAt_bind (ks_wpAt_holding (PySem.wpAt_mono h₁ (fun vs s₂ h₂ => PySem.wpAt_of_wpAny (wpAny_pure h₂)) fun _ _ e => e))
    | exact PySem.wpAt_bind (PySem.wpAt_of_wpAny (wpAny_pure (PySem.wpAt_bind (ks_wpAt_holding (PySem.wpAt_mono h₁ (fun vs s₂ h₂ => PySem.wpAt_of_wpAny (wpAny_pure h₂)) fun _ _ e => e)))))
theorem at_evalArgs {f : Value} {x : Sem Value} {rest : List (Bool × Sem Value)} {Q : Args → Shared → Prop} (h : PySem.wpAt (model prog w) A c (spliced ((false, x) :: rest)) (fun vs s' => Q ⟨vs, []⟩ s') E s) :
    PySem.wpAt (model prog w) A c (evalArgs f true ((false, x) :: rest) []) Q E s := by
  unfold evalArgs
  dsimp only
  refine PySem.wpAt_bind (m := spliced ((false, x) :: rest)) (PySem.wpAt_mono h (fun vs s₁ h₁ => PySem.wpAt_of_wpAny (wpAny_bind (wpAny_pure (wpAny_holding ?_)))) fun _ _ e => e)
  show wpAny _ _ (evalAll [] >>= _) _ _ _
  refine wpAny_bind (wpAny_of_eq (show evalAll [] = pure [] from rfl) ?_)
  exact wpAny_pure h₁
theorem at_Attr {value : Expr} {attr : Str} {Q : Value → Shared → Prop} (h : PySem.wpAt (model prog w) A c (attributeBase value attr env (eval value env)) (fun o s₁ => wpAny (model prog w) A (getAttr o attr true) Q E s₁) E s) :
    PySem.wpAt (model prog w) A c (eval (.Attribute value attr pos) env) Q E s := by
  rw [arm_eval_Attribute]
  exact PySem.wpAt_bind (PySem.wpAt_mono h (fun o s₁ h₁ => PySem.wpAt_of_wpAny (wpAny_bind (wpAny_standAt (wpAny_bind (wpAny_holding (wpAny_mono h₁ (fun r s₂ h₂ => wpAny_bind (wpAny_letTemporaryGo (wpAny_pure h₂))) fun _ _ e => e)))))) fun _ _ e => e)
end
end

section
open PySem PySem.W PySem.Spec PySem.Calls PyProof.Rows
set_option Elab.async false
set_option maxRecDepth 100000
set_option maxHeartbeats 0
theorem lay_nil {sc : Scope} (h : cellNames sc = []) : ∀ x ∈ sc.names, x.2 ≠ .cell := fun x hx e => by
  have : x.1 ∈ cellNames sc := List.mem_map.mpr ⟨x, List.mem_filter.mpr ⟨hx, by rw [e]; rfl⟩, rfl⟩
  rw [h] at this; cases this
theorem look_rev {l : List (Str × Value)} (hnd : (l.map (·.1)).Nodup) (p : Str × Value) (hp : p ∈ l) : l.reverse.lookup p.1 = some p.2 := by
  have nd : (l.reverse.map (·.1)).Nodup := by rw [List.map_reverse]; exact (List.reverse_perm _).nodup_iff.mpr hnd
  have hm : p ∈ l.reverse := List.mem_reverse.mpr hp
  clear hp hnd
  generalize l.reverse = r at nd hm
  induction r with
  | nil => cases hm
  | cons q r ih =>
    rw [List.map_cons, List.nodup_cons] at nd
    rw [List.lookup_cons]
    rcases List.mem_cons.mp hm with rfl | hm
    · simp
    · have : (p.1 == q.1) = false := by
        rw [beq_eq_false_iff_ne]
        intro e
        exact nd.1 (e ▸ List.mem_map_of_mem hm)
      rw [this]
      exact ih nd.2 hm
section
variable {w : World} {A : Around} {s : Shared} {n : Nat} {R : Result → Shared → Prop}
theorem enterAt {f : Addr} {args : List Value} {binds : List (Str × Value)} {ks : List (Str × NameKind)} {cl : List (Str × Addr)} (hA : Rm A (n + 1)) (W : Wg w s.heap)
    (hf : okFnC (KH w.params) f [] = true) (hbind : bindArgs (fdOf (KH w.params) f) ⟨args, []⟩ = pure binds)
    (hloc : (binds.all fun x => (fdOf (KH w.params) f).scope.names.lookup x.1 == some .local) = true) (hnd : decide ((binds.map (·.1)).Nodup) = true)
    (hks : chk (fdOf (KH w.params) f).scope ks = true) (hcl : (fdOf (KH w.params) f).closure = cl) (hcn : decide ((cl.map (·.1)).Nodup) = true)
    (h : ∀ L s', Fm w s s' [(L, NsP binds)] → Rm (A.deeper (dEnv (fdOf (KH w.params) f) f L)) n → Ks (dEnv (fdOf (KH w.params) f) f L) L cl ks →
      PySem.wpAt (Md w) (A.deeper (dEnv (fdOf (KH w.params) f) f L)) (.func (bodyOf (fdOf (KH w.params) f)) (dEnv (fdOf (KH w.params) f) f L)) (execs (bodyOf (fdOf (KH w.params) f)) (dEnv (fdOf (KH w.params) f) f L)) (fun fl s'' => R (.ok (.ret (retV fl))) s'') (fun _ _ => False) s') :
    codeAny (Md w) A (.call (.ref f) ⟨args, []⟩) R s := by
  unfold okFnC at hf
  simp only [Bool.and_eq_true, beq_iff_eq, decide_eq_true_eq] at hf
  obtain ⟨h1, h2, h3, h4, h5⟩ := hf
  obtain ⟨G, WG, hs⟩ := id W
  obtain ⟨o, ho, hdt⟩ := fd_at WG.K h1
  obtain ⟨p1, p2, p3, p4, p5, p6⟩ := plain_fd h2
  obtain ⟨mg, mb, p, loose, mean, T⟩ := WG.T
  have hnd' := of_decide_eq_true hnd
  refine ks_codeAny_call_defAt hA.room (hs _ _ ho) hdt (T.nolimit.keeps hs) ((codeRec_of WG.K h3).keeps hs) p6 (fun _ _ _ _ z => by rw [hbind]; exact wpAny_pure z) (lay_nil h4) (fun x hx => by simpa using List.all_eq_true.mp hloc x hx) (fun h₀ hns hk => ?_) p1 p2 p3
  have F0 : Fm w s { s with heap := h₀, toks := s.toks + binds.length } [(s.heap.objs.size, NsP binds)] := by
    refine (Fm.start W).add (s' := { s with heap := h₀, toks := s.toks + binds.length }) ⟨hk, rfl, rfl⟩ ?_ (nsP_of hns fun p hp => ?_)
    · cases q : s.heap.get? s.heap.objs.size with
      | none => rfl
      | some o => exact absurd (Heap.lt_size q) (Nat.lt_irrefl _)
    · exact look_rev hnd' p hp
  refine PySem.wpAt_mono (h s.heap.objs.size _ F0 hA.deeper (dKs hks p3 p4 p5 fun p hp => ?_)) (fun fl s'' h' => ?_) fun _ _ x => x.elim
  · rw [hcl]; exact look_of hcn p hp
  · cases fl <;> exact h'
end
end

section
open PySem PySem.W PySem.Spec PySem.Calls PyProof.Rows
set_option Elab.async false
set_option maxRecDepth 100000
set_option maxHeartbeats 0
theorem g_getattr : Glo (PySem.Str.ofString "getattr") (.builtin "getattr") := Glo.ofB (fun _ => by kernel_rfl) (by kernel_rfl) (by decide +kernel)
theorem g_super : Glo (PySem.Str.ofString "super") (.type "super") := Glo.ofB (fun _ => by kernel_rfl) (by kernel_rfl) (by decide +kernel)
noncomputable abbrev c198 : Array Value := #[.str (sS "__missing__") 726, .str (sS "FreezableDefaultDict.__missing__") 727, .str (sS "/claim/cut.py") 728, .int 210 0, .int 2 0, .int 0 0, .int 0 0, .int 3 0, .ref 193, .bool true, .int 318 0, .ref 194, .none, .ref 195, .ref 196, .ref 197, .int 732 0, .int 210 0, .str (sS "/claim/cut.py") 733]
theorem code_198 (P : Params) : ∃ oc vs file tf, (KH P).lookup 198 = some oc ∧ oc.data = .fields vs ∧ vs[2]? = some (.str file tf) ∧ ((PP.main.file : Str) == file) = true :=
  ⟨{ cls := .type "code", data := .fields c198 }, c198, sS "/claim/cut.py", 728, by kernel_rfl, rfl, by kernel_rfl, by kernel_rfl⟩
theorem cell_187 (P : Params) : (KH P).lookup 187 = some { cls := .type "cell", data := .cell (some (.ref 209)) } := by kernel_rfl
theorem fd199_code (P : Params) : (fdOf (KH P) 199).code = .ref 198 := by kernel_rfl
theorem fd199_arg (P : Params) : (((fdOf (KH P) 199).params.posonlyargs ++ (fdOf (KH P) 199).params.args).head?).map (·.arg) = some (Str.ofString "self") := by kernel_rfl
theorem isfn_199 (P : Params) : isFnK (KH P) 199 = true := by kernel_rfl
theorem pp_top : (PP.main.scope.names.lookup ("super" : Str)).isSome = false := by kernel_rfl
theorem ld_glo {w : World} {A : Around} {B s : Shared} {own : Led} {E : Value → Shared → Prop} {env : Env} {L : Addr} {cl : List (Str × Addr)} {ks : List (Str × NameKind)} {x : Str} {v : Value} {Q : Value → Shared → Prop} (F : Fm w B s own) (hk : Ks env L cl ks) (hx : (x, .globalImplicit) ∈ ks) (hg : Glo x v) (h : Q v s) :
    wpAny (Md w) A (loadName env x) Q E s := by
  obtain ⟨G, W, hsub⟩ := F.base
  obtain ⟨mg, g, hv⟩ := hg w G W
  refine ks_loadName_global hk.kind (hk.kinds _ hx).1 ?_
  rcases hv with hv | ⟨hn, mb, b, hv⟩
  · exact loadGlobal_global (by rw [hk.glob]; exact g.keeps hsub) hv h
  · exact loadGlobal_builtin (by rw [hk.glob]; exact g.keeps hsub) hn (by rw [hk.bts]; exact b.keeps hsub) hv h
theorem bt_plain {es : List Expr} {env : Env} {pos : Pos} (h : es.all plainE = true) : backTo pos (starEach es env) = es.map fun e => (false, eval e env) := by
  rw [starEach_plain h]
  unfold backTo
  rw [List.map_map]
  congr 1
theorem c_missing {w : World} {A : Around} {s : Shared} {n : Nat} {R : Result → Shared → Prop} {b dx : Addr} {od : Obj} {k : Str} {t : Tok} (hA : Rm A (n + 1)) (x : BkI w s.heap b dx od) (hne : b ≠ 209) (hnc : ∃ o, s.heap.get? b = some o ∧ o.cls = .ref 209 ∧ ∀ c, o.data ≠ .cls c)
    (h : ∀ L q s2 tk, Fm w s s2 [(q, fun o => o = bmObj b), (L, NsP [(Str.ofString "self", .ref b), (Str.ofString "key", .str k t)])] → Rm (A.deeper (dEnv (fdOf (KH w.params) 199) 199 L)) n → Ks (dEnv (fdOf (KH w.params) 199) 199 L) L [(Str.ofString "__class__", 187)] [(Str.ofString "self", .local), (Str.ofString "key", .local), (Str.ofString "__class__", .free), (Str.ofString "getattr", .globalImplicit), (Str.ofString "super", .globalImplicit)] →
      wpAny (Md w) (A.deeper (dEnv (fdOf (KH w.params) 199) 199 L)) (call (.builtin "getattr") [.ref b, .str (Str.ofString "_frozen") tk, .ref q]) (fun fv s3 => ∀ pos pos', wpAny (Md w) (A.deeper (dEnv (fdOf (KH w.params) 199) 199 L))
        (callWith pos fv [] (backTo pos (starEach [.Name (Str.ofString "key") pos'] (dEnv (fdOf (KH w.params) 199) 199 L))) []) (fun v s5 => R (.ok (.ret v)) s5) (fun _ _ => False) s3) (fun _ _ => False) s2) :
    codeAny (Md w) A (.call (.ref 199) ⟨[.ref b, .str k t], []⟩) R s := by
  with_reducible refine enterAt (binds := [(Str.ofString "self", .ref b), (Str.ofString "key", .str k t)]) (ks := [(Str.ofString "self", .local), (Str.ofString "key", .local), (Str.ofString "__class__", .free), (Str.ofString "getattr", .globalImplicit), (Str.ofString "super", .globalImplicit)]) (cl := [(Str.ofString "__class__", 187)]) hA x.wg (by kernel_rfl) (by kernel_rfl) (by kernel_rfl) (by kernel_rfl) (by kernel_rfl) (by kernel_rfl) (by kernel_rfl) ?_
  intro L s1 F1 hA' hk
  conv in execs (bodyOf _) _ => arg 1; whnf
  refine ks_wpAt_execs_cons (ks_wpAt_Return_some (at_Call (at_Call (PySem.wpAt_of_wpAny (e_glo F1 hk (by kd_mem) g_getattr ?_)))))
  rw [bt_plain (es := [.Name _ _, .Constant _ _ _, .Attribute _ _ _]) (by with_unfolding_all rfl)]
  simp only [List.map_cons, List.map_nil]
  refine at_callWith_bi (by rfl) (at_evalArgs (at_spliced_cons (PySem.wpAt_of_wpAny (e_loc F1 hk (by kd_mem) (by kd_mem) (by kd_mem) ?_))))
  refine at_spliced_cons (PySem.wpAt_of_wpAny (e_str F1 ?_))
  intro t2 s2 F2
  refine at_spliced_cons (at_Attr ?_)
  obtain ⟨ar, har, har2⟩ := Option.map_eq_some_iff.mp (fd199_arg w.params)
  have X2 := F2.base.K
  obtain ⟨of, hof, hofd⟩ := fd_at X2 (isfn_199 w.params)
  obtain ⟨oc, vs, file, tf, hoc', hocd, hv2, hfile⟩ := code_198 w.params
  have hoc := X2 _ _ hoc'
  refine ks_wpAt_super_base (hk.kinds (Str.ofString "super", .globalImplicit) (by kd_mem)).1 (hk.kinds (Str.ofString "__class__", .free) (by kd_mem)).1 (by decide +kernel) rfl hof hofd har (fd199_code w.params) hoc hocd hv2 hfile pp_top ?_
  rw [har2]
  refine ld_glo F2 hk (by kd_mem) g_super ⟨rfl, ?_⟩
  refine ld_free F2 hk (by kd_mem) (by kd_mem) (.base ⟨_, x.wg.K _ _ (cell_187 w.params), rfl⟩) ?_
  refine ld_loc F2 hk (by kd_mem) (by kd_mem) (by kd_mem) ?_
  obtain ⟨cd, oC, hC, hCd⟩ := cls_row X2
  obtain ⟨ob, hob, hobc, hobn⟩ := hnc
  have hob2 := F2.keep _ _ hob
  obtain ⟨hh, g, d, tk, os⟩ := s2
  refine ks_wpAny_isType_cls hC hCd ⟨rfl, ?_⟩
  refine ks_wpAny_call_super hC hCd hob2 hobc hobn (looks_mroIn X2 (m_self w.params)) fun h' hso hk' => ?_
  have F3 : Fm w s ⟨h', g, d, tk, os⟩ [(hh.objs.size, fun o => o = ks_superObj 209 b 209), (L, NsP [(Str.ofString "self", .ref b), (Str.ofString "key", .str k t)])] := by
    refine F2.add ⟨hk', rfl, rfl⟩ ?_ ⟨_, hso, rfl⟩
    cases q : hh.get? hh.objs.size with
    | none => rfl
    | some o => exact absurd (Heap.lt_size q) (Nat.lt_irrefl _)
  have x3 : BkAt w h' b := x.toBkAt.keeps F3.keep
  refine sup_attr x3 hso hne ?_
  have F4 := (F3.push (o := bmObj b) (P := fun o => o = bmObj b) (t := tk + 1) rfl rfl).sel (own' := [(h'.objs.size, fun o => o = bmObj b), (L, NsP [(Str.ofString "self", .ref b), (Str.ofString "key", .str k t)])]) (by kqd_all)
  refine at_spliced_nil ?_
  refine wpAny_mono (h L _ _ t2 F4 hA' hk) (fun fv s3 h3 => ?_) fun _ _ e => e.elim
  exact PySem.wpAt_of_wpAny (wpAny_mono (h3 _ _) (fun v s5 h5 => h5) fun _ _ e => e.elim)
end

section
open PySem PySem.W PySem.Spec PySem.Calls PyProof.Rows
set_option Elab.async false
set_option maxRecDepth 100000
set_option maxHeartbeats 0
theorem Fm.extAdd {w : World} {B s s' : Shared} {own own' : Led} {a D : Addr} {P P' PD : Obj → Prop} (F : Fm w B s own) (U : UpdE a P P' own own') (x : ExtB [a] s s') (ho : ∃ o, s'.heap.get? a = some o ∧ P' o) (hn : s.heap.get? D = none)
    (hD : ∃ o, s'.heap.get? D = some o ∧ PD o) : Fm w B s' ((D, PD) :: own') := by
  have F' := F.extB U x ho
  refine ⟨F'.wg, fun p hp => ?_, ?_, fun p hp => ?_, F'.keep, F'.gens, F'.os⟩
  · rcases List.mem_cons.mp hp with rfl | hp
    · exact hD
    · exact F'.sat p hp
  · rw [List.map_cons, List.nodup_cons]
    refine ⟨fun hm => ?_, F'.nd⟩
    rw [U.map] at hm
    obtain ⟨p, hp, e⟩ := List.mem_map.mp hm
    obtain ⟨o, e', _⟩ := F.sat p hp
    have e2 : p.1 = D := e
    rw [e2, hn] at e'; cases e'
  · rcases List.mem_cons.mp hp with rfl | hp
    · cases q : B.heap.get? D with
      | none => rfl
      | some o => have := F.keep _ _ q; rw [hn] at this; cases this
    · exact F'.fresh p hp
theorem cw_bm {w : World} {A : Around} {E : Value → Shared → Prop} {env : Env} {pos : Pos} {s : Shared} {Q : Value → Shared → Prop} {q b : Addr} {args : List Expr}
    (h : Ev (Md w) A E env args (fun vs s₁ => s₁.heap.get? q = some (bmObj b) ∧ wpAny (Md w) A (call (.ref q) vs) Q E s₁) s) (hp : args.all plainE = true := by with_unfolding_all rfl) :
    wpAny (Md w) A (callWith pos (.ref q) [] (backTo pos (starEach args env)) []) Q E s := by
  have key : ∀ h, h.get? q = some (bmObj b) → ∃ k, (k = Keeper.frame ∨ k = Keeper.machine ∨ k = Keeper.boundFrame) ∧ Looks (Md w) h (keeperOf (.ref q)) k := by
    intro h ho
    refine ⟨.machine, .inr (.inl rfl), (Looks.ld (part := none) ho).andThen ?_⟩
    exact .now
  exact callWith_of (P := fun h => h.get? q = some (bmObj b)) (by rw [backTo_plain hp]; rfl) key (evalArgs_ev hp h)

theorem bk_at {w : World} {B s : Shared} {own : Led} {b dx : Addr} {kvs : List (Str × Value)} (F : Fm w B s own) (hb : (b, BkP w dx kvs) ∈ own) (h1 : (b == sysModules) = false) : BkAt w s.heap b := by
  obtain ⟨o, ho, es, ep, rfl, hes⟩ := F.sat _ hb
  exact ⟨F.base, (Looks.ld ho).andThen .now, h1⟩
theorem ne_209 {w : World} {B s : Shared} {own : Led} {b : Addr} {P : Obj → Prop} (F : Fm w B s own) (hb : (b, P) ∈ own) : b ≠ 209 := by
  rintro rfl
  have hf := F.fresh _ hb
  obtain ⟨cd, oC, hC, hCd⟩ := cls_row F.wg.K
  rw [hf] at hC
  cases hC
theorem bk_inst {h : Heap} {w : World} {b dx : Addr} {kvs : List (Str × Value)} {od : Obj} (hb : ∃ o, h.get? b = some o ∧ BkP w dx kvs o) (hd : h.get? dx = some od) : ∃ ox, InstAt h b ox 209 (some od) := by
  obtain ⟨o, ho, es, ep, rfl, hes⟩ := hb
  exact ⟨_, ho, rfl, rfl, hd⟩
theorem o_hit {w : World} {A : Around} {B s : Shared} {own : Led} {E Q : Value → Shared → Prop} {b dx : Addr} {kvs : List (Str × Value)} {k : Str} {t : Tok} {v : Value} (F : Fm w B s own) (hb : (b, BkP w dx kvs) ∈ own) (h1 : (b == sysModules) = false) (hv : bkGet kvs k = some v)
    (h : ∀ s', Fm w B s' own → Q v s') : wpAny (Md w) A (getItem (.ref b) (.str k t)) Q E s := bk_hit (bk_at F hb h1) (F.sat _ hb) hv (h _ (F.tok _))
theorem o_miss {w : World} {A : Around} {B s : Shared} {own : Led} {own' : List (Str × Value) → Led} {E Q : Value → Shared → Prop} {n : Nat} {b dx : Addr} {kvs : List (Str × Value)} {k : Str} {t : Tok} (hA : Rm A (n + 2)) (F : Fm w B s own)
    (U : ∀ kvs', UpdE b (BkP w dx kvs) (BkP w dx kvs') own (own' kvs')) (h1 : (b == sysModules) = false) (hd : (dx, DxP none) ∈ own) (hv : bkGet kvs k = none) (hz : kvs.length ≤ 100000)
    (h : ∀ D s', Fm w B s' ((D, LS []) :: own' (kvs ++ [(k, .ref D)])) → Q (.ref D) s') : wpAny (Md w) A (getItem (.ref b) (.str k t)) Q E s := by
  have hb := (U kvs).mem
  have x := bk_at F hb h1
  have hbo := F.sat _ hb
  obtain ⟨od, hod, hod2⟩ := F.sat _ hd
  have hod2 : od = emptyDict := hod2
  subst hod2
  refine bk_miss x hbo hv ?_
  have hi := bk_inst hbo hod
  have F1 := F.tok (s.toks + 1)
  refine c_missing (n := n) (od := emptyDict) (dx := dx) hA.in1 ⟨⟨x.wg, x.ty, x.ne⟩, hi⟩ (ne_209 F hb) ?_ fun L q s2 tk F2 hA2 hk2 => ?_
  · obtain ⟨o, ho, es, ep, rfl, hes⟩ := hbo
    exact ⟨_, ho, rfl, fun c e => by cases e⟩
  have k2 := F2.keep
  have hbo2 : ∃ o, s2.heap.get? b = some o ∧ BkP w dx kvs o := let ⟨o, e, z⟩ := hbo; ⟨o, k2 _ _ e, z⟩
  have hod2 := k2 _ _ hod
  have x2 : BkI w s2.heap b dx emptyDict := ⟨x.keeps k2, bk_inst hbo2 hod2⟩
  obtain ⟨hh, g, d, tk2, os⟩ := s2
  refine ga3 x2 fun A' hA' => oga_miss (hA'.trans hA2.h) x2 fun h' tk' e he => ?_
  obtain ⟨t1, u1, he3⟩ := he.there
  refine ⟨e, _, rfl, he3, rfl, he.keeps, fun pos pos' => ?_⟩
  have F3 := F2.ext (s' := ⟨h', g, d, tk', os⟩) ⟨he.keeps, rfl, rfl⟩
  with_reducible refine cw_bm (b := b) (ev_cons ?_)
  with_reducible refine e_loc F3 hk2 (by kd_mem) (by kd_mem) (by kd_mem) ?_
  obtain ⟨oq, hq, hq2⟩ := F3.sat _ List.mem_cons_self
  have hq2 : oq = bmObj b := hq2
  subst hq2
  have x3 : BkAt w h' b := x2.toBkAt.keeps he.keeps
  have hbo3 : ∃ o, h'.get? b = some o ∧ BkP w dx kvs o := let ⟨o, e, z⟩ := hbo2; ⟨o, he.keeps _ _ e, z⟩
  refine ev_nil ⟨hq, wpAny_call (bm_call x3 ?_ hq (dd_missing x3 hbo3 hv hz fun h4 tk4 hk4 hb4 hD4 => ?_))⟩
  · obtain ⟨o, ho, es, ep, rfl, hes⟩ := hbo3
    exact ⟨_, ho, fun c e => by cases e⟩
  refine h _ _ ?_
  have kall : ∀ c o, s.heap.get? c = some o → h'.get? c = some o := fun c o e => he.keeps _ _ (k2 _ _ e)
  have hDn : s.heap.get? h'.objs.size = none := by
    cases q : s.heap.get? h'.objs.size with
    | none => rfl
    | some o => exact absurd (Heap.lt_size (kall _ _ q)) (Nat.lt_irrefl _)
  refine F.extAdd (U _) ⟨fun c o hc e => hk4 c o (by simpa using hc) (kall c o e), ?_, ?_⟩ hb4 hDn ?_
  · exact F2.gens.trans rfl
  · exact F2.os.trans rfl
  · obtain ⟨n, hn⟩ := hD4
    exact ⟨_, hn, [], .nil, n, rfl⟩
end

section
open PySem PySem.W PySem.Spec PySem.Calls PyProof.Rows
set_option Elab.async false
set_option maxRecDepth 100000
set_option maxHeartbeats 0
noncomputable def TabP (ps : Array Value) (o : Obj) : Prop := o = tabObj ps
noncomputable def CodeP (q : Str) (o : Obj) : Prop := ∃ vs tq, o.data = .fields vs ∧ vs[1]? = some (.str q tq)
section
variable {w : World} {A : Around} {B s : Shared} {own : Led} {own' : Array Value → Led} {E Q : Value → Shared → Prop} {env : Env} {L : Addr} {cl0 clos : List (Str × Addr)} {ks : List (Str × NameKind)} {params : Arguments} {body : Expr} {scope : Scope} {pos : Pos} {c P : Addr} {ps : Array Value}
theorem e_lam (F : Fm w B s own) (hk : Ks env L cl0 ks) (hcode : env.code = .ref c) (hC : ∀ G, Wd w G → CodeHd G c P) (U : ∀ ps', UpdE P (TabP ps) (TabP ps') own (own' ps')) (ht : TriplesOk ps.toList) (hnf : codeAmong pos ps.toList = none)
    (hcl : closureFor scope env = pure clos) (hdef : defaultsOf params env = ([], []))
    (h : ∀ f c' pm ctv s', Fm w B s' ((f, fun o => o = kla_obj "<lambda>" (env.qual ++ "<lambda>") params body scope clos pm c' ctv) :: (c', CodeP (env.qual ++ "<lambda>")) :: own' (ps ++ #[rawInt pos.line, rawInt pos.col, .ref c'])) → Q (.ref f) s') :
    wpAny (Md w) A (eval (.Lambda params body scope pos) env) Q E s := by
  obtain ⟨G, WG, hsub⟩ := F.base
  obtain ⟨mg, mb, p, loose, mean, T⟩ := WG.T
  have C : CodeHd s.heap c P := (hC G WG).keeps hsub
  obtain ⟨oP, hP, hP2⟩ := F.sat _ (U ps).mem
  have hP2 : oP = tabObj ps := hP2
  subst hP2
  have hP : s.heap.get? P = some (tabObj ps) := hP
  have hfP : B.heap.get? P = none := F.fresh _ (U ps).mem
  have hgs := T.g.keeps hsub
  obtain ⟨bm, ob, b1, b2, b3, b4, b5, b6⟩ := T.bmain
  have hgP : mainGlobals ≠ P := fun q => by
    obtain ⟨o, es, ep, e, hd, _⟩ := hgs
    rw [q, hP] at e; cases e; cases hd
  have hbP : bm ≠ P := fun q => by
    have e := hsub _ _ b3
    rw [q, hP] at e; cases e; cases b4
  have hbG : bm ≠ mainGlobals := fun q => by
    obtain ⟨o, es, ep, e, hd, _⟩ := T.g
    rw [q, e] at b3; cases b3; rw [hd] at b6; cases b6
  refine kla_eval hdef ?_
  refine kla_makeFunction (mg := mg) hcl hk.glob hgs hcode C hP ht hnf hgP ⟨bm, ob, b1, b2, hbG, hbP, hsub _ _ b3, b4, b5, b6⟩ fun c' ctv h' tk hx hge hlt hrec htb => ?_
  obtain ⟨c₂, oc, vs, t, e2, hoc, hd, hv⟩ := hrec
  cases e2
  have hcn : s.heap.get? c' = none := Heap.get?_none_of_le hge
  have F1 : Fm w B { s with heap := h', toks := tk } ((c', CodeP (env.qual ++ "<lambda>")) :: own' (ps ++ #[rawInt pos.line, rawInt pos.col, .ref c'])) :=
    F.extAdd (U _) (s' := { s with heap := h', toks := tk }) ⟨fun b o hb e => hx b o (by simpa using hb) e, rfl, rfl⟩ ⟨_, htb, rfl⟩ hcn ⟨_, hoc, vs, t, hd, hv⟩
  exact h _ c' ((mg "__name__").getD .none) ctv _ (F1.push (o := kla_obj "<lambda>" (env.qual ++ "<lambda>") params body scope clos ((mg "__name__").getD .none) c' ctv) (P := fun o => o = kla_obj "<lambda>" (env.qual ++ "<lambda>") params body scope clos ((mg "__name__").getD .none) c' ctv) (t := tk) rfl rfl)
end
end

section
open PySem PySem.W PySem.Spec PySem.Calls PyProof.Rows
set_option Elab.async false
set_option maxRecDepth 100000
set_option maxHeartbeats 0
theorem f_sa (P : Params) : findIn (KH P) (.ref 209) (Str.ofString "__setattr__") = some (some (.builtin "object.__setattr__")) := by kernel_rfl
theorem has209 (P : Params) : (clsIn (KH P) 209).any (·.hasDict) = true := by kernel_rfl
theorem mro_eq (P : Params) : ∃ cd, clsIn (KH P) 209 = some cd ∧ cd.hasDict = true ∧ cd.mro = [.ref 209, .type "collections.defaultdict", .type "dict", .type "object"] := by
  have h : (clsIn (KH P) 209).any (fun cd => cd.hasDict && cd.mro == [.ref 209, .type "collections.defaultdict", .type "dict", .type "object"]) = true := by kernel_rfl
  obtain ⟨cd, h1, h2⟩ := any_some h
  rw [Bool.and_eq_true] at h2
  exact ⟨cd, h1, h2.1, eq_of_beq h2.2⟩
theorem f_frz (P : Params) : findIn (KH P) (.ref 209) (Str.ofString "_frozen") = some none := by kernel_rfl
theorem m_ob (P : Params) : mroIn (KH P) 209 (.type "object") = some true := by kernel_rfl
section
variable {w : World} {A : Around} {h : Heap} {g : Array GenState} {d : Drawn} {t : Nat} {os : OsState} {E : Value → Shared → Prop}
theorem rl_209 (self : Value) : refuseLoop self "__setattr__" [.ref 209, .type "collections.defaultdict", .type "dict", .type "object"] = pure () := by
  rw [refuseLoop_ref]
  kernel_rfl
theorem osa_book {b dx : Addr} {tk : Tok} {v : Value} {R : Result → Shared → Prop} (x : BkI w h b dx emptyDict) (hd : ∃ ox, h.get? b = some ox ∧ ox.cls = .ref 209 ∧ ox.dict = some dx)
    (hx : h.get? dx = some emptyDict)
    (hq : ∀ h' t' o', Heap.SameBut dx h h' → h'.get? dx = some o' → DxP (some v) o' → R (.ok (.ret .none)) ⟨h', g, d, t', os⟩) :
    codeAny (Md w) A (.call (.builtin "object.__setattr__") ⟨[.ref b, .str (Str.ofString "_frozen") tk, v], []⟩) R ⟨h, g, d, t, os⟩ := by
  have SF := PySem.F.store_object
  have X := x.wg.K
  obtain ⟨cd, hc, hdc, hm0⟩ := mro_eq w.params
  have hm : Looks (Md w) h (mroOf (.ref 209)) cd.mro := (looks_clsIn X hc).andThen .now
  refine codeAny_call_builtin SF.slot.plain SF.entry (@check_slot (Md w) _ _ _ "object.__setattr__" "object" "__setattr__" (.ref b) [.str (Str.ofString "_frozen") tk, v] [] _ SF.kind SF.split (x.inst (m_ob w.params)) (SF.args _ _ _) ?_)
  rw [osa_eq, refuse_eq]
  refine wpAny_bind (wpAny_bind (x.ty.here (wpAny_bind (hm.here ?_))))
  rw [hm0, rl_209]
  refine wpAny_pure (wpAny_bind (x.ty.here (wpAny_bind ((looks_findIn X (f_frz w.params)).here ?_))))
  obtain ⟨ox, hb, hcl, hod⟩ := hd
  obtain ⟨oc, odi, oda, osl⟩ := ox
  dsimp only at hcl hod
  subst hcl hod
  refine wpAny_bind (wpAny_pure ?_)
  refine wpAny_bind (wpAny_pure (wpAny_bind (wpAny_bind (wpAny_loadPart hb (wpAny_bind ((looks_clsIn X hc).here ?_))))))
  rw [hdc]
  refine wpAny_pure (a := some dx) (wpAny_bind (wpAny_pure (wpAny_bind ?_)))
  unfold nsSet
  refine wpAny_bind (wpAny_bind (wpAny_askSetting (wpAny_pure (wpAny_bind (wpAny_mkText (wpAny_bind (wpAny_loadPart hx ?_)))))))
  refine wpAny_updatePart hx ?_
  have e1 : ∃ ep, Obj.putName (Str.ofString "_frozen") (PyData.keyHash w.params (Str.ofString "_frozen")) (.str (Str.ofString "_frozen") t) v emptyDict = froDict (PyData.keyHash w.params (Str.ofString "_frozen")) t v ep := ⟨_, rfl⟩
  obtain ⟨ep, e1⟩ := e1
  have hs : Heap.SameBut dx h (h.update dx (Obj.putName (Str.ofString "_frozen") (PyData.keyHash w.params (Str.ofString "_frozen")) (.str (Str.ofString "_frozen") t) v)) := Heap.SameBut.update ..
  have hx' : (h.update dx (Obj.putName (Str.ofString "_frozen") (PyData.keyHash w.params (Str.ofString "_frozen")) (.str (Str.ofString "_frozen") t) v)).get? dx = some (froDict (PyData.keyHash w.params (Str.ofString "_frozen")) t v ep) := (Heap.get?_update_self _ hx (by rw [e1]; rfl)).trans (congrArg some e1)
  refine wpAny_bind (wpAny_lookBehind hx' (by exact pastItsLine_dict (by rw [sizeLine_eq]; exact Nat.le_of_lt_succ (by show 1 < _; omega))) ?_)
  exact wpAny_pure (hq _ (t + 1) _ hs hx' ⟨_, _, _, rfl⟩)
end
end

section
open PySem PySem.W PySem.Spec PySem.Calls PyProof.Rows
set_option Elab.async false
set_option maxRecDepth 100000
set_option maxHeartbeats 0
theorem bi_sa (self : Value) : bindSpecial (.builtin "object.__setattr__") self = pure (.builtin "object.__setattr__", [self]) := PySem.F.store_object.slot.bind self
theorem o_setfro {w : World} {A : Around} {B s : Shared} {own own' : Led} {E : Value → Shared → Prop} {Q : Unit → Shared → Prop} {b dx : Addr} {kvs : List (Str × Value)} {v : Value} (F : Fm w B s own) (hb : (b, BkP w dx kvs) ∈ own)
    (U : UpdE dx (DxP none) (DxP (some v)) own own') (h1 : (b == sysModules) = false)
    (h : ∀ s', Fm w B s' own' → Q () s') : wpAny (Md w) A (setAttr (.ref b) (Str.ofString "_frozen") v) Q E s := by
  have x := bk_at F hb h1
  have hbo := F.sat _ hb
  obtain ⟨od, hod, hod2⟩ := F.sat _ U.mem
  have hod2 : od = emptyDict := hod2
  subst hod2
  have hi := bk_inst hbo hod
  obtain ⟨hh, g, d, tk, os⟩ := s
  have x : BkAt w hh b := x
  have hod : hh.get? dx = some emptyDict := hod
  unfold setAttr
  refine wpAny_bind (wpAny_mkText ?_)
  unfold callSpecial?
  refine wpAny_bind (wpAny_bind ((x.find (f_sa w.params)).here (wpAny_holding (wpAny_bind ?_))))
  rw [bi_sa]
  refine wpAny_pure (wpAny_bind (wpAny_call ?_))
  refine osa_book ⟨x, hi⟩ ?_ hod fun h' t' o' hs ho hD => ?_
  · obtain ⟨o, ho, es, ep, rfl, hes⟩ := hbo
    exact ⟨_, ho, rfl, rfl⟩
  refine wpAny_pure ?_
  exact wpAny_pure (h _ (F.upd U hs ⟨o', ho, hD⟩))
end

section
open PySem PySem.W PySem.Spec PySem.Calls PyProof.Rows
set_option Elab.async false
set_option maxRecDepth 100000
set_option maxHeartbeats 0
theorem Fm.trans {w : World} {B s s' : Shared} {own own1 : Led} (F : Fm w B s own) (F1 : Fm w s s' own1) : Fm w B s' (own1 ++ own) := by
  have hf : ∀ p ∈ own1 ++ own, B.heap.get? p.1 = none := fun p hp => by
    rcases List.mem_append.mp hp with hp | hp
    · cases q : B.heap.get? p.1 with
      | none => rfl
      | some o => have := F.keep _ _ q; rw [F1.fresh _ hp] at this; cases this
    · exact F.fresh _ hp
  have hn : ((own1 ++ own).map (·.1)).Nodup := by
    rw [List.map_append, List.nodup_append]
    refine ⟨F1.nd, F.nd, fun a ha b hb e => ?_⟩
    subst e
    obtain ⟨p, hp, rfl⟩ := List.mem_map.mp ha
    obtain ⟨q, hq, hqe⟩ := List.mem_map.mp hb
    obtain ⟨o, ho, _⟩ := F.sat _ hq
    have := F1.fresh _ hp
    rw [← hqe, ho] at this
    cases this
  have hs : ∀ p ∈ own1 ++ own, ∃ o, s'.heap.get? p.1 = some o ∧ p.2 o := fun p hp => by
    rcases List.mem_append.mp hp with hp | hp
    · exact F1.sat _ hp
    · obtain ⟨o, ho, h⟩ := F.sat _ hp
      exact ⟨o, F1.keep _ _ ho, h⟩
  exact ⟨F.wg, hs, hn, hf, fun a o e => F1.keep _ _ (F.keep _ _ e), F1.gens.trans F.gens, F1.os.trans F.os⟩
end

section
open PySem PySem.W PySem.Spec PySem.Calls PyProof.Rows
set_option Elab.async false
set_option maxRecDepth 100000
set_option maxHeartbeats 0
theorem lay1 {cr : List (Str × Addr)} {a : Str} (h : cr.map (·.1) = [a].reverse) : ∃ c, cr = [(a, c)] := by
  obtain ⟨x, c1, e1, h1⟩ := lay_c (a := a) (r := []) h
  exact ⟨x, by rw [e1, List.map_eq_nil_iff.mp h1]⟩
theorem x_setat {M : Model} {A : Around} {E : Value → Shared → Prop} {Q : Flow → Shared → Prop} {s : Shared} {env : Env} {rest : List Stmt} {o value : Expr} {attr : Str} {pos' pos : Pos} (h : wpAny M A (eval value env) (fun v s₁ => wpAny M A (eval o env) (fun ov s₂ => wpAny M A (setAttr ov attr v) (fun _ s₃ => wpAny M A (execs rest env) Q E s₃) E s₂) E s₁) E s)
    (hs : swapsWith value (some (.Attribute o attr pos')) pos.line env = pure false := by with_unfolding_all rfl) : wpAny M A (execs (.Assign [.Attribute o attr pos'] value pos :: rest) env) Q E s := x_one (plainObj_wpAny_Assign_Attribute h hs)
noncomputable def lamOf (l : List Stmt) : Option (Arguments × Expr × Scope) := match l with
  | [.Assign _ (.Lambda ps b sc _) _] => some (ps, b, sc)
  | _ => none
noncomputable def FroP (w : World) (q : Str) (c cs : Addr) (o : Obj) : Prop := ∃ ps b sc pm ctv, lamOf (bodyOf (fdOf (KH w.params) 206)) = some (ps, b, sc) ∧ o = kla_obj "<lambda>" q ps b sc [(Str.ofString "self", cs)] pm c ctv
theorem cEnv_code {fd : FuncData} {f L : Addr} {cr : List (Str × Addr)} : (cEnv fd f L cr).code = fd.code := rfl
theorem fd206_code (P : Params) : (fdOf (KH P) 206).code = .ref 205 := by kernel_rfl
theorem c_freeze {w : World} {A : Around} {B s : Shared} {n : Nat} {R : Result → Shared → Prop} {b dx : Addr} {kvs : List (Str × Value)} {own : Led} {own1 : Array Value → Led} {own2 : Array Value → Value → Led} (hA : Rm A (n + 1)) (F : Fm w B s own) (hb : ∀ ps, (b, BkP w dx kvs) ∈ own1 ps) (h1 : (b == sysModules) = false)
    (U1 : ∀ ps', UpdE 201 (TabP #[]) (TabP ps') own (own1 ps')) (U2 : ∀ ps v, UpdE dx (DxP none) (DxP (some v)) (own1 ps) (own2 ps v))
    (h : ∀ f c' cs q ps s', Fm w B s' ((f, FroP w q c' cs) :: (c', CodeP q) :: (cs, CellP (some (.ref b))) :: own2 ps (.ref f)) → R (.ok (.ret .none)) s') :
    codeAny (Md w) A (.call (.ref 206) ⟨[.ref b], []⟩) R s := by
  with_reducible refine enterC (cs := [Str.ofString "self"]) (binds := [(Str.ofString "self", .ref b)]) (ks := [(Str.ofString "self", .cell)]) hA F.base (by kernel_rfl) (by kernel_rfl) (by kernel_rfl) ?_
  intro L cr s1 hcr F1 hA' hk E' A'
  obtain ⟨cs, rfl⟩ := lay1 hcr
  replace F1 : Fm w B s1 ((cs, CellP none) :: (L, NsP []) :: own) := F.trans F1
  with_reducible refine bp_cons ?_
  with_reducible refine st_cell F1 hk (by kd_mem) (by kd_mem) (by kd_all) ?_
  intro s2 F2
  with_reducible refine bp_nil ⟨F2.base, ?_⟩
  conv in bodyOf _ => whnf
  with_reducible refine x_setat (e_lam (c := 205) (P := 201) (ps := #[]) (own' := fun ps' => (cs, CellP (some (.ref b))) :: (L, NsP []) :: own1 ps') (clos := [(Str.ofString "self", cs)]) F2 hk (cEnv_code.trans (fd206_code w.params)) (fun _ WG => WG.c2) (fun ps' => .tail (.tail (U1 ps'))) ?_ ?_ ?_ ?_ ?_)
  rotate_left 4
  · intro f c' pm ctv s3 F3
    with_reducible refine e_cell F3 hk (by kd_mem) (by kd_mem) (.led (by kd_mem)) ?_
    with_reducible refine o_setfro (kvs := kvs) F3 (by exact List.mem_cons_of_mem _ (List.mem_cons_of_mem _ (List.mem_cons_of_mem _ (List.mem_cons_of_mem _ (hb _))))) (.tail (.tail (.tail (.tail (U2 _ _))))) h1 ?_
    intro s4 F4
    with_reducible refine x_nil ?_
    refine h f c' cs _ _ s4 ((F4.imp (P' := FroP w _ c' cs) .head fun o e => ?_).weak (.cons_cons _ (.cons_cons _ (.cons_cons _ (.cons _ (List.Sublist.refl _))))))
    exact ⟨_, _, _, _, _, by with_unfolding_all rfl, e⟩
  · first | exact .nil | trivial | simp [TriplesOk]
  · first | rfl
  · first | rfl | with_unfolding_all rfl
  · first | rfl | with_unfolding_all rfl
end

section
open PySem PySem.W PySem.Spec PySem.Calls PyProof.Rows
set_option Elab.async false
set_option maxRecDepth 100000
set_option maxHeartbeats 0
theorem fo_df (P : Params) (hsh : Int) (t : Tok) (v : Value) (ep : Nat) : findObj (KH P) 209 (some (froDict hsh t v ep)) (Str.ofString "default_factory") = some (.bind (.builtin "member_descriptor.__get__") (.builtin "collections.defaultdict.default_factory")) := by kernel_rfl
theorem en_mg : entryFor table "member_descriptor.__get__" = some Builtin.«member_descriptor.__get__» := entryFor_of_tree (by kernel_rfl)
theorem en_df : entryFor table "collections.defaultdict.default_factory" = some Builtin.«collections.defaultdict.default_factory» := entryFor_of_tree (by kernel_rfl)
end

section
open PySem PySem.W PySem.Spec PySem.Calls PyProof.Rows Builtin Builtin.ObjectAttr Builtin.Getset_descriptor
set_option Elab.async false
set_option maxRecDepth 100000
set_option maxHeartbeats 0
theorem k_mg : builtinKind "member_descriptor.__get__" = some .slot := by decide +kernel
theorem sp_mg : splitId "member_descriptor.__get__" = some ("member_descriptor", "__get__") := by decide +kernel
theorem ar_mg (a b c : Value) : argsOk "member_descriptor.__get__" ⟨[a, b, c], []⟩ := by unfold argsOk; kernel_rfl
theorem in_mg : isInstance (.builtin "collections.defaultdict.default_factory") (.type "member_descriptor") = pure true := by kernel_rfl
section
variable {w : World} {A : Around} {h : Heap} {g : Array GenState} {d : Drawn} {t : Nat} {os : OsState} {R : Result → Shared → Prop}
theorem df_get {b : Addr} (x : BkAt w h b) (hb : ∃ o, h.get? b = some o ∧ o.slots = #[some (.type "list")]) (hq : R (.ok (.ret (.type "list"))) ⟨h, g, d, t, os⟩) :
    codeAny (Md w) A (.call (.builtin "member_descriptor.__get__") ⟨[.builtin "collections.defaultdict.default_factory", .ref b, .ref 209], []⟩) R ⟨h, g, d, t, os⟩ := by
  obtain ⟨o, ho, hs⟩ := hb
  have L0 := x.ty
  have e1 : ".".intercalate ("collections.defaultdict.default_factory".cutAt '.').dropLast = "collections.defaultdict" := by decide +kernel
  have L1 : Looks (Md w) h (isSubtype (.ref 209) (.type (".".intercalate ("collections.defaultdict.default_factory".cutAt '.').dropLast))) true := by rw [e1]; exact looks_mroIn x.wg.K (m_dd w.params)
  refine codeAny_call_builtin KF.slot_mem.plain en_mg (@check_slot (Md w) _ _ _ "member_descriptor.__get__" "member_descriptor" "__get__" (.builtin "collections.defaultdict.default_factory") [.ref b, .ref 209] [] _ k_mg sp_mg (Looks.of_pure in_mg) (ar_mg _ _ _) ?_)
  unfold Builtin.«member_descriptor.__get__» descrGet
  rw [dga_obj]
  refine wpAny_bind (wpAny_pure ?_)
  unfold descrGetter descrCheckInstance descrNameAndClass isInstance
  repeat lk
  refine ⟨Code.quiet_builtin _ (by decide +kernel), codeAny_builtin en_df ?_⟩
  unfold Builtin.«collections.defaultdict.default_factory» Builtin.Collections_defaultdict.factory?
  have L5 : Looks (Md w) h (slotAt b 0) (some (.type "list")) := (Looks.ld ho).andThen (by rw [hs]; exact .now)
  repeat lk
  exact hq
end
end

section
open PySem PySem.W PySem.Spec PySem.Calls PyProof.Rows Builtin Builtin.ObjectAttr
set_option Elab.async false
set_option maxRecDepth 100000
set_option maxHeartbeats 0
section
variable {w : World} {A : Around} {h : Heap} {g : Array GenState} {d : Drawn} {t : Nat} {os : OsState} {R : Result → Shared → Prop}
theorem oga_df {b dx : Addr} {tk t' : Tok} {hsh : Int} {v : Value} {ep : Nat} (x : BkI w h b dx (froDict hsh t' v ep)) (hb : ∃ o, h.get? b = some o ∧ o.slots = #[some (.type "list")]) (hq : R (.ok (.ret (.type "list"))) ⟨h, g, d, t, os⟩) :
    codeAny (Md w) A (.call (.builtin "collections.defaultdict.__getattribute__") ⟨[.ref b, .str (Str.ofString "default_factory") tk], []⟩) R ⟨h, g, d, t, os⟩ := by
  obtain ⟨ox, I⟩ := x.I
  have L1 := x.ty
  have L2 := looks_find (M := Md w) x.wg.K I (fo_df w.params hsh t' v ep)
  refine codeAny_call_builtin_at (Code.quiet_builtin _ qu_ddga) en_ddga (@check_slot (Md w) _ _ _ "collections.defaultdict.__getattribute__" "collections.defaultdict" "__getattribute__" (.ref b) [.str (Str.ofString "default_factory") tk] [] _ k_ddga sp_ddga (x.inst (m_dd w.params)) (ar_ddga _ _) ?_)
  rw [Around.under_plain (w_ddga _) rfl]
  unfold Builtin.«object.__getattribute__»
  iterate 6 lk
  unfold bindTo
  repeat (first | with_reducible refine wpAny_call (df_get x.toBkAt hb ?_) | lk)
  exact hq
end
end

section
open PySem PySem.W PySem.Spec PySem.Calls PyProof.Rows Builtin Builtin.ObjectAttr
set_option Elab.async false
set_option maxRecDepth 100000
set_option maxHeartbeats 0
theorem can_ga : (Manifest.canonical "collections.defaultdict.__getattribute__" != "object.__getattribute__") = false := by decide +kernel
theorem ty_df : typeOf (.builtin "collections.defaultdict.default_factory") = pure (.type "member_descriptor") := by kernel_rfl
section
variable {w : World} {A : Around} {h : Heap} {g : Array GenState} {d : Drawn} {t : Nat} {os : OsState} {E : Value → Shared → Prop}
theorem gat_df {b dx : Addr} {t' : Tok} {hsh : Int} {v : Value} {ep : Nat} {Q : Value → Shared → Prop} (x : BkI w h b dx (froDict hsh t' v ep)) (hb : ∃ o, h.get? b = some o ∧ o.slots = #[some (.type "list")]) (hq : Q (.type "list") ⟨h, g, d, t + 1, os⟩) :
    wpAny (Md w) A (getAttr (.ref b) (Str.ofString "default_factory")) Q E ⟨h, g, d, t, os⟩ := by
  have L1 := x.ty
  have L2 := looks_findIn (M := Md w) x.wg.K (f_ga w.params)
  have L3 := looks_findIn (M := Md w) x.wg.K (f_gat w.params)
  have f4 := slot_ddga.bind (.ref b)
  unfold getAttr getAttrBy
  refine wpAny_bind (wpAny_mkText (wpAny_holding (wpAny_bind (L1.at (wpAny_bind (L2.at ?_))))))
  show wpAny _ _ (getAttrByItsOwn (.ref b) _ (.ref 209) (.builtin "collections.defaultdict.__getattribute__") true false) _ _ _
  unfold getAttrByItsOwn hookBefore callGetattribute boundAndCalled
  refine wpAny_bind (L3.at (wpAny_bind (wpAny_attempt (wpAny_holding ?_))))
  show wpAny _ _ (bindSpecial (.builtin "collections.defaultdict.__getattribute__") (.ref b) >>= _) _ _ _
  refine wpAny_bind (wpAny_of_eq f4 ?_)
  refine wpAny_call (oga_df x hb ?_)
  show wpAny _ _ (handedOut (.type "list")) _ _ _
  rw [handedOut_of rfl]
  exact wpAny_pure hq
theorem gm_df {b dx : Addr} {t' : Tok} {hsh : Int} {v : Value} {ep : Nat} {pl : Sem Bool} {Q : Value × List Value → Shared → Prop} (x : BkI w h b dx (froDict hsh t' v ep)) (hb : ∃ o, h.get? b = some o ∧ o.slots = #[some (.type "list")]) (hq : Q (.type "list", []) ⟨h, g, d, t + 1, os⟩) :
    wpAny (Md w) A (getMethod (.ref b) (Str.ofString "default_factory") pl) Q E ⟨h, g, d, t, os⟩ := by
  unfold getMethod
  refine wpAny_bind ((x.toBkAt.find (f_ga w.params)).here ?_)
  dsimp only
  rw [can_ga]
  simp only [Bool.false_eq_true, if_false]
  refine wpAny_bind ((x.toBkAt.find (f_gat w.params)).here ?_)
  simp only [Option.isSome_none, Bool.false_eq_true, if_false]
  refine wpAny_bind ((x.toBkAt.find (f_df w.params)).here ?_)
  dsimp only
  refine wpAny_bind (wpAny_of_eq ty_df ?_)
  rw [if_pos (by decide +kernel)]
  have hg : wpAny (Md w) A (getAttr (.ref b) (Str.ofString "default_factory")) (fun v s' => Q (v, []) s') E ⟨h, g, d, t, os⟩ := gat_df x hb hq
  refine wpAny_bind (wpAny_mono hg (fun v s' z => ?_) fun _ _ z => z)
  exact wpAny_pure z
end
theorem lam_body {w : World} {A A' : Around} {B s s1 : Shared} {own : Led} {R : Result → Shared → Prop} {E : Value → Shared → Prop} {env : Env} {b dx cs L : Addr} {kvs : List (Str × Value)} {key v : Value} {p1 p2 p3 : Pos} (hk : Ks env L [(Str.ofString "self", cs)] [(Str.ofString "key", .local), (Str.ofString "self", .free)])
    (F : Fm w B s own) (F1 : Fm w s s1 [(L, NsP [])]) (hb : (b, BkP w dx kvs) ∈ own) (h1 : (b == sysModules) = false) (hl : (p2.endLine == p3.line) = true)
    (hd : (dx, DxP (some v)) ∈ own) (hcs : (cs, CellP (some (.ref b))) ∈ own) (h : ∀ D s', Fm w B s' ((D, LS []) :: own) → R (.ok (.ret (.ref D))) s') :
    BindP (Md w) A' E env [(Str.ofString "key", key)] (fun s2 => s2.heap.NoLimit ∧ codeAny (Md w) A (.expr (.Call (.Attribute (.Name (Str.ofString "self") p1) (Str.ofString "default_factory") p2) [] [] p3) env) R s2) s1 := by
  with_reducible refine bp_cons ?_
  kst_all
  rename_i s2 F2
  obtain ⟨G, WG, hs⟩ := F2.base
  obtain ⟨mg, mb, p, loose, mean, T⟩ := WG.T
  have F3 := F.trans F2
  refine bp_nil ⟨T.nolimit.keeps hs, kla_codeExpr (wpAny_mono (E := fun _ _ => False) ?_ (fun _ _ z => z) fun _ _ z => z.elim)⟩
  with_reducible refine c_meth (hline := hl) ?_
  have hcs3 : (cs, CellP (some (.ref b))) ∈ [(L, NsP [(Str.ofString "key", key)])] ++ own := List.mem_append_right _ hcs
  with_reducible refine e_free F3 hk (by kd_mem) (by kd_mem) (.led hcs3) ?_
  with_reducible refine fun _ => ?_
  have x := bk_at F3 (List.mem_append_right _ hb) h1
  have hbo := F3.sat _ (List.mem_append_right _ hb)
  obtain ⟨od, hod, hsh, tt, ep, rfl⟩ := F3.sat _ (List.mem_append_right _ hd)
  have hi := bk_inst hbo hod
  have hsl : ∃ o, s2.heap.get? b = some o ∧ o.slots = #[some (.type "list")] := by
    obtain ⟨o, ho, es, ep, rfl, hes⟩ := hbo
    exact ⟨_, ho, rfl⟩
  obtain ⟨hh, g, d, tk, os⟩ := s2
  refine gm_df (dx := dx) ⟨x, hi⟩ hsl ?_
  with_reducible refine cw_ty (ev_nil (list0 ?_))
  intro h' hkk hn
  have F4 := F.trans (F2.tok (tk + 1))
  have F5 := F4.add (a := hh.objs.size) (P := LS []) (s' := ⟨h', g, d, tk + 1, os⟩) ⟨hkk, rfl, rfl⟩ (Heap.get?_none_of_le (Nat.le_refl _)) (let ⟨n, e⟩ := hn; ⟨_, e, [], .nil, n, rfl⟩)
  exact h _ _ (F5.weak (.cons_cons _ (.cons _ (List.Sublist.refl _))))
theorem c_lam {w : World} {A : Around} {B s : Shared} {own : Led} {n : Nat} {R : Result → Shared → Prop} {b dx f c cs : Addr} {q : Str} {kvs : List (Str × Value)} {key : Value} (hA : Rm A (n + 1)) (F : Fm w B s own) (hb : (b, BkP w dx kvs) ∈ own) (h1 : (b == sysModules) = false)
    (hd : (dx, DxP (some (.ref f))) ∈ own) (hf : (f, FroP w q c cs) ∈ own) (hc : (c, CodeP q) ∈ own) (hcs : (cs, CellP (some (.ref b))) ∈ own)
    (h : ∀ D s', Fm w B s' ((D, LS []) :: own) → R (.ok (.ret (.ref D))) s') :
    codeAny (Md w) A (.call (.ref f) ⟨[key], []⟩) R s := by
  obtain ⟨of, hof, ps, bd, sc, pm, ctv, e, rfl⟩ := F.sat _ hf
  obtain ⟨oc, hoc, vs, tq, hocd, hv1⟩ := F.sat _ hc
  conv at e => lhs; whnf
  cases e
  refine kla_callFunE hA.room hof rfl rfl rfl rfl ⟨c, oc, vs, tq, rfl, hoc, hocd, hv1⟩ ?_
  refine wpAny_of_eq (a := [(Str.ofString "key", key)]) (by kernel_rfl) ?_
  refine wp_newEnv (Fm.start F.base) fun L cr s1 hcr F1 => ?_
  cases cr with
  | cons _ _ => exact absurd (congrArg List.length hcr) (by simp [cellNames])
  | nil => exact lam_body ⟨rfl, rfl, rfl, rfl, look_of (by kernel_rfl), kinds_of (by kernel_rfl)⟩ F F1 hb h1 rfl hd hcs h
theorem cw_lam {w : World} {A : Around} {E : Value → Shared → Prop} {env : Env} {pos : Pos} {s : Shared} {Q : Value → Shared → Prop} {f c cs : Addr} {q : Str} {args : List Expr}
    (h : Ev (Md w) A E env args (fun vs s₁ => (∃ o, s₁.heap.get? f = some o ∧ FroP w q c cs o) ∧ wpAny (Md w) A (call (.ref f) vs) Q E s₁) s) (hp : args.all plainE = true := by with_unfolding_all rfl) :
    wpAny (Md w) A (callWith pos (.ref f) [] (backTo pos (starEach args env)) []) Q E s := by
  have key : ∀ h, (∃ o, h.get? f = some o ∧ FroP w q c cs o) → ∃ k, (k = Keeper.frame ∨ k = Keeper.machine ∨ k = Keeper.boundFrame) ∧ Looks (Md w) h (keeperOf (.ref f)) k := by
    rintro h ⟨o, ho, ps, b, sc, pm, ctv, e, rfl⟩
    refine ⟨.frame, .inl rfl, (Looks.ld (part := none) ho).andThen ?_⟩
    exact .now
  exact callWith_of (P := fun h => ∃ o, h.get? f = some o ∧ FroP w q c cs o) (by rw [backTo_plain hp]; rfl) key (evalArgs_ev hp h)
theorem o_fmiss {w : World} {A : Around} {B s : Shared} {own : Led} {E Q : Value → Shared → Prop} {n : Nat} {b dx f c cs : Addr} {q : Str} {kvs : List (Str × Value)} {k : Str} {t : Tok} (hA : Rm A (n + 3)) (F : Fm w B s own)
    (hb : (b, BkP w dx kvs) ∈ own) (h1 : (b == sysModules) = false) (hd : (dx, DxP (some (.ref f))) ∈ own) (hf : (f, FroP w q c cs) ∈ own) (hc : (c, CodeP q) ∈ own) (hcs : (cs, CellP (some (.ref b))) ∈ own) (hv : bkGet kvs k = none)
    (h : ∀ D s', Fm w B s' ((D, LS []) :: own) → Q (.ref D) s') : wpAny (Md w) A (getItem (.ref b) (.str k t)) Q E s := by
  have x := bk_at F hb h1
  have hbo := F.sat _ hb
  obtain ⟨od, hod, hsh, tt, ep, rfl⟩ := F.sat _ hd
  refine bk_miss x hbo hv ?_
  have hi := bk_inst hbo hod
  have F1 := F.tok (s.toks + 1)
  refine c_missing (n := n + 1) (od := froDict hsh tt (.ref f) ep) (dx := dx) hA.in1 ⟨⟨x.wg, x.ty, x.ne⟩, hi⟩ (ne_209 F hb) ?_ fun L q1 s2 tk F2 hA2 hk2 => ?_
  · obtain ⟨o, ho, es, ep, rfl, hes⟩ := hbo
    exact ⟨_, ho, rfl, fun c e => by cases e⟩
  have k2 := F2.keep
  have hbo2 : ∃ o, s2.heap.get? b = some o ∧ BkP w dx kvs o := let ⟨o, e, z⟩ := hbo; ⟨o, k2 _ _ e, z⟩
  have hod2 := k2 _ _ hod
  have x2 : BkI w s2.heap b dx (froDict hsh tt (.ref f) ep) := ⟨x.keeps k2, bk_inst hbo2 hod2⟩
  have F3 : Fm w B s2 ((q1, fun o => o = bmObj b) :: (L, NsP [(Str.ofString "self", .ref b), (Str.ofString "key", .str k t)]) :: own) := F1.trans F2
  obtain ⟨hh, g, d, tk2, os⟩ := s2
  refine ga3 x2 fun A' hA' => oga_fro x2 ⟨rfl, fun pos pos' => ?_⟩
  refine cw_lam (q := q) (c := c) (cs := cs) (ev_cons ?_)
  with_reducible refine e_loc F3 hk2 (by kd_mem) (by kd_mem) (by kd_mem) ?_
  refine ev_nil ⟨F3.sat _ (.tail _ (.tail _ hf)), wpAny_call ?_⟩
  refine c_lam hA2 F3 (.tail _ (.tail _ hb)) h1 (.tail _ (.tail _ hd)) (.tail _ (.tail _ hf)) (.tail _ (.tail _ hc)) (.tail _ (.tail _ hcs)) fun D s' F4 => ?_
  exact h _ _ (F4.weak (.cons_cons _ (.cons _ (.cons _ (List.Sublist.refl _)))))
end

section
open PySem PySem.W PySem.Spec PySem.Calls PyProof.Rows Builtin Builtin.ObjectAttr
set_option Elab.async false
set_option maxRecDepth 100000
set_option maxHeartbeats 0
theorem f_len (P : Params) : findIn (KH P) (.ref 209) (Str.ofString "__len__") = some (some (.builtin "dict.__len__")) := by kernel_rfl
section
variable {w : World} {A : Around} {E : Value → Shared → Prop} {s : Shared} {it d : Addr} {i n ep : Nat} {od : Obj} {es : Array DictEntry}
theorem ki_item {e : DictEntry} {Q : Option Value → Shared → Prop} (hit : s.heap.IsKeyIter it d i n ep) (hod : s.heap.get? d = some od) (hdd : od.data = .dict es ep) (hn : es.size = n) (hi : es[i]? = some e)
    (hQ : ∀ h', h'.IsKeyIter it d (i + 1) n ep → Heap.SameBut it s.heap h' → Q (some e.key) { s with heap := h' }) : wpAny (Md w) A (pyNext (.ref it)) Q E s := by
  obtain ⟨o, ho, hc, hf⟩ := id hit
  have own : Builtin.Dict_items.ownsTuple "dict_keyiterator" = false := by decide
  unfold pyNext
  refine wpAny_bind (wpAny_attempt (wpAny_callSpecial?_slot (name := Str.ofString "__next__") hit.typeIs PySem.F.slot_dict_keyiterator_next (wpAny_call_entry PySem.F.slot_dict_keyiterator_next hit.typeIs PySem.F.entry_dict_keyiterator_next ?_ (PySem.F.args_dict_keyiterator_next_1 _))))
  refine wpAny_bind (wpAny_pure (wpAny_bind (wpAny_bind (wpAny_bind (wpAny_typeNameOfWhole_keyiter hit.typeIs (wpAny_pure (wpAny_bind (wpAny_fieldsOf ho hf ?_))))))))
  rw [own, if_neg Bool.false_ne_true]
  show wpAny _ _ (if (Value.ref d == Value.none) = true then _ else _) _ _ s
  rw [if_neg (show ¬ ((Value.ref d == Value.none) = true) from Bool.false_ne_true)]
  refine wpAny_bind (wpAny_pure (wpAny_bind (wpAny_dictEntries hod hdd ?_)))
  rw [if_neg (by rw [hn]; simp)]
  refine wpAny_bind (wpAny_pure (wpAny_bind (wpAny_dictEpoch hod hdd ?_)))
  rw [if_neg (by simp)]
  refine wpAny_pure ?_
  dsimp only
  rw [if_neg (show ¬ ((i : Int) < 0) from by omega), Int.toNat_natCast, hi]
  dsimp only
  refine wpAny_bind (wpAny_bind (wpAny_typeNameOfWhole_keyiter hit.typeIs (wpAny_pure (wpAny_bind (wpAny_isOneOf_keyiter hit.typeIs ?_)))))
  show wpAny _ _ (setField (.ref it) 1 (rawInt ((i : Int) + 1)) >>= _) _ _ s
  refine wpAny_bind (wpAny_setField ho hf (by simp) ?_)
  have hit' : (s.heap.update it (Obj.mapFields (·.setIfInBounds 1 (rawInt ((i : Int) + 1))))).IsKeyIter it d (i + 1) n ep :=
    ⟨_, Heap.get?_update_self _ ho (Obj.isFreed_of_fields (Obj.data_mapFields hf _)), (Obj.cls_mapFields ..).trans hc, by rw [Obj.data_mapFields hf]; simp [rawInt]⟩
  refine wpAny_bind (wpAny_holding (wpAny_bind (wpAny_isOneOf_keyiter (s := { s with heap := s.heap.update it (Obj.mapFields (·.setIfInBounds 1 (rawInt ((i : Int) + 1)))) }) hit'.typeIs ?_)))
  show wpAny _ _ (pure e.key) _ _ _
  exact wpAny_pure (wpAny_pure ⟨_, rfl, wpAny_pure (hQ _ hit' (Heap.SameBut.update ..))⟩)
theorem ki_end {Q : Option Value → Shared → Prop} (hh : A.handled = none) (hit : s.heap.IsKeyIter it d n n ep) (hod : s.heap.get? d = some od) (hdd : od.data = .dict es ep) (hn : es.size = n)
    (hQ : ∀ h', Heap.ExtBut it s.heap h' → Q none { s with heap := h' }) : wpAny (Md w) A (pyNext (.ref it)) Q E s := by
  obtain ⟨o, ho, hc, hf⟩ := id hit
  have own : Builtin.Dict_items.ownsTuple "dict_keyiterator" = false := by decide
  have hi : es[n]? = none := Array.getElem?_eq_none (by omega)
  unfold pyNext
  refine wpAny_bind (wpAny_attempt (wpAny_callSpecial?_slot (name := Str.ofString "__next__") hit.typeIs PySem.F.slot_dict_keyiterator_next (wpAny_call_entry PySem.F.slot_dict_keyiterator_next hit.typeIs PySem.F.entry_dict_keyiterator_next ?_ (PySem.F.args_dict_keyiterator_next_1 _))))
  refine wpAny_bind (wpAny_pure (wpAny_bind (wpAny_bind (wpAny_bind (wpAny_typeNameOfWhole_keyiter hit.typeIs (wpAny_pure (wpAny_bind (wpAny_fieldsOf ho hf ?_))))))))
  rw [own, if_neg Bool.false_ne_true]
  show wpAny _ _ (if (Value.ref d == Value.none) = true then _ else _) _ _ s
  rw [if_neg (show ¬ ((Value.ref d == Value.none) = true) from Bool.false_ne_true)]
  refine wpAny_bind (wpAny_pure (wpAny_bind (wpAny_dictEntries hod hdd ?_)))
  rw [if_neg (by rw [hn]; simp)]
  refine wpAny_bind (wpAny_pure (wpAny_bind (wpAny_dictEpoch hod hdd ?_)))
  rw [if_neg (by simp)]
  refine wpAny_pure ?_
  dsimp only
  rw [if_neg (show ¬ ((n : Int) < 0) from by omega), Int.toNat_natCast, hi]
  dsimp only
  refine wpAny_bind (wpAny_bind (wpAny_typeNameOfWhole_keyiter hit.typeIs (wpAny_pure ?_)))
  show wpAny _ _ (setField (.ref it) 0 .none >>= _) _ _ s
  refine wpAny_bind (wpAny_setField ho hf (by simp) ?_)
  show wpAny _ _ (newExc (.type "StopIteration") [] >>= _) _ _ _
  refine wpAny_bind ?_
  simp only [newExc, newTuple]
  refine wpAny_bind (wpAny_newObj_type (wpAny_bind (m := firstArgMember _ _) (wpAny_of_eq (a := Value.none) (by first | rfl | (simp only [firstArgMember]; rfl)) (wpAny_newObj_type ?_ (by size_fits)))) (by size_fits))
  unfold raiseNew
  refine wpAny_bind (wpAny_handled ?_)
  rw [show A.in1.handled = none from hh]
  refine wpAny_bind (wpAny_pure (wpAny_throw ?_))
  refine wpAny_bind (wpAny_isInstance (T := "StopIteration") (b := true) ⟨_, Heap.get?_push_size _ rfl, rfl⟩ isSubtype_stop ?_)
  exact wpAny_pure (hQ _ (((Heap.SameBut.update ..).extBut.push _).push _))
theorem ki_walks (hh : A.handled = none) (hne : d ≠ it) (hdd : od.data = .dict es ep) (hn : es.size = n) :
    Walks PP w A it [it, d] [it] n (fun i v => ∃ e, es[i]? = some e ∧ v = e.key) (fun i h => h.IsKeyIter it d i n ep ∧ h.get? d = some od) where
  sub := fun b hb => by simp at hb; simp [hb]
  frame := fun i h h' st hk => ⟨st.1.at fun o e => hk it (by simp) o e, hk d (by simp) _ st.2⟩
  item := fun i s Q E hi st hQ => by
    have hi' : i < es.size := by omega
    refine ki_item st.1 st.2 hdd hn (Array.getElem?_eq_getElem hi') fun h' hit' hs' => ?_
    exact hQ _ h' s.toks ⟨_, Array.getElem?_eq_getElem hi', rfl⟩ ⟨hit', (hs'.2 d hne).trans st.2⟩ fun b o hb e => hs'.extBut b o (fun h => hb (by simp [h])) e
  done := fun s Q E st hQ => ki_end hh st.1 st.2 hdd hn fun h' he' => hQ h' s.toks fun b o hb e => he' b o (fun h => hb (by simp [h])) e
  self := fun _ _ _ _ st hQ => wpAny_pyIter_keyiter st.1 hQ
end
end

section
open PySem PySem.W PySem.Spec PySem.Calls PyProof.Rows Builtin Builtin.ObjectAttr
set_option Elab.async false
set_option maxRecDepth 100000
set_option maxHeartbeats 0
theorem k_dit : builtinKind "dict.__iter__" = some .slot := by decide +kernel
theorem sp_dit : splitId "dict.__iter__" = some ("dict", "__iter__") := by decide +kernel
theorem k_dln : builtinKind "dict.__len__" = some .slot := by decide +kernel
theorem sp_dln : splitId "dict.__len__" = some ("dict", "__len__") := by decide +kernel
theorem en_dln : entryFor table "dict.__len__" = some Builtin.«dict.__len__» := entryFor_of_tree (by kernel_rfl)
theorem ar_dln (a : Value) : argsOk "dict.__len__" ⟨[a], []⟩ := by unfold argsOk; kernel_rfl
theorem k_len : builtinKind "len" = none := by decide +kernel
theorem pl_len : plainId "len" = true := by decide +kernel
theorem en_len : entryFor table "len" = some Builtin.«len» := entryFor_of_tree (by kernel_rfl)
theorem ar_len (a : Value) : argsOk "len" ⟨[a], []⟩ := by unfold argsOk; kernel_rfl
section
variable {w : World} {A : Around} {h : Heap} {g : Array GenState} {d : Drawn} {t : Nat} {os : OsState} {E : Value → Shared → Prop}
theorem len_book {b dx ep : Nat} {es : Array DictEntry} {sl : Array (Option Value)} {Q : Value → Shared → Prop} (x : BkAt w h b) (hb : h.get? b = some { cls := .ref 209, dict := some dx, data := .dict es ep, slots := sl }) (hn : es.size ≤ 100000)
    (hq : ∀ tk tk', Q (.int es.size tk) ⟨h, g, d, tk', os⟩) : wpAny (Md w) A (call (.builtin "len") [.ref b]) Q E ⟨h, g, d, t, os⟩ := by
  refine wpAny_call (code_bi k_len pl_len en_len (ar_len _) ?_)
  have L1 := x.ty
  have L3 := x.find (f_len w.params)
  have L4 := x.inst (m_dict w.params)
  unfold Builtin.«len»
  refine wpAny_bind (wpAny_pure ?_)
  unfold callSpecial?
  refine wpAny_bind (wpAny_bind (L3.at (wpAny_holding (wpAny_bind (wpAny_of_eq (PySem.F.slot_dict_len.bind _) (wpAny_bind (wpAny_call ?_)))))))
  refine codeAny_call_builtin PySem.F.slot_dict_len.plain en_dln (@check_slot (Md w) _ _ _ "dict.__len__" "dict" "__len__" (.ref b) [] [] _ k_dln sp_dln L4 (ar_dln _) ?_)
  unfold Builtin.«dict.__len__» dictSize Builtin.Dict.pendingCount
  have e1 : (b == sysModules) = false := x.ne
  repeat (first | simp only [e1, Bool.false_eq_true, if_false] | lk)
  rw [if_neg (by omega)]
  repeat lk
  have := hq (t + 1) (t + 1 + 1)
  first | exact this | simpa using this
theorem iter_book {b dx ep : Nat} {es : Array DictEntry} {sl : Array (Option Value)} {Q : Value → Shared → Prop} (x : BkAt w h b) (hb : h.get? b = some { cls := .ref 209, dict := some dx, data := .dict es ep, slots := sl })
    (hq : Q (.ref h.objs.size) ⟨h.push { cls := .type "dict_keyiterator", data := .fields #[.ref b, .int 0 0, .int es.size 0, .int ep 0] }, g, d, t, os⟩) : wpAny (Md w) A (pyIter (.ref b)) Q E ⟨h, g, d, t, os⟩ := by
  have L1 := x.ty
  have L3 := x.find (f_it w.params)
  have L4 := x.inst (m_dict w.params)
  have L5 := x.inst (m_od w.params)
  have e1 : (b == sysModules) = false := x.ne
  unfold pyIter
  refine wpAny_bind (L3.at ?_)
  dsimp only
  refine wpAny_bind ?_
  simp only [callSpecialIfBoundUnlessNone?, bindSpecialIfBound?]
  refine wpAny_holding (wpAny_bind (wpAny_bind (L3.at ?_)))
  simp only [PySem.F.slot_dict_iter.bind]
  have fin : ∀ refuse : Sem Value, wpAny (Md w) A (if (Value.builtin "dict.__iter__" == Value.none) = true then (refuse >>= fun v => pure (some v)) else (call (.builtin "dict.__iter__") [.ref b] >>= fun v => pure (some v)))
      (fun r s' => r = some (.ref h.objs.size) ∧ s' = ⟨h.push { cls := .type "dict_keyiterator", data := .fields #[.ref b, .int 0 0, .int es.size 0, .int ep 0] }, g, d, t, os⟩) E ⟨h, g, d, t, os⟩ := fun refuse => by
    simp only [builtin_beq_none, Bool.false_eq_true, if_false]
    refine wpAny_bind (wpAny_call ?_)
    refine codeAny_call_builtin PySem.F.slot_dict_iter.plain PySem.F.entry_dict_iter (@check_slot (Md w) _ _ _ "dict.__iter__" "dict" "__iter__" (.ref b) [] [] _ k_dit sp_dit L4 (PySem.F.args_dict_iter_1 _) ?_)
    have L6 : Looks (Md w) h (typeOf ([Value.ref b].headD .none)) (.ref 209) := L1
    have L7 : Looks (Md w) h (isInstance ([Value.ref b].headD .none) (.type "collections.OrderedDict")) false := L5
    unfold Builtin.«dict.__iter__» Builtin.Dict.dictSlotNone Builtin.Dict.notOrdered Builtin.Dict.showsAll
    repeat (first | simp only [e1, Bool.false_eq_true, if_false] | lk)
    exact ⟨trivial, by first | trivial | rfl⟩
  have nx : ∀ (r : Option Value) (s' : Shared), (r = some (.ref h.objs.size) ∧ s' = (⟨h.push { cls := .type "dict_keyiterator", data := .fields #[.ref b, .int 0 0, .int es.size 0, .int ep 0] }, g, d, t, os⟩ : Shared)) →
      wpAny (Md w) A (match r with
        | some it => do
          let l ← specialOf it (Str.ofString "__next__")
          match l with
          | none => do
            rule "iter.non-iterator"
            let z ← PySem.typeNameOf it
            raiseErrorMade "TypeError" (toString "iter() returned non-iterator of type '" ++ toString z ++ toString "'")
          | some _ => pure it
        | none => do
          let l ← bindSpecialIfBound? (Value.ref b) (Str.ofString "__getitem__")
          match l with
          | none => do
            rule "iter.not-iterable"
            let z ← PySem.typeNameOf (Value.ref b)
            raiseErrorMade "TypeError" (toString "'" ++ toString z ++ toString "' object is not iterable")
          | some _ => do
            rule "iter.getitem-fallback"
            let z ← mkInt 0
            newFields "iterator" [Value.ref b, z]) Q E s' := by
    rintro r s' ⟨rfl, rfl⟩
    exact wpAny_bind (wpAny_specialOf (T := "dict_keyiterator") ⟨_, Heap.get?_push_size _ rfl, rfl⟩ PySem.F.slot_dict_keyiterator_next.lookup (wpAny_pure hq))
  refine wpAny_bind (wpAny_askSetting (wpAny_ite ?_))
  split
  · refine wpAny_bind (wpAny_pure (wpAny_pure ?_))
    exact wpAny_mono (fin _) nx fun _ _ z => z
  · refine wpAny_tryCatch (wpAny_bind (wpAny_pure (wpAny_pure ?_)))
    exact wpAny_mono (fin _) nx fun _ _ z => z
end
end

section
open PySem PySem.W PySem.Spec PySem.Calls PyProof.Rows Builtin Builtin.ObjectAttr
set_option Elab.async false
set_option maxRecDepth 100000
set_option maxHeartbeats 0
section
variable {w : World} {A : Around} {h : Heap} {g : Array GenState} {d : Drawn} {t : Nat} {os : OsState} {E : Value → Shared → Prop}
theorem hint_book {b dx ep : Nat} {es : Array DictEntry} {sl : Array (Option Value)} {Q : Bool → Shared → Prop} (x : BkAt w h b) (hb : h.get? b = some { cls := .ref 209, dict := some dx, data := .dict es ep, slots := sl }) (hn : es.size ≤ 100000)
    (hq : ∀ r tk', Q r ⟨h, g, d, tk', os⟩) : wpAny (Md w) A (Builtin.List.listLengthHint (.ref b)) Q E ⟨h, g, d, t, os⟩ := by
  have L1 := x.ty
  have L3 := x.find (f_len w.params)
  have L4 := x.inst (m_dict w.params)
  unfold Builtin.List.listLengthHint
  refine wpAny_bind (L3.at ?_)
  generalize hid : ("dict.__len__" : String) = id0
  wp_delta
  rw [show splitId id0 = some ("dict", "__len__") from by subst hid; decide +kernel]
  subst hid
  refine wpAny_bind (L4.at ?_)
  refine wpAny_ite_split (fun hab => absurd hab (by decide)) (fun _ => ?_)
  refine wpAny_ite_split (fun _ => ?_) (fun hab => absurd (by decide +kernel) hab)
  refine wpAny_bind (L1.at ?_)
  dsimp only
  refine wpAny_bind (len_book x hb hn fun tk tk' => ?_)
  refine wpAny_bind (wpAny_pure ?_)
  exact wpAny_pure (hq _ _)
end
section
variable {w : World} {A : Around} {s : Shared} {E : Value → Shared → Prop}
theorem ext_book {b dx ep S : Nat} {es : Array DictEntry} {sl : Array (Option Value)} {c₀ : Nat} {res : Value} {R : Result → Shared → Prop} (hh : A.handled = none) (x : BkAt w s.heap b) (hb : s.heap.get? b = some { cls := .ref 209, dict := some dx, data := .dict es ep, slots := sl }) (hn : es.size ≤ 100000)
    (hSb : S ≠ b) (hS : s.heap.get? S = some { cls := .type "list", data := .seq #[] c₀ })
    (hR : ∀ h' tk acc c', (∀ c o, c ≠ S → s.heap.get? c = some o → h'.get? c = some o) → h'.get? S = some { cls := .type "list", dict := none, data := .seq acc c', slots := #[] } → ItemsOf (fun i v => ∃ e, es[i]? = some e ∧ v = e.key) acc es.size → R (.ok (.ret res)) { s with heap := h', toks := tk }) :
    wpAny (Md w) A.in1 (Builtin.List.listExtendWith (.ref S) (.ref b) res)
      (fun fin s' => match fin with | .done f => R (.ok f) s' | .again c' => c'.quiet = true ∧ codeAny (Md w) A c' R s') (fun e s' => R (.error e) s') s := by
  have hbl : b < s.heap.objs.size := Heap.lt_size hb
  have hSI : S ≠ s.heap.objs.size := Nat.ne_of_lt (Heap.lt_size hS)
  have hSf : S ∉ [s.heap.objs.size, b] := by simp only [List.mem_cons, List.not_mem_nil, or_false, not_or]; exact ⟨hSI, hSb⟩
  have W := ki_walks (w := w) (A := A.in1) (it := s.heap.objs.size) (d := b) (n := es.size) (ep := ep) (es := es) (od := { cls := .ref 209, dict := some dx, data := .dict es ep, slots := sl }) hh (Nat.ne_of_lt hbl) rfl rfl
  have hz : es.size ≤ sizeLine := by rw [sizeLine_eq]; omega
  have key : ∀ (h : Heap) (c₁ tk : Nat), (h.IsKeyIter s.heap.objs.size b 0 es.size ep ∧ h.get? b = some { cls := .ref 209, dict := some dx, data := .dict es ep, slots := sl }) → (∀ b o, b ≠ S → s.heap.get? b = some o → h.get? b = some o) →
      h.get? S = some { cls := .type "list", data := .seq #[] c₁ } → codeAny (Md w) A (.builtin "list.extend.loop" ⟨[.ref S, .ref s.heap.objs.size, res], []⟩) R { s with heap := h, toks := tk } := by
    intro h c₁ tk hst hk hS₁
    refine codeAny_extend_loopS W.toS hz S hSf res es.size 0 _ #[] c₁ rfl (Nat.zero_le _) hst hS₁ (ItemsOf.nil _) fun s' acc' c' hm hS' hacc => ?_
    rw [Moved.eq_with hm]
    refine hR s'.heap s'.toks acc' c' (fun b o hb e => hm.heap b o (fun hmem => ?_) (hk b o hb e)) hS' hacc
    rcases List.mem_cons.mp hmem with e' | hmem
    · exact hb e'
    · exact absurd (Heap.lt_size e) (by rw [List.mem_singleton.mp hmem]; exact Nat.lt_irrefl _)
  obtain ⟨hp, g, d, t, os⟩ := s
  have L1 := x.ty
  unfold Builtin.List.listExtendWith
  refine wpAny_bind (L1.at ?_)
  have h1 : Builtin.List.listSameRef (.ref S) (.ref b) = false := by simp [Builtin.List.listSameRef, hSb]
  have h2 : (Value.ref 209 == Value.type "list") = false := by decide
  have h3 : (Value.ref 209 == Value.type "tuple") = false := by decide
  simp only [h1, h2, h3, Bool.or_false, Bool.false_eq_true, if_false]
  refine wpAny_bind (iter_book x hb ?_)
  have kp : ∀ c o, hp.get? c = some o → (hp.push { cls := .type "dict_keyiterator", data := .fields #[.ref b, .int 0 0, .int es.size 0, .int ep 0] }).get? c = some o := fun c o e => Heap.get?_push_of_some _ e
  have hS₁ := kp _ _ hS
  refine wpAny_bind (wpAny_holding (hint_book (x.keeps kp) (kp _ _ hb) hn fun r tk' => ?_))
  have st : (hp.push { cls := .type "dict_keyiterator", data := .fields #[.ref b, .int 0 0, .int es.size 0, .int ep 0] }).IsKeyIter hp.objs.size b 0 es.size ep := ⟨_, Heap.get?_push_size _ rfl, rfl, rfl⟩
  refine wpAny_ite_split (fun _ => ?_) (fun _ => wpAny_pure ⟨plainId_quiet PySem.F.plain_extend_loop _, key _ c₀ _ ⟨st, kp _ _ hb⟩ (fun b o _ e => kp _ _ e) hS₁⟩)
  refine wpAny_bind (wpAny_rule (wpAny_bind ?_))
  show wpAny _ _ (updateSeq S (·.push .none) >>= fun _ => updateSeq S (·.pop)) _ _ _
  refine wpAny_bind (wpAny_updateSeq hS₁ rfl ?_ (by simp [sizeLine_eq]) (by simp [sizeLine_eq]))
  have hS₂ := Heap.get?_update_self (Obj.mapSeq (·.push Value.none)) hS₁ rfl
  refine wpAny_updateSeq hS₂ rfl ?_ (by simp [sizeLine_eq]) (by simp [sizeLine_eq])
  have hS₃ := Heap.get?_update_self (Obj.mapSeq (·.pop)) hS₂ rfl
  have oth : ∀ c o, c ≠ S → (hp.push { cls := .type "dict_keyiterator", data := .fields #[.ref b, .int 0 0, .int es.size 0, .int ep 0] }).get? c = some o → (((hp.push { cls := .type "dict_keyiterator", data := .fields #[.ref b, .int 0 0, .int es.size 0, .int ep 0] }).update S (Obj.mapSeq (·.push Value.none))).update S (Obj.mapSeq (·.pop))).get? c = some o :=
    fun c o hc e => (Heap.get?_update_other _ _ (Ne.symm hc)).trans ((Heap.get?_update_other _ _ (Ne.symm hc)).trans e)
  refine wpAny_pure ⟨plainId_quiet PySem.F.plain_extend_loop _, key _ _ _ ⟨?_, oth _ _ (Ne.symm hSb) (kp _ _ hb)⟩ (fun c o hc e => oth c o hc (kp _ _ e)) hS₃⟩
  exact st.at fun o e => oth _ _ (Ne.symm hSI) e
theorem list_book {b dx ep : Nat} {es : Array DictEntry} {sl : Array (Option Value)} {Q : Value → Shared → Prop} (hh : A.handled = none) (x : BkAt w s.heap b) (hb : s.heap.get? b = some { cls := .ref 209, dict := some dx, data := .dict es ep, slots := sl }) (hn : es.size ≤ 100000)
    (hQ : ∀ h' tk acc c', (∀ c o, s.heap.get? c = some o → h'.get? c = some o) → h'.get? s.heap.objs.size = some { cls := .type "list", dict := none, data := .seq acc c', slots := #[] } → ItemsOf (fun i v => ∃ e, es[i]? = some e ∧ v = e.key) acc es.size → Q (.ref s.heap.objs.size) { s with heap := h', toks := tk }) :
    wpAny (Md w) A (call (.type "list") [.ref b]) Q E s := by
  refine callType_codes (Q₁ := fun obj s₁ => obj = .ref s.heap.objs.size ∧ s₁ = { s with heap := s.heap.push { cls := .type "list", data := .seq #[] } }) PySem.F.called_list (PySem.F.typeCall_list_1 _) PySem.F.entry_list_init
    (code_list_new _ ⟨rfl, rfl⟩) fun obj s₁ h₁ => ?_
  obtain ⟨rfl, rfl⟩ := h₁
  have hS : (s.heap.push { cls := .type "list", data := .seq #[] }).get? s.heap.objs.size = some { cls := .type "list", data := .seq #[] } := Heap.get?_push_size _ rfl
  have kp : ∀ c o, s.heap.get? c = some o → (s.heap.push { cls := .type "list", data := .seq #[] }).get? c = some o := fun c o e => Heap.get?_push_of_some _ e
  have hne : s.heap.objs.size ≠ b := Nat.ne_of_gt (Heap.lt_size hb)
  refine ⟨⟨_, hS, rfl⟩, PySem.F.args_list_init_2 _ _, ?_⟩
  show wpAny _ _ (do let old ← Builtin.List.listItems (.ref s.heap.objs.size); Builtin.List.listUpdate (.ref s.heap.objs.size) (fun _ => #[]); letGo old.toList.reverse; Builtin.List.listExtendWith (.ref s.heap.objs.size) (.ref b) .none) _ _ _
  refine wpAny_bind ?_
  unfold Builtin.List.listItems
  refine wpAny_bind (wpAny_seqItems hS rfl (wpAny_pure ?_))
  show wpAny _ _ (updateSeq s.heap.objs.size (fun _ => #[]) >>= fun _ => letGo (#[] : Array Value).toList.reverse >>= fun _ => Builtin.List.listExtendWith (.ref s.heap.objs.size) (.ref b) .none) _ _ _
  refine wpAny_bind (wpAny_updateSeq hS rfl ?_ (Nat.zero_le _) (Nat.zero_le _))
  have hS₂ := Heap.get?_update_self (Obj.mapSeq (fun _ => (#[] : Array Value))) hS rfl
  have oth : ∀ c o, s.heap.get? c = some o → ((s.heap.push { cls := .type "list", data := .seq #[] }).update s.heap.objs.size (Obj.mapSeq (fun _ => (#[] : Array Value)))).get? c = some o :=
    fun c o e => (Heap.get?_update_other _ _ (Nat.ne_of_gt (Heap.lt_size e))).trans (kp _ _ e)
  refine wpAny_bind (wpAny_letGo ?_)
  refine ext_book (A := A.in1) (s := { s with heap := (s.heap.push { cls := .type "list", data := .seq #[] }).update s.heap.objs.size (Obj.mapSeq (fun _ => (#[] : Array Value))) }) hh (x.keeps oth) (oth _ _ hb) hn hne hS₂ fun h' tk acc c' hk hS' hacc => ?_
  exact ⟨rfl, hQ h' tk acc c' (fun c o e => hk c o (Nat.ne_of_lt (Heap.lt_size e)) (oth _ _ e)) hS' hacc⟩
end
theorem es_at {w : World} {es : List DictEntry} {kvs : List (Str × Value)} (h : EsAre w es kvs) : ∀ {i : Nat} {e : DictEntry}, es[i]? = some e → ∃ k t v, e.key = .str k t ∧ kvs[i]? = some (k, v) := by
  induction h with
  | nil => intro i e h; simp at h
  | cons k t v _ ih =>
    intro i e h
    cases i with
    | zero => simp at h; subst h; exact ⟨k, t, v, rfl, by simp⟩
    | succ i => simpa using ih (by simpa using h)
theorem strs_of_at : ∀ {vs : List Value} {zs : List Str}, vs.length = zs.length → (∀ (i : Nat) (v : Value), vs[i]? = some v → ∃ z t, v = Value.str z t ∧ zs[i]? = some z) → StrsAre vs zs
  | [], [], _, _ => .nil
  | v :: vs, z :: zs, hl, h => by
    obtain ⟨z', t, rfl, hz⟩ := h 0 v rfl
    simp at hz
    subst hz
    exact .cons _ t (strs_of_at (by simpa using hl) fun i u hu => by simpa using h (i + 1) u (by simpa using hu))
  | [], _ :: _, hl, _ => by simp at hl
  | _ :: _, [], hl, _ => by simp at hl
theorem o_list_book {w : World} {A : Around} {B s : Shared} {own : Led} {E Q : Value → Shared → Prop} {n : Nat} {b dx : Addr} {kvs : List (Str × Value)} (hA : Rm A n) (F : Fm w B s own) (hb : (b, BkP w dx kvs) ∈ own) (h1 : (b == sysModules) = false) (hz : kvs.length ≤ 100000)
    (h : ∀ D s', Fm w B s' ((D, LS (kvs.map (·.1))) :: own) → Q (.ref D) s') : wpAny (Md w) A (call (.type "list") [.ref b]) Q E s := by
  have x := bk_at F hb h1
  obtain ⟨o, ho, es, ep, rfl, hes⟩ := F.sat _ hb
  have hl := es_len hes
  rw [Array.length_toList] at hl
  refine list_book hA.h x ho (by omega) fun h' tk acc c' hk hD hacc => ?_
  have F1 := F.add (a := s.heap.objs.size) (P := LS (kvs.map (·.1))) (s' := { s with heap := h', toks := tk }) ⟨hk, rfl, rfl⟩ (Heap.get?_none_of_le (Nat.le_refl _))
    ⟨_, hD, acc.toList, strs_of_at (by rw [Array.length_toList, hacc.1, List.length_map, hl]) (fun i v hv => ?_), c', by rw [Array.toArray_toList]⟩
  · exact h _ _ F1
  · obtain ⟨e, he, rfl⟩ := hacc.2 i v (by rw [← Array.getElem?_toList]; exact hv)
    obtain ⟨k, t, v', hk', hv'⟩ := es_at hes (i := i) (e := e) (by rw [Array.getElem?_toList]; exact he)
    exact ⟨k, t, hk', by rw [List.getElem?_map, hv']; rfl⟩
end

section
open PySem PySem.W PySem.Spec PySem.Calls PyProof.Rows
set_option Elab.async false
set_option maxRecDepth 100000
set_option maxHeartbeats 0
noncomputable abbrev Book := List (Str × List Str)
noncomputable abbrev Kds := List (Str × Addr × List Str)
noncomputable def kvsK (K : Kds) : List (Str × Value) := K.map fun e => (e.1, .ref e.2.1)
noncomputable def rowsK (K : Kds) : Led := K.map fun e => (e.2.1, LS e.2.2)
noncomputable def absK (K : Kds) : Book := K.map fun e => (e.1, e.2.2)
noncomputable def bget (bk : Book) (k : Str) : Option (List Str) := (bk.find? fun p => p.1 == k).map (·.2)
noncomputable def bput : Book → Str → Str → Book
  | [], k, t => [(k, [t])]
  | (k', zs) :: r, k, t => if k' = k then (k', zs ++ [t]) :: r else (k', zs) :: bput r k t
noncomputable def btouch (bk : Book) (k : Str) : Book := match bget bk k with
  | some _ => bk
  | none => bk ++ [(k, [])]
noncomputable def bsz (bk : Book) : Nat := (bk.map fun e => e.2.length + 1).sum
theorem bsz_put : ∀ (bk : Book) (k t : Str), bsz (bput bk k t) ≤ bsz bk + 2
  | [], k, t => by simp [bput, bsz]
  | (k', zs) :: r, k, t => by
    have ih := bsz_put r k t
    unfold bput
    split
    · simp [bsz]; omega
    · simp only [bsz, List.map_cons, List.sum_cons] at ih ⊢; omega
theorem bsz_mem : ∀ {bk : Book} {k : Str} {zs : List Str}, (k, zs) ∈ bk → zs.length + 1 ≤ bsz bk
  | (k', zs') :: r, k, zs, h => by
    rcases List.mem_cons.mp h with e | h
    · cases e; simp [bsz]
    · have := bsz_mem h; simp only [bsz, List.map_cons, List.sum_cons] at this ⊢; omega
theorem bsz_len : ∀ (bk : Book), bk.length ≤ bsz bk
  | [] => by simp
  | (k', zs') :: r => by have := bsz_len r; simp only [bsz, List.map_cons, List.sum_cons, List.length_cons] at this ⊢; omega
theorem len_kvs (K : Kds) : (kvsK K).length = (absK K).length := by simp [kvsK, absK]
theorem keysK : ∀ (K : Kds) (k : Str), (∃ pre D zs post, K = pre ++ (k, D, zs) :: post ∧ ∀ e ∈ pre, e.1 ≠ k) ∨ ∀ e ∈ K, e.1 ≠ k
  | [], k => .inr fun e h => by cases h
  | (k', D, zs) :: r, k => by
    by_cases h : k' = k
    · subst h; exact .inl ⟨[], D, zs, r, rfl, fun e h => by cases h⟩
    · rcases keysK r k with ⟨pre, D', zs', post, rfl, hp⟩ | hr
      · exact .inl ⟨(k', D, zs) :: pre, D', zs', post, rfl, fun e he => by
          rcases List.mem_cons.mp he with rfl | he
          · exact h
          · exact hp e he⟩
      · exact .inr fun e he => by
          rcases List.mem_cons.mp he with rfl | he
          · exact h
          · exact hr e he
theorem kget_hit {D : Addr} {k : Str} {zs : List Str} : ∀ {pre post : Kds}, (∀ e ∈ pre, e.1 ≠ k) → bkGet (kvsK (pre ++ (k, D, zs) :: post)) k = some (.ref D)
  | [], _, _ => by simp [bkGet, kvsK]
  | p :: r, post, h => by
    have ih := kget_hit (D := D) (zs := zs) (pre := r) (post := post) fun e he => h e (.tail _ he)
    have hne : (p.1 == k) = false := by rw [beq_eq_false_iff_ne]; exact h p (.head _)
    unfold bkGet kvsK at ih ⊢
    rw [List.cons_append, List.map_cons, List.find?_cons]
    simp only [hne]
    exact ih
theorem kget_miss {k : Str} : ∀ {K : Kds}, (∀ e ∈ K, e.1 ≠ k) → bkGet (kvsK K) k = none
  | [], _ => rfl
  | p :: r, h => by
    have ih := kget_miss (K := r) fun e he => h e (.tail _ he)
    have hne : (p.1 == k) = false := by rw [beq_eq_false_iff_ne]; exact h p (.head _)
    unfold bkGet kvsK at ih ⊢
    rw [List.map_cons, List.find?_cons]
    simp only [hne]
    exact ih
theorem bget_hit {D : Addr} {k : Str} {zs : List Str} : ∀ {pre post : Kds}, (∀ e ∈ pre, e.1 ≠ k) → bget (absK (pre ++ (k, D, zs) :: post)) k = some zs
  | [], _, _ => by simp [bget, absK]
  | p :: r, post, h => by
    have ih := bget_hit (D := D) (zs := zs) (pre := r) (post := post) fun e he => h e (.tail _ he)
    have hne : (p.1 == k) = false := by rw [beq_eq_false_iff_ne]; exact h p (.head _)
    unfold bget absK at ih ⊢
    rw [List.cons_append, List.map_cons, List.find?_cons]
    simp only [hne]
    exact ih
theorem bget_miss {k : Str} : ∀ {K : Kds}, (∀ e ∈ K, e.1 ≠ k) → bget (absK K) k = none
  | [], _ => rfl
  | p :: r, h => by
    have ih := bget_miss (K := r) fun e he => h e (.tail _ he)
    have hne : (p.1 == k) = false := by rw [beq_eq_false_iff_ne]; exact h p (.head _)
    unfold bget absK at ih ⊢
    rw [List.map_cons, List.find?_cons]
    simp only [hne]
    exact ih
theorem bput_hit {D : Addr} {k t : Str} {zs : List Str} : ∀ {pre post : Kds}, (∀ e ∈ pre, e.1 ≠ k) → bput (absK (pre ++ (k, D, zs) :: post)) k t = absK (pre ++ (k, D, zs ++ [t]) :: post)
  | [], _, _ => by simp [bput, absK]
  | p :: r, post, h => by
    have ih := bput_hit (D := D) (zs := zs) (t := t) (pre := r) (post := post) fun e he => h e (.tail _ he)
    have hne : ¬ p.1 = k := h p (.head _)
    unfold absK at ih ⊢
    rw [List.cons_append, List.map_cons, bput, if_neg hne, ih]
    rfl
theorem kvs_snoc (K : Kds) (k : Str) (D : Addr) (zs : List Str) : kvsK K ++ [(k, .ref D)] = kvsK (K ++ [(k, D, zs)]) := by simp [kvsK]
theorem kvs_upd (pre post : Kds) (k : Str) (D : Addr) (zs zs' : List Str) : kvsK (pre ++ (k, D, zs) :: post) = kvsK (pre ++ (k, D, zs') :: post) := by simp [kvsK]
theorem memK {pre post : Kds} {k : Str} {D : Addr} {zs : List Str} {rest : Led} : (D, LS zs) ∈ rowsK (pre ++ (k, D, zs) :: post) ++ rest :=
  List.mem_append_left _ (List.mem_map.mpr ⟨(k, D, zs), List.mem_append_right _ (.head _), rfl⟩)
theorem UpdE.app {a : Addr} {P P' : Obj → Prop} {l l' : Led} (U : UpdE a P P' l l') : ∀ p : Led, UpdE a P P' (p ++ l) (p ++ l')
  | [] => U
  | _ :: p => .tail (U.app p)
theorem updK {pre post : Kds} {k : Str} {D : Addr} {zs zs' : List Str} {rest : Led} : UpdE D (LS zs) (LS zs') (rowsK (pre ++ (k, D, zs) :: post) ++ rest) (rowsK (pre ++ (k, D, zs') :: post) ++ rest) := by
  unfold rowsK
  rw [List.map_append, List.map_append, List.append_assoc, List.append_assoc]
  exact UpdE.app .head _
theorem Fm.snocK {w : World} {B s : Shared} {own : Led} {D : Addr} {zs : List Str} {K : Kds} {pre rest : Led} (k : Str) (F : Fm w B s ((D, LS zs) :: own)) (e : own = pre ++ (rowsK K ++ rest)) : Fm w B s (pre ++ (rowsK (K ++ [(k, D, zs)]) ++ rest)) := by
  subst e
  refine F.perm' ?_
  have : rowsK (K ++ [(k, D, zs)]) ++ rest = rowsK K ++ ((D, LS zs) :: rest) := by simp [rowsK]
  rw [this]
  rw [← List.append_assoc, ← List.append_assoc]
  exact List.perm_middle
section
variable {w : World} {A : Around} {s : Shared} {E : Value → Shared → Prop} {value slice : Expr} {i : Value} {Q : Value → Shared → Prop}
theorem bk_tail {b : Addr} (x : BkAt w s.heap b) (hg : wpAny (Md w) A (getItem (.ref b) i) Q E s) (hs : subscripted slice false (.ref b) i = operate [.ref b, i] (getItem (.ref b) i) := by with_unfolding_all rfl) :
    wpAny (Md w) A (subscriptTail value slice (.ref b) i) Q E s := by
  have L3 := x.find (f_gi w.params)
  unfold subscriptTail getitemInPython
  refine wpAny_bind (wpAny_bind (L3.here ?_))
  refine wpAny_pure (wpAny_bind ?_)
  rw [hs]
  exact wpAny_operating (wpAny_mono hg (fun r s₃ h₃ => wpAny_bind (wpAny_letTemporaryGo (wpAny_pure h₃))) fun _ _ x => x)
end
end

section
open PySem PySem.W PySem.Spec PySem.Calls PyProof.Rows
set_option Elab.async false
set_option maxRecDepth 100000
set_option maxHeartbeats 0
section
variable {w : World} {A : Around} {B s : Shared} {E Q : Value → Shared → Prop} {n : Nat} {b dx : Addr} {K : Kds} {k : Str} {t : Tok}
theorem o_look {rest : Led} (pre : Led) (hA : Rm A (n + 2)) (F : Fm w B s (pre ++ ((b, BkP w dx (kvsK K)) :: (dx, DxP none) :: (rowsK K ++ rest)))) (h1 : (b == sysModules) = false) (hz : (absK K).length ≤ 100000)
    (h : ∀ p1 D zs p2 s', absK (p1 ++ (k, D, zs) :: p2) = btouch (absK K) k → (∀ e ∈ p1, e.1 ≠ k) → zs = (bget (absK K) k).getD [] →
      Fm w B s' (pre ++ ((b, BkP w dx (kvsK (p1 ++ (k, D, zs) :: p2))) :: (dx, DxP none) :: (rowsK (p1 ++ (k, D, zs) :: p2) ++ rest))) → Q (.ref D) s') :
    wpAny (Md w) A (getItem (.ref b) (.str k t)) Q E s := by
  rcases keysK K k with ⟨p1, D, zs, p2, rfl, hp⟩ | hm
  · have e := bget_hit (D := D) (zs := zs) (post := p2) hp
    refine o_hit F (List.mem_append_right _ (.head _)) h1 (kget_hit hp) fun s' F' => h p1 D zs p2 s' ?_ hp ?_ F'
    · unfold btouch; rw [e]
    · rw [e]; rfl
  · have e := bget_miss hm
    refine o_miss (own' := fun kvs' => pre ++ ((b, BkP w dx kvs') :: (dx, DxP none) :: (rowsK K ++ rest))) hA F (fun kvs' => UpdE.app .head pre) h1 (List.mem_append_right _ (.tail _ (.head _))) (kget_miss hm) (by rw [len_kvs]; exact hz) fun D s' F' => ?_
    refine h K D [] [] s' ?_ hm (by rw [e]; rfl) ?_
    · unfold btouch; rw [e]; simp [absK]
    · have F2 := F'.snocK (K := K) (pre := pre ++ [(b, BkP w dx (kvsK K ++ [(k, .ref D)])), (dx, DxP none)]) (rest := rest) k (by simp)
      rw [kvs_snoc K k D []] at F2
      simpa using F2
end
theorem bput_touch : ∀ (bk : Book) (k t : Str), bput (btouch bk k) k t = bput bk k t
  | [], k, t => by simp [btouch, bget, bput]
  | (k', zs) :: r, k, t => by
    have ih := bput_touch r k t
    by_cases e : k' = k
    · subst e
      have : bget ((k', zs) :: r) k' = some zs := by simp [bget]
      unfold btouch
      rw [this]
    · have e1 : bget ((k', zs) :: r) k = bget r k := by
        unfold bget
        rw [List.find?_cons]
        have : (k' == k) = false := by rw [beq_eq_false_iff_ne]; exact e
        simp only [this]
      have e2 : btouch ((k', zs) :: r) k = (k', zs) :: btouch r k := by
        unfold btouch
        rw [e1]
        cases bget r k <;> rfl
      rw [e2, bput, bput, if_neg e, if_neg e, ih]
theorem bsz_touch (bk : Book) (k : Str) : bsz (btouch bk k) ≤ bsz bk + 1 := by
  unfold btouch
  split
  · omega
  · simp [bsz]
end

section
open PySem PySem.W PySem.Spec PySem.Calls PyProof.Rows
set_option Elab.async false
set_option maxRecDepth 100000
set_option maxHeartbeats 0
theorem isfn_232 (P : Params) : isFnK (KH P) 232 = true := by kernel_rfl
theorem isfn_145' (P : Params) : isFnK (KH P) 145 = true := by kernel_rfl
theorem g_law_book : Glo (PySem.Str.ofString "_law_book") (.ref 232) := Glo.ofK (fun _ => by kernel_rfl)
theorem g_fdd : Glo (PySem.Str.ofString "FreezableDefaultDict") (.ref 209) := Glo.ofK (fun _ => by kernel_rfl)
theorem g_list : Glo (PySem.Str.ofString "list") (.type "list") := Glo.ofB (fun _ => by kernel_rfl) (by kernel_rfl) (by decide +kernel)
theorem g_split : Glo (PySem.Str.ofString "split") (.ref 145) := Glo.ofK (fun _ => by kernel_rfl)
theorem cw_cls {w : World} {A : Around} {E : Value → Shared → Prop} {env : Env} {pos : Pos} {s : Shared} {Q : Value → Shared → Prop} {args : List Expr}
    (h : Ev (Md w) A E env args (fun vs s₁ => Wg w s₁.heap ∧ wpAny (Md w) A (call (.ref 209) vs) Q E s₁) s) (hp : args.all plainE = true := by with_unfolding_all rfl) :
    wpAny (Md w) A (callWith pos (.ref 209) [] (backTo pos (starEach args env)) []) Q E s := by
  have key : ∀ h, Wg w h → ∃ k, (k = Keeper.frame ∨ k = Keeper.machine ∨ k = Keeper.boundFrame) ∧ Looks (Md w) h (keeperOf (.ref 209)) k := by
    intro h W
    have X := W.K
    obtain ⟨cd, oC, hC, hCd⟩ := cls_row X
    refine ⟨.machine, .inr (.inl rfl), (Looks.ld (part := none) hC).andThen ?_⟩
    rw [hCd]
    exact (looks_specialIn (M := Md w) X (s_call w.params)).andThen .now
  exact callWith_of (P := Wg w) (by rw [backTo_plain hp]; rfl) key (evalArgs_ev hp h)
structure NpOk (p : Str) : Prop where
  z : p.length ≤ 10000
  h0 : ((p.length : Int) != 0) = true
  h1 : Txt.slice p none (some 1) = Str.ofString "/"
  h2 : (Txt.slice p (some 1) (some 2) != Str.ofString "/") = true
  h3 : (PySem.Builtin.Str.partsBetween (Txt.slice p (some 1) none) (Builtin.Str.occurrences (Txt.slice p (some 1) none) (Str.ofString "/") 0 (Txt.slice p (some 1) none).length ((Txt.slice p (some 1) none).length + 1)) (Str.ofString "/").length).length ≤ sizeLine
  h4 : (Txt.split (Txt.slice p (some 1) none) (Str.ofString "/")).length ≤ 16
  h5 : ∀ z ∈ Txt.split (Txt.slice p (some 1) none) (Str.ofString "/"), z.length ≤ 16
  n : (nPath p).length ≤ 10000
noncomputable def Chain : Nat → Str → Str → Prop
  | 0, _, t => t = Str.ofString ""
  | n + 1, h, t => t = Str.ofString "" ∨ (h.length ≤ 10000 ∧ Chain n (spHead h) (spTail h))
noncomputable def pIns : Nat → Str → Str → Book → Book
  | 0, _, _, bk => bk
  | n + 1, h, t, bk => if (t != Str.ofString "") = true then (if t ∈ (bget bk h).getD [] then bk else pIns n (spHead h) (spTail h) (bput bk h t)) else bk
noncomputable def pStep (bk : Book) (p : Str) : Book := pIns 20 (spHead (nPath p)) (spTail (nPath p)) bk
noncomputable def pBook (ps : List Str) : Book := ps.foldl pStep []
theorem bsz_ins : ∀ (n : Nat) (h t : Str) (bk : Book), bsz (pIns n h t bk) ≤ bsz bk + 2 * n
  | 0, _, _, bk => by simp [pIns]
  | n + 1, h, t, bk => by
    unfold pIns
    split
    · split
      · omega
      · have := bsz_ins n (spHead h) (spTail h) (bput bk h t)
        have := bsz_put bk h t
        omega
    · omega
theorem bsz_fold : ∀ (ps : List Str) (bk : Book), bsz (ps.foldl pStep bk) ≤ bsz bk + 40 * ps.length
  | [], bk => by simp
  | p :: r, bk => by
    have := bsz_fold r (pStep bk p)
    have := bsz_ins 20 (spHead (nPath p)) (spTail (nPath p)) bk
    simp only [List.foldl_cons, List.length_cons]
    unfold pStep at *
    omega
inductive BoI (w : World) (ps : List Str) (L b dx : Addr) (i : Nat) (own : Led) : Prop
  | mk (K : Kds) (h : absK K = pBook (ps.take i)) (e : own = (L, NsP [(Str.ofString "book", .ref b)]) :: (b, BkP w dx (kvsK K)) :: (dx, DxP none) :: (rowsK K ++ []))
inductive BoW (w : World) (s : Shared) (ps : List Str) (p : Str) (lp L it b dx : Addr) (i m : Nat) (s' : Shared) : Prop
  | mk (K : Kds) (hd tl : Str) (th tt : Tok) (h1 : Chain m hd tl) (h2 : pIns m hd tl (absK K) = pStep (pBook (ps.take i)) p) (h3 : bsz (absK K) + 2 * m ≤ 40 * i + 40)
      (F : Fm w s s' ((L, NsP [(Str.ofString "head", .str hd th), (Str.ofString "tail", .str tl tt), (Str.ofString "book", .ref b)]) :: (it, ItP lp (i + 1)) :: (b, BkP w dx (kvsK K)) :: (dx, DxP none) :: (rowsK K ++ [])))
theorem c_law_book {w : World} {A : Around} {s : Shared} {n : Nat} {R : Result → Shared → Prop} {lp : Addr} {ps : List Str} (hA : Rm A (n + 4)) (W : Wg w s.heap)
    (hp : ∃ o, s.heap.get? lp = some o ∧ LS ps o) (hps : ps.length ≤ 100) (hok : ∀ p ∈ ps, NpOk p ∧ Chain 20 (spHead (nPath p)) (spTail (nPath p)))
    (h : ∀ b dx K s', (b == sysModules) = false → absK K = pBook ps → Fm w s s' ((b, BkP w dx (kvsK K)) :: (dx, DxP none) :: (rowsK K ++ [])) → R (.ok (.ret (.ref b))) s') :
    codeAny (Md w) A (.call (.ref 232) ⟨[.ref lp], []⟩) R s := by
  with_reducible refine enterD (binds := [(Str.ofString "paths", .ref lp)]) (ks := [(Str.ofString "paths", .local), (Str.ofString "book", .local), (Str.ofString "path", .local), (Str.ofString "head", .local), (Str.ofString "tail", .local), (Str.ofString "FreezableDefaultDict", .globalImplicit), (Str.ofString "list", .globalImplicit), (Str.ofString "split", .globalImplicit), (Str.ofString "normpath", .globalImplicit)]) hA W (by kernel_rfl) (by kernel_rfl) (by kernel_rfl) (by kernel_rfl) (by kernel_rfl) ?_
  intro L s' hL F hA' hk
  conv in bodyOf _ => whnf
  with_reducible refine x_assign (c_glo F hk (by kd_mem) g_fdd (cw_cls (ev_cons ?_)))
  with_reducible refine e_glo F hk (by kd_mem) g_list (ev_nil ⟨F.base, o_book F ?_⟩)
  intro b dx s1 hb1 F1
  kst_all
  rename_i s2 F2
  with_reducible refine x_for (B := s) hA' ?_
  kst_mem
  replace F2 := (F2.nsw (bs' := [(Str.ofString "book", .ref b)]) (by kd_all) (by kqd_sub)).sel (own' := [(L, NsP [(Str.ofString "book", .ref b)]), (b, BkP w dx []), (dx, DxP none)]) (by kqd_all)
  with_reducible refine ⟨_, _, _, _, _, srcS (l := lp) (zs := ps), F2, .base hp, BoI w ps L b dx, ?_, ?_, ?_, ?_⟩
  · exact ⟨[], rfl, rfl⟩
  · rintro i own ⟨K, _, rfl⟩
    exact .base hp
  · rintro it i v own s3 Kx hKx hi ⟨K, hK, rfl⟩ F3 ⟨p, tp, rfl, hpi⟩
    have hpm : p ∈ ps := List.mem_of_getElem? hpi
    obtain ⟨⟨pz, p0, p1, p2, p3, p4, p5, pn⟩, hch⟩ := hok p hpm
    have htk : pBook (ps.take (i + 1)) = pStep (pBook (ps.take i)) p := by
      unfold pBook
      rw [List.take_add_one, hpi, List.foldl_append]; rfl
    have hbz : bsz (pBook (ps.take i)) ≤ 40 * i := by
      have := bsz_fold (ps.take i) []
      have hl : (ps.take i).length ≤ i := List.length_take_le ..
      unfold pBook
      simp only [bsz, List.map_nil, List.sum_nil] at this ⊢
      omega
    with_reducible refine turn ?_
    kst_all
    rename_i s4 F4
    with_reducible refine x_unp2 (B := s) hA' (c_glo F4 hk (by kd_mem) g_split (cw_fn (isfn_145' _) (ev_cons (c_glo F4 hk (by kd_mem) g_normpath (cw_fn (g_isfn_159 _) (ev_cons ?_))))))
    kst_mem
    with_reducible refine ev_nil ⟨F4.base, wpAny_call (c_normpath (n := n) hA' F4.base pz p0 p1 p2 p3 p4 p5 ?_)⟩
    intro t5 s5 x5
    have F5 := F4.ext x5
    with_reducible refine ev_nil ⟨F5.base, wpAny_call (c_split (n := n + 1) hA' F5.base pn ?_)⟩
    intro t6 u1 u2 s6 x6
    have F6 := F5.new x6
    with_reducible refine ⟨_, _, _, _, rfl, F6, .led (by kd_mem), ?_⟩
    intro s7 F7
    kst_all
    kst_all
    rename_i s8 F8 s9 F9
    have F10 : Fm w s s9 ((L, NsP [(Str.ofString "head", .str (spHead (nPath p)) u1), (Str.ofString "tail", .str (spTail (nPath p)) u2), (Str.ofString "book", .ref b)]) :: (it, ItP lp (i + 1)) :: (b, BkP w dx (kvsK K)) :: (dx, DxP none) :: (rowsK K ++ [])) :=
      (F9.nsw (bs' := [(Str.ofString "head", .str (spHead (nPath p)) u1), (Str.ofString "tail", .str (spTail (nPath p)) u2), (Str.ofString "book", .ref b)]) (by kd_all) (by kqd_sub)).sel (by kqd_all)
    clear F F1 F2 F3 F4 F5 F6 F7 F8 F9 x5 x6
    with_reducible refine x_while (BoW w s ps p lp L it b dx i) 20 ?_ ?_
    · exact ⟨K, _, _, u1, u2, hch, by rw [hK]; rfl, by rw [hK]; omega, F10⟩
    clear F10 hK hch
    rintro m s11 Kw hKw ⟨K, hd, tl, th, tt, hch, hpi2, hz, F11⟩
    with_reducible refine wturn ?_
    have out : ∀ s', pIns m hd tl (absK K) = absK K → Fm w s s' ((L, NsP [(Str.ofString "head", .str hd th), (Str.ofString "tail", .str tl tt), (Str.ofString "book", .ref b)]) :: (it, ItP lp (i + 1)) :: (b, BkP w dx (kvsK K)) :: (dx, DxP none) :: (rowsK K ++ [])) →
        wpAny (Md w) (A.deeper (dEnv (fdOf (Mine.KH w.params) 232) 232 L)) (execs [] (dEnv (fdOf (Mine.KH w.params) 232) 232 L)) (fun f s₃ => Ec (Kx s₃) f) (fun _ _ => False) s' := fun s' e F => by
      refine x_nil (ec_next (hKx _ _ ⟨K, by rw [htk, ← hpi2, e], rfl⟩ ?_))
      exact (F.nsw (bs' := [(Str.ofString "book", .ref b)]) (by kd_all) (by kqd_sub)).sel (by kqd_all)
    with_reducible refine bt_and (bt_cmp ?_)
    kst_mem
    with_reducible refine e_str F11 ?_; intro t12 s12 F12
    with_reducible refine o_nes (t_bool (b2 (fun e1 => bt_cmp ?_) (fun e1 => b2_f (out _ ?_ F12))))
    · kst_mem
      with_reducible refine e_sub ?_
      kst_mem
      kst_mem
      cases m with
      | zero => exact absurd (show tl = Str.ofString "" from hch) (by simpa using e1)
      | succ m =>
      rcases hch with hch | ⟨hhz, hch⟩
      · exact absurd hch (by simpa using e1)
      have hkl := bsz_len (absK K)
      refine bk_tail (bk_at F12 (by kd_mem) hb1) (o_look (n := n) [(L, NsP [(Str.ofString "head", .str hd th), (Str.ofString "tail", .str tl tt), (Str.ofString "book", .ref b)]), (it, ItP lp (i + 1))] (hA'.less) F12 hb1 (by omega) ?_)
      intro p1 D zs p2 s13 hto hpre hzs F13
      replace F13 : Fm w s s13 ((L, NsP [(Str.ofString "head", .str hd th), (Str.ofString "tail", .str tl tt), (Str.ofString "book", .ref b)]) :: (it, ItP lp (i + 1)) :: (b, BkP w dx (kvsK (p1 ++ (hd, D, zs) :: p2))) :: (dx, DxP none) :: (rowsK (p1 ++ (hd, D, zs) :: p2) ++ [])) := F13
      have hD : (D, LS zs) ∈ (L, NsP [(Str.ofString "head", .str hd th), (Str.ofString "tail", .str tl tt), (Str.ofString "book", .ref b)]) :: (it, ItP lp (i + 1)) :: (b, BkP w dx (kvsK (p1 ++ (hd, D, zs) :: p2))) :: (dx, DxP none) :: (rowsK (p1 ++ (hd, D, zs) :: p2) ++ []) := .tail _ (.tail _ (.tail _ (.tail _ memK)))
      have hbt := bsz_touch (absK K) hd
      have hzl : zs.length ≤ 100000 := by
        have := bsz_mem (bk := absK (p1 ++ (hd, D, zs) :: p2)) (k := hd) (zs := zs) (by simp [absK])
        rw [hto] at this
        omega
      with_reducible refine o_notinS F13 (.led hD) (t_bool (b2 (fun e2 => ?_) (fun e2 => ?_)))
      · -- the body
        have hnm : tl ∉ zs := by simpa using e2
        with_reducible refine x_expr (c_meth (e_sub ?_))
        kst_mem
        kst_mem
        refine bk_tail (bk_at F13 (by kd_mem) hb1) (o_hit F13 (by kd_mem) hb1 (kget_hit hpre) ?_)
        intro s14 F14
        with_reducible refine fun _ => ?_
        with_reducible refine g_lmS F14 (.led hD) PySem.F.slot_list_append PySem.F.type_list_append ?_
        with_reducible refine cw_m (ev_cons ?_)
        kst_mem
        with_reducible refine ev_nil (o_appendS (own' := (L, NsP [(Str.ofString "head", .str hd th), (Str.ofString "tail", .str tl tt), (Str.ofString "book", .ref b)]) :: (it, ItP lp (i + 1)) :: (b, BkP w dx (kvsK (p1 ++ (hd, D, zs) :: p2))) :: (dx, DxP none) :: (rowsK (p1 ++ (hd, D, zs ++ [tl]) :: p2) ++ [])) F14 (.tail (.tail (.tail (.tail updK)))) (by omega) ?_)
        intro s15 F15
        with_reducible refine x_unp2 (B := s) hA' (c_glo F15 hk (by kd_mem) g_split (cw_fn (isfn_145' _) (ev_cons ?_)))
        kst_mem
        with_reducible refine ev_nil ⟨F15.base, wpAny_call (c_split (n := n + 1) hA' F15.base hhz ?_)⟩
        intro t16 u3 u4 s16 x16
        have F16 := F15.new x16
        with_reducible refine ⟨_, _, _, _, rfl, F16, .led (by kd_mem), ?_⟩
        intro s17 F17
        kst_all
        kst_all
        rename_i s18 F18 s19 F19
        have hput := bput_hit (D := D) (t := tl) (zs := zs) (post := p2) hpre
        have hput2 : bput (absK K) hd tl = absK (p1 ++ (hd, D, zs ++ [tl]) :: p2) := by rw [← bput_touch, ← hto, hput]
        with_reducible refine x_nil (ec_next (hKw m _ (Nat.lt_succ_self m) ⟨p1 ++ (hd, D, zs ++ [tl]) :: p2, _, _, u3, u4, hch, ?_, ?_, ?_⟩))
        · rw [← hpi2, ← hput2]
          rw [pIns, if_pos e1, if_neg (by rw [← hzs]; exact hnm)]
        · have := bsz_put (absK K) hd tl
          rw [← hput2]
          omega
        · rw [kvs_upd p1 p2 hd D (zs ++ [tl]) zs]
          exact (F19.nsw (bs' := [(Str.ofString "head", .str (spHead hd) u3), (Str.ofString "tail", .str (spTail hd) u4), (Str.ofString "book", .ref b)]) (by kd_all) (by kqd_sub)).sel (by kqd_all)
      · -- it lies there
        have hm : tl ∈ zs := by simpa using e2
        have hsm : absK (p1 ++ (hd, D, zs) :: p2) = absK K := by
          rw [hto]
          unfold btouch
          cases hg : bget (absK K) hd with
          | some z => rfl
          | none => rw [hg] at hzs; rw [hzs] at hm; cases hm
        refine x_nil (ec_next (hKx _ _ ⟨p1 ++ (hd, D, zs) :: p2, ?_, rfl⟩ ?_))
        · rw [htk, ← hpi2, hsm, pIns, if_pos e1, if_pos (by rw [← hzs]; exact hm)]
        · exact (F13.nsw (bs' := [(Str.ofString "book", .ref b)]) (by kd_all) (by kqd_sub)).sel (by kqd_all)
    · cases m with
      | zero => rfl
      | succ m => rw [pIns, if_neg (by rw [e1]; exact Bool.false_ne_true)]
  · rintro own s3 ⟨K, hK, rfl⟩ F3
    rw [List.take_of_length_le (Nat.le_refl _)] at hK
    with_reducible refine x_ret ?_
    kst_mem
    exact h b dx K s3 hb1 hK (F3.weak (.cons _ (List.Sublist.refl _)))
end

section
open PySem PySem.W PySem.Spec PySem.Calls PyProof.Rows Builtin Builtin.ObjectAttr
set_option Elab.async false
set_option maxRecDepth 100000
set_option maxHeartbeats 0
theorem en_lga : entryFor table "list.__getattribute__" = some Builtin.«object.__getattribute__» :=
  entryFor_alias (id' := "object.__getattribute__") (by kernel_rfl) (by decide +kernel) (by decide +kernel) (by kernel_rfl)
theorem slot_lga : Slot "list" "__getattribute__" "list.__getattribute__" := .of (owner := "list") (n := "__getattribute__") (by rw [typeLookup_type, builtinLookup_eq_fast]; kernel_rfl) (by decide +kernel) (by decide +kernel) (by decide +kernel)
  (by first | exact .inl (by decide +kernel) | exact .inr (by decide +kernel)) (by rw [isSubtype_type]; kernel_rfl)
theorem k_lga : builtinKind "list.__getattribute__" = some .slot := by decide +kernel
theorem sp_lga : splitId "list.__getattribute__" = some ("list", "__getattribute__") := by decide +kernel
theorem qu_lga : ("list.__getattribute__" : String).startsWith "lifetime." = false := by decide +kernel
theorem ar_lga (a b : Value) : argsOk "list.__getattribute__" ⟨[a, b], []⟩ := by unfold argsOk; kernel_rfl
theorem w_lga (a : Args) : (Code.builtin "list.__getattribute__" a).weight = 0 := by kernel_rfl
theorem md_noset : typeLookup (.type "method_descriptor") "__set__" = pure none := by rw [typeLookup_type, builtinLookup_eq_fast]; kernel_rfl
theorem md_nodel : typeLookup (.type "method_descriptor") "__delete__" = pure none := by rw [typeLookup_type, builtinLookup_eq_fast]; kernel_rfl
noncomputable abbrev bndObj (l : Addr) : Obj := { cls := .type "builtin_function_or_method", data := .fields #[.builtin "list.append", .ref l] }
section
variable {w : World} {A : Around} {h : Heap} {g : Array GenState} {d : Drawn} {t : Nat} {os : OsState} {E : Value → Shared → Prop}
theorem lap_get {l : Addr} {xs : Array Value} {n : Nat} {Q : PySem.Fin → Shared → Prop} (hl : h.get? l = some (seqObj "list" xs n)) (hq : Q (.done (.ret (.ref h.objs.size))) ⟨h.push (bndObj l), g, d, t, os⟩) :
    wpAny (Md w) A (Builtin.«method_descriptor.__get__» ⟨[.builtin "list.append", .ref l, .type "list"], []⟩) Q E ⟨h, g, d, t, os⟩ := by
  unfold Builtin.«method_descriptor.__get__»
  repeat (first | with_reducible refine wpAny_newObj_type ?_ (by size_fits) | lk)
  exact hq
theorem ga_app {l : Addr} {xs : Array Value} {n : Nat} {tk : Tok} {R : Result → Shared → Prop} (hl : h.get? l = some (seqObj "list" xs n)) (hq : R (.ok (.ret (.ref h.objs.size))) ⟨h.push (bndObj l), g, d, t, os⟩) :
    codeAny (Md w) A (.call (.builtin "list.__getattribute__") ⟨[.ref l, .str (Str.ofString "append") tk], []⟩) R ⟨h, g, d, t, os⟩ := by
  have L1 : Looks (Md w) h (typeOf (.ref l)) (.type "list") := (Looks.ld hl).andThen .now
  have L2 : Looks (Md w) h (isInstance (.ref l) (.type "list")) true := L1.andThen (Looks.of_pure (by rw [isSubtype_type]; kernel_rfl))
  have L3 : Looks (Md w) h (typeLookup (.type "list") (Str.ofString "append")) (some (.builtin "list.append")) := Looks.of_pure PySem.F.slot_list_append.lookup
  have L4 : Looks (Md w) h (specialOf (.builtin "list.append") (Str.ofString "__get__")) (some (.builtin "method_descriptor.__get__")) := (Looks.of_pure PySem.F.type_list_append).andThen (Looks.of_pure lk_mdg)
  have L5 : Looks (Md w) h (specialOf (.builtin "list.append") (Str.ofString "__set__")) none := (Looks.of_pure PySem.F.type_list_append).andThen (Looks.of_pure md_noset)
  have L6 : Looks (Md w) h (specialOf (.builtin "list.append") (Str.ofString "__delete__")) none := (Looks.of_pure PySem.F.type_list_append).andThen (Looks.of_pure md_nodel)
  have hTd : (⟨h, g, d, t, os⟩ : Shared).TypeIs (.builtin "list.append") "method_descriptor" := PySem.F.type_list_append
  refine codeAny_call_builtin_at (Code.quiet_builtin _ qu_lga) en_lga (@check_slot (Md w) _ _ _ "list.__getattribute__" "list" "__getattribute__" (.ref l) [.str (Str.ofString "append") tk] [] _ k_lga sp_lga L2 (ar_lga _ _) ?_)
  rw [Around.under_plain (w_lga _) rfl]
  unfold Builtin.«object.__getattribute__»
  repeat (first | with_reducible refine wpAny_call_entry slot_mdg hTd en_mdg ?_ (ar_mdg _ _ _) | with_reducible refine lap_get hl ?_ | lk)
  exact ⟨_, rfl, wpAny_pure hq⟩
theorem gat_app {l : Addr} {xs : Array Value} {n : Nat} {ex : Bool} {Q : Value → Shared → Prop} (hl : h.get? l = some (seqObj "list" xs n)) (hq : Q (.ref h.objs.size) ⟨h.push (bndObj l), g, d, t + 1, os⟩) :
    wpAny (Md w) A (getAttr (.ref l) (Str.ofString "append") ex) Q E ⟨h, g, d, t, os⟩ := by
  have L1 : Looks (Md w) h (typeOf (.ref l)) (.type "list") := (Looks.ld hl).andThen .now
  have L2 : Looks (Md w) h (typeLookup (.type "list") (Str.ofString "__getattribute__")) (some (.builtin "list.__getattribute__")) := Looks.of_pure slot_lga.lookup
  have f4 := slot_lga.bind (.ref l)
  unfold getAttr getAttrBy
  refine wpAny_bind (wpAny_mkText (wpAny_holding (wpAny_bind (L1.at (wpAny_bind (L2.at ?_))))))
  show wpAny _ _ (getAttrByItsOwn (.ref l) _ (.type "list") (.builtin "list.__getattribute__") true ex) _ _ _
  unfold getAttrByItsOwn hookBefore callGetattribute boundAndCalled
  refine wpAny_bind (wpAny_of_eq (show (if onTheHeap (.type "list") then typeLookup (.type "list") "__getattr__" else pure none) = pure none from rfl) ?_)
  refine wpAny_bind (wpAny_attempt (wpAny_holding ?_))
  rw [show (ex && onTheHeap (Value.builtin "list.__getattribute__")) = false from by cases ex <;> rfl]
  simp only [Bool.false_eq_true, if_false]
  refine wpAny_bind (wpAny_of_eq f4 ?_)
  refine wpAny_call (ga_app hl ?_)
  show wpAny _ _ (handedOut (.ref h.objs.size)) _ _ _
  rw [handedOut_of rfl]
  exact wpAny_pure hq
end
section
variable {w : World} {A : Around} {s : Shared} {E : Value → Shared → Prop}
theorem e_attr {env : Env} {o : Expr} {attr : Str} {pos : Pos} {Q : Value → Shared → Prop} (h : wpAny (Md w) A (eval o env) (fun ov s₁ => wpAny (Md w) A (getAttr ov attr true) Q E s₁) E s)
    (hb : attributeBase o attr env (eval o env) = eval o env := by with_unfolding_all rfl) : wpAny (Md w) A (eval (.Attribute o attr pos) env) Q E s := by
  rw [arm_eval_Attribute, hb]
  exact wpAny_bind (wpAny_mono h (fun ov s₁ h₁ => wpAny_bind (wpAny_standAt (wpAny_bind (wpAny_holding (wpAny_mono h₁ (fun r s₂ h₂ => wpAny_bind (wpAny_letTemporaryGo (wpAny_pure h₂))) fun _ _ e => e))))) fun _ _ e => e)
theorem cw_bn {env : Env} {pos : Pos} {Q : Value → Shared → Prop} {q l : Addr} {args : List Expr}
    (h : Ev (Md w) A E env args (fun vs s₁ => s₁.heap.get? q = some (bndObj l) ∧ wpAny (Md w) A (call (.ref q) vs) Q E s₁) s) (hp : args.all plainE = true := by with_unfolding_all rfl) :
    wpAny (Md w) A (callWith pos (.ref q) [] (backTo pos (starEach args env)) []) Q E s := by
  have key : ∀ h, h.get? q = some (bndObj l) → ∃ k, (k = Keeper.frame ∨ k = Keeper.machine ∨ k = Keeper.boundFrame) ∧ Looks (Md w) h (keeperOf (.ref q)) k := by
    intro h ho
    refine ⟨.machine, .inr (.inl rfl), (Looks.ld (part := none) ho).andThen ?_⟩
    exact .now
  exact callWith_of (P := fun h => h.get? q = some (bndObj l)) (by rw [backTo_plain hp]; rfl) key (evalArgs_ev hp h)
theorem qu_lap : ("list.append" : String).startsWith "lifetime." = false := by decide +kernel
theorem w_lap (a : Args) : (Code.builtin "list.append" a).weight = 0 := by kernel_rfl
theorem cb_app {l : Addr} {v : Value} {xs : Array Value} {n : Nat} {Q : Unit → Shared → Prop} (hl : s.heap.get? l = some (seqObj "list" xs n)) (h : Q () s) :
    wpAny (Md w) A (checkBoundCall "list.append" ⟨[.ref l, v], []⟩) Q E s := by
  obtain ⟨hh, g, d, t, os⟩ := s
  have L1 : Looks (Md w) hh (typeOf (.ref l)) (.type "list") := (Looks.ld hl).andThen .now
  have L2 : Looks (Md w) hh (isInstance (.ref l) (.type "module")) false := L1.andThen (Looks.of_pure (by rw [isSubtype_type]; kernel_rfl))
  unfold checkBoundCall
  iterate 11 (first | with_reducible refine ks_wpAny_isType_inst hl (fun c e => by cases e) ?_ | lk)
  exact wpAny_of_eq (a := ()) (by kernel_rfl) h
theorem bn_call {q l : Addr} {v : Value} {xs : Array Value} {n : Nat} {R : Result → Shared → Prop} (hl : s.heap.get? l = some (seqObj "list" xs n)) (hq : s.heap.get? q = some (bndObj l)) (hsz : xs.size ≤ sizeLine)
    (h : ∀ h', (∃ m, h'.get? l = some (seqObj "list" (xs.push v) m)) → Heap.SameBut l s.heap h' → R (.ok (.ret .none)) { s with heap := h' }) :
    codeAny (Md w) A (.call (.ref q) ⟨[v], []⟩) R s := by
  refine codeAny_of_tree ?_
  show wpAny _ A.in1 (callAny (.ref q) _) _ _ _
  unfold callAny
  refine wpAny_bind (wpAny_load hq ?_)
  show wpAny _ _ (checkBoundCall "list.append" ⟨[.ref l, v], []⟩ >>= fun _ => again (.builtin "list.append" ⟨[.ref l, v], []⟩)) _ _ _
  refine wpAny_bind (cb_app hl (wpAny_pure ⟨Code.quiet_builtin _ qu_lap, codeAny_builtin entry_list_append ?_⟩))
  rw [Around.under_plain (w_lap _) rfl]
  show wpAny _ _ (updateSeq l (·.push v) >>= fun _ => ret .none) _ _ s
  refine wpAny_bind (wpAny_updateSeq hl rfl (wpAny_pure (h _ ⟨n + 1, ?_⟩ (Heap.SameBut.update ..))) hsz ?_)
  · rw [Heap.get?_update_self _ hl (by rw [Obj.mapSeq_push_plain]; rfl), Obj.mapSeq_push_plain]
  · first | (rw [Array.size_push]; omega) | trivial
end
noncomputable def LP (ps : List (Option Str)) (o : Obj) : Prop := ∃ vs, PartsAre vs ps ∧ LstP vs o
noncomputable def IsPt : Value → Option Str → Prop
  | .none, none => True
  | .str x _, some y => x = y
  | _, _ => False
theorem parts_snoc {vs : List Value} {ps : List (Option Str)} {v : Value} {p : Option Str} (h : PartsAre vs ps) (hp : IsPt v p) : PartsAre (vs ++ [v]) (ps ++ [p]) := by
  induction h with
  | nil =>
    cases p with
    | none => cases v <;> first | exact .none .nil | exact hp.elim
    | some y => cases v <;> first | (cases hp; exact .some _ _ .nil) | exact hp.elim
  | none _ ih => exact .none ih
  | some y t _ ih => exact .some y t ih
section
variable {w : World} {A : Around} {B s : Shared} {own own' : Led} {E Q : Value → Shared → Prop} {l q : Addr} {ps : List (Option Str)} {p : Option Str} {v : Value}
theorem o_getapp {ex : Bool} (F : Fm w B s own) (hl : (l, LP ps) ∈ own) (h : ∀ q s', Fm w B s' ((q, fun o => o = bndObj l) :: own) → Q (.ref q) s') : wpAny (Md w) A (getAttr (.ref l) (Str.ofString "append") ex) Q E s := by
  obtain ⟨o, ho, vs, hs, n, rfl⟩ := F.sat _ hl
  have F1 := F.push (o := bndObj l) (P := fun o => o = bndObj l) (t := s.toks + 1) rfl rfl
  obtain ⟨hh, g, d, t, os⟩ := s
  exact gat_app ho (h _ _ F1)
theorem o_bapp (F : Fm w B s own) (hq : (q, fun o => o = bndObj l) ∈ own) (U : UpdE l (LP ps) (LP (ps ++ [p])) own own') (hp : IsPt v p) (hz : ps.length ≤ 1000) (h : ∀ s', Fm w B s' own' → Q .none s') :
    wpAny (Md w) A (call (.ref q) [v]) Q E s := by
  obtain ⟨o, ho, vs, hs, n, rfl⟩ := F.sat _ U.mem
  obtain ⟨oq, hoq, e⟩ := F.sat _ hq
  have e : oq = bndObj l := e
  subst e
  have hl := parts_len hs
  refine wpAny_call (bn_call ho hoq (by rw [List.size_toArray, sizeLine_eq]; omega) fun h' hl' hs' => ?_)
  obtain ⟨m, hm⟩ := hl'
  exact h _ (F.upd U hs' ⟨_, hm, vs ++ [v], parts_snoc hs hp, m, by simp⟩)
theorem cw_bap {env : Env} {pos : Pos} {args : List Expr} (F : Fm w B s own) (hq : (q, fun o => o = bndObj l) ∈ own)
    (h : Ev (Md w) A E env args (fun vs s₁ => (∃ own', Fm w B s₁ own' ∧ (q, fun o => o = bndObj l) ∈ own') ∧ wpAny (Md w) A (call (.ref q) vs) Q E s₁) s) (hp : args.all plainE = true := by with_unfolding_all rfl) :
    wpAny (Md w) A (callWith pos (.ref q) [] (backTo pos (starEach args env)) []) Q E s := by
  have key : ∀ (es : List Expr) (s : Shared) (Q : List Value → Shared → Prop), Ev (Md w) A E env es (fun vs s₁ => (∃ own', Fm w B s₁ own' ∧ (q, fun o => o = bndObj l) ∈ own') ∧ Q vs s₁) s → Ev (Md w) A E env es (fun vs s₁ => s₁.heap.get? q = some (bndObj l) ∧ Q vs s₁) s := by
    intro es
    induction es with
    | nil =>
      intro s Q h
      obtain ⟨⟨own', F', hq'⟩, h⟩ := h
      obtain ⟨o, ho, e⟩ := F'.sat _ hq'
      have e : o = bndObj l := e
      subst e
      exact ⟨ho, h⟩
    | cons e r ih => intro s Q h; exact wpAny_mono (show wpAny _ _ _ _ _ _ from h) (fun v s₁ h₁ => ih s₁ (fun vs => Q (v :: vs)) h₁) fun _ _ z => z
  exact cw_bn (key args s (fun vs s₁ => wpAny (Md w) A (call (.ref q) vs) Q E s₁) h) hp
end
end

section
open PySem PySem.W PySem.Spec PySem.Calls PyProof.Rows Builtin Builtin.Str
set_option Elab.async false
set_option maxRecDepth 100000
set_option maxHeartbeats 0
noncomputable abbrev escEs : Array DictEntry := #[{ hash := 40, key := .int 40 539, val := .str (sS "\\(") 543 }, { hash := 41, key := .int 41 545, val := .str (sS "\\)") 549 }, { hash := 91, key := .int 91 551, val := .str (sS "\\[") 555 }, { hash := 93, key := .int 93 557, val := .str (sS "\\]") 561 }, { hash := 123, key := .int 123 563, val := .str (sS "\\{") 567 }, { hash := 125, key := .int 125 569, val := .str (sS "\\}") 573 }, { hash := 63, key := .int 63 575, val := .str (sS "\\?") 579 }, { hash := 42, key := .int 42 581, val := .str (sS "\\*") 585 }, { hash := 43, key := .int 43 587, val := .str (sS "\\+") 591 }, { hash := 45, key := .int 45 593, val := .str (sS "\\-") 597 }, { hash := 124, key := .int 124 599, val := .str (sS "\\|") 603 }, { hash := 94, key := .int 94 605, val := .str (sS "\\^") 609 }, { hash := 36, key := .int 36 611, val := .str (sS "\\$") 615 }, { hash := 92, key := .int 92 617, val := .str (sS "\\\\") 621 }, { hash := 46, key := .int 46 623, val := .str (sS "\\.") 627 }, { hash := 38, key := .int 38 629, val := .str (sS "\\&") 633 }, { hash := 126, key := .int 126 635, val := .str (sS "\\~") 639 }, { hash := 35, key := .int 35 641, val := .str (sS "\\#") 645 }, { hash := 32, key := .int 32 647, val := .str (sS "\\ ") 651 }, { hash := 9, key := .int 9 653, val := .str (sS "\\\t") 657 }, { hash := 10, key := .int 10 659, val := .str (sS "\\\n") 663 }, { hash := 13, key := .int 13 665, val := .str (sS "\\\x0d") 669 }, { hash := 11, key := .int 11 671, val := .str (sS "\\\x0b") 675 }, { hash := 12, key := .int 12 677, val := .str (sS "\\\x0c") 681 }]
theorem esc_row (P : Params) : (KH P).lookup 166 = some { cls := .type "dict", data := .dict escEs 24 } := by kernel_rfl
noncomputable def isIK (e : DictEntry) : Bool := match e.key with
  | .int i _ => e.hash == hashInt i
  | _ => false
theorem isIK_of {e : DictEntry} (h : isIK e = true) : ∃ i t, e.key = .int i t ∧ e.hash = hashInt i := by
  obtain ⟨k, hk, v⟩ := e
  cases hk with
  | int i t => exact ⟨i, t, rfl, eq_of_beq h⟩
  | _ => cases h
theorem esc_all : escEs.all isIK = true := by kernel_rfl
theorem esc_97 : findBy Value.isInt escEs (97 : Int) = none := by kernel_rfl
theorem esc_98 : findBy Value.isInt escEs (98 : Int) = none := by kernel_rfl
theorem esc_46 : ∃ t, findBy Value.isInt escEs (46 : Int) = some (.str (Str.ofString "\\.") t) := ⟨_, rfl⟩
theorem esc_map {w : World} {h : Heap} (X : (KK w).In h) : ∃ f, h.MapOf (intKind PP w) 166 f ∧ f 97 = none ∧ f 98 = none ∧ ∃ t, f 46 = some (.str (Str.ofString "\\.") t) := by
  refine ⟨fun k => findBy Value.isInt escEs k, ⟨_, escEs, _, X _ _ (esc_row w.params), ⟨rfl, rfl, rfl⟩, rfl, fun e he => ?_, fun k => rfl⟩, esc_97, esc_98, esc_46⟩
  obtain ⟨i, t, hk, hh⟩ := isIK_of (Array.all_eq_true'.mp esc_all e he)
  exact ⟨i, by rw [hk]; simp [intKind, Value.isInt], hh⟩
theorem sub_KL : isSubtype (.type "KeyError") (.type "LookupError") = pure true := by rw [isSubtype_type]; kernel_rfl
section
variable {w : World} {A : Around} {s : Shared} {E : Value → Shared → Prop}
theorem tl_miss {c : Nat} {Q : Mapped → Shared → Prop} (hh : A.handled = none) (hm : ∃ f, s.heap.MapOf (intKind PP w) 166 f ∧ f c = none)
    (h : ∀ h' tk, (∀ b o, s.heap.get? b = some o → h'.get? b = some o) → Q .keep { s with heap := h', toks := tk }) : wpAny (Md w) A (tableLookup (.ref 166) c) Q E s := by
  obtain ⟨f, hm, hf⟩ := hm
  unfold tableLookup
  refine wpAny_bind (wpAny_attempt (wpAny_bind (wpAny_mkInt (s := s) ?_)))
  refine wpAny_getItem_missing_of (knd := intKind PP w) (k := (c : Int)) (s := { s with toks := s.toks + 1 }) (by simp [intKind, Value.isInt]) (by decide) hh hm hf fun h' e he => ?_
  obtain ⟨ob, t, ho, hc, _⟩ := he.there
  refine wpAny_bind (wpAny_isInstance (T := "KeyError") (b := true) ⟨ob, ho, hc⟩ sub_KL ?_)
  rw [if_pos rfl]
  exact wpAny_bind (wpAny_rule (wpAny_pure (h h' _ he.keeps)))
theorem tl_hit {c : Nat} {x : Str} {t : Tok} {Q : Mapped → Shared → Prop} (hm : ∃ f, s.heap.MapOf (intKind PP w) 166 f ∧ f c = some (.str x t))
    (h : ∀ tk, Q (.text x) { s with toks := tk }) : wpAny (Md w) A (tableLookup (.ref 166) c) Q E s := by
  obtain ⟨f, hm, hf⟩ := hm
  unfold tableLookup
  refine wpAny_bind (wpAny_attempt (wpAny_bind (wpAny_mkInt (s := s) ?_)))
  refine wpAny_getItem_of (knd := intKind PP w) (k := (c : Int)) (s := { s with toks := s.toks + 1 }) (by simp [intKind, Value.isInt]) hm hf ?_
  dsimp only
  refine wpAny_bind (wpAny_pure (wpAny_bind (wpAny_pure ?_)))
  exact wpAny_pure (h _)
end
end

section
open PySem PySem.W PySem.Spec PySem.Calls PyProof.Rows Builtin Builtin.Str
set_option Elab.async false
set_option maxRecDepth 100000
set_option maxHeartbeats 0
section
variable {w : World} {A : Around} {h : Heap} {g : Array GenState} {d : Drawn} {t : Nat} {os : OsState} {E : Value → Shared → Prop}
theorem tr_any {x : Str} {c : Nat} {tk : Tok} {Q : Value → Shared → Prop} (hh : A.handled = none) (hx : x.cps = #[c]) (hc : c < 128)
    (hm : ((∃ f, h.MapOf (intKind PP w) 166 f ∧ f c = none) ∧ ∀ h' t1 t2, (∀ b o, h.get? b = some o → h'.get? b = some o) → Q (.str x t1) ⟨h', g, d, t2, os⟩) ∨
      ∃ y ty, (∃ f, h.MapOf (intKind PP w) 166 f ∧ f c = some (.str y ty)) ∧ y.length = 2 ∧ ∀ t1 t2, Q (.str y t1) ⟨h, g, d, t2, os⟩) :
    wpAny (Md w) A (Builtin.«str.translate» ⟨[.str x tk, .ref 166], []⟩) (fun fin s' => ∃ v, fin = .done (.ret v) ∧ Q v s') E ⟨h, g, d, t, os⟩ := by
  have e2 : (x.length == 0) = false := by unfold Str.length; rw [hx]; rfl
  have e3 : tooLong 0 = false := by decide +kernel
  have e5 : (#[c].all (fun a => decide (a < 128)) 0 [c].length) = true := by simp [hc]
  unfold Builtin.«str.translate»
  refine wpAny_bind ?_
  refine wpAny_of_eq (a := (Value.str x tk, x, Value.ref 166)) (by kernel_rfl) ?_
  dsimp only
  rw [e2]
  simp only [Bool.false_eq_true, if_false]
  rw [hx]
  simp only [List.size_toArray, List.forIn_toArray]
  refine wpAny_bind ?_
  rw [List.forIn_cons]
  simp only [e3, Bool.false_eq_true, if_false]
  rw [e5, if_pos rfl]
  simp only [List.lookup_nil]
  repeat (with_reducible refine wpAny_bind ?_)
  rcases hm with ⟨hm, hq⟩ | ⟨y, ty, hm, hy, hq⟩
  · have e4 : tooLong (0 + 1) = false := by decide +kernel
    refine tl_miss hh hm fun h' tk' hk => ?_
    dsimp only
    refine wpAny_bind (wpAny_pure ?_)
    dsimp only
    refine wpAny_pure ?_
    dsimp only
    rw [List.forIn_nil]
    refine wpAny_pure ?_
    dsimp only
    rw [e4, if_neg Bool.false_ne_true]
    have ex : (⟨[({ cps := #[c] } : Str)].reverse.foldl (fun acc p => acc ++ p.cps) #[]⟩ : Str) = x := by
      have : x = ⟨#[c]⟩ := by cases x; simp at hx; rw [hx]
      rw [this]; simp
    rw [ex]
    exact wpAny_bind (wpAny_mkStr (s := ⟨h', g, d, tk', os⟩) (wpAny_pure ⟨_, rfl, hq _ _ _ hk⟩) (hx := by unfold Str.length; rw [hx]; exact Nat.le_of_ble_eq_true rfl))
  · have e4 : tooLong (0 + y.length) = false := by rw [hy]; decide +kernel
    have e6 : (y.length == 1 && y.cps.all fun a => decide (a < 128)) = false := by rw [hy]; rfl
    refine tl_hit hm fun tk' => ?_
    dsimp only
    rw [e6, if_neg Bool.false_ne_true]
    refine wpAny_bind (wpAny_pure ?_)
    dsimp only
    repeat (first | with_reducible refine wpAny_bind ?_ | with_reducible refine wpAny_rule ?_)
    refine tl_hit hm fun tk' => ?_
    dsimp only
    refine wpAny_pure ?_
    dsimp only
    rw [List.forIn_nil]
    refine wpAny_pure ?_
    dsimp only
    rw [e4, if_neg Bool.false_ne_true]
    have ex : (⟨[y].reverse.foldl (fun acc p => acc ++ p.cps) #[]⟩ : Str) = y := by cases y; simp
    rw [ex]
    exact wpAny_bind (wpAny_mkStr (s := ⟨h, g, d, tk', os⟩) (wpAny_pure ⟨_, rfl, hq _ _⟩) (hx := by rw [hy]; exact Nat.le_of_ble_eq_true rfl))
end
theorem isfn_176 (P : Params) : isFnK (KH P) 176 = true := by kernel_rfl
theorem g_escape : Glo (PySem.Str.ofString "escape") (.ref 176) := Glo.ofK (fun _ => by kernel_rfl)
theorem g_scm : Glo (PySem.Str.ofString "_special_chars_map") (.ref 166) := Glo.ofK (fun _ => by kernel_rfl)
noncomputable def escp (c : Nat) : Str := if c = 46 then Str.ofString "\\." else ⟨#[c]⟩
theorem c_escape {w : World} {A : Around} {s : Shared} {n : Nat} {R : Result → Shared → Prop} {x : Str} {c : Nat} {t : Tok} (hA : Rm A (n + 1)) (W : Wg w s.heap) (hx : x.cps = #[c]) (hc : c = 97 ∨ c = 98 ∨ c = 46)
    (h : ∀ t' s', Ext s s' → R (.ok (.ret (.str (escp c) t'))) s') : codeAny (Md w) A (.call (.ref 176) ⟨[.str x t], []⟩) R s := by
  with_reducible refine enterD (binds := [(Str.ofString "pattern", .str x t)]) (ks := [(Str.ofString "pattern", .local), (Str.ofString "isinstance", .globalImplicit), (Str.ofString "str", .globalImplicit), (Str.ofString "_special_chars_map", .globalImplicit)]) hA W (by kernel_rfl) (by kernel_rfl) (by kernel_rfl) (by kernel_rfl) (by kernel_rfl) ?_
  intro L s' hL F hA' hk
  conv in bodyOf _ => whnf
  with_reducible refine x_if (bt_call (c_glo F hk (by kd_mem) g_isinstance (cw_bi (ev_cons ?_))))
  kst_mem
  with_reducible refine ev_cons (e_glo F hk (by kd_mem) g_str (ev_nil ?_))
  refine call_isinstance_yes (typeIs_str _ _ _) (by kernel_rfl) sub_ss ?_
  with_reducible refine t_bool (br_true (x_ret (c_meth ?_)))
  kst_mem
  with_reducible refine fun _ => ?_
  refine getMethod_builtin (typeIs_str _ _ _) PySem.F.plainAttrs_str PySem.F.slot_str_translate PySem.F.type_str_translate (fun a e' => by cases e') ?_
  with_reducible refine cw_m (ev_cons (e_glo F hk (by kd_mem) g_scm (ev_nil ?_)))
  have F1 := F
  obtain ⟨hh, g, d, tk, os⟩ := s'
  obtain ⟨f, hm, h97, h98, t46, h46⟩ := esc_map (w := w) F.base.K
  refine wpAny_call_entry PySem.F.slot_str_translate (typeIs_str _ _ _) PySem.F.entry_str_translate ?_ (PySem.F.args_str_translate_2 _ _)
  have hx' : x = ⟨#[c]⟩ := by cases x; simp at hx; rw [hx]
  rcases hc with rfl | rfl | rfl
  · refine tr_any (A := (A.deeper _).in1) hA'.h hx (by omega) (.inl ⟨⟨f, hm, h97⟩, fun h' t1 t2 hk' => ?_⟩)
    have := h t1 ⟨h', g, d, t2, os⟩ (F1.toExt.trans ⟨hk', rfl, rfl⟩)
    rw [show escp 97 = x from hx'.symm] at this
    exact this
  · refine tr_any (A := (A.deeper _).in1) hA'.h hx (by omega) (.inl ⟨⟨f, hm, h98⟩, fun h' t1 t2 hk' => ?_⟩)
    have := h t1 ⟨h', g, d, t2, os⟩ (F1.toExt.trans ⟨hk', rfl, rfl⟩)
    rw [show escp 98 = x from hx'.symm] at this
    exact this
  · refine tr_any (A := (A.deeper _).in1) hA'.h hx (by omega) (.inr ⟨_, _, ⟨f, hm, h46⟩, by kernel_rfl, fun t1 t2 => ?_⟩)
    exact h t1 ⟨hh, g, d, t2, os⟩ (F1.toExt.trans ⟨fun _ _ e => e, rfl, rfl⟩)
end

section
open PySem PySem.W PySem.Spec PySem.Calls PyProof.Rows Builtin Builtin.Re
set_option Elab.async false
set_option maxRecDepth 100000
set_option maxHeartbeats 0
noncomputable def strip {α : Type} : Nat → Sem α → Option α
  | 0, _ => none
  | n + 1, t => match t with
    | .pure a => some a
    | .rule _ k => strip n (k ())
    | _ => none
theorem strip_wp {α : Type} {M : Model} {A : Around} {E : Value → Shared → Prop} {Q : α → Shared → Prop} {s : Shared} {a : α} : ∀ (n : Nat) (t : Sem α), strip n t = some a → Q a s → wpAny M A t Q E s
  | 0, _, e, _ => by cases e
  | n + 1, t, e, h => by
    cases t with
    | pure a => cases e; exact nd_pure h
    | rule r k => exact nd_rule (strip_wp n _ e h)
    | _ => cases e
noncomputable def twCode : Array Nat := #[14, 14, 4, 1, 1, 9, 0, 64, 0, 1342177280, 0, 0, 0, 0, 0, 17, 0, 13, 11, 9, 0, 64, 0, 1342177280, 0, 0, 0, 0, 0, 17, 1, 1]
noncomputable def isNoneO : Option (Option Sre.M) → Bool
  | some none => true
  | _ => false
noncomputable def NoHit (x : Str) : Prop := isNoneO (strip 5000 (reRunToEnd (Sre.forSearch twCode x.cps 1 0 x.cps.size false))) = true
theorem noHit_wp {x : Str} (hx : NoHit x) {M : Model} {A : Around} {E : Value → Shared → Prop} {Q : Option Sre.M → Shared → Prop} {s : Shared} (h : Q none s) : wpAny M A (reRunToEnd (Sre.forSearch twCode x.cps 1 0 x.cps.size false)) Q E s := by
  unfold NoHit at hx
  cases e : strip 5000 (reRunToEnd (Sre.forSearch twCode x.cps 1 0 x.cps.size false)) with
  | none => rw [e] at hx; cases hx
  | some r =>
    cases r with
    | none => exact strip_wp _ _ e h
    | some m => rw [e] at hx; cases hx
theorem nextFound {x : Str} (hx : NoHit x) {M : Model} {A : Around} {E : Value → Shared → Prop} {Q : Option Sre.M → Shared → Prop} {s : Shared} {p sv : Value} (h : Q none s) :
    wpAny M A (reNextFound { pattern := p, string := sv, code := twCode, text := x.cps, kind := 0, groups := 1, pos := 0, lim := x.cps.size } (Int.toNat 0) false) Q E s := noHit_wp hx h
noncomputable abbrev twObj : Obj := { cls := .type "re.Pattern", data := .fields #[.str (Str.ofString "([&~|])") 499, .int 32 534, .int 1 0, .none, .none, .ref 163, .int 0 0] }
noncomputable abbrev twSeq : Obj := { cls := .type "tuple", data := .seq (twCode.map fun (n : Nat) => .int (n : Int) 0) 0 }
theorem tw164 (P : Params) : (KH P).lookup 164 = some twObj := by kernel_rfl
theorem tw163 (P : Params) : (KH P).lookup 163 = some twSeq := by kernel_rfl
theorem k_sub : builtinKind "re.Pattern.sub" = some .method := by decide +kernel
theorem sp_sub : splitId "re.Pattern.sub" = some ("re.Pattern", "sub") := by decide +kernel
theorem qu_sub : ("re.Pattern.sub" : String).startsWith "lifetime." = false := by decide +kernel
theorem qu_lsub : ("re.Pattern.sub.loop" : String).startsWith "lifetime." = false := by decide +kernel
theorem w_sub (a : Args) : (Code.builtin "re.Pattern.sub" a).weight = 0 := by kernel_rfl
theorem w_lsub (a : Args) : (Code.builtin "re.Pattern.sub.loop" a).weight = 0 := by kernel_rfl
theorem en_sub : entryFor table "re.Pattern.sub" = some Builtin.«re.Pattern.sub» := entryFor_of_tree (by kernel_rfl)
theorem en_lsub : entryFor table "re.Pattern.sub.loop" = some Builtin.«re.Pattern.sub.loop» := entryFor_of_tree (by kernel_rfl)
theorem ar_sub (a b c : Value) : argsOk "re.Pattern.sub" ⟨[a, b, c], []⟩ := by unfold argsOk; kernel_rfl
theorem fn_call : typeLookup (.type "function") "__call__" = pure (some (.builtin "function.__call__")) := by rw [typeLookup_type, builtinLookup_eq_fast]; kernel_rfl
section
variable {w : World} {A : Around} {h : Heap} {g : Array GenState} {d : Drawn} {t : Nat} {os : OsState} {E : Value → Shared → Prop}
theorem rwt {x : Str} {tk : Tok} {Q : ReTarget → Shared → Prop} (X : (KK w).In h)
    (hq : Q { pattern := .ref 164, string := .str x tk, code := twCode, text := x.cps, kind := 0, groups := 1, pos := 0, lim := x.cps.size } ⟨h, g, d, t, os⟩) : wpAny (Md w) A (reWholeTarget (.ref 164) (.str x tk)) Q E ⟨h, g, d, t, os⟩ := by
  have h1 : h.get? 164 = some twObj := X _ _ (tw164 w.params)
  have h2 : h.get? 163 = some twSeq := X _ _ (tw163 w.params)
  unfold reWholeTarget
  repeat lk
  have e1 : Array.map (fun x : Int => x.toNat) (Array.map reRawOf ((some (Array.map (fun (n : Nat) => Value.int (n : Int) 0) twCode)).getD #[])) = twCode := by kernel_rfl
  rw [e1]
  exact hq
end
section
variable {w : World} {A : Around} {B s : Shared} {own : Led} {E Q : Value → Shared → Prop}
theorem join_self (x : Str) : Txt.join (Str.ofString "") [x] = x := by
  have h1 : Txt.join (Str.ofString "") [x] = Str.join (Str.ofString "") [x] := StrLaws.glued_eq_join _ _
  rw [h1]
  rfl
theorem joinOk_self {x : Str} (h : x.length ≤ 1000) : JoinOk (Str.ofString "") [x] = true := by
  unfold JoinOk
  have e0 : (Str.ofString "").length = 0 := by kernel_rfl
  have e1 : ([x].toArray.foldl (· + ·.length + (Str.ofString "").length) 0) = x.length := by rw [e0]; simp
  rw [e1]
  unfold PySem.Builtin.Str.tooLong
  rw [Bool.not_eq_true']
  exact decide_eq_false (by first | omega | (rw [sizeLine_eq]; omega))
theorem sub_loop {x : Str} {tk : Tok} {f l : Addr} {R : Result → Shared → Prop} (hx : NoHit x) (h0 : 0 < x.cps.size) (h1 : x.cps.size ≤ 1000) (F : Fm w B s ((l, LstP []) :: own))
    (h : ∀ t' s', Fm w B s' own → R (.ok (.ret (.str x t'))) s') :
    codeAny (Md w) A (.builtin "re.Pattern.sub.loop" ⟨[.ref 164, .str x tk, .ref f, rawInt 1, rawInt 0, rawInt 0, rawInt 0, rawInt 0, .bool false, .ref l, .bool false], []⟩) R s := by
  refine codeAny_builtin en_lsub ?_
  rw [Around.under_plain (w_lsub _) rfl]
  unfold Builtin.«re.Pattern.sub.loop»
  obtain ⟨o, ho, n, rfl⟩ := F.sat _ List.mem_cons_self
  have X := F.base.K
  have F0 := F
  obtain ⟨hh, g, d, t, os⟩ := s
  refine wpAny_bind (rwt X ?_)
  have e1 : (⟨x.cps.extract 0 x.cps.size⟩ : Str) = x := by cases x; simp
  have e2 : (⟨x.cps.extract 0 0⟩ : Str) = Str.ofString "" := by
    rw [show Str.ofString "" = ⟨#[]⟩ from by kernel_rfl]
    simp
  repeat (first | with_reducible refine nextFound hx ?_ | lk)
  rw [if_pos (show Int.toNat 0 < x.cps.size from h0)]
  iterate 3 lk
  rw [show ({ cps := x.cps.extract (Int.toNat 0) x.cps.size } : Str) = x from e1]
  refine wpAny_mkStr ?_ (hx := by rw [sizeLine_eq]; unfold Str.length; omega)
  refine wpAny_bind (wpAny_updateSeq (s := ⟨hh, g, d, t + 1, os⟩) ho rfl ?_ (Nat.zero_le _) (by rw [sizeLine_eq]; simp))
  have hs := Heap.SameBut.update hh l (Obj.mapSeq fun its => its.push (Value.str x t))
  have ho2 := PySem.IsL.update ho (fun its => its.push (Value.str x t))
  have F1 : Fm w B ⟨hh.update l (Obj.mapSeq fun its => its.push (Value.str x t)), g, d, t + 1, os⟩ ((l, LstP [.str x t]) :: own) := F.upd (t := t + 1) .head hs ⟨_, ho2, _, rfl⟩
  generalize (hh.update l (Obj.mapSeq fun its => its.push (Value.str x t))) = h2 at hs ho2 F1
  clear hs ho F F0 X
  refine wpAny_bind ?_
  show wpAny _ _ (mkStr { cps := x.cps.extract 0 0 }) _ _ _
  rw [e2]
  refine wpAny_mkStr ?_ (hx := Nat.le_of_ble_eq_true rfl)
  have F2 := F1.tok (t + 1 + 1)
  have ho3 : h2.get? l = some (seqObj "list" #[.str x t] n.succ) := by
    first | exact ho2 | simpa using ho2
  refine wpAny_bind (wpAny_bind (wpAny_load (s := ⟨h2, g, d, t + 1 + 1, os⟩) ho3 (wpAny_pure ?_)))
  dsimp only
  rw [if_neg (by simp), show (if (0 == 0) = true then "str.join" else "bytes.join") = "str.join" from rfl]
  refine wpAny_bind (m_join F2 (.led List.mem_cons_self) (.cons x t .nil) (joinOk_self h1) fun t' s' F3 => ?_)
  rw [join_self]
  rw [if_neg Bool.false_ne_true]
  exact wpAny_pure (h t' s' (F3.weak (.cons _ (List.Sublist.refl _))))
noncomputable def FnP (o : Obj) : Prop := o.cls = .type "function"
theorem o_sub {x : Str} {tk : Tok} {f : Addr} (hx : NoHit x) (h0 : 0 < x.cps.size) (h1 : x.cps.size ≤ 1000) (F : Fm w B s own) (hf : (f, FnP) ∈ own)
    (h : ∀ t' s', Fm w B s' own → Q (.str x t') s') : wpAny (Md w) A (call (.builtin "re.Pattern.sub") [.ref 164, .ref f, .str x tk]) Q E s := by
  have X := F.base.K
  have F0 := F
  obtain ⟨of, hof, hfc⟩ := F.sat _ hf
  have hfc : of.cls = .type "function" := hfc
  obtain ⟨hh, g, d, t, os⟩ := s
  have L1 : Looks (Md w) hh (isInstance (.ref 164) (.type "re.Pattern")) true := ((Looks.ld (X _ _ (tw164 w.params))).andThen .now).andThen (Looks.of_pure (show isSubtype (.type "re.Pattern") (.type "re.Pattern") = pure true by rw [isSubtype_type]; kernel_rfl))
  have L2 : Looks (Md w) hh (specialOf (.ref f) (Str.ofString "__call__")) (some (.builtin "function.__call__")) := ((Looks.ld hof).andThen .now).andThen (by rw [hfc]; exact Looks.of_pure fn_call)
  refine wpAny_call (codeAny_call_builtin_at (Code.quiet_builtin _ qu_sub) en_sub (@check_meth (Md w) _ _ _ "re.Pattern.sub" "re.Pattern" "sub" (.ref 164) [.ref f, .str x tk] [] _ k_sub sp_sub L1 (ar_sub _ _ _) ?_))
  rw [Around.under_plain (w_sub _) rfl]
  unfold Builtin.«re.Pattern.sub» reSubstitute
  dsimp only
  refine wpAny_bind (wpAny_of_eq (a := [some (.ref f), some (.str x tk), none]) (by kernel_rfl) ?_)
  dsimp only
  refine wpAny_bind (wpAny_pure ?_)
  refine wpAny_bind (L2.at ?_)
  have F1 : Fm w B ⟨hh.push { cls := .type "list", dict := none, data := .seq ([] : List Value).toArray }, g, d, t, os⟩ ((hh.objs.size, LstP []) :: own) := F0.push (o := { cls := .type "list", dict := none, data := .seq ([] : List Value).toArray }) (P := LstP []) (t := t) rfl ⟨_, rfl⟩
  repeat (first | with_reducible refine rwt X ?_ | with_reducible refine wpAny_newObj_type ?_ (by size_fits) | lk)
  refine ⟨Code.quiet_builtin _ qu_lsub, ?_⟩
  exact sub_loop hx h0 h1 F1 fun t' s' F2 => h t' s' F2
theorem g_twin : Glo (PySem.Str.ofString "_twin_re_1") (.ref 164) := Glo.ofK (fun _ => by kernel_rfl)
theorem noHit_ab : NoHit (Str.ofString "ab") := by unfold NoHit; kernel_rfl
theorem noHit_na : NoHit (Str.ofString "!a") := by unfold NoHit; kernel_rfl
theorem noHit_st : NoHit (Str.ofString "*") := by unfold NoHit; kernel_rfl
end
end

section
open PySem PySem.W PySem.Spec PySem.Calls PyProof.Rows
set_option Elab.async false
set_option maxRecDepth 100000
set_option maxHeartbeats 0
noncomputable def T8 (o : Obj) : Prop := ∃ ps, TriplesOk ps.toList ∧ o = tabObj ps
theorem triples_snoc {a b : Int} {t u : Tok} {v : Value} : ∀ {l : List Value}, TriplesOk l → TriplesOk (l ++ [.int a t, .int b u, v])
  | [], _ => trivial
  | .int _ _ :: .int _ _ :: _ :: rest, h => by
    have h' : TriplesOk rest := h
    show TriplesOk (rest ++ _)
    exact triples_snoc h'
  | [.int _ _], h => h.elim
  | [.int _ _, .int _ _], h => h.elim
theorem UpdE.self {a : Addr} {P : Obj → Prop} : ∀ {l : Led}, (a, P) ∈ l → UpdE a P P l l
  | p :: l, h => by
    by_cases e : p = (a, P)
    · subst e; exact .head
    · exact .tail (UpdE.self (by rcases List.mem_cons.mp h with h | h; exact absurd h.symm e; exact h))
section
variable {w : World} {A : Around} {B s : Shared} {own : Led} {E Q : Value → Shared → Prop} {env : Env} {L : Addr} {cl0 clos : List (Str × Addr)} {ks : List (Str × NameKind)} {params : Arguments} {body : Expr} {scope : Scope} {pos : Pos} {c P : Addr}
theorem e_lam8 (F : Fm w B s own) (hk : Ks env L cl0 ks) (hcode : env.code = .ref c) (hC : ∀ G, Wd w G → CodeHd G c P) (hm : (P, T8) ∈ own)
    (hcl : closureFor scope env = pure clos) (hdef : defaultsOf params env = ([], []))
    (h : ∀ f s', Fm w B s' ((f, FnP) :: own) → Q (.ref f) s') : wpAny (Md w) A (eval (.Lambda params body scope pos) env) Q E s := by
  obtain ⟨G, WG, hsub⟩ := F.base
  obtain ⟨mg, mb, p, loose, mean, T⟩ := WG.T
  have C : CodeHd s.heap c P := (hC G WG).keeps hsub
  obtain ⟨oP, hP, ps, ht, rfl⟩ := F.sat _ hm
  have hP : s.heap.get? P = some (tabObj ps) := hP
  have hgs := T.g.keeps hsub
  obtain ⟨bm, ob, b1, b2, b3, b4, b5, b6⟩ := T.bmain
  have hgP : mainGlobals ≠ P := fun q => by
    obtain ⟨o, es, ep, e, hd, _⟩ := hgs
    rw [q, hP] at e; cases e; cases hd
  have hbP : bm ≠ P := fun q => by
    have e := hsub _ _ b3
    rw [q, hP] at e; cases e; cases b4
  have hbG : bm ≠ mainGlobals := fun q => by
    obtain ⟨o, es, ep, e, hd, _⟩ := T.g
    rw [q, e] at b3; cases b3; rw [hd] at b6; cases b6
  refine kla_eval hdef ?_
  cases hf : codeAmong pos ps.toList with
  | none =>
    refine kla_makeFunction (mg := mg) hcl hk.glob hgs hcode C hP ht hf hgP ⟨bm, ob, b1, b2, hbG, hbP, hsub _ _ b3, b4, b5, b6⟩ fun c' ctv h' tk hx hge hlt hrec htb => ?_
    have F1 : Fm w B { s with heap := h', toks := tk } own :=
      F.extB (UpdE.self hm) (s' := { s with heap := h', toks := tk }) ⟨fun b o hb e => hx b o (by simpa using hb) e, rfl, rfl⟩ ⟨_, htb, _, by rw [Array.toList_append]; exact triples_snoc ht, rfl⟩
    exact h _ _ (F1.push (P := FnP) (t := tk) rfl (show _ = _ from rfl))
  | some cv =>
    refine kla_makeFunctionHit (mg := mg) hcl hk.glob hgs hcode C hP ht hf ⟨bm, ob, b1, b2, hbG, hbP, hsub _ _ b3, b4, b5, b6⟩ fun ctv h' tk hkk hsz => ?_
    have F1 : Fm w B { s with heap := h', toks := tk } own := F.ext ⟨hkk, rfl, rfl⟩
    exact h _ _ (F1.push (P := FnP) (t := tk) rfl (show _ = _ from rfl))
end
section
variable {w : World} {A : Around} {B s : Shared} {own own' : Led} {E Q : Value → Shared → Prop} {l : Addr} {ps : List (Option Str)} {p : Option Str} {value slice : Expr} {x y z : Str} {t u v : Tok}
theorem t_listP {Q : Bool → Shared → Prop} (F : Fm w B s own) (hl : Has B own l (LP ps)) (hz : ps.length ≤ 1000000) (h : ∀ s', Fm w B s' own → Q (!ps.isEmpty) s') : wpAny (Md w) A (truthy (.ref l)) Q E s := by
  obtain ⟨o, ho, vs, hs, n, rfl⟩ := F.has hl
  have hlen := parts_len hs
  refine wpAny_truthy_list (isListS ho) (by rw [List.size_toArray]; omega) ?_
  have e : vs.toArray.isEmpty = ps.isEmpty := by cases hs <;> rfl
  rw [e]
  exact h _ (F.tok _)
theorem parts_last {vs : List Value} {ps : List (Option Str)} (h : PartsAre vs ps) {p : Option Str} (hp : ps.getLast? = some p) : ∃ v, vs.getLast? = some v ∧ IsPt v p := by
  have hl := parts_len h
  rw [List.getLast?_eq_getElem?] at hp
  have hi : ps.length - 1 < vs.length := by
    have := (List.getElem?_eq_some_iff.mp hp).1
    omega
  have hv := List.getElem?_eq_getElem hi
  refine ⟨vs[ps.length - 1], by rw [List.getLast?_eq_getElem?, hl, hv], ?_⟩
  rcases parts_get h hv with ⟨e1, e2⟩ | ⟨z, t, e1, e2⟩
  · rw [hp] at e2; cases e2; rw [e1]; trivial
  · rw [hp] at e2; cases e2; rw [e1]; rfl
theorem o_lnegP (F : Fm w B s own) (hl : Has B own l (LP ps)) (hp : ps.getLast? = some p) (h : ∀ v, IsPt v p → Q v s)
    (hs : subscripted slice false (.ref l) (.int (-1) u) = operate [.ref l, .int (-1) u] (getItem (.ref l) (.int (-1) u)) := by with_unfolding_all rfl) : wpAny (Md w) A (subscriptTail value slice (.ref l) (.int (-1) u)) Q E s := by
  obtain ⟨o, ho, vs, hss, n, rfl⟩ := F.has hl
  obtain ⟨v, hv, hvp⟩ := parts_last hss hp
  have hlen : 1 ≤ vs.length := by cases vs with | nil => simp at hv | cons _ _ => simp
  refine tail_any (isListS ho).typeIs slot_list_getitem.lookup (wpAny_getItem_list_neg (isListS ho) (by omega) (by rw [List.size_toArray]; omega) (by omega) (x := v) ?_ (h v hvp)) hs
  rw [List.getLast?_eq_getElem?] at hv
  have e : (-1 + (vs.toArray.size : Int)).toNat = vs.length - 1 := by simp; omega
  rw [e]
  simpa using hv
theorem m_repl0 (h0 : (Builtin.Str.occurrences x y 0 x.length (x.length + 1)).isEmpty = true) (h : Q (.str x t) s) : wpAny (Md w) A (call (.builtin "str.replace") [.str x t, .str y u, .str z v]) Q E s := by
  refine call_gives PySem.F.slot_str_replace (typeIs_str _ _ _) PySem.F.entry_str_replace (PySem.F.args_str_replace_3 _ _ _) (gives_str_replace x y z t u v fun e => ?_) ?_
  · rw [h0] at e; simp at e
  · rw [h0]
    simp only [Bool.true_or, if_true]
    exact h
theorem o_notins (h : Q (.bool (!inS y x)) s) : wpAny (Md w) A (compareOp .NotIn (.str y u) (.str x t)) Q E s := PySem.P.notIn_str h
theorem o_intup {zs : List Str} {vs : List Value} {a : Addr} (F : Fm w B s own) (ht : Has B own a (TupP vs)) (hs : StrsAre vs zs) (h : Q (.bool (zs.any (· == x))) s) : wpAny (Md w) A (compareOp .In (.str x t) (.ref a)) Q E s :=
  in_tuple_strs (isTup_of F ht) (by simpa using hs) h
theorem x_assert {test : Expr} {msg : Option Expr} {pos : Pos} {rest : List Stmt} {env : Env} {Q : Flow → Shared → Prop} (h : wpAny (Md w) A (isTrue test env (eval test env)) (fun b s₁ => b = true ∧ wpAny (Md w) A (execs rest env) Q E s₁) E s) :
    wpAny (Md w) A (execs (.Assert test msg pos :: rest) env) Q E s := x_one (wpAny_Assert_holds h)
theorem o_isnot {v : Value} (h : Q (.bool (!(v == .none))) s) : wpAny (Md w) A (compareOp .IsNot v .none) Q E s := isNot_none h
inductive FsK (w : World) (B : Shared) (a b : Str) (Q : Value → Shared → Prop) (v : Value) (s₁ : Shared) : Prop
  | mk (x : Str) (t : Tok) (own' : Led) (e : v = .str x t) (hz : x.length ≤ 1000) (F : Fm w B s₁ own') (h : ∀ t' s', Fm w B s' own' → Q (.str (a ++ x ++ b) t') s')
theorem e_fstr3 {env : Env} {a b : Str} {e : Expr} {k1 k2 : Nat} {p1 p2 p3 pos : Pos} (hz : a.length + 2000 + b.length ≤ sizeLine) (F : Fm w B s own)
    (h : ∀ s1, Fm w B s1 own → wpAny (Md w) A (eval e env) (FsK w B a b Q) E s1) :
    wpAny (Md w) A (eval (.JoinedStr [.Constant (.str a) k1 p1, .FormattedValue e (-1) none p2, .Constant (.str b) k2 p3] pos) env) Q E s := by
  refine JoinedStr_many ?_
  refine joinParts_cons (e_str F fun t1 s1 F1 => ⟨by rw [Str.length_append]; show 0 + _ ≤ _; omega, ?_⟩)
  refine joinParts_cons (FormattedValue_plain (wpAny_mono (h s1 F1) (fun v s2 h2 => ?_) fun _ _ z => z))
  obtain ⟨x, t, own', rfl, hx, F2, h2⟩ := h2
  have e0 : (Str.empty ++ a) = a := Str.empty_append a
  refine formatField_str (fun t' tk => ⟨by rw [e0, Str.length_append]; omega, ?_⟩) (by omega)
  have F3 := F2.tok tk
  show wpAny _ _ (joinParts _ [eval (.Constant (.str b) k2 p3) env]) _ _ _
  refine joinParts_cons (e_str F3 fun t4 s4 F4 => ⟨by rw [e0, Str.length_append, Str.length_append]; omega, ?_⟩)
  rw [e0]
  exact joinParts_nil (h2 _ _ (F4.tok _)) (by rw [Str.length_append, Str.length_append]; omega)
end
end

section
open PySem PySem.W PySem.Spec PySem.Calls PyProof.Rows
set_option Elab.async false
set_option maxRecDepth 100000
set_option maxHeartbeats 0
theorem lk_rga : typeLookup (.type "re.Pattern") "__getattribute__" = pure (some (.builtin "object.__getattribute__")) := by rw [typeLookup_type, builtinLookup_eq_fast]; kernel_rfl
theorem lk_rgat : typeLookup (.type "re.Pattern") "__getattr__" = pure none := by rw [typeLookup_type, builtinLookup_eq_fast]; kernel_rfl
theorem lk_rsub : typeLookup (.type "re.Pattern") "sub" = pure (some (.builtin "re.Pattern.sub")) := by rw [typeLookup_type, builtinLookup_eq_fast]; kernel_rfl
theorem ty_rsub : typeOf (.builtin "re.Pattern.sub") = pure (.type "method_descriptor") := by kernel_rfl
section
variable {w : World} {A : Around} {s : Shared} {E : Value → Shared → Prop}
theorem gm_sub {pl : Sem Bool} {Q : Value × List Value → Shared → Prop} (W : Wg w s.heap) (h : Q (.builtin "re.Pattern.sub", [.ref 164]) s) : wpAny (Md w) A (getMethod (.ref 164) (Str.ofString "sub") pl) Q E s := by
  have h1 : s.heap.get? 164 = some twObj := W.K _ _ (tw164 w.params)
  obtain ⟨hh, g, d, t, os⟩ := s
  have L0 : Looks (Md w) hh (typeOf (.ref 164)) (.type "re.Pattern") := (Looks.ld h1).andThen .now
  have L1 : Looks (Md w) hh (specialOf (.ref 164) (Str.ofString "__getattribute__")) (some (.builtin "object.__getattribute__")) := L0.andThen (Looks.of_pure lk_rga)
  have L2 : Looks (Md w) hh (specialOf (.ref 164) (Str.ofString "__getattr__")) none := L0.andThen (Looks.of_pure lk_rgat)
  have L3 : Looks (Md w) hh (specialOf (.ref 164) (Str.ofString "sub")) (some (.builtin "re.Pattern.sub")) := L0.andThen (Looks.of_pure lk_rsub)
  have e1 : (Manifest.canonical "object.__getattribute__" != "object.__getattribute__") = false := by decide +kernel
  unfold getMethod
  refine wpAny_bind (L1.at ?_)
  dsimp only
  rw [e1]
  simp only [Bool.false_eq_true, if_false]
  refine wpAny_bind (L2.at ?_)
  simp only [Option.isSome_none, Bool.false_eq_true, if_false]
  refine wpAny_bind (L3.at ?_)
  dsimp only
  refine wpAny_bind (wpAny_of_eq ty_rsub ?_)
  rw [if_neg (by decide +kernel)]
  refine wpAny_bind (wpAny_loadPart h1 ?_)
  dsimp only
  exact wpAny_bind (wpAny_rule (wpAny_pure h))
theorem o_gei {a b : Int} {t u : Tok} {Q : Value → Shared → Prop} (h : Q (.bool (decide (a ≥ b))) s) : wpAny (Md w) A (compareOp .GtE (.int a t) (.int b u)) Q E s := PySem.P.ge_int h
end
end

section
open PySem PySem.W PySem.Spec PySem.Calls PyProof.Rows
set_option Elab.async false
set_option maxRecDepth 100000
set_option maxHeartbeats 0
theorem isfn_183 (P : Params) : isFnK (KH P) 183 = true := by kernel_rfl
theorem g_translate : Glo (PySem.Str.ofString "_translate") (.ref 183) := Glo.ofK (fun _ => by kernel_rfl)
theorem fd183_code (P : Params) : (fdOf (KH P) 183).code = .ref 182 := by kernel_rfl
theorem br_t {M : Model} {A : Around} {E : Value → Shared → Prop} {s : Shared} {env : Env} {rest body orelse : List Stmt} {Q : Flow → Shared → Prop} {b : Bool} (e : b = true) (h : Br M A E env body orelse rest Q true s) : Br M A E env body orelse rest Q b s := by
  subst e; exact h
theorem br_f {M : Model} {A : Around} {E : Value → Shared → Prop} {s : Shared} {env : Env} {rest body orelse : List Stmt} {Q : Flow → Shared → Prop} {b : Bool} (e : b = false) (h : Br M A E env body orelse rest Q false s) : Br M A E env body orelse rest Q b s := by
  subst e; exact h
theorem b2_is {b : Bool} {P1 P2 : Prop} (c : Bool) (e : b = c) (h : B2 c P1 P2) : B2 b P1 P2 := by subst e; exact h
theorem c_loc {w : World} {A : Around} {B s : Shared} {own : Led} {E : Value → Shared → Prop} {env : Env} {L : Addr} {cl : List (Str × Addr)} {ks : List (Str × NameKind)} {x : Str} {np pos : Pos} {args : List Expr} {v : Value} {Q : Value → Shared → Prop} {bs : List (Str × Value)}
    (F : Fm w B s own) (hk : Ks env L cl ks) (hx : (x, .local) ∈ ks) (hL : (L, NsP bs) ∈ own) (hv : (x, v) ∈ bs) (h : wpAny (Md w) A (callWith pos v [] (backTo pos (starEach args env)) []) Q E s) :
    wpAny (Md w) A (eval (.Call (.Name x np) args [] pos) env) Q E s := Call_ (e_loc F hk hx hL hv h)
theorem not_t {b : Bool} (h : b = false) : (!b) = true := by rw [h]; rfl
theorem ne_t {x y : Str} (h : (x == y) = false) : (x != y) = true := by unfold bne; rw [h]; rfl
theorem dEnv_code {fd : FuncData} {f L : Addr} : (dEnv fd f L).code = fd.code := rfl
theorem ipt_n : IsPt .none none := trivial
theorem ipt_s {x : Str} {t : Tok} : IsPt (.str x t) (some x) := rfl
structure Brk (pat : Str) (i j : Nat) (stuff out : Str) : Prop where
  i1 : i < pat.length
  j0 : (if (Txt.item pat i == Str.ofString "!") = true then i + 1 else i) < j
  j1 : j < pat.length
  at_ : Txt.item pat j = Str.ofString "]"
  no : ∀ k, (if (Txt.item pat i == Str.ofString "!") = true then i + 1 else i) ≤ k → k < j → (Txt.item pat k == Str.ofString "]") = false
  st : Txt.slice pat (some i) (some j) = stuff
  d : inS (Str.ofString "-") stuff = false
  b : (Builtin.Str.occurrences stuff (Str.ofString "\\") 0 stuff.length (stuff.length + 1)).isEmpty = true
  nh : NoHit stuff
  z0 : 0 < stuff.length
  z1 : stuff.length ≤ 100
  n1 : (stuff == Str.ofString "!") = false
  o : if (Txt.item stuff 0 == Str.ofString "!") = true then out = Str.ofString "[" ++ (Str.ofString "^" ++ Txt.slice stuff (some 1) none) ++ Str.ofString "]"
      else ([Str.ofString "^", Str.ofString "["].any (· == Txt.item stuff 0) = false ∧ out = Str.ofString "[" ++ stuff ++ Str.ofString "]")
inductive TrStep (pat : Str) (St : Nat → List (Option Str) → Prop) (i : Nat) (ps : List (Option Str)) : Prop
  | star (h : Txt.item pat i = Str.ofString "*") (k : ps = [] ∨ (∃ p, ps.getLast? = some p ∧ p ≠ none) → St (i + 1) (ps ++ [none])) (k2 : ps.getLast? = some none → St (i + 1) ps)
  | any (h : Txt.item pat i = Str.ofString "?") (k : St (i + 1) (ps ++ [some (Str.ofString ".")]))
  | let_ (c : Nat) (h : Txt.item pat i = ⟨#[c]⟩) (hc : c = 97 ∨ c = 98 ∨ c = 46) (k : St (i + 1) (ps ++ [some (escp c)]))
  | brk (h : Txt.item pat i = Str.ofString "[") (j : Nat) (stuff out : Str) (b : Brk pat (i + 1) j stuff out) (k : St (j + 1) (ps ++ [some out]))
noncomputable abbrev trB (pat : Str) (tp : Tok) (q l : Addr) (i : Nat) (ti tn : Tok) (u : Tok) : List (Str × Value) := [(Str.ofString "i", .int (i : Nat) ti), (Str.ofString "n", .int pat.length tn), (Str.ofString "add", .ref q), (Str.ofString "res", .ref l), (Str.ofString "pat", .str pat tp), (Str.ofString "STAR", .none), (Str.ofString "QUESTION_MARK", .str (Str.ofString ".") u)]
noncomputable abbrev trC (pat : Str) (tp : Tok) (q l : Addr) (i : Nat) (ti tn : Tok) (u : Tok) (j : Nat) (tj : Tok) : List (Str × Value) := [(Str.ofString "j", .int (j : Nat) tj), (Str.ofString "i", .int (i : Nat) ti), (Str.ofString "n", .int pat.length tn), (Str.ofString "add", .ref q), (Str.ofString "res", .ref l), (Str.ofString "pat", .str pat tp), (Str.ofString "STAR", .none), (Str.ofString "QUESTION_MARK", .str (Str.ofString ".") u)]
noncomputable abbrev trD (pat : Str) (tp : Tok) (q l : Addr) (i : Nat) (ti tn : Tok) (u : Tok) (stuff : Str) (ts : Tok) : List (Str × Value) := [(Str.ofString "stuff", .str stuff ts), (Str.ofString "i", .int (i : Nat) ti), (Str.ofString "n", .int pat.length tn), (Str.ofString "add", .ref q), (Str.ofString "res", .ref l), (Str.ofString "pat", .str pat tp), (Str.ofString "STAR", .none), (Str.ofString "QUESTION_MARK", .str (Str.ofString ".") u)]
inductive TrI (w : World) (B : Shared) (own : Led) (pat : Str) (t : Tok) (q l L : Addr) (t7 u : Tok) (St : Nat → List (Option Str) → Prop) (m : Nat) (s' : Shared) : Prop
  | mk (i : Nat) (ps : List (Option Str)) (ti : Tok) (e : m = pat.length - i) (h : St i ps) (F : Fm w B s' ((L, NsP (trB pat t q l i ti t7 u)) :: (q, fun o => o = bndObj l) :: (l, LP ps) :: own))
inductive TrJ (w : World) (B : Shared) (own : Led) (pat : Str) (t : Tok) (q l L : Addr) (i : Nat) (t17 t7 u : Tok) (ps : List (Option Str)) (j0 j m : Nat) (s' : Shared) : Prop
  | mk (k : Nat) (tk : Tok) (e : m = j - k) (h1 : j0 ≤ k) (h2 : k ≤ j) (F : Fm w B s' ((L, NsP (trC pat t q l (i + 1) t17 t7 u k tk)) :: (q, fun o => o = bndObj l) :: (l, LP ps) :: own))
theorem c_translate {w : World} {A : Around} {B s : Shared} {own : Led} {n : Nat} {R : Result → Shared → Prop} {pat : Str} {t u : Tok} {out : List (Option Str)} (St : Nat → List (Option Str) → Prop) (hA : Rm A (n + 2)) (F : Fm w B s own) (h8 : (178, T8) ∈ own)
    (hz : pat.length ≤ 100) (St0 : St 0 []) (step : ∀ i ps, St i ps → i < pat.length → TrStep pat St i ps) (hend : ∀ ps, St pat.length ps → ps = out) (hle : ∀ i ps, St i ps → i ≤ pat.length ∧ ps.length ≤ 100)
    (h : ∀ D s', Fm w B s' ((D, LP out) :: own) → R (.ok (.ret (.ref D))) s') :
    codeAny (Md w) A (.call (.ref 183) ⟨[.str pat t, .none, .str (Str.ofString ".") u], []⟩) R s := by
  have hbig : 100000 ≤ sizeLine := Nat.le_of_ble_eq_true rfl
  with_reducible refine enterD (binds := [(Str.ofString "pat", .str pat t), (Str.ofString "STAR", .none), (Str.ofString "QUESTION_MARK", .str (Str.ofString ".") u)]) (ks := [(Str.ofString "pat", .local), (Str.ofString "STAR", .local), (Str.ofString "QUESTION_MARK", .local), (Str.ofString "res", .local), (Str.ofString "add", .local), (Str.ofString "i", .local), (Str.ofString "n", .local), (Str.ofString "c", .local), (Str.ofString "j", .local), (Str.ofString "stuff", .local), (Str.ofString "len", .globalImplicit), (Str.ofString "_twin_re_1", .globalImplicit), (Str.ofString "escape", .globalImplicit)]) hA F.base (by kernel_rfl) (by kernel_rfl) (by kernel_rfl) (by kernel_rfl) (by kernel_rfl) ?_
  intro L s' hL F1 hA' hk
  replace F1 : Fm w B s' ((L, NsP [(Str.ofString "pat", .str pat t), (Str.ofString "STAR", .none), (Str.ofString "QUESTION_MARK", .str (Str.ofString ".") u)]) :: own) := F.trans F1
  conv in bodyOf _ => whnf
  with_reducible refine x_assign (e_list (B := B) (ev_nil ⟨_, F1, Nat.zero_le _, ?_⟩))
  intro l s2 F2
  replace F2 : Fm w B s2 ((l, LP []) :: (L, NsP [(Str.ofString "pat", .str pat t), (Str.ofString "STAR", .none), (Str.ofString "QUESTION_MARK", .str (Str.ofString ".") u)]) :: own) := F2.imp .head fun o ho => ⟨[], .nil, ho⟩
  kst_all
  rename_i s3 F3
  with_reducible refine x_assign (e_attr ?_)
  kst_mem
  with_reducible refine o_getapp F3 (by kd_mem) ?_
  intro q s4 F4
  kst_all
  rename_i s5 F5
  with_reducible refine x_swap2 (B := B) hA' (a := Str.ofString "i") (b := Str.ofString "n") (by kernel_rfl) (e_tup F5 (ev_cons (e_int F5 ?_)))
  intro t6 s6 F6
  with_reducible refine ev_cons (c_glo F6 hk (by kd_mem) g_len (cw_bi (ev_cons ?_)))
  kst_mem
  with_reducible refine ev_nil (o_lens F6 (by omega) ?_)
  intro t7 s7 F7
  with_reducible refine ev_nil ⟨_, F7, Nat.le_of_ble_eq_true rfl, ?_⟩
  intro a8 s8 F8
  with_reducible refine ⟨_, _, _, _, rfl, F8, .led List.mem_cons_self, ?_⟩
  intro s9 F9
  kst_all
  kst_all
  rename_i s10 F10 s11 F11
  have F12 : Fm w B s11 ((L, NsP (trB pat t q l 0 t6 t7 u)) :: (q, fun o => o = bndObj l) :: (l, LP []) :: own) := (F11.nsw (bs' := trB pat t q l 0 t6 t7 u) (by kd_all) (by kqd_sub)).sel (by kqd_all)
  clear F F1 F2 F3 F4 F5 F6 F7 F8 F9 F10 F11
  with_reducible refine x_while (TrI w B own pat t q l L t7 u St) (pat.length - 0) ?_ ?_
  · exact ⟨0, [], t6, rfl, St0, F12⟩
  clear F12
  rintro m s13 Kw hKw ⟨i, ps, ti, rfl, hSt, F13⟩
  with_reducible refine wturn ?_
  have hle1 := hle i ps hSt
  have back : ∀ {i' ps' ti' bs s'}, St i' ps' → i < i' → i < pat.length → Fm w B s' ((L, NsP bs) :: (q, fun o => o = bndObj l) :: (l, LP ps') :: own) → (∀ p ∈ trB pat t q l i' ti' t7 u, p ∈ bs) →
      Kw s' := fun {i' ps' ti' bs s'} h1 h2 h3 F hb =>
    hKw (pat.length - i') _ (by omega) ⟨i', ps', ti', rfl, h1, F.nsw (by kd_all) hb⟩
  with_reducible refine bt_cmp ?_
  kst_mem
  kst_mem
  with_reducible refine o_lti (t_bool (b2 (fun e1 => ?_) (fun e1 => ?_)))
  · have hlt : i < pat.length := by have := of_decide_eq_true e1; omega
    with_reducible refine x_assign (e_sub ?_)
    kst_mem
    kst_mem
    with_reducible refine o_si F13 hlt (by omega) ?_
    intro t14 s14 F14
    kst_all
    rename_i s15 F15
    with_reducible refine x_assign (o_bin ?_)
    kst_mem
    with_reducible refine e_int F15 ?_
    intro t16 s16 F16
    with_reducible refine o_add1 F16 ?_
    intro t17 s17 F17
    kst_all
    rename_i s18 F18
    clear F13 F14 F15 F16 F17
    cases step i ps hSt hlt with
    | star hc k k2 =>
      rw [hc] at F18
      with_reducible refine x_if (bt_cmp ?_)
      kst_mem
      with_reducible refine e_str F18 ?_; intro t19 s19 F19
      with_reducible refine o_eqs (t_bool (br_t (by kernel_rfl) (br_true (x_if (bt_or (bt_not (bt_name ?_)))))))
      kst_mem
      with_reducible refine t_listP F19 (.led (by kd_mem)) (by omega) ?_
      intro s20 F20
      with_reducible refine b2 (fun e2 => ?_) (fun e2 => ?_)
      · have hp0 : ps = [] := by cases ps with | nil => rfl | cons _ _ => simp at e2
        with_reducible refine br_true (x_expr (c_loc F20 hk (by kd_mem) (by kd_mem) (by kd_mem) (cw_bap F20 (by kd_mem) (ev_cons ?_))))
        kst_mem
        with_reducible refine ev_nil ⟨⟨_, F20, by kd_mem⟩, o_bapp (p := none) F20 (by kd_mem) (by kd_all) ipt_n (by omega) ?_⟩
        intro s21 F21
        repeat (first | with_reducible refine x_nil ?_ | with_reducible refine nx_next ?_)
        with_reducible refine ec_next (back (k (.inl hp0)) (Nat.lt_succ_self i) hlt F21 (by kqd_sub))
      · obtain ⟨p, hp⟩ : ∃ p, ps.getLast? = some p := by cases ps with | nil => simp at e2 | cons a r => exact ⟨_, List.getLast?_eq_some_getLast (by simp)⟩
        with_reducible refine bt_cmp (e_sub ?_)
        kst_mem
        with_reducible refine e_neg1 F20 ?_; intro t21 s21 F21
        with_reducible refine o_lnegP F21 (.led (by kd_mem)) hp ?_
        intro v hv
        kst_mem
        with_reducible refine o_isnot (t_bool (br_cases (fun e3 => ?_) (fun e3 => ?_)))
        · have hpn : p ≠ none := fun e => by
            subst e
            cases v <;> first | exact hv.elim | simp at e3
          with_reducible refine br_true (x_expr (c_loc F21 hk (by kd_mem) (by kd_mem) (by kd_mem) (cw_bap F21 (by kd_mem) (ev_cons ?_))))
          kst_mem
          with_reducible refine ev_nil ⟨⟨_, F21, by kd_mem⟩, o_bapp (p := none) F21 (by kd_mem) (by kd_all) ipt_n (by omega) ?_⟩
          intro s22 F22
          repeat (first | with_reducible refine x_nil ?_ | with_reducible refine nx_next ?_)
          with_reducible refine ec_next (back (k (.inr ⟨p, hp, hpn⟩)) (Nat.lt_succ_self i) hlt F22 (by kqd_sub))
        · have hpn : p = none := by
            cases p with
            | none => rfl
            | some y => cases v <;> first | exact hv.elim | simp at e3
          subst hpn
          with_reducible refine br_false ?_
          repeat (first | with_reducible refine x_nil ?_ | with_reducible refine nx_next ?_)
          with_reducible refine ec_next (back (k2 hp) (Nat.lt_succ_self i) hlt F21 (by kqd_sub))
    | any hc k =>
      rw [hc] at F18
      with_reducible refine x_if (bt_cmp ?_)
      kst_mem
      with_reducible refine e_str F18 ?_; intro t19 s19 F19
      with_reducible refine o_eqs (t_bool (br_f (by kernel_rfl) (br_false (x_if (bt_cmp ?_)))))
      kst_mem
      with_reducible refine e_str F19 ?_; intro t20 s20 F20
      with_reducible refine o_eqs (t_bool (br_t (by kernel_rfl) (br_true (x_expr (c_loc F20 hk (by kd_mem) (by kd_mem) (by kd_mem) (cw_bap F20 (by kd_mem) (ev_cons ?_)))))))
      kst_mem
      with_reducible refine ev_nil ⟨⟨_, F20, by kd_mem⟩, o_bapp (p := some (Str.ofString ".")) F20 (by kd_mem) (by kd_all) ipt_s (by omega) ?_⟩
      intro s21 F21
      repeat (first | with_reducible refine x_nil ?_ | with_reducible refine nx_next ?_)
      with_reducible refine ec_next (back k (Nat.lt_succ_self i) hlt F21 (by kqd_sub))
    | let_ c hc hcc k =>
      rw [hc] at F18
      have f1 : ((⟨#[c]⟩ : Str) == Str.ofString "*") = false := by rcases hcc with rfl | rfl | rfl <;> kernel_rfl
      have f2 : ((⟨#[c]⟩ : Str) == Str.ofString "?") = false := by rcases hcc with rfl | rfl | rfl <;> kernel_rfl
      have f3 : ((⟨#[c]⟩ : Str) == Str.ofString "[") = false := by rcases hcc with rfl | rfl | rfl <;> kernel_rfl
      with_reducible refine x_if (bt_cmp ?_)
      kst_mem
      with_reducible refine e_str F18 ?_; intro t19 s19 F19
      with_reducible refine o_eqs (t_bool (br_f f1 (br_false (x_if (bt_cmp ?_)))))
      kst_mem
      with_reducible refine e_str F19 ?_; intro t20 s20 F20
      with_reducible refine o_eqs (t_bool (br_f f2 (br_false (x_if (bt_cmp ?_)))))
      kst_mem
      with_reducible refine e_str F20 ?_; intro t21 s21 F21
      with_reducible refine o_eqs (t_bool (br_f f3 (br_false (x_expr (c_loc F21 hk (by kd_mem) (by kd_mem) (by kd_mem) (cw_bap F21 (by kd_mem) (ev_cons ?_)))))))
      with_reducible refine c_glo F21 hk (by kd_mem) g_escape (cw_fn (isfn_176 _) (ev_cons ?_))
      kst_mem
      with_reducible refine ev_nil ⟨F21.base, wpAny_call (c_escape (n := n) hA' F21.base rfl hcc ?_)⟩
      intro t22 s22 x22
      have F22 := F21.ext x22
      with_reducible refine ev_nil ⟨⟨_, F22, by kd_mem⟩, o_bapp (p := some (escp c)) F22 (by kd_mem) (by kd_all) ipt_s (by omega) ?_⟩
      intro s23 F23
      repeat (first | with_reducible refine x_nil ?_ | with_reducible refine nx_next ?_)
      with_reducible refine ec_next (back k (Nat.lt_succ_self i) hlt F23 (by kqd_sub))
    | brk hc j stuff out b k =>
      rw [hc] at F18
      with_reducible refine x_if (bt_cmp ?_)
      kst_mem
      with_reducible refine e_str F18 ?_; intro t19 s19 F19
      with_reducible refine o_eqs (t_bool (br_f (by kernel_rfl) (br_false (x_if (bt_cmp ?_)))))
      kst_mem
      with_reducible refine e_str F19 ?_; intro t20 s20 F20
      with_reducible refine o_eqs (t_bool (br_f (by kernel_rfl) (br_false (x_if (bt_cmp ?_)))))
      kst_mem
      with_reducible refine e_str F20 ?_; intro t21 s21 F21
      with_reducible refine o_eqs (t_bool (br_t (by kernel_rfl) (br_true (x_assign ?_))))
      kst_mem
      kst_all
      rename_i s22 F22
      replace F22 : Fm w B s22 ((L, NsP (trC pat t q l (i + 1) t17 t7 u (i + 1) t17)) :: (q, fun o => o = bndObj l) :: (l, LP ps) :: own) := F22.nsw (by kd_all) (by kqd_sub)
      clear F18 F19 F20 F21
      obtain ⟨bi1, bj0, bj1, bat, bno, bst, bd, bb, bnh, bz0, bz1, bn1, bo⟩ := b
      with_reducible refine x_join (fun s' => ∃ tj, Fm w B s' ((L, NsP (trC pat t q l (i + 1) t17 t7 u (if (Txt.item pat (i + 1 : Nat) == Str.ofString "!") = true then i + 1 + 1 else i + 1) tj)) :: (q, fun o => o = bndObj l) :: (l, LP ps) :: own)) (ex_if (bt_and (bt_cmp ?_))) ?_
      · kst_mem
        kst_mem
        with_reducible refine o_lti (t_bool (b2_is true (decide_eq_true (by omega)) (b2_t (bt_cmp (e_sub ?_)))))
        kst_mem
        kst_mem
        with_reducible refine o_si F22 bi1 (by omega) ?_
        intro t23 s23 F23
        with_reducible refine e_str F23 ?_; intro t24 s24 F24
        with_reducible refine o_eqs (t_bool (bj_cases (fun e => ?_) (fun e => ?_)))
        · with_reducible refine x_assign (o_bin ?_)
          kst_mem
          with_reducible refine e_int F24 ?_; intro t25 s25 F25
          with_reducible refine o_add1 F25 ?_; intro t26 s26 F26
          kst_all
          rename_i s27 F27
          with_reducible refine j_end ⟨t26, ?_⟩
          rw [if_pos e]
          exact F27
        · with_reducible refine j_end ⟨t17, ?_⟩
          rw [if_neg (by rw [e]; exact Bool.false_ne_true)]
          exact F24
      clear F22
      rintro s23 ⟨tj, F23⟩
      have hj0 : i + 1 ≤ (if (Txt.item pat (i + 1 : Nat) == Str.ofString "!") = true then i + 1 + 1 else i + 1) := by split <;> omega
      generalize (if (Txt.item pat (i + 1 : Nat) == Str.ofString "!") = true then i + 1 + 1 else i + 1) = j0 at bj0 bno F23 hj0
      with_reducible refine x_if (bt_and (bt_cmp ?_))
      kst_mem
      kst_mem
      with_reducible refine o_lti (t_bool (b2_is true (decide_eq_true (by omega)) (b2_t (bt_cmp (e_sub ?_)))))
      kst_mem
      kst_mem
      with_reducible refine o_si F23 (by omega) (by omega) ?_
      intro t24 s24 F24
      with_reducible refine e_str F24 ?_; intro t25 s25 F25
      with_reducible refine o_eqs (t_bool (br_f (bno j0 (Nat.le_refl _) bj0) (br_skip ?_)))
      clear F23 F24
      with_reducible refine x_while (TrJ w B own pat t q l L i t17 t7 u ps j0 j) (j - j0) ?_ ?_
      · exact ⟨j0, tj, rfl, Nat.le_refl _, Nat.le_of_lt bj0, F25⟩
      clear F25
      rintro m s26 Kw hKw ⟨kk, tk, rfl, hk1, hk2, F26⟩
      with_reducible refine wturn ?_
      with_reducible refine bt_and (bt_cmp ?_)
      kst_mem
      kst_mem
      with_reducible refine o_lti (t_bool (b2_is true (decide_eq_true (by omega)) (b2_t (bt_cmp (e_sub ?_)))))
      kst_mem
      kst_mem
      with_reducible refine o_si F26 (by omega) (by omega) ?_
      intro t27 s27 F27
      with_reducible refine e_str F27 ?_; intro t28 s28 F28
      by_cases hkj : kk = j
      · subst hkj
        rw [bat]
        with_reducible refine o_nes (t_bool (b2_is false (by kernel_rfl) (b2_f ?_)))
        clear F26 F27
        have bz0' : 0 < stuff.cps.size := bz0
        have bz1' : stuff.cps.size ≤ 1000 := by have : stuff.length = stuff.cps.size := rfl; omega
        -- the class is found
        with_reducible refine x_if (bt_cmp ?_)
        kst_mem
        kst_mem
        with_reducible refine o_gei (t_bool (br_f (decide_eq_false (by omega)) (br_false (x_assign (e_slice_ss (B := B) ?_)))))
        kst_mem
        with_reducible refine ⟨_, _, rfl, by omega, ?_⟩
        kst_mem
        with_reducible refine ⟨_, _, rfl, ?_⟩
        kst_mem
        with_reducible refine ⟨_, _, _, rfl, F28, ?_⟩
        intro t29 s29 F29
        rw [bst]
        kst_all
        rename_i s30 F30
        with_reducible refine x_if (bt_cmp (e_str F30 ?_))
        intro t31 s31 F31
        kst_mem
        with_reducible refine o_notins (t_bool (br_t (not_t bd) (br_true (x_assign (c_meth ?_)))))
        kst_mem
        with_reducible refine fun _ => ?_
        with_reducible refine GM.replace ?_
        with_reducible refine cw_m (ev_cons (e_str F31 ?_))
        intro t32 s32 F32
        with_reducible refine ev_cons (e_str F32 ?_)
        intro t33 s33 F33
        with_reducible refine ev_nil (m_repl0 bb ?_)
        kst_all
        rename_i s34 F34
        with_reducible refine x_nil (nx_next (x_assign (c_meth (e_glo F34 hk (by kd_mem) g_twin ?_))))
        with_reducible refine fun _ => ?_
        refine gm_sub F34.base ?_
        with_reducible refine cw_m (ev_cons (e_lam8 F34 hk (dEnv_code.trans (fd183_code w.params)) (fun _ WG => WG.c1) (by exact List.mem_cons_of_mem _ (List.mem_cons_of_mem _ (List.mem_cons_of_mem _ h8))) (by with_unfolding_all rfl) (by with_unfolding_all rfl) ?_))
        intro f s35 F35
        with_reducible refine ev_cons ?_
        kst_mem
        with_reducible refine ev_nil (o_sub bnh bz0' bz1' F35 List.mem_cons_self ?_)
        intro t36 s36 F36
        kst_all
        rename_i s37 F37
        with_reducible refine x_assign (o_bin ?_)
        kst_mem
        with_reducible refine e_int F37 ?_; intro t38 s38 F38
        with_reducible refine o_add1 F38 ?_; intro t39 s39 F39
        kst_all
        rename_i s40 F40
        have F41 : Fm w B s40 ((L, NsP (trD pat t q l (kk + 1) t39 t7 u stuff t36)) :: (q, fun o => o = bndObj l) :: (l, LP ps) :: own) := (F40.nsw (bs' := trD pat t q l (kk + 1) t39 t7 u stuff t36) (by kd_all) (by kqd_sub)).sel (by kqd_all)
        clear F28 F29 F30 F31 F32 F33 F34 F35 F36 F37 F38 F39 F40
        with_reducible refine x_if (bt_not (bt_name ?_))
        kst_mem
        with_reducible refine t_str F41 (by omega) ?_
        intro s42 F42
        with_reducible refine br_f (by simp; omega) (br_false (x_if (bt_cmp ?_)))
        kst_mem
        with_reducible refine e_str F42 ?_; intro t43 s43 F43
        with_reducible refine o_eqs (t_bool (br_f bn1 (br_false (x_if (bt_cmp (e_sub ?_))))))
        kst_mem
        with_reducible refine e_int F43 ?_; intro t44 s44 F44
        refine o_si (i := 0) F44 bz0 (by omega) ?_
        intro t45 s45 F45
        with_reducible refine e_str F45 ?_; intro t46 s46 F46
        have lst : ∀ {st2 : Str} {ts2 : Tok} {s'}, out = Str.ofString "[" ++ st2 ++ Str.ofString "]" → st2.length ≤ 1000 → Fm w B s' ((L, NsP (trD pat t q l (kk + 1) t39 t7 u st2 ts2)) :: (q, fun o => o = bndObj l) :: (l, LP ps) :: own) →
            (∀ ts', wpAny (Md w) (A.deeper (dEnv (fdOf (KH w.params) 183) 183 L)) (call (.ref q) [.str out ts']) (fun _ s'' => ∃ own', own' = (L, NsP (trD pat t q l (kk + 1) t39 t7 u st2 ts2)) :: (q, fun o => o = bndObj l) :: (l, LP (ps ++ [some out])) :: own ∧ Fm w B s'' own') (fun _ _ => False) s') := fun {st2 ts2 s'} ho hl2 F ts' => by
          with_reducible refine o_bapp (p := some out) F (by kd_mem) (by kd_all) ipt_s (by omega) ?_
          intro s'' F''
          exact ⟨_, rfl, F''⟩
        have hb1 : (Str.ofString "[").length = 1 := by kernel_rfl
        have hb2 : (Str.ofString "]").length = 1 := by kernel_rfl
        have hb3 : (Str.ofString "^").length = 1 := by kernel_rfl
        with_reducible refine o_eqs (t_bool (br_cases (fun e => br_true (x_assign (o_bin (e_str F46 ?_)))) (fun e => br_false (x_if (bt_cmp (e_sub ?_))))))
        · have e' : (Txt.item stuff 0 == Str.ofString "!") = true := e
          rw [if_pos e'] at bo
          have hsl := Txt.slice_le stuff (some 1) none
          intro t47 s47 F47
          with_reducible refine e_slice_sn (B := B) ?_
          kst_mem
          with_reducible refine ⟨_, _, rfl, by omega, ?_⟩
          with_reducible refine e_int F47 ?_; intro t48 s48 F48
          with_reducible refine ⟨_, _, _, rfl, F48, ?_⟩
          intro t49 s49 F49
          with_reducible refine o_add F49 (by omega) ?_
          intro t50 s50 F50
          kst_all
          rename_i s51 F51
          have hl2 : (Str.ofString "^" ++ Txt.slice stuff (some 1) none).length ≤ 1000 := by rw [Str.length_append]; omega
          with_reducible refine x_nil (nx_next (x_expr (c_loc F51 hk (by kd_mem) (by kd_mem) (by kd_mem) (cw_bap F51 (by kd_mem) (ev_cons (e_fstr3 (by omega) F51 ?_))))))
          intro s52 F52
          kst_mem
          with_reducible refine ⟨_, _, _, rfl, hl2, F52, ?_⟩
          intro t53 s53 F53
          rw [← bo]
          with_reducible refine ev_nil ⟨⟨_, F53, by kd_mem⟩, wpAny_mono (lst bo hl2 F53 t53) (fun _ s54 h54 => ?_) fun _ _ z => z⟩
          obtain ⟨_, rfl, F54⟩ := h54
          repeat (first | with_reducible refine x_nil ?_ | with_reducible refine nx_next ?_)
          with_reducible refine ec_next (back k (by omega) hlt F54 (by kqd_sub))
        · have e' : ¬ (Txt.item stuff 0 == Str.ofString "!") = true := by rw [show (Txt.item stuff 0 == Str.ofString "!") = false from e]; exact Bool.false_ne_true
          rw [if_neg e'] at bo
          obtain ⟨bo1, bo⟩ := bo
          have bo1 : ([Str.ofString "^", Str.ofString "["].any fun x => x == Txt.item stuff ((0 : Nat) : Int)) = false := bo1
          kst_mem
          with_reducible refine e_int F46 ?_; intro t47 s47 F47
          refine o_si (i := 0) F47 bz0 (by omega) ?_
          intro t48 s48 F48
          with_reducible refine e_tup F48 (ev_cons (e_str F48 ?_))
          intro t49 s49 F49
          with_reducible refine ev_cons (e_str F49 ?_)
          intro t50 s50 F50
          with_reducible refine ev_nil ⟨_, F50, Nat.le_of_ble_eq_true rfl, ?_⟩
          intro a51 s51 F51
          with_reducible refine o_intup F51 (.led List.mem_cons_self) (.cons _ _ (.cons _ _ .nil)) (t_bool (br_f bo1 (br_skip (x_nil (nx_next ?_)))))
          have F52 := F51.sel (own' := (L, NsP (trD pat t q l (kk + 1) t39 t7 u stuff t36)) :: (q, fun o => o = bndObj l) :: (l, LP ps) :: own) (by kqd_all)
          with_reducible refine x_expr (c_loc F52 hk (by kd_mem) (by kd_mem) (by kd_mem) (cw_bap F52 (by kd_mem) (ev_cons (e_fstr3 (by omega) F52 ?_))))
          intro s53 F53
          kst_mem
          have hl2 : stuff.length ≤ 1000 := by omega
          with_reducible refine ⟨_, _, _, rfl, hl2, F53, ?_⟩
          intro t54 s54 F54
          rw [← bo]
          with_reducible refine ev_nil ⟨⟨_, F54, by kd_mem⟩, wpAny_mono (lst bo hl2 F54 t54) (fun _ s55 h55 => ?_) fun _ _ z => z⟩
          obtain ⟨_, rfl, F55⟩ := h55
          repeat (first | with_reducible refine x_nil ?_ | with_reducible refine nx_next ?_)
          with_reducible refine ec_next (back k (by omega) hlt F55 (by kqd_sub))
      · have := bno kk hk1 (by omega)
        with_reducible refine o_nes (t_bool (b2_is true (ne_t this) (b2_t (x_assign (o_bin ?_)))))
        kst_mem
        with_reducible refine e_int F28 ?_; intro t29 s29 F29
        with_reducible refine o_add1 F29 ?_; intro t30 s30 F30
        kst_all
        rename_i s31 F31
        with_reducible refine x_nil (ec_next (hKw (j - (kk + 1)) _ (by omega) ⟨kk + 1, t30, rfl, by omega, by omega, F31⟩))
  · have hi : i = pat.length := by have := of_decide_eq_false e1; omega
    subst hi
    with_reducible refine x_assert (bt_cmp ?_)
    kst_mem
    kst_mem
    with_reducible refine o_eqi (t_bool ⟨by simp, ?_⟩)
    with_reducible refine x_ret ?_
    kst_mem
    have := hend ps hSt
    subst this
    exact h l _ (F13.sel (by kqd_all))
end

section
open PySem PySem.W PySem.Spec PySem.Calls PyProof.Rows
set_option Elab.async false
set_option maxRecDepth 100000
set_option maxHeartbeats 0
noncomputable def itemsL : List Str := [Str.ofString "*", Str.ofString "a", Str.ofString "b", Str.ofString "?", Str.ofString "[ab]", Str.ofString "[!a]*", Str.ofString ".*", Str.ofString "*b", Str.ofString "[*]", Str.ofString "**"]
noncomputable def partsL : List (List (Option Str)) := [[none], [some (escp 97)], [some (escp 98)], [some (Str.ofString ".")], [some (Str.ofString "[ab]")], [some (Str.ofString "[^a]"), none], [some (escp 46), none], [none, some (escp 98)], [some (Str.ofString "[*]")]]
noncomputable def StOf (l : List (Nat × List (Option Str))) (i : Nat) (ps : List (Option Str)) : Prop := (i, ps) ∈ l
theorem st_in {l : List (Nat × List (Option Str))} {P : Nat → List (Option Str) → Prop} (h : ∀ p ∈ l, P p.1 p.2) : ∀ i ps, StOf l i ps → P i ps := fun i ps hs => h (i, ps) hs
theorem brk_ab : Brk (Str.ofString "[ab]") 1 3 (Str.ofString "ab") (Str.ofString "[ab]") where
  i1 := by decide +kernel
  j0 := by rw [if_neg (by decide +kernel)]; decide
  j1 := by decide +kernel
  at_ := by kernel_rfl
  no := by
    rw [if_neg (by decide +kernel)]
    intro k h1 h2
    have : k = 1 ∨ k = 2 := by omega
    rcases this with rfl | rfl <;> kernel_rfl
  st := by kernel_rfl
  d := by kernel_rfl
  b := by kernel_rfl
  nh := noHit_ab
  z0 := by decide +kernel
  z1 := by decide +kernel
  n1 := by kernel_rfl
  o := by rw [if_neg (by decide +kernel)]; exact ⟨by kernel_rfl, by kernel_rfl⟩
theorem brk_na : Brk (Str.ofString "[!a]*") 1 3 (Str.ofString "!a") (Str.ofString "[^a]") where
  i1 := by decide +kernel
  j0 := by rw [if_pos (by decide +kernel)]; decide
  j1 := by decide +kernel
  at_ := by kernel_rfl
  no := by
    rw [if_pos (by decide +kernel)]
    intro k h1 h2
    have : k = 2 := by omega
    subst this; kernel_rfl
  st := by kernel_rfl
  d := by kernel_rfl
  b := by kernel_rfl
  nh := noHit_na
  z0 := by decide +kernel
  z1 := by decide +kernel
  n1 := by kernel_rfl
  o := by rw [if_pos (by decide +kernel)]; kernel_rfl
theorem brk_st : Brk (Str.ofString "[*]") 1 2 (Str.ofString "*") (Str.ofString "[*]") where
  i1 := by decide +kernel
  j0 := by rw [if_neg (by decide +kernel)]; decide
  j1 := by decide +kernel
  at_ := by kernel_rfl
  no := by
    rw [if_neg (by decide +kernel)]
    intro k h1 h2
    have : k = 1 := by omega
    subst this; kernel_rfl
  st := by kernel_rfl
  d := by kernel_rfl
  b := by kernel_rfl
  nh := noHit_st
  z0 := by decide +kernel
  z1 := by decide +kernel
  n1 := by kernel_rfl
  o := by rw [if_neg (by decide +kernel)]; exact ⟨by kernel_rfl, by kernel_rfl⟩
structure Run (pat : Str) (l : List (Nat × List (Option Str))) (out : List (Option Str)) : Prop where
  z : pat.length ≤ 100
  s0 : StOf l 0 []
  step : ∀ p ∈ l, p.1 < pat.length → TrStep pat (StOf l) p.1 p.2
  fin : ∀ p ∈ l, p.1 = pat.length → p.2 = out
  le : ∀ p ∈ l, p.1 ≤ pat.length ∧ p.2.length ≤ 100
theorem run0 : Run (Str.ofString "*") [(0, []), (1, [none])] [none] where
  z := by decide +kernel
  s0 := by simp [StOf]
  step := by
    have hn : (Str.ofString "*").length = 1 := by kernel_rfl
    rw [hn]
    intro p hp hlt
    simp only [List.mem_cons, List.not_mem_nil, or_false] at hp
    rcases hp with rfl | rfl
    · exact .star (by kernel_rfl) (fun _ => by simp [StOf]) (fun h => by simp at h)
    · simp at hlt
  fin := by
    have hn : (Str.ofString "*").length = 1 := by kernel_rfl
    rw [hn]
    intro p hp h; simp only [List.mem_cons, List.not_mem_nil, or_false] at hp
    rcases hp with rfl | rfl <;> first | rfl | (simp at h)
  le := by
    have hn : (Str.ofString "*").length = 1 := by kernel_rfl
    rw [hn]
    intro p hp; simp only [List.mem_cons, List.not_mem_nil, or_false] at hp
    rcases hp with rfl | rfl <;> simp
theorem run1 : Run (Str.ofString "a") [(0, []), (1, [some (escp 97)])] [some (escp 97)] where
  z := by decide +kernel
  s0 := by simp [StOf]
  step := by
    have hn : (Str.ofString "a").length = 1 := by kernel_rfl
    rw [hn]
    intro p hp hlt
    simp only [List.mem_cons, List.not_mem_nil, or_false] at hp
    rcases hp with rfl | rfl
    · exact .let_ 97 (by kernel_rfl) (.inl rfl) (by simp [StOf])
    · simp at hlt
  fin := by
    have hn : (Str.ofString "a").length = 1 := by kernel_rfl
    rw [hn]
    intro p hp h; simp only [List.mem_cons, List.not_mem_nil, or_false] at hp
    rcases hp with rfl | rfl <;> first | rfl | (simp at h)
  le := by
    have hn : (Str.ofString "a").length = 1 := by kernel_rfl
    rw [hn]
    intro p hp; simp only [List.mem_cons, List.not_mem_nil, or_false] at hp
    rcases hp with rfl | rfl <;> simp
theorem run2 : Run (Str.ofString "b") [(0, []), (1, [some (escp 98)])] [some (escp 98)] where
  z := by decide +kernel
  s0 := by simp [StOf]
  step := by
    have hn : (Str.ofString "b").length = 1 := by kernel_rfl
    rw [hn]
    intro p hp hlt
    simp only [List.mem_cons, List.not_mem_nil, or_false] at hp
    rcases hp with rfl | rfl
    · exact .let_ 98 (by kernel_rfl) (.inr (.inl rfl)) (by simp [StOf])
    · simp at hlt
  fin := by
    have hn : (Str.ofString "b").length = 1 := by kernel_rfl
    rw [hn]
    intro p hp h; simp only [List.mem_cons, List.not_mem_nil, or_false] at hp
    rcases hp with rfl | rfl <;> first | rfl | (simp at h)
  le := by
    have hn : (Str.ofString "b").length = 1 := by kernel_rfl
    rw [hn]
    intro p hp; simp only [List.mem_cons, List.not_mem_nil, or_false] at hp
    rcases hp with rfl | rfl <;> simp
theorem run3 : Run (Str.ofString "?") [(0, []), (1, [some (Str.ofString ".")])] [some (Str.ofString ".")] where
  z := by decide +kernel
  s0 := by simp [StOf]
  step := by
    have hn : (Str.ofString "?").length = 1 := by kernel_rfl
    rw [hn]
    intro p hp hlt
    simp only [List.mem_cons, List.not_mem_nil, or_false] at hp
    rcases hp with rfl | rfl
    · exact .any (by kernel_rfl) (by simp [StOf])
    · simp at hlt
  fin := by
    have hn : (Str.ofString "?").length = 1 := by kernel_rfl
    rw [hn]
    intro p hp h; simp only [List.mem_cons, List.not_mem_nil, or_false] at hp
    rcases hp with rfl | rfl <;> first | rfl | (simp at h)
  le := by
    have hn : (Str.ofString "?").length = 1 := by kernel_rfl
    rw [hn]
    intro p hp; simp only [List.mem_cons, List.not_mem_nil, or_false] at hp
    rcases hp with rfl | rfl <;> simp
theorem run4 : Run (Str.ofString "[ab]") [(0, []), (4, [some (Str.ofString "[ab]")])] [some (Str.ofString "[ab]")] where
  z := by decide +kernel
  s0 := by simp [StOf]
  step := by
    have hn : (Str.ofString "[ab]").length = 4 := by kernel_rfl
    rw [hn]
    intro p hp hlt
    simp only [List.mem_cons, List.not_mem_nil, or_false] at hp
    rcases hp with rfl | rfl
    · exact .brk (by kernel_rfl) _ _ _ brk_ab (by simp [StOf])
    · simp at hlt
  fin := by
    have hn : (Str.ofString "[ab]").length = 4 := by kernel_rfl
    rw [hn]
    intro p hp h; simp only [List.mem_cons, List.not_mem_nil, or_false] at hp
    rcases hp with rfl | rfl <;> first | rfl | (simp at h)
  le := by
    have hn : (Str.ofString "[ab]").length = 4 := by kernel_rfl
    rw [hn]
    intro p hp; simp only [List.mem_cons, List.not_mem_nil, or_false] at hp
    rcases hp with rfl | rfl <;> simp
theorem run5 : Run (Str.ofString "[!a]*") [(0, []), (4, [some (Str.ofString "[^a]")]), (5, [some (Str.ofString "[^a]"), none])] [some (Str.ofString "[^a]"), none] where
  z := by decide +kernel
  s0 := by simp [StOf]
  step := by
    have hn : (Str.ofString "[!a]*").length = 5 := by kernel_rfl
    rw [hn]
    intro p hp hlt
    simp only [List.mem_cons, List.not_mem_nil, or_false] at hp
    rcases hp with rfl | rfl | rfl
    · exact .brk (by kernel_rfl) _ _ _ brk_na (by simp [StOf])
    · exact .star (by kernel_rfl) (fun _ => by simp [StOf]) (fun h => by simp at h)
    · simp at hlt
  fin := by
    have hn : (Str.ofString "[!a]*").length = 5 := by kernel_rfl
    rw [hn]
    intro p hp h; simp only [List.mem_cons, List.not_mem_nil, or_false] at hp
    rcases hp with rfl | rfl | rfl <;> first | rfl | (simp at h)
  le := by
    have hn : (Str.ofString "[!a]*").length = 5 := by kernel_rfl
    rw [hn]
    intro p hp; simp only [List.mem_cons, List.not_mem_nil, or_false] at hp
    rcases hp with rfl | rfl | rfl <;> simp
theorem run6 : Run (Str.ofString ".*") [(0, []), (1, [some (escp 46)]), (2, [some (escp 46), none])] [some (escp 46), none] where
  z := by decide +kernel
  s0 := by simp [StOf]
  step := by
    have hn : (Str.ofString ".*").length = 2 := by kernel_rfl
    rw [hn]
    intro p hp hlt
    simp only [List.mem_cons, List.not_mem_nil, or_false] at hp
    rcases hp with rfl | rfl | rfl
    · exact .let_ 46 (by kernel_rfl) (.inr (.inr rfl)) (by simp [StOf])
    · exact .star (by kernel_rfl) (fun _ => by simp [StOf]) (fun h => by simp at h)
    · simp at hlt
  fin := by
    have hn : (Str.ofString ".*").length = 2 := by kernel_rfl
    rw [hn]
    intro p hp h; simp only [List.mem_cons, List.not_mem_nil, or_false] at hp
    rcases hp with rfl | rfl | rfl <;> first | rfl | (simp at h)
  le := by
    have hn : (Str.ofString ".*").length = 2 := by kernel_rfl
    rw [hn]
    intro p hp; simp only [List.mem_cons, List.not_mem_nil, or_false] at hp
    rcases hp with rfl | rfl | rfl <;> simp
theorem run7 : Run (Str.ofString "*b") [(0, []), (1, [none]), (2, [none, some (escp 98)])] [none, some (escp 98)] where
  z := by decide +kernel
  s0 := by simp [StOf]
  step := by
    have hn : (Str.ofString "*b").length = 2 := by kernel_rfl
    rw [hn]
    intro p hp hlt
    simp only [List.mem_cons, List.not_mem_nil, or_false] at hp
    rcases hp with rfl | rfl | rfl
    · exact .star (by kernel_rfl) (fun _ => by simp [StOf]) (fun h => by simp at h)
    · exact .let_ 98 (by kernel_rfl) (.inr (.inl rfl)) (by simp [StOf])
    · simp at hlt
  fin := by
    have hn : (Str.ofString "*b").length = 2 := by kernel_rfl
    rw [hn]
    intro p hp h; simp only [List.mem_cons, List.not_mem_nil, or_false] at hp
    rcases hp with rfl | rfl | rfl <;> first | rfl | (simp at h)
  le := by
    have hn : (Str.ofString "*b").length = 2 := by kernel_rfl
    rw [hn]
    intro p hp; simp only [List.mem_cons, List.not_mem_nil, or_false] at hp
    rcases hp with rfl | rfl | rfl <;> simp
theorem run8 : Run (Str.ofString "[*]") [(0, []), (3, [some (Str.ofString "[*]")])] [some (Str.ofString "[*]")] where
  z := by decide +kernel
  s0 := by simp [StOf]
  step := by
    have hn : (Str.ofString "[*]").length = 3 := by kernel_rfl
    rw [hn]
    intro p hp hlt
    simp only [List.mem_cons, List.not_mem_nil, or_false] at hp
    rcases hp with rfl | rfl
    · exact .brk (by kernel_rfl) _ _ _ brk_st (by simp [StOf])
    · simp at hlt
  fin := by
    have hn : (Str.ofString "[*]").length = 3 := by kernel_rfl
    rw [hn]
    intro p hp h; simp only [List.mem_cons, List.not_mem_nil, or_false] at hp
    rcases hp with rfl | rfl <;> first | rfl | (simp at h)
  le := by
    have hn : (Str.ofString "[*]").length = 3 := by kernel_rfl
    rw [hn]
    intro p hp; simp only [List.mem_cons, List.not_mem_nil, or_false] at hp
    rcases hp with rfl | rfl <;> simp
theorem run_of {k : Nat} (hk : k < 9) : ∃ l, Run (itemsL.getD k Str.empty) l (partsL.getD k []) := by
  cases k with
  | zero => exact ⟨_, run0⟩
  | succ k =>
    cases k with
    | zero => exact ⟨_, run1⟩
    | succ k =>
      cases k with
      | zero => exact ⟨_, run2⟩
      | succ k =>
        cases k with
        | zero => exact ⟨_, run3⟩
        | succ k =>
          cases k with
          | zero => exact ⟨_, run4⟩
          | succ k =>
            cases k with
            | zero => exact ⟨_, run5⟩
            | succ k =>
              cases k with
              | zero => exact ⟨_, run6⟩
              | succ k =>
                cases k with
                | zero => exact ⟨_, run7⟩
                | succ k =>
                  cases k with
                  | zero => exact ⟨_, run8⟩
                  | succ k =>
                    exact absurd hk (Nat.not_lt.mpr (Nat.le_add_left 9 k))
theorem c_tr {w : World} {A : Around} {B s : Shared} {own : Led} {n k : Nat} {R : Result → Shared → Prop} {t u : Tok} (hA : Rm A (n + 2)) (F : Fm w B s own) (h8 : (178, T8) ∈ own) (hk : k < 9)
    (h : ∀ D s', Fm w B s' ((D, LP (partsL.getD k [])) :: own) → R (.ok (.ret (.ref D))) s') :
    codeAny (Md w) A (.call (.ref 183) ⟨[.str (itemsL.getD k Str.empty) t, .none, .str (Str.ofString ".") u], []⟩) R s := by
  obtain ⟨l, r⟩ := run_of hk
  exact c_translate (StOf l) hA F h8 r.z r.s0 (st_in fun p hp hlt => r.step p hp hlt) (fun ps hs => r.fin _ hs rfl) (st_in r.le) h
end

section
open PySem PySem.W PySem.Spec PySem.Calls PyProof.Rows
set_option Elab.async false
set_option maxRecDepth 100000
set_option maxHeartbeats 0
/-! the sorting's questions, answered by an order of distinct things -/
noncomputable def kwp {α : Type} (lt : Nat → Nat → Bool) (n : Nat) : KasT α → (α → Prop) → Prop
  | .ret a, Q => Q a
  | .ask i j k, Q => i < n ∧ j < n ∧ kwp lt n (k (lt i j)) Q
theorem kwp_bind {α β : Type} {lt : Nat → Nat → Bool} {n : Nat} {f : α → KasT β} {Q : β → Prop} : ∀ (t : KasT α), kwp lt n t (fun a => kwp lt n (f a) Q) → kwp lt n (t.bind f) Q
  | .ret _, h => h
  | .ask _ _ k, h => ⟨h.1, h.2.1, kwp_bind (k _) h.2.2⟩
theorem kwp_run {α : Type} {lt : Nat → Nat → Bool} {n : Nat} {cmp : Nat → Nat → (Bool → Shared → Prop) → Shared → Prop} {Inv : Shared → Prop} {Q : α → Shared → Prop}
    (hc : ∀ i j (C : Bool → Shared → Prop) s, i < n → j < n → Inv s → (∀ s', Inv s' → C (lt i j) s') → cmp i j C s) : ∀ (t : KasT α) (s : Shared), Inv s → kwp lt n t (fun a => ∀ s', Inv s' → Q a s') → t.kasWp cmp Q s
  | .ret _, s, hi, h => h s hi
  | .ask i j k, s, hi, h => hc i j _ s h.1 h.2.1 hi fun s' hi' => kwp_run hc (k (lt i j)) s' hi' h.2.2
structure LtOk (lt : Nat → Nat → Bool) (n : Nat) : Prop where
  tr : ∀ a b c, a < n → b < n → c < n → lt a b = true → lt b c = true → lt a c = true
  tot : ∀ a b, a < n → b < n → a ≠ b → lt a b = false → lt b a = true
  asym : ∀ a b, a < n → b < n → lt a b = true → lt b a = false
noncomputable def Pm (n : Nat) (p : Array Nat) : Prop := p.Perm (List.range n).toArray
noncomputable abbrev gt (p : Array Nat) (k : Nat) : Nat := p.getD k 0
theorem gt_eq {p q : Array Nat} {k j : Nat} (h : p[k]? = q[j]?) : gt p k = gt q j := by
  unfold gt
  rw [Array.getD_eq_getD_getElem?, Array.getD_eq_getD_getElem?, h]
theorem Pm.size {n : Nat} {p : Array Nat} (h : Pm n p) : p.size = n := by
  have := h.size_eq
  simpa using this
theorem Pm.lt {n : Nat} {p : Array Nat} (h : Pm n p) {k : Nat} (hk : k < n) : gt p k < n := by
  have hs := h.size
  have hk' : k < p.size := by omega
  have hm : p[k] ∈ (List.range n).toArray := h.mem_iff.mp (Array.getElem_mem hk')
  have e : gt p k = p[k] := by unfold gt; simp [Array.getD, hk']
  rw [e]
  simpa using hm
theorem Pm.nd {n : Nat} {p : Array Nat} (h : Pm n p) : p.toList.Nodup := by
  have : p.toList.Perm (List.range n) := by simpa using Array.perm_iff_toList_perm.mp h
  exact this.nodup_iff.mpr List.nodup_range
theorem Pm.inj {n : Nat} {p : Array Nat} (h : Pm n p) {a b : Nat} (ha : a < n) (hb : b < n) (hne : a ≠ b) : gt p a ≠ gt p b := by
  have hs := h.size
  have ha' : a < p.size := by omega
  have hb' : b < p.size := by omega
  have ea : gt p a = p.toList[a]'(by simpa using ha') := by unfold gt; simp [Array.getD, ha']
  have eb : gt p b = p.toList[b]'(by simpa using hb') := by unfold gt; simp [Array.getD, hb']
  rw [ea, eb]
  intro e
  exact hne ((List.getElem_inj h.nd).mp e)
noncomputable def Up (lt : Nat → Nat → Bool) (p : Array Nat) (m : Nat) : Prop := ∀ a b, a < b → b < m → lt (gt p a) (gt p b) = true
section
variable {lt : Nat → Nat → Bool} {n : Nat} (O : LtOk lt n)
include O
theorem up_of_adj {p : Array Nat} (hp : Pm n p) {m : Nat} (hm : m ≤ n) (h : ∀ k, 1 ≤ k → k < m → lt (gt p (k - 1)) (gt p k) = true) : Up lt p m := by
  intro a b hab hb
  induction b with
  | zero => omega
  | succ b ih =>
    have h1 := h (b + 1) (by omega) hb
    rw [Nat.add_sub_cancel] at h1
    by_cases e : a = b
    · subst e; exact h1
    · exact O.tr _ _ _ (hp.lt (by omega)) (hp.lt (by omega)) (hp.lt (by omega)) (ih (by omega) (by omega)) h1
theorem flip {p : Array Nat} (hp : Pm n p) {a b : Nat} (ha : a < n) (hb : b < n) (hne : a ≠ b) (h : lt (gt p a) (gt p b) = false) : lt (gt p b) (gt p a) = true :=
  O.tot _ _ (hp.lt ha) (hp.lt hb) (hp.inj ha hb hne) h
omit O in
theorem asc_wp {p : Array Nat} (hp : Pm n p) {Q : Nat → Prop} : ∀ (f m : Nat), 1 ≤ m → m + f ≤ n →
    (∀ m', m ≤ m' → m' ≤ m + f → (∀ k, m ≤ k → k < m' → lt (gt p k) (gt p (k - 1)) = false) → (m' = m + f ∨ lt (gt p m') (gt p (m' - 1)) = true) → Q m') → kwp lt n (kas_asc p f m) Q
  | 0, m, _, _, h => h m (Nat.le_refl _) (Nat.le_refl _) (fun k h1 h2 => by omega) (.inl rfl)
  | f + 1, m, h1, h2, h => by
    refine ⟨hp.lt (by omega), hp.lt (by omega), ?_⟩
    show kwp lt n (if lt (gt p m) (gt p (m - 1)) = true then _ else _) Q
    cases e : lt (gt p m) (gt p (m - 1)) with
    | true => rw [if_pos rfl]; exact h m (Nat.le_refl _) (by omega) (fun k a b => by omega) (.inr e)
    | false =>
      rw [if_neg Bool.false_ne_true]
      refine asc_wp hp f (m + 1) (by omega) (by omega) fun m' a b c d => h m' (by omega) (by omega) (fun k x y => ?_) (d.imp (fun z => by omega) id)
      by_cases hk : k = m
      · subst hk; exact e
      · exact c k (by omega) y
theorem desc_wp {p : Array Nat} (hp : Pm n p) {Q : Array Nat × Nat × Nat → Prop} : ∀ (f m : Nat), 1 ≤ m → m + f ≤ n →
    (∀ m', m ≤ m' → m' ≤ m + f → (∀ k, m ≤ k → k < m' → lt (gt p k) (gt p (k - 1)) = true) → Q (p, m', 0)) → kwp lt n (kas_desc f p m 0) Q
  | 0, m, _, _, h => h m (Nat.le_refl _) (Nat.le_refl _) fun k h1 h2 => by omega
  | f + 1, m, h1, h2, h => by
    refine ⟨hp.lt (by omega), hp.lt (by omega), ?_⟩
    show kwp lt n (if lt (gt p m) (gt p (m - 1)) = true then _ else _) Q
    cases e : lt (gt p m) (gt p (m - 1)) with
    | true =>
      rw [if_pos rfl, if_neg (Nat.lt_irrefl 0)]
      refine desc_wp hp f (m + 1) (by omega) (by omega) fun m' a b c => h m' (by omega) (by omega) fun k x y => ?_
      by_cases hk : k = m
      · subst hk; exact e
      · exact c k (by omega) y
    | false =>
      rw [if_neg Bool.false_ne_true]
      refine ⟨hp.lt (by omega), hp.lt (by omega), ?_⟩
      have e2 : lt (gt p (m - 1)) (gt p m) = true := flip O hp (by omega) (by omega) (by omega) e
      show kwp lt n (if lt (gt p (m - 1)) (gt p m) = true then _ else _) Q
      rw [e2, if_pos rfl]
      exact h m (Nat.le_refl _) (by omega) fun k x y => by omega
theorem count_wp {p : Array Nat} (hp : Pm n p) (h2 : 2 ≤ n) {Q : Nat × Array Nat → Prop} (h : ∀ m q, 1 ≤ m → m ≤ n → Pm n q → Up lt q m → Q (m, q)) : kwp lt n (kas_count n p) Q := by
  unfold kas_count
  refine kwp_bind _ (asc_wp hp (n - 1) 1 (Nat.le_refl _) (by omega) fun m h1 hm hup hst => ?_)
  have hU : Up lt p m := up_of_adj O hp (by omega) fun k a b => flip O hp (by omega) (by omega) (by omega) (hup k a b)
  by_cases e1 : m = n
  · subst e1
    rw [if_pos (by simp)]
    exact h m p h1 (Nat.le_refl _) hp hU
  · rw [if_neg (by simpa using e1)]
    by_cases e2 : m > 1
    · rw [if_pos e2]
      refine ⟨hp.lt (by omega), hp.lt (by omega), ?_⟩
      have e3 := hU 0 (m - 1) (by omega) (by omega)
      show kwp lt n (if lt (gt p 0) (gt p (m - 1)) = true then _ else _) Q
      rw [e3, if_pos rfl]
      exact h m p h1 (by omega) hp hU
    · rw [if_neg e2]
      have em : m = 1 := by omega
      subst em
      have hd0 : lt (gt p 1) (gt p 0) = true := hst.resolve_left (by omega)
      unfold kas_descPart
      refine kwp_bind _ (desc_wp O hp (n - (1 + 1)) (1 + 1) (by omega) (by omega) fun m a b c => ?_)
      rw [if_neg (Nat.lt_irrefl 0)]
      unfold kas_tail3
      have hq : Pm n (kas_rev p 0 m) := (mirror_perm _ _ _ _).trans hp
      have gq : ∀ k, gt (kas_rev p 0 m) k = if k < m then gt p (m - 1 - k) else gt p k := fun k => by
        have := getElem?_mirror_all (xs := p) (i := 0) (j := m) (by rw [hp.size]; omega) k
        unfold kas_rev
        by_cases hk : k < m
        · rw [if_pos hk]
          rw [if_pos ⟨Nat.zero_le _, hk⟩] at this
          refine (gt_eq this).trans ?_
          congr 1; omega
        · rw [if_neg hk]
          rw [if_neg (by omega)] at this
          exact gt_eq this
      refine kwp_bind _ (asc_wp hq (n - m) m (by omega) (by omega) fun m2 a2 b2 c2 _ => ?_)
      refine h m2 _ (by omega) (by omega) hq (up_of_adj O hq (by omega) fun k x y => ?_)
      by_cases hk : k < m
      · rw [gq, gq, if_pos (by omega), if_pos hk]
        have e1 : m - 1 - (k - 1) = m - k := by omega
        have e2 : m - 1 - k = m - k - 1 := by omega
        rw [e1, e2]
        by_cases hk2 : m - k = 1
        · rw [hk2]; exact hd0
        · exact c (m - k) (by omega) (by omega)
      · exact flip O hq (by omega) (by omega) (by omega) (c2 k (by omega) y)
theorem place_wp {p : Array Nat} (hp : Pm n p) {k : Nat} (hk : k < n) (hU : Up lt p k) {Q : Nat → Prop} : ∀ (f l r : Nat), l ≤ r → r ≤ k → r - l ≤ f →
    (∀ a, a < l → lt (gt p a) (gt p k) = true) → (∀ a, r ≤ a → a < k → lt (gt p k) (gt p a) = true) →
    (∀ x, x ≤ k → (∀ a, a < x → lt (gt p a) (gt p k) = true) → (∀ a, x ≤ a → a < k → lt (gt p k) (gt p a) = true) → Q x) → kwp lt n (kas_place p k f l r) Q
  | 0, l, r, h1, h2, h3, hl, hr, h => by
    have : l = r := by omega
    subst this
    exact h l h2 hl hr
  | f + 1, l, r, h1, h2, h3, hl, hr, h => by
    show kwp lt n (if l ≥ r then _ else _) Q
    by_cases hlr : l ≥ r
    · rw [if_pos hlr]
      have : l = r := by omega
      subst this
      exact h l h2 hl hr
    · rw [if_neg hlr]
      have hm : (l + r) / 2 < k := by omega
      refine ⟨hp.lt hk, hp.lt (by omega), ?_⟩
      show kwp lt n (if lt (gt p k) (gt p ((l + r) / 2)) = true then _ else _) Q
      cases e : lt (gt p k) (gt p ((l + r) / 2)) with
      | true =>
        rw [if_pos rfl]
        refine place_wp hp hk hU f l ((l + r) / 2) (by omega) (by omega) (by omega) hl (fun a x y => ?_) h
        by_cases ha : a = (l + r) / 2
        · subst ha; exact e
        · exact O.tr _ _ _ (hp.lt hk) (hp.lt (by omega)) (hp.lt (by omega)) e (hU _ _ (by omega) y)
      | false =>
        rw [if_neg Bool.false_ne_true]
        have e2 := flip O hp hk (by omega) (by omega) e
        refine place_wp hp hk hU f ((l + r) / 2 + 1) r (by omega) h2 (by omega) (fun a x => ?_) hr h
        by_cases ha : a = (l + r) / 2
        · subst ha; exact e2
        · exact O.tr _ _ _ (hp.lt (by omega)) (hp.lt (by omega)) (hp.lt hk) (hU _ _ (by omega) hm) e2
theorem bin_wp {Q : Array Nat → Prop} : ∀ (f : Nat) (p : Array Nat) (k : Nat), Pm n p → k + f = n → Up lt p k → (∀ q, Pm n q → Up lt q n → Q q) → kwp lt n (kas_bin f p k) Q
  | 0, p, k, hp, e, hU, h => by
    have : k = n := by omega
    subst this
    exact h p hp hU
  | f + 1, p, k, hp, e, hU, h => by
    have hk : k < n := by omega
    refine kwp_bind _ (place_wp O hp hk hU k 0 k (Nat.zero_le _) (Nat.le_refl _) (by omega) (fun a x => by omega) (fun a x y => by omega) fun x hx h1 h2 => ?_)
    have hb : Pm n (bubble p k (k - x)) := (bubble_perm _ _ _).trans hp
    have gb : ∀ j, gt (bubble p k (k - x)) j = if j = x then gt p k else if x < j ∧ j ≤ k then gt p (j - 1) else gt p j := fun j => by
      have := getElem?_bubble (xs := p) (src := k) (by rw [hp.size]; exact hk) (k - x) (by omega) j
      have e1 : k - (k - x) = x := by omega
      rw [e1] at this
      split at this
      · rename_i c; rw [if_pos c]; exact gt_eq this
      · rename_i c
        rw [if_neg c]
        split at this
        · rename_i d; rw [if_pos d]; exact gt_eq this
        · rename_i d; rw [if_neg d]; exact gt_eq this
    refine bin_wp f _ (k + 1) hb (by omega) (fun a b hab hbk => ?_) h
    rw [gb, gb]
    by_cases a1 : a = x
    · subst a1
      rw [if_pos rfl, if_neg (by omega), if_pos (by omega)]
      exact h2 _ (by omega) (by omega)
    · rw [if_neg a1]
      by_cases b1 : b = x
      · subst b1
        rw [if_pos rfl, if_neg (by omega)]
        exact h1 a hab
      · rw [if_neg b1]
        by_cases a2 : x < a
        · rw [if_pos ⟨a2, by omega⟩, if_pos (by omega)]
          exact hU _ _ (by omega) (by omega)
        · rw [if_neg (by omega)]
          by_cases b2 : x < b
          · rw [if_pos ⟨b2, by omega⟩]
            by_cases e : a = b - 1
            · omega
            · exact hU _ _ (by omega) (by omega)
          · rw [if_neg (by omega)]
            exact hU _ _ hab (by omega)
theorem sort_wp (h2 : 2 ≤ n) {Q : Array Nat → Prop} (h : ∀ q, Pm n q → Up lt q n → Q q) : kwp lt n (kas_sort n) Q := by
  unfold kas_sort
  refine kwp_bind _ (count_wp O (Array.Perm.refl _) h2 fun m q h1 hm hq hU => ?_)
  show kwp lt n (if m < n then kas_bin (n - max m 1) q (max m 1) else .ret q) Q
  have hmax : max m 1 = m := by omega
  rw [hmax]
  by_cases hlt : m < n
  · rw [if_pos hlt]
    exact bin_wp O (n - m) q m hq (by omega) hU h
  · rw [if_neg hlt]
    have : m = n := by omega
    subst this
    exact h q hq hU
end
end

section
open PySem PySem.W PySem.Spec PySem.Calls PyProof.Rows
set_option Elab.async false
set_option maxRecDepth 100000
set_option maxHeartbeats 0
section
variable {w : World} {A : Around} {E : Value → Shared → Prop} {s : Shared}
theorem list_sort_pairs {a : Addr} {vs : List Value} {n : Nat} {lt : Nat → Nat → Bool} {P : PySem.Fin → Shared → Prop} (ho : s.heap.get? a = some (seqObj "list" vs.toArray n)) (h64 : vs.length < 64)
    (hO : LtOk lt vs.length)
    (hkk : 2 ≤ vs.length → ∀ (h' : Heap) (Q : SortKind → Shared → Prop), (∀ b o, b ≠ a → s.heap.get? b = some o → h'.get? b = some o) → Q (tuples' true) { s with heap := h' } → wpAny (Md w) A (keyKind' vs.toArray) Q (fun _ _ => False) { s with heap := h' })
    (hlt : ∀ (i j : Nat) (h' : Heap) (C : Bool → Shared → Prop), i < vs.length → j < vs.length → (∀ b o, b ≠ a → s.heap.get? b = some o → h'.get? b = some o) → C (lt i j) { s with heap := h' } →
      wpAny (Md w) A (keyLt' (tuples' true) (vs.getD i .none) (vs.getD j .none)) C (fun _ _ => False) { s with heap := h' })
    (h : ∀ p : List Nat, p.Perm (List.range vs.length) → (p.Pairwise fun i j => lt i j = true) → P (.done (.ret .none)) { s with heap := sortedHeap s.heap a vs (p.map fun i => vs.getD i .none).toArray }) :
    wpAny (Md w) A (Builtin.«list.sort» ⟨[.ref a], []⟩) P E s := by
  have ha : a < s.heap.objs.size := Heap.lt_size ho
  rw [list_sort_plain]
  refine wpAny_bind (listItems_at ho rfl ?_)
  refine wpAny_bind (listUpdate_at ho rfl ?_ (by rw [List.size_toArray, sizeLine_eq]; omega) (Nat.zero_le _))
  obtain ⟨e1, ho1⟩ : ∃ e1, (s.heap.update a (Obj.mapSeq fun _ => #[])).get? a = some (seqObj "list" #[] e1) := ⟨_, get?_update_seq ho (fun _ => #[])⟩
  refine wpAny_bind (seqEpoch_at ho1 rfl ?_)
  refine wpAny_bind (wpAny_newTuple ?_ (by show vs.length ≤ _; rw [sizeLine_eq]; omega))
  refine wpAny_bind (wpAny_newList ?_ (Nat.zero_le _))
  refine wpAny_holding ?_
  have ho6 : (((s.heap.update a (Obj.mapSeq fun _ => #[])).push (seqObj "tuple" vs.toArray 0)).push (seqObj "list" #[] 0)).get? a = some (seqObj "list" #[] e1) := by
    rw [Heap.get?_push_ne _ _ _ (by rw [size_push', Heap.size_update]; exact Nat.ne_of_lt (Nat.lt_succ_of_lt ha)), Heap.get?_push_ne _ _ _ (by rw [Heap.size_update]; exact Nat.ne_of_lt ha)]
    exact ho1
  have kp : ∀ b o, b ≠ a → s.heap.get? b = some o → (((s.heap.update a (Obj.mapSeq fun _ => #[])).push (seqObj "tuple" vs.toArray 0)).push (seqObj "list" #[] 0)).get? b = some o := fun b o hb e => by
    refine Heap.get?_push_of_some _ (Heap.get?_push_of_some _ ?_)
    exact (Heap.get?_update_other _ _ (Ne.symm hb)).trans e
  show wpAny (Md w) A _ P E { s with heap := ((s.heap.update a (Obj.mapSeq fun _ => #[])).push (seqObj "tuple" vs.toArray 0)).push (seqObj "list" #[] 0) }
  dsimp only
  have hsz : vs.toArray.size = vs.length := by simp
  have map_range : (List.range vs.length).map (fun i => vs.getD i Value.none) = vs := by
    apply List.ext_getElem
    · simp
    · intro i h1 h2
      simp at h1
      simp [h1]
  by_cases h2 : vs.toArray.size < 2
  · rw [if_pos h2, if_pos h2]
    refine wpAny_bind (wpAny_pure ?_)
    rw [StateT.run_pure]
    refine wpAny_bind (wpAny_pure ?_)
    dsimp only
    refine wpAny_bind (seqEpoch_at ho6 rfl ?_)
    have fin := h (List.range vs.length) (List.Perm.refl _) (by
      have hl : vs.length = 0 ∨ vs.length = 1 := by omega
      rcases hl with hl | hl <;> rw [hl] <;> simp [List.range, List.range.loop])
    rw [map_range] at fin
    have e3 : (vs.toArray.zip vs.toArray).map (·.2) = vs.toArray := by
      apply Array.toList_inj.mp
      simp [Array.toList_map, List.map_snd_zip]
    refine wpAny_bind (listUpdate_at ho6 rfl ?_ (Nat.zero_le _) (by rw [show arrOf (SortSt.mk' general' (vs.toArray.zip vs.toArray) #[] 7 none) = vs.toArray.zip vs.toArray from rfl, e3, List.size_toArray, sizeLine_eq]; omega))
    simp only [bne_self_eq_false, Bool.false_eq_true, if_false]
    rw [show arrOf (SortSt.mk' general' (vs.toArray.zip vs.toArray) #[] 7 none) = vs.toArray.zip vs.toArray from rfl, e3]
    exact wpAny_pure fin
  · rw [if_neg h2, if_neg h2]
    have h2' : 2 ≤ vs.length := by omega
    refine wpAny_bind (wpAny_mono (hkk h2' _ (fun κ s' => κ = tuples' true ∧ s' = { s with heap := ((s.heap.update a (Obj.mapSeq fun _ => #[])).push (seqObj "tuple" vs.toArray 0)).push (seqObj "list" #[] 0) }) kp ⟨rfl, rfl⟩) (fun κ s0 hk => ?_) fun _ _ x => x.elim)
    obtain ⟨rfl, rfl⟩ := hk
    have run := kat_run (prog := PP) (w := w) (A := A) (E := E) (s := { s with heap := ((s.heap.update a (Obj.mapSeq fun _ => #[])).push (seqObj "tuple" vs.toArray 0)).push (seqObj "list" #[] 0) }) (κ := tuples' true) (vs := vs) (ks := vs)
      (G := fun p s' => s' = { s with heap := ((s.heap.update a (Obj.mapSeq fun _ => #[])).push (seqObj "tuple" vs.toArray 0)).push (seqObj "list" #[] 0) } ∧ Pm vs.length p ∧ Up lt p vs.length)
      (Q := fun st' s' => ∃ p : Array Nat, arrOf st' = p.map (kas_item (vs.toArray.zip vs.toArray)) ∧ failedOf st' = none ∧ s' = { s with heap := ((s.heap.update a (Obj.mapSeq fun _ => #[])).push (seqObj "tuple" vs.toArray 0)).push (seqObj "list" #[] 0) } ∧ Pm vs.length p ∧ Up lt p vs.length)
      rfl h2' h64 (fun p' st' s' a1 a2 a3 a4 => ⟨p', a2, a3, a4⟩)
      (kwp_run (Inv := fun s' => s' = { s with heap := ((s.heap.update a (Obj.mapSeq fun _ => #[])).push (seqObj "tuple" vs.toArray 0)).push (seqObj "list" #[] 0) }) (fun i j C s' hi hj hs hC => by
        subst hs
        exact hlt i j _ C hi hj kp (hC _ rfl)) _ _ rfl (sort_wp hO h2' fun q hq hU s' hs => ⟨hs, hq, hU⟩))
    refine wpAny_bind (wpAny_mono run ?_ fun _ _ e => e)
    rintro ⟨⟨⟩, st'⟩ s' ⟨p, har, hf, rfl, hp, hU⟩
    dsimp only
    have hout := kat_snds (ks := vs) (vs := vs) rfl har
    have hpl : p.toList.Perm (List.range vs.length) := by simpa using Array.perm_iff_toList_perm.mp hp
    have fin := h p.toList hpl (by
      rw [List.pairwise_iff_getElem]
      intro i j hi hj hij
      have hps := hp.size
      have := hU i j hij (by simpa [hps] using hj)
      have ei : gt p i = p.toList[i] := by have : i < p.size := by simpa using hi
                                           unfold gt; simp [Array.getD, this]
      have ej : gt p j = p.toList[j] := by have : j < p.size := by simpa using hj
                                           unfold gt; simp [Array.getD, this]
      rw [ei, ej] at this
      exact this)
    refine wpAny_bind (seqEpoch_at ho6 rfl ?_)
    rw [hout]
    refine wpAny_bind (listUpdate_at ho6 rfl ?_ (Nat.zero_le _) (by rw [List.size_toArray, List.length_map, hpl.length_eq, List.length_range, sizeLine_eq]; omega))
    rw [hf]
    simp only [bne_self_eq_false, Bool.false_eq_true, if_false]
    exact wpAny_pure fin
end
end

section
open PySem PySem.W PySem.Spec PySem.Calls PyProof.Rows
set_option Elab.async false
set_option maxRecDepth 100000
set_option maxHeartbeats 0
section
variable {w : World} {A : Around} {E : Value → Shared → Prop} {s : Shared}
theorem sorted_pairs {l : Addr} {vs : List Value} {lt : Nat → Nat → Bool} {Q : Value → Shared → Prop} (hl : s.heap.IsList l vs.toArray) (h64 : vs.length < 64) (hO : LtOk lt vs.length)
    (hkk : 2 ≤ vs.length → ∀ (A' : Around) (h' : Heap) (Q : SortKind → Shared → Prop), (∀ b o, s.heap.get? b = some o → h'.get? b = some o) → Q (tuples' true) { s with heap := h' } → wpAny (Md w) A' (keyKind' vs.toArray) Q (fun _ _ => False) { s with heap := h' })
    (hlt : ∀ (A' : Around) (i j : Nat) (h' : Heap) (C : Bool → Shared → Prop), i < vs.length → j < vs.length → (∀ b o, s.heap.get? b = some o → h'.get? b = some o) → C (lt i j) { s with heap := h' } →
      wpAny (Md w) A' (keyLt' (tuples' true) (vs.getD i .none) (vs.getD j .none)) C (fun _ _ => False) { s with heap := h' })
    (h : ∀ p : List Nat, p.Perm (List.range vs.length) → (p.Pairwise fun i j => lt i j = true) → Q (.ref (s.heap.objs.size + 1)) { s with heap := sortedAll s.heap vs (p.map fun i => vs.getD i .none).toArray }) :
    wpAny (Md w) A (call (.builtin "sorted") [.ref l]) Q E s := by
  refine Calls.call_function_entry kind_sorted plain_sorted entry_sorted (args_sorted1 _) ?_
  unfold Builtin.«sorted»
  refine wpAny_bind (m := checkCount "sorted" 1 1 _) (wpAny_pure ?_)
  refine wpAny_bind (collect_list hl ?_ (by rw [sizeLine_eq]; omega))
  refine wpAny_bind (wpAny_newList ?_ (by rw [sizeLine_eq]; omega))
  have hsz : ((s.heap.push (seqObj "list" #[] 0)).update s.heap.objs.size (Obj.mapSeq (· ++ vs.toArray))).objs.size = s.heap.objs.size + 1 := by
    rw [Heap.size_update, size_push']
  have hoL : (((s.heap.push (seqObj "list" #[] 0)).update s.heap.objs.size (Obj.mapSeq (· ++ vs.toArray))).push (seqObj "list" vs.toArray 0)).get? (s.heap.objs.size + 1) = some (seqObj "list" vs.toArray 0) := by
    rw [← hsz]; exact Heap.get?_push_size _ rfl
  have keep : ∀ b o, s.heap.get? b = some o → (((s.heap.push (seqObj "list" #[] 0)).update s.heap.objs.size (Obj.mapSeq (· ++ vs.toArray))).push (seqObj "list" vs.toArray 0)).get? b = some o := fun b o q => by
    have hlt : b < s.heap.objs.size := Heap.lt_size q
    rw [Heap.get?_push_ne _ _ _ (by rw [hsz]; exact Nat.ne_of_lt (Nat.lt_succ_of_lt hlt)), Heap.get?_update_ne _ _ _ _ (Nat.ne_of_lt hlt), Heap.get?_push_ne _ _ _ (Nat.ne_of_lt hlt)]
    exact q
  have hne : ∀ b o, s.heap.get? b = some o → b ≠ s.heap.objs.size + 1 := fun b o q e => by
    have := Heap.lt_size q
    rw [e] at this
    exact absurd this (by have : ∀ n : Nat, ¬ n + 1 < n := fun n => by omega
                          exact this _)
  show wpAny _ _ _ _ _ { s with heap := ((s.heap.push (seqObj "list" #[] 0)).update s.heap.objs.size (Obj.mapSeq (· ++ vs.toArray))).push (seqObj "list" vs.toArray 0) }
  rw [hsz]
  refine wpAny_bind (wpAny_holding (wpAny_call_entry slot_list_sort ⟨_, hoL, rfl⟩ entry_list_sort (list_sort_pairs hoL h64 hO (fun h2 h' Q' hk hq => hkk h2 _ h' Q' (fun b o e => hk b o (hne b o e) (keep b o e)) hq)
    (fun i j h' C hi hj hk hC => hlt _ i j h' C hi hj (fun b o e => hk b o (hne b o e) (keep b o e)) hC) fun p hp hs => ⟨_, rfl, ?_⟩) (args_list_sort _)))
  exact wpAny_pure ⟨_, rfl, h p hp hs⟩
end
theorem range_fm {α : Type} : ∀ (D : List α), (List.range D.length).filterMap (fun i => D[i]?) = D
  | [] => rfl
  | a :: r => by
    rw [List.length_cons, List.range_succ_eq_map, List.filterMap_cons]
    simp only [List.getElem?_cons_zero, List.filterMap_map]
    congr 1
    have := range_fm r
    conv => rhs; rw [← this]
    congr 1
structure Pr where
  t : Addr
  k : Str
  d : Addr
  zs : List Str
noncomputable def PairP (k : Str) (d : Addr) (o : Obj) : Prop := ∃ τ, TupP [.str k τ, .ref d] o
noncomputable def ltS (x y : Str) : Bool := decide (x.cps.toList < y.cps.toList)
noncomputable def refsP (D : List Pr) : List Value := D.map fun e => .ref e.t
theorem ltS_tr {x y z : Str} (h1 : ltS x y = true) (h2 : ltS y z = true) : ltS x z = true := strKind.trans _ _ _ h1 h2
theorem ltS_irr (x : Str) : ltS x x = false := strKind.irrefl _
theorem ltS_asym {x y : Str} (h : ltS x y = true) : ltS y x = false := by
  cases e : ltS y x with
  | false => rfl
  | true => have := ltS_tr h e; rw [ltS_irr] at this; cases this
theorem ltS_tot {x y : Str} (h : x ≠ y) (h1 : ltS x y = false) : ltS y x = true := by
  cases e : ltS y x with
  | true => rfl
  | false =>
    have := strKind.total _ _ h1 e
    exact absurd (by cases x; cases y; simp at this; rw [this]) h
theorem refs_at {D : List Pr} {i : Nat} (h : i < D.length) : (refsP D).getD i .none = .ref (D[i]).t := by simp [refsP, h]
section
variable {w : World} {A : Around} {B s : Shared} {own : Led} {E Q : Value → Shared → Prop} {l : Addr} {D : List Pr}
theorem o_sortP (F : Fm w B s own) (hl : Has B own l (LstP (refsP D))) (ht : ∀ e ∈ D, (e.t, PairP e.k e.d) ∈ own) (nd : (D.map (·.k)).Nodup) (h64 : D.length < 64)
    (h : ∀ D' R s', D'.Perm D → (D'.Pairwise fun a b => ltS a.k b.k = true) → Fm w B s' ((R, LstP (refsP D')) :: own) → Q (.ref R) s') : wpAny (Md w) A (call (.builtin "sorted") [.ref l]) Q E s := by
  obtain ⟨o, ho, n, rfl⟩ := F.has hl
  have hlen : (refsP D).length = D.length := by simp [refsP]
  have tup : ∀ i (hi : i < D.length), ∃ τ m, s.heap.get? (D[i]).t = some (seqObj "tuple" [.str (D[i]).k τ, .ref (D[i]).d].toArray m) := fun i hi => by
    obtain ⟨ot, hot, τ, m, rfl⟩ := F.sat _ (ht _ (List.getElem_mem hi))
    exact ⟨τ, m, hot⟩
  have kne : ∀ i j (hi : i < D.length) (hj : j < D.length), i ≠ j → (D[i]).k ≠ (D[j]).k := fun i j hi hj hne e => by
    have h1 : (D.map (·.k))[i]'(by simpa using hi) = (D.map (·.k))[j]'(by simpa using hj) := by simpa using e
    exact hne ((List.getElem_inj nd).mp h1)
  refine sorted_pairs (lt := fun i j => if hi : i < D.length then (if hj : j < D.length then ltS (D[i]).k (D[j]).k else false) else false) (isListS ho) (by rw [hlen]; exact h64) ?_ ?_ ?_ ?_
  · rw [hlen]
    constructor
    · intro a b c ha hb hc h1 h2
      simp only [ha, hb, hc, dif_pos] at h1 h2 ⊢
      exact ltS_tr h1 h2
    · intro a b ha hb hne h1
      simp only [ha, hb, dif_pos] at h1 ⊢
      exact ltS_tot (kne a b ha hb hne) h1
    · intro a b ha hb h1
      simp only [ha, hb, dif_pos] at h1 ⊢
      exact ltS_asym h1
  · intro h2 A' h' Q' hk hq
    have ks : ∀ (D : List Pr), (∀ e ∈ D, ∃ τ m, h'.get? e.t = some (seqObj "tuple" [.str e.k τ, .ref e.d].toArray m)) → ∃ fs, KatTups h' (refsP D) fs ∧ fs.length = D.length ∧ ∀ v ∈ fs, ∃ x τ, v = .str x τ := by
      intro D
      induction D with
      | nil => intro _; exact ⟨[], trivial, rfl, fun v hv => by cases hv⟩
      | cons e r ih =>
        intro hh
        obtain ⟨τ, m, he⟩ := hh e (.head _)
        obtain ⟨fs, h1, h2, h3⟩ := ih fun x hx => hh x (.tail _ hx)
        refine ⟨.str e.k τ :: fs, KatTups.cons he rfl rfl rfl h1, by simp [h2], fun v hv => ?_⟩
        rcases List.mem_cons.mp hv with rfl | hv
        · exact ⟨_, _, rfl⟩
        · exact h3 v hv
    obtain ⟨fs, h1, h2', h3⟩ := ks D fun e he => by
      obtain ⟨i, hi, rfl⟩ := List.mem_iff_getElem.mp he
      obtain ⟨τ, m, hh⟩ := tup i hi
      exact ⟨τ, m, hk _ _ hh⟩
    refine kat_kind (s := { s with heap := h' }) (T := .type "str") h1 (by omega) (fun v hv => ?_) (by decide) hq
    obtain ⟨x, τ, rfl⟩ := h3 v hv
    exact Looks.of_pure rfl
  · intro A' i j h' C hi hj hk hC
    rw [hlen] at hi hj
    rw [refs_at hi, refs_at hj]
    obtain ⟨τ, m, h1⟩ := tup i hi
    obtain ⟨υ, m', h2⟩ := tup j hj
    simp only [hi, hj, dif_pos] at hC
    refine kat_lt (s := { s with heap := h' }) (hk _ _ h1) rfl (hk _ _ h2) rfl ?_
    show KatLex PP w A' true false C [(.str (D[i]).k τ, .str (D[j]).k υ), (.ref (D[i]).d, .ref (D[j]).d)] 0 _
    refine kat_cons (eqBool_str ?_)
    refine kat_go (fun e => ?_) (fun e => ?_)
    · have e' := eq_of_beq e
      by_cases hij : i = j
      · subst hij
        refine kat_yes (kat_cons ?_)
        unfold eqBool
        refine wpAny_holding ?_
        rw [if_pos (by simp)]
        refine wpAny_bind (wpAny_rule (wpAny_pure ?_))
        rw [ltS_irr] at hC
        exact kat_yes (kat_nil hC)
      · exact absurd e' (kne i j hi hj hij)
    · exact kat_no (strKind_oneLt PP w A' _ _ _ _ _ _ rfl rfl hC)
  · intro p hp hs
    rw [hlen] at hp
    obtain ⟨e, he⟩ := sortedAll_at s.heap (refsP D) (p.map fun i => (refsP D).getD i Value.none).toArray
    have hmem : ∀ i ∈ p, i < D.length := fun i hi => by simpa using hp.mem_iff.mp hi
    have e1 : (p.map fun i => (refsP D).getD i Value.none) = refsP (p.filterMap fun i => D[i]?) := by
      clear hp hs he
      induction p with
      | nil => rfl
      | cons i r ih =>
        have hi := hmem i (.head _)
        rw [List.map_cons, List.filterMap_cons, List.getElem?_eq_getElem hi, refs_at hi, ih fun j hj => hmem j (.tail _ hj)]
        rfl
    rw [e1] at he
    have hperm : (p.filterMap fun i => D[i]?).Perm D := by
      have h1 := hp.filterMap fun i => D[i]?
      have h2 : (List.range D.length).filterMap (fun i => D[i]?) = D := by
        exact range_fm D
      rwa [h2] at h1
    have hpw : (p.filterMap fun i => D[i]?).Pairwise fun a b => ltS a.k b.k = true := by
      rw [List.pairwise_filterMap]
      refine hs.imp_of_mem fun {i j} hi hj hij => ?_
      intro a ha b hb
      have hi' := hmem i hi
      have hj' := hmem j hj
      rw [List.getElem?_eq_getElem hi'] at ha
      rw [List.getElem?_eq_getElem hj'] at hb
      cases ha; cases hb
      simp only [hi', hj', dif_pos] at hij
      exact hij
    refine h _ _ _ hperm hpw ?_
    rw [e1]
    exact F.add (a := s.heap.objs.size + 1) (s' := { s with heap := sortedAll s.heap (refsP D) (refsP (p.filterMap fun i => D[i]?)).toArray }) ⟨fun _ _ => sortedAll_old, rfl, rfl⟩ (Heap.get?_none_of_le (Nat.le_succ _)) ⟨_, he, _, rfl⟩
end
end

section
open PySem PySem.W PySem.Spec PySem.Calls PyProof.Rows
set_option Elab.async false
set_option maxRecDepth 100000
set_option maxHeartbeats 0
noncomputable def srt (l : List Str) : List Str := l.mergeSort fun a b => !ltS b a
noncomputable def srtP (l : Book) : Book := l.mergeSort fun a b => !ltS b.1 a.1
theorem leS_tr (a b c : Str) (h1 : (!ltS b a) = true) (h2 : (!ltS c b) = true) : (!ltS c a) = true := by
  rw [Bool.not_eq_true'] at *
  exact KeyOrd.kle_trans (O := strKind.toKeyOrd) (a := a.cps.toList) (b := b.cps.toList) (c := c.cps.toList) h1 h2
theorem leS_tot (a b : Str) : ((!ltS b a) || (!ltS a b)) = true := by
  cases e : ltS b a with
  | false => rfl
  | true => rw [ltS_asym e]; rfl
theorem leS_anti {a b : Str} (h1 : (!ltS b a) = true) (h2 : (!ltS a b) = true) : a = b := by
  rw [Bool.not_eq_true'] at *
  by_cases e : a = b
  · exact e
  · have := ltS_tot e h2
    rw [h1] at this; cases this
theorem srt_perm (l : List Str) : (srt l).Perm l := List.mergeSort_perm _ _
theorem srt_eq {l l' : List Str} (hp : l'.Perm l) (hs : l'.Pairwise fun a b => (!ltS b a) = true) : l' = srt l := by
  refine List.Perm.eq_of_pairwise (le := fun a b => (!ltS b a) = true) (fun a b _ _ h1 h2 => leS_anti h1 h2) hs (List.pairwise_mergeSort (fun a b c => leS_tr a b c) leS_tot l) (hp.trans (srt_perm l).symm)
theorem srt_congr {l l' : List Str} (hp : l'.Perm l) : srt l' = srt l := srt_eq ((srt_perm l').trans hp) (List.pairwise_mergeSort (fun a b c => leS_tr a b c) leS_tot l')
theorem rising_pw : ∀ (p : Str) (l : List Str), risingS p l = true → (p :: l).Pairwise fun a b => (!ltS b a) = true
  | p, [], _ => by simp
  | p, x :: r, h => by
    have h' : (!ltCps x.cps.toList p.cps.toList && risingS x r) = true := h
    rw [Bool.and_eq_true] at h'
    have ih := rising_pw x r h'.2
    have e : (!ltS x p) = true := by rw [← h'.1, ltCps_eq]; rfl
    refine List.pairwise_cons.mpr ⟨fun y hy => ?_, ih⟩
    rcases List.mem_cons.mp hy with rfl | hy
    · exact e
    · exact leS_tr _ _ _ e ((List.pairwise_cons.mp ih).1 y hy)
theorem sorted_srt {l l' : List Str} (hp : l'.Perm l) (hs : sortedS l' = true) : l' = srt l := by
  refine srt_eq hp ?_
  cases l' with
  | nil => simp
  | cons p r => exact rising_pw p r hs
theorem srtP_perm (l : Book) : (srtP l).Perm l := List.mergeSort_perm _ _
theorem srtP_eq {l l' : Book} (hn : (l.map (·.1)).Nodup) (hp : l'.Perm l) (hs : l'.Pairwise fun a b => (!ltS b.1 a.1) = true) : l' = srtP l := by
  refine List.Perm.eq_of_pairwise (le := fun a b => (!ltS b.1 a.1) = true) (fun a b ha hb h1 h2 => ?_) hs (List.pairwise_mergeSort (fun a b c => leS_tr a.1 b.1 c.1) (fun a b => leS_tot a.1 b.1) l) (hp.trans (srtP_perm l).symm)
  have e := leS_anti h1 h2
  have ha' := hp.mem_iff.mp ha
  have hb' := (srtP_perm l).mem_iff.mp hb
  obtain ⟨i, hi, rfl⟩ := List.mem_iff_getElem.mp ha'
  obtain ⟨j, hj, rfl⟩ := List.mem_iff_getElem.mp hb'
  have h3 : (l.map (·.1))[i]'(by simpa using hi) = (l.map (·.1))[j]'(by simpa using hj) := by simpa using e
  have : i = j := (List.getElem_inj hn).mp h3
  subst this; rfl
theorem srtP_congr {l l' : Book} (hn : (l.map (·.1)).Nodup) (hp : l'.Perm l) : srtP l' = srtP l :=
  srtP_eq hn ((srtP_perm l').trans hp) (List.pairwise_mergeSort (fun a b c => leS_tr a.1 b.1 c.1) (fun a b => leS_tot a.1 b.1) l')
noncomputable def absP (D : List Pr) : Book := D.map fun e => (e.k, e.zs)
section
variable {w : World} {A : Around} {B s : Shared} {own : Led} {E Q : Value → Shared → Prop} {l : Addr} {ss : List Str} {D : List Pr}
theorem o_sortS (F : Fm w B s own) (hl : Has B own l (LS ss)) (h64 : ss.length < 64) (h : ∀ R s', Fm w B s' ((R, LS (srt ss)) :: own) → Q (.ref R) s') : wpAny (Md w) A (call (.builtin "sorted") [.ref l]) Q E s := by
  obtain ⟨vs, n, hs, ho⟩ := F.hasLS hl
  refine sorted_strs (isListS ho) hs (by rw [strs_len hs]; exact h64) fun out ss' h1 h2 h3 => ?_
  obtain ⟨e, he⟩ := sortedAll_at s.heap vs out
  rw [← sorted_srt h2 h3] at h
  refine h _ _ (F.add (a := s.heap.objs.size + 1) (s' := { s with heap := sortedAll s.heap vs out }) ⟨fun _ _ => sortedAll_old, rfl, rfl⟩ (Heap.get?_none_of_le (Nat.le_succ _)) ⟨_, he, out.toList, h1, e, by rw [Array.toArray_toList]⟩)
theorem o_sortPP (F : Fm w B s own) (hl : Has B own l (LstP (refsP D))) (ht : ∀ e ∈ D, (e.t, PairP e.k e.d) ∈ own) (nd : (D.map (·.k)).Nodup) (h64 : D.length < 64)
    (h : ∀ D' R s', D'.Perm D → absP D' = srtP (absP D) → Fm w B s' ((R, LstP (refsP D')) :: own) → Q (.ref R) s') : wpAny (Md w) A (call (.builtin "sorted") [.ref l]) Q E s := by
  refine o_sortP F hl ht nd h64 fun D' R s' hp hs F' => h D' R s' hp ?_ F'
  refine srtP_eq ?_ (hp.map _) ?_
  · have : ((absP D).map (·.1)) = D.map (·.k) := by simp [absP]
    rw [this]; exact nd
  · unfold absP
    rw [List.pairwise_map]
    exact hs.imp fun {a b} h => by show (!ltS b.k a.k) = true; rw [ltS_asym h]; rfl
end
end

section
open PySem PySem.W PySem.Spec PySem.Calls PyProof.Rows
set_option Elab.async false
set_option maxRecDepth 100000
set_option maxHeartbeats 0
theorem isfn_254 (P : Params) : isFnK (KH P) 254 = true := by kernel_rfl
theorem g_law_rows : Glo (PySem.Str.ofString "_law_rows") (.ref 254) := Glo.ofK (fun _ => by kernel_rfl)
theorem g_sorted : Glo (PySem.Str.ofString "sorted") (.builtin "sorted") := Glo.ofB (fun _ => by kernel_rfl) (by kernel_rfl) (by decide +kernel)
noncomputable def rowsPr (D : List Pr) : Led := D.flatMap fun e => [(e.t, PairP e.k e.d), (e.d, LS e.zs)]
theorem rowsPr_snoc (D : List Pr) (e : Pr) : rowsPr (D ++ [e]) = rowsPr D ++ [(e.t, PairP e.k e.d), (e.d, LS e.zs)] := by simp [rowsPr]
theorem rowsPr_t {D : List Pr} {e : Pr} (h : e ∈ D) : (e.t, PairP e.k e.d) ∈ rowsPr D := List.mem_flatMap.mpr ⟨e, h, .head _⟩
theorem rowsPr_d {D : List Pr} {e : Pr} (h : e ∈ D) : (e.d, LS e.zs) ∈ rowsPr D := List.mem_flatMap.mpr ⟨e, h, .tail _ (.head _)⟩
theorem Fm.snocP {w : World} {B s : Shared} {own : Led} {t d : Addr} {τ : Tok} {k : Str} {zs : List Str} {D : List Pr} {pre rest : Led} (F : Fm w B s ((t, TupP [.str k τ, .ref d]) :: (d, LS zs) :: own)) (e : own = pre ++ (rowsPr D ++ rest)) :
    Fm w B s (pre ++ (rowsPr (D ++ [⟨t, k, d, zs⟩]) ++ rest)) := by
  subst e
  have F1 := F.imp (P' := PairP k d) .head fun o ho => ⟨τ, ho⟩
  refine F1.perm' ?_
  rw [rowsPr_snoc]
  have e : pre ++ (rowsPr D ++ [(t, PairP k d), (d, LS zs)] ++ rest) = (pre ++ rowsPr D) ++ ((t, PairP k d) :: (d, LS zs) :: rest) := by simp
  rw [e, ← List.append_assoc]
  exact List.perm_middle.trans (List.Perm.cons _ List.perm_middle)
theorem bget_of_mem : ∀ {bk : Book} {k : Str} {zs : List Str}, (bk.map (·.1)).Nodup → (k, zs) ∈ bk → bget bk k = some zs
  | (k', zs') :: r, k, zs, nd, h => by
    rw [List.map_cons, List.nodup_cons] at nd
    rcases List.mem_cons.mp h with e | h
    · cases e; simp [bget]
    · have ih := bget_of_mem nd.2 h
      have hne : k' ≠ k := fun e => nd.1 (e ▸ List.mem_map.mpr ⟨(k, zs), h, rfl⟩)
      have : (k' == k) = false := by rw [beq_eq_false_iff_ne]; exact hne
      unfold bget at ih ⊢
      rw [List.find?_cons]
      simp only [this]
      exact ih
noncomputable def srtd (bk : Book) : Book := bk.map fun e => (e.1, srt e.2)
theorem c_law_rows {w : World} {A : Around} {B s : Shared} {own : Led} {n : Nat} {R : Result → Shared → Prop} {b dx : Addr} {K : Kds} (hA : Rm A (n + 1)) (F : Fm w B s own) (hb : (b, BkP w dx (kvsK K)) ∈ own) (h1 : (b == sysModules) = false)
    (hr : ∀ p ∈ rowsK K, p ∈ own) (nd : ((absK K).map (·.1)).Nodup) (hz : (absK K).length < 64) (hzz : ∀ e ∈ absK K, e.2.length < 64)
    (h : ∀ Rl D s', absP D = srtP (srtd (absK K)) → Fm w B s' ((Rl, LstP (refsP D)) :: (rowsPr D ++ own)) → R (.ok (.ret (.ref Rl))) s') :
    codeAny (Md w) A (.call (.ref 254) ⟨[.ref b], []⟩) R s := by
  have hbig : 100000 ≤ sizeLine := Nat.le_of_ble_eq_true rfl
  with_reducible refine enterC (cs := [Str.ofString "book"]) (binds := [(Str.ofString "book", .ref b)]) (ks := [(Str.ofString "book", .cell), (Str.ofString "sorted", .globalImplicit), (Str.ofString "list", .globalImplicit)]) hA F.base (by kernel_rfl) (by kernel_rfl) (by kernel_rfl) ?_
  intro L cr s1 hcr F1 hA' hk E' A'
  obtain ⟨cb, rfl⟩ := lay1 hcr
  replace F1 : Fm w B s1 ((cb, CellP none) :: (L, NsP []) :: own) := F.trans F1
  with_reducible refine bp_cons ?_
  with_reducible refine st_cell F1 hk (by kd_mem) (by kd_mem) (by kd_all) ?_
  intro s2 F2
  with_reducible refine bp_nil ⟨F2.base, ?_⟩
  conv in bodyOf _ => whnf
  with_reducible refine x_ret (c_glo F2 hk (by kd_mem) g_sorted (cw_bi (ev_cons ?_)))
  with_reducible refine e_comp (B := B) (cl := [(Str.ofString "book", cb)]) (ks' := [(Str.ofString "path", .local), (Str.ofString "sorted", .globalImplicit), (Str.ofString "book", .cell)]) hA' hk (by kernel_rfl) (by kernel_rfl) (by kernel_rfl) (by kernel_rfl) ?_
  with_reducible refine c_glo F2 hk (by kd_mem) g_list (cw_ty (ev_cons (e_cell F2 hk (by kd_mem) (by kd_mem) (.led (by kd_mem)) ?_)))
  have hb2 : (b, BkP w dx (kvsK K)) ∈ (cb, CellP (some (.ref b))) :: (L, NsP []) :: own := .tail _ (.tail _ hb)
  with_reducible refine ev_nil (o_list_book hA' F2 hb2 h1 (by rw [len_kvs]; omega) ?_)
  intro l0 s3 F3
  have hkl : ((kvsK K).map (·.1)).length = (absK K).length := by rw [List.length_map, len_kvs]
  with_reducible refine ⟨_, _, _, _, _, srcS (l := l0) (zs := (kvsK K).map (·.1)), by omega, F3, .led (by kd_mem), fun _ _ h => h.cons, fun C it Dn hkc => ⟨fun i ys own' => ∃ D, ys = refsP D ∧ absP D = (srtd (absK K)).take i ∧ own' = (l0, LS ((kvsK K).map (·.1))) :: (cb, CellP (some (.ref b))) :: (L, NsP []) :: (rowsPr D ++ own), ?_, ?_, ?_, ?_⟩⟩
  · exact ⟨[], rfl, rfl, rfl⟩
  · rintro i ys own' ⟨D, _, _, rfl⟩
    exact .led (by kd_mem)
  · rintro i v ys own' s4 Ky Kn hKy hKn hi ⟨D, rfl, hD, rfl⟩ hlen F4 ⟨z, tz, rfl, hzi⟩
    clear F1 F2 F3
    have hiK : i < K.length := by simpa [kvsK] using hi
    have ez : z = (K[i]).1 := by
      rw [List.getElem?_map] at hzi
      unfold kvsK at hzi
      rw [List.getElem?_map, List.getElem?_eq_getElem hiK] at hzi
      simpa using hzi.symm
    have hmem : ((K[i]).1, (K[i]).2.2) ∈ absK K := List.mem_map.mpr ⟨K[i], List.getElem_mem hiK, rfl⟩
    with_reducible refine ct_none ?_
    kst_all
    rename_i s5 F5
    with_reducible refine e_tup F5 (ev_cons ?_)
    kst_mem
    with_reducible refine ev_cons (c_glo F5 hkc (by kd_mem) g_sorted (cw_bi (ev_cons (e_sub (e_cell F5 hkc (by kd_mem) (by kd_mem) (.led (by kd_mem)) ?_)))))
    kst_mem
    obtain ⟨p1, d, zs, p2, eK, hp⟩ | hm := keysK K z
    · have hbg : bget (absK K) z = some zs := by rw [eK]; exact bget_hit hp
      have hbg2 := bget_of_mem nd hmem
      rw [← ez, hbg] at hbg2
      have hzs : zs = (K[i]).2.2 := by simpa using hbg2
      have hkg : bkGet (kvsK K) z = some (.ref d) := by
        have := kget_hit (D := d) (zs := zs) (post := p2) hp
        rw [← eK] at this
        exact this
      have hb5 : (b, BkP w dx (kvsK K)) ∈ (C, NsP [(Str.ofString "path", .str z tz)]) :: (it, ItP l0 (i + 1)) :: (Dn, LstP (refsP D)) :: (l0, LS ((kvsK K).map (·.1))) :: (cb, CellP (some (.ref b))) :: (L, NsP []) :: (rowsPr D ++ own) :=
        .tail _ (.tail _ (.tail _ (.tail _ (.tail _ (.tail _ (List.mem_append_right _ hb))))))
      refine bk_tail (bk_at F5 hb5 h1) (o_hit F5 hb5 h1 hkg ?_)
      intro s6 F6
      have hd6 : (d, LS zs) ∈ (C, NsP [(Str.ofString "path", .str z tz)]) :: (it, ItP l0 (i + 1)) :: (Dn, LstP (refsP D)) :: (l0, LS ((kvsK K).map (·.1))) :: (cb, CellP (some (.ref b))) :: (L, NsP []) :: (rowsPr D ++ own) := by
        refine .tail _ (.tail _ (.tail _ (.tail _ (.tail _ (.tail _ (List.mem_append_right _ (hr _ ?_)))))))
        rw [eK]
        exact List.mem_map.mpr ⟨(z, d, zs), List.mem_append_right _ (.head _), rfl⟩
      with_reducible refine ev_nil (o_sortS F6 (.led hd6) (by rw [hzs]; exact hzz _ hmem) ?_)
      intro ds s7 F7
      with_reducible refine ev_nil ⟨_, F7, Nat.le_of_ble_eq_true rfl, ?_⟩
      intro tt s8 F8
      refine hKy _ _ _ _ ⟨D ++ [⟨tt, z, ds, srt zs⟩], by simp [refsP], ?_, rfl⟩ (F8.snocP (pre := (C, NsP [(Str.ofString "path", .str z tz)]) :: (it, ItP l0 (i + 1)) :: (Dn, LstP (refsP D)) :: (l0, LS ((kvsK K).map (·.1))) :: (cb, CellP (some (.ref b))) :: (L, NsP []) :: []) rfl)
      have e1 : (srtd (absK K))[i]? = some (z, srt zs) := by
        unfold srtd absK
        rw [List.map_map, List.getElem?_map, List.getElem?_eq_getElem hiK, ez, hzs]; rfl
      rw [List.take_add_one, e1, ← hD]
      simp [absP]
    · exact absurd ez.symm (hm _ (List.getElem_mem hiK))
  · rintro ys own' s4 ⟨D, rfl, hD, rfl⟩ hlen F4
    have hD2 : absP D = srtd (absK K) := by
      rw [hD, List.take_of_length_le]
      rw [hkl]; simp [srtd]
    have hnd : (D.map (·.k)).Nodup := by
      have e : D.map (·.k) = (absP D).map (·.1) := by simp [absP]
      rw [e, hD2]
      have e2 : (srtd (absK K)).map (·.1) = (absK K).map (·.1) := by simp [srtd]
      rw [e2]; exact nd
    have hDl : D.length = (absK K).length := by
      have : (absP D).length = (srtd (absK K)).length := by rw [hD2]
      simpa [absP, srtd] using this
    refine ev_nil (o_sortPP F4 (.led (by kd_mem)) (fun e he => .tail _ (.tail _ (.tail _ (.tail _ (List.mem_append_left _ (rowsPr_t he)))))) hnd (by omega) ?_)
    intro D' Rl s5 hperm hD' F5
    have F6 : Fm w B s5 ((Rl, LstP (refsP D')) :: (rowsPr D ++ own)) := F5.sel (by kqd_all)
    refine h Rl D' s5 (by rw [hD', hD2]) (F6.perm' (List.Perm.cons _ (List.Perm.append_right _ ?_)))
    exact List.Perm.flatMap_right _ hperm
end

section
open PySem PySem.W PySem.Spec PySem.Calls PyProof.Rows
set_option Elab.async false
set_option maxRecDepth 100000
set_option maxHeartbeats 0
/-! a comprehension of two clauses; the second has one test -/
section
variable {w : World} {A : Around} {E : Value → Shared → Prop} {R : Result → Shared → Prop} {s : Shared} {elt iter0 iter1 c : Expr} {x0 x1 : Str} {p0 p1 : Pos} {scope : Scope} {pos : Pos} {it acc : Value} {env : Env}
noncomputable abbrev cmp2 (elt iter0 iter1 c : Expr) (x0 x1 : Str) (p0 p1 : Pos) (scope : Scope) (pos : Pos) : Expr := .ListComp elt [⟨.Name x0 p0, iter0, [], 0⟩, ⟨.Name x1 p1, iter1, [c], 0⟩] scope pos
theorem turn2_in (I : Nat → Shared → Prop)
    (turn : ∀ n s, I n s → wpAny (Md w) A (pyNext it) (fun r s₁ => match r with
      | none => R (.ok .next) s₁
      | some v => wpAny (Md w) A (storeName env x1 v) (fun _ s₂ => wpAny (Md w) A (isTrue c env (eval c env)) (fun ok s₃ =>
            B2 ok (wpAny (Md w) A (eval elt env) (fun x s₄ => wpAny (Md w) A (call (.builtin "list.append") [acc, x]) (fun _ s₅ => ∃ m, m < n ∧ I m s₅) (fun _ _ => False) s₄) (fun _ _ => False) s₃)
              (∃ m, m < n ∧ I m s₃)) (fun _ _ => False) s₂) (fun _ _ => False) s₁) (fun _ _ => False) s)
    (n : Nat) (h : I n s) : codeAny (Md w) A (.compLoop (cmp2 elt iter0 iter1 c x0 x1 p0 p1 scope pos) 1 it acc env) R s := by
  refine codeAny_loop rfl I (fun n s hI => ?_) n h
  show wpAny _ A ((compTurn (cmp2 elt iter0 iter1 c x0 x1 p0 p1 scope pos) 1 it acc env).onRaise (fun x => do noteFrame x env; theTreesLotGoes x)) _ _ s
  refine wpAny_noted ?_
  show wpAny _ A (do
      standAt iter1.pos
      match ← pyNext it with
      | none => pure (.done .next)
      | some v =>
        letOwnedTupleGo (.Name x1 p1) it v
        assign (.Name x1 p1) env v
        let mut ok := true
        for c in [c] do
          if ok then ok ← isTrue c env (eval c env)
        if ok then
          (do let _ ← call (.builtin "list.append") [acc, ← eval elt env])
        again (.compLoop (cmp2 elt iter0 iter1 c x0 x1 p0 p1 scope pos) 1 it acc env)) _ _ s
  refine wpAny_bind (wpAny_standAt (wpAny_bind (wpAny_mono (turn n s hI) (fun r s₁ h₁ => ?_) fun _ _ z => z.elim)))
  cases r with
  | none => exact wpAny_pure h₁
  | some v =>
    refine wpAny_bind (wpAny_of_eq (show letOwnedTupleGo (.Name x1 p1) it v = pure () from rfl) ?_)
    refine wpAny_bind (wpAny_assign_Name (wpAny_mono (show wpAny _ _ _ _ _ _ from h₁) (fun _ s₂ h₂ => wpAny_bind (wpAny_tests_one (wpAny_mono h₂ (fun ok s₃ h₃ => ?_) fun _ _ z => z.elim))) fun _ _ z => z.elim))
    cases ok with
    | false => exact wpAny_pure ⟨rfl, h₃⟩
    | true =>
      exact wpAny_bind (wpAny_bind (wpAny_mono (show wpAny _ _ _ _ _ _ from h₃) (fun x s₄ h₄ => wpAny_bind (wpAny_mono h₄ (fun _ s₅ h₅ => wpAny_pure (wpAny_pure ⟨rfl, h₅⟩)) fun _ _ z => z.elim)) fun _ _ z => z.elim))
theorem start2_in (h0 : codeAny (Md w) A (.compLoop (cmp2 elt iter0 iter1 c x0 x1 p0 p1 scope pos) 1 it acc env) R s)
    (h : wpAny (Md w) A (pyIter it) (fun it' s' => codeAny (Md w) A (.compLoop (cmp2 elt iter0 iter1 c x0 x1 p0 p1 scope pos) 1 it' acc env) R s') (fun _ _ => False) s) :
    codeAny (Md w) A (.compStart (cmp2 elt iter0 iter1 c x0 x1 p0 p1 scope pos) 1 it acc env) R s := by
  refine codeAny_of_tree ?_
  show wpAny _ _ ((compStart (cmp2 elt iter0 iter1 c x0 x1 p0 p1 scope pos) 1 it acc env).onRaise (fun x => do noteFrame x env; standAt theWindowsPlace)) _ _ s
  refine wpAny_notedAt ?_
  unfold compStart
  show wpAny _ _ (ask >>= _) _ _ s
  refine wpAny_bind (wpAny_askSetting (wpAny_ite ?_))
  split
  · first
      | exact wpAny_bind (wpAny_pure (wpAny_pure (And.intro rfl h0)))
      | exact wpAny_pure (And.intro rfl h0)
  · refine wpAny_bind (wpAny_rule ?_)
    show wpAny _ _ (standAt iter1.pos >>= _) _ _ s
    exact wpAny_bind (wpAny_standAt (wpAny_bind (wpAny_mono h (fun it' s' h' => wpAny_pure (And.intro rfl h')) fun _ _ x => x.elim)))
theorem turn2_out (I : Nat → Shared → Prop) (hs1 : ∀ x, foldedSetIterable iter1 env x = pure x)
    (turn : ∀ n s, I n s → wpAny (Md w) A (pyNext it) (fun r s₁ => match r with
      | none => R (.ok .next) s₁
      | some v => wpAny (Md w) A (storeName env x0 v) (fun _ s₂ => wpAny (Md w) A (eval iter1 env) (fun v1 s₃ => wpAny (Md w) A (pyIter v1) (fun it1 s₄ =>
          codeAny (Md w) A (.compStart (cmp2 elt iter0 iter1 c x0 x1 p0 p1 scope pos) 1 it1 acc env) (fun r s₅ => r = .ok .next ∧ ∃ m, m < n ∧ I m s₅) s₄) (fun _ _ => False) s₃) (fun _ _ => False) s₂) (fun _ _ => False) s₁) (fun _ _ => False) s)
    (n : Nat) (h : I n s) : codeAny (Md w) A (.compLoop (cmp2 elt iter0 iter1 c x0 x1 p0 p1 scope pos) 0 it acc env) R s := by
  refine codeAny_loop rfl I (fun n s hI => ?_) n h
  show wpAny _ A ((compTurn (cmp2 elt iter0 iter1 c x0 x1 p0 p1 scope pos) 0 it acc env).onRaise (fun x => do noteFrame x env; theTreesLotGoes x)) _ _ s
  refine wpAny_noted ?_
  unfold compTurn
  dsimp only [List.getElem?_cons_zero, List.getElem?_cons_succ]
  refine wpAny_bind (wpAny_standAt ?_)
  rw [if_neg (by decide)]
  refine wpAny_bind (wpAny_mono (turn n s hI) (fun r s₁ h₁ => ?_) fun _ _ z => z.elim)
  cases r with
  | none => exact wpAny_pure h₁
  | some v =>
    refine wpAny_bind (wpAny_of_eq (show letOwnedTupleGo (.Name x0 p0) it v = pure () from rfl) ?_)
    refine wpAny_bind (wpAny_assign_Name (wpAny_mono (show wpAny _ _ _ _ _ _ from h₁) (fun _ s₂ h₂ => wpAny_bind (wpAny_tests_nil ?_)) fun _ _ z => z.elim))
    rw [if_pos rfl]
    refine wpAny_bind (wpAny_mono h₂ (fun v1 s₃ h₃ => wpAny_bind (wpAny_standAt ?_)) fun _ _ z => z.elim)
    rw [if_neg (by decide)]
    refine wpAny_bind (wpAny_of_eq (hs1 v1) (wpAny_bind (wpAny_holding ?_)))
    rw [if_neg (by decide)]
    refine wpAny_mono h₃ (fun it1 s₄ h₄ => ?_) fun _ _ z => z.elim
    refine wpAny_bind (wpAny_runOwn (codeAny_mono h₄ fun r s₅ h₅ => ?_))
    obtain ⟨rfl, hI'⟩ := h₅
    exact wpAny_pure ⟨rfl, hI'⟩
end
section
variable {w : World} {A : Around} {B s : Shared} {E : Value → Shared → Prop} {elt iter0 iter1 c : Expr} {x0 x1 : Str} {p0 p1 : Pos} {scope : Scope} {pos : Pos} {env cenv : Env}
inductive C2P (w : World) (A : Around) (B : Shared) (cenv : Env) (x1 : Str) (c elt : Expr) (C it0 D : Addr) (row0 : Obj → Prop) (ys : List Value) (K : List Value → Shared → Prop) (v1 : Value) (s₃ : Shared) : Prop
  | mk (ok1 : Led → Prop) (n1 : Nat) (row1 : Nat → Obj → Prop) (val1 : Nat → Value → Prop) (own1 : Led) (bs : List (Str × Value)) (S : Src w B ok1 v1 n1 row1 val1) (F : Fm w B s₃ ((C, NsP bs) :: (it0, row0) :: (D, LstP ys) :: own1)) (hok : ok1 own1) (okE : ∀ own p, ok1 own → ok1 (p :: own))
    (J1 : Nat → List Value → Led → Prop) (J0 : J1 0 ys own1) (Jok : ∀ i ys own, J1 i ys own → ok1 own ∧ ys.length ≤ 1000000)
    (turn : ∀ it1 i1 u ys own s (Y : Value → Shared → Prop) (N : Shared → Prop),
        (∀ y own' s', J1 (i1 + 1) (ys ++ [y]) own' → Fm w B s' ((C, NsP bs) :: (it1, row1 (i1 + 1)) :: (it0, row0) :: (D, LstP ys) :: own') → Y y s') → (∀ own' s', J1 (i1 + 1) ys own' → Fm w B s' ((C, NsP bs) :: (it1, row1 (i1 + 1)) :: (it0, row0) :: (D, LstP ys) :: own') → N s') →
        i1 < n1 → J1 i1 ys own → Fm w B s ((C, NsP bs) :: (it1, row1 (i1 + 1)) :: (it0, row0) :: (D, LstP ys) :: own) → val1 i1 u →
        wpAny (Md w) A (storeName cenv x1 u) (fun _ s2 => wpAny (Md w) A (isTrue c cenv (eval c cenv)) (fun ok s3 => B2 ok (wpAny (Md w) A (eval elt cenv) Y (fun _ _ => False) s3) (N s3)) (fun _ _ => False) s2) (fun _ _ => False) s)
    (fin : ∀ ys own s, J1 n1 ys own → Fm w B s ((C, NsP bs) :: (it0, row0) :: (D, LstP ys) :: own) → K ys s)
noncomputable def C2Turn (w : World) (A : Around) (B : Shared) (cenv : Env) (x0 x1 : Str) (iter1 c elt : Expr) (C it0 D : Addr) (row0 : Obj → Prop) (ys : List Value) (v : Value) (K : List Value → Shared → Prop) (s : Shared) : Prop :=
  wpAny (Md w) A (storeName cenv x0 v) (fun _ s₂ => wpAny (Md w) A (eval iter1 cenv) (C2P w A B cenv x1 c elt C it0 D row0 ys K) (fun _ _ => False) s₂) (fun _ _ => False) s
noncomputable def C2Turns (w : World) (A : Around) (B : Shared) (cenv : Env) (x0 x1 : Str) (iter1 c elt : Expr) (n : Nat) (row : Nat → Obj → Prop) (val : Nat → Value → Prop) (C it D : Addr) (J : Nat → List Value → Led → Prop) : Prop :=
  ∀ i v ys own s (K : List Value → Shared → Prop), (∀ ys bs own' s', J (i + 1) ys own' → Fm w B s' ((C, NsP bs) :: (it, row (i + 1)) :: (D, LstP ys) :: own') → K ys s') →
    i < n → J i ys own → Fm w B s ((C, NsP []) :: (it, row (i + 1)) :: (D, LstP ys) :: own) → val i v → C2Turn w A B cenv x0 x1 iter1 c elt C it D (row (i + 1)) ys v K s
inductive C2J (w : World) (A : Around) (B : Shared) (cenv : Env) (x0 x1 : Str) (iter1 c elt : Expr) (ok : Led → Prop) (n : Nat) (row : Nat → Obj → Prop) (val : Nat → Value → Prop) (C it D : Addr) (own : Led) (R : List Value → Led → Shared → Prop) : Prop
  | mk (J : Nat → List Value → Led → Prop) (J0 : J 0 [] own) (Jok : ∀ i ys own, J i ys own → ok own) (turn : C2Turns w A B cenv x0 x1 iter1 c elt n row val C it D J)
    (fin : ∀ ys own s, J n ys own → R ys own s)
inductive Comp2P (w : World) (B : Shared) (T : (Led → Prop) → Nat → (Nat → Obj → Prop) → (Nat → Value → Prop) → Led → Prop) (v : Value) (s₁ : Shared) : Prop
  | mk (ok : Led → Prop) (n : Nat) (row : Nat → Obj → Prop) (val : Nat → Value → Prop) (own : Led) (S : Src w B ok v n row val) (F : Fm w B s₁ own) (hok : ok own) (okE : ∀ own p, ok own → ok (p :: own)) (t : T ok n row val own)
noncomputable def C2Inv (w : World) (B : Shared) (n : Nat) (row : Nat → Obj → Prop) (C it D : Addr) (J : Nat → List Value → Led → Prop) (k : Nat) (s' : Shared) : Prop :=
  ∃ i ys own, k = n - i ∧ i ≤ n ∧ J i ys own ∧ Fm w B s' ((C, NsP []) :: (it, row i) :: (D, LstP ys) :: own)
noncomputable def C2InvI (w : World) (B : Shared) (n1 : Nat) (row1 : Nat → Obj → Prop) (C it1 it D : Addr) (bs : List (Str × Value)) (rw : Obj → Prop) (J1 : Nat → List Value → Led → Prop) (k : Nat) (s' : Shared) : Prop :=
  ∃ i1 ys own2, k = n1 - i1 ∧ i1 ≤ n1 ∧ J1 i1 ys own2 ∧ Fm w B s' ((C, NsP bs) :: (it1, row1 i1) :: (it, rw) :: (D, LstP ys) :: own2)
theorem comp2_loop {R : Result → Shared → Prop} {ok : Led → Prop} {n0 : Nat} {row : Nat → Obj → Prop} {n : Nat} {val : Nat → Value → Prop} {v : Value} {C it D : Addr} {own : Led} (hA : Rm A n0)
    (hs1 : ∀ x, foldedSetIterable iter1 cenv x = pure x)
    (S : Src w B ok v n row val) (J : Nat → List Value → Led → Prop) (Jok : ∀ i ys own, J i ys own → ok own) (J0 : J 0 [] own)
    (F : Fm w B s ((C, NsP []) :: (it, row 0) :: (D, LstP []) :: own))
    (turn : C2Turns w A B cenv x0 x1 iter1 c elt n row val C it D J)
    (fin : ∀ ys own s, J n ys own → Fm w B s ((C, NsP []) :: (D, LstP ys) :: own) → R (.ok .next) s) (okE : ∀ own p, ok own → ok (p :: own)) :
    codeAny (Md w) A (.compLoop (cmp2 elt iter0 iter1 c x0 x1 p0 p1 scope pos) 0 (.ref it) (.ref D) cenv) R s := by
  have hbig : 1000000 ≤ sizeLine := Nat.le_of_ble_eq_true rfl
  have weak : ∀ {s C bs r}, Fm w B s ((C, NsP bs) :: r) → Fm w B s ((C, NsP []) :: r) := fun F =>
    F.imp .head fun o h => nsP_nil h
  refine turn2_out (C2Inv w B n row C it D J) hs1 ?_ n ⟨0, [], own, rfl, Nat.zero_le _, J0, F⟩
  rintro k s' ⟨i, ys, own, hk, hi, hJ, F'⟩
  have F2 : Fm w B s' ((it, row i) :: (C, NsP []) :: (D, LstP ys) :: own) := F'.perm' (.swap ..)
  have ok2 : ok ((C, NsP []) :: (D, LstP ys) :: own) := okE _ _ (okE _ _ (Jok _ _ _ hJ))
  by_cases hlt : i < n
  · refine S.next hA.h hlt F2 ok2 fun v s₃ hv F₃ => ?_
    have F3 : Fm w B s₃ ((C, NsP []) :: (it, row (i + 1)) :: (D, LstP ys) :: own) := F₃.perm' (.swap ..)
    refine wpAny_mono (turn i v ys own s₃ (fun _ s' => ∃ m, m < k ∧ C2Inv w B n row C it D J m s') (fun ys bs own' s' hJ' F' => ⟨n - (i + 1), step_lt hk hlt, i + 1, ys, own', rfl, hlt, hJ', weak F'⟩) hlt hJ F3 hv) (fun _ s₄ h₄ => wpAny_mono h₄ (fun v1 s₅ h₅ => ?_) fun _ _ z => z) fun _ _ z => z
    obtain ⟨ok1, n1, row1, val1, own1, bs, S1, F5, hok1, okE1, J1, J10, J1ok, turn1, fin1⟩ := h₅
    have okx : ∀ {own2 ys2}, ok1 own2 → ok1 ((C, NsP bs) :: (it, row (i + 1)) :: (D, LstP ys2) :: own2) := fun h => okE1 _ _ (okE1 _ _ (okE1 _ _ h))
    refine S1.iter F5 (okx hok1) fun it1 s₆ F6 => ?_
    have F7 : Fm w B s₆ ((C, NsP bs) :: (it1, row1 0) :: (it, row (i + 1)) :: (D, LstP ys) :: own1) := F6.perm' (.swap ..)
    have loop : ∀ s, Fm w B s ((C, NsP bs) :: (it1, row1 0) :: (it, row (i + 1)) :: (D, LstP ys) :: own1) →
        codeAny (Md w) A (.compLoop (cmp2 elt iter0 iter1 c x0 x1 p0 p1 scope pos) 1 (.ref it1) (.ref D) cenv)
          (fun r s₅ => r = .ok .next ∧ ∃ m, m < k ∧ C2Inv w B n row C it D J m s₅) s := fun s F => by
      refine turn2_in (C2InvI w B n1 row1 C it1 it D bs (row (i + 1)) J1) ?_ n1 ⟨0, ys, own1, rfl, Nat.zero_le _, J10, F⟩
      rintro k1 s' ⟨i1, ys1, own2, hk1, hi1, hJ1, F8⟩
      have F9 : Fm w B s' ((it1, row1 i1) :: (C, NsP bs) :: (it, row (i + 1)) :: (D, LstP ys1) :: own2) := F8.perm' (.swap ..)
      obtain ⟨hkk, hk2⟩ := J1ok _ _ _ hJ1
      by_cases hlt1 : i1 < n1
      · refine S1.next hA.h hlt1 F9 (okx hkk) fun u s₇ hu F10 => ?_
        have F11 : Fm w B s₇ ((C, NsP bs) :: (it1, row1 (i1 + 1)) :: (it, row (i + 1)) :: (D, LstP ys1) :: own2) := F10.perm' (.swap ..)
        exact turn1 it1 i1 u ys1 own2 s₇ (fun y s4 => wpAny (Md w) A (call (.builtin "list.append") [.ref D, y]) (fun _ s₅ => ∃ m, m < k1 ∧ C2InvI w B n1 row1 C it1 it D bs (row (i + 1)) J1 m s₅) (fun _ _ => False) s4)
          (fun s₃ => ∃ m, m < k1 ∧ C2InvI w B n1 row1 C it1 it D bs (row (i + 1)) J1 m s₃)
          (fun y own' s' hJ' F12 => o_append F12 (.tail (.tail (.tail .head))) (by omega) fun s11 F13 => ⟨n1 - (i1 + 1), step_lt hk1 hlt1, i1 + 1, ys1 ++ [y], own', rfl, hlt1, hJ', F13⟩)
          (fun own' s' hJ' F12 => ⟨n1 - (i1 + 1), step_lt hk1 hlt1, i1 + 1, ys1, own', rfl, hlt1, hJ', F12⟩) hlt1 hJ1 F11 hu
      · have : i1 = n1 := by omega
        subst this
        exact S1.done hA.h F9 (okx hkk) fun s₇ F10 => ⟨rfl, fin1 _ _ _ hJ1 F10⟩
    refine start2_in (loop _ F7) (S1.self (i := 0) F7 (.tail _ (.head _)) (loop _ F7))
  · have : i = n := by omega
    subst this
    exact S.done hA.h F2 ok2 fun s₃ F₃ => fin ys own s₃ hJ F₃
end
end

section
open PySem PySem.W PySem.Spec PySem.Calls PyProof.Rows
set_option Elab.async false
set_option maxRecDepth 100000
set_option maxHeartbeats 0
section
variable {w : World} {A : Around} {B s : Shared} {E : Value → Shared → Prop} {elt iter0 iter1 c : Expr} {x0 x1 y : Str} {p0 p1 py spos : Pos} {scope : Scope} {pos : Pos} {env : Env} {L : Addr} {rest : List Stmt}
theorem x_comp2 {cl : List (Str × Addr)} {Q : Flow → Shared → Prop} {n0 : Nat} {cl0 ks ks'} (hA : Rm A n0) (hk : Ks env L cl0 ks)
    (hclos : closureFor scope env = pure cl) (hok : (cchk scope && cellNames scope == []) = true) (hks : chk (relabel scope env) ks' = true) (hnd : decide (((cl : List (Str × Addr)).map (·.1)).Nodup) = true)
    (h : wpAny (Md w) A (eval iter0 env) (Comp2P w B fun ok n row val own => ∀ C it D, Ks (compEnvC scope cl C env) C cl ks' →
      C2J w A B (compEnvC scope cl C env) x0 x1 iter1 c elt ok n row val C it D own fun ys own s => Fm w B s ((C, NsP []) :: (D, LstP ys) :: own) → wpAny (Md w) A (storeName env y (.ref D)) (fun _ s' => ∃ own' bs, Fm w B s' ((C, NsP bs) :: own') ∧
          ∀ s'', Fm w B s'' own' → wpAny (Md w) A (execs rest env) Q E s'') E s) E s)
    (hsw : swapsWith (cmp2 elt iter0 iter1 c x0 x1 p0 p1 scope pos) (some (.Name y py)) spos.line env = pure true := by with_unfolding_all rfl)
    (hs : ∀ x, foldedSetIterable iter0 env x = pure x := by intro _; with_unfolding_all rfl)
    (hs1 : ∀ cenv x, foldedSetIterable iter1 cenv x = pure x := by intro _ _; with_unfolding_all rfl) :
    wpAny (Md w) A (execs (.Assign [.Name y py] (cmp2 elt iter0 iter1 c x0 x1 p0 p1 scope pos) spos :: rest) env) Q E s := by
  rw [Bool.and_eq_true, beq_iff_eq] at hok
  obtain ⟨hkind, hnames⟩ := cchk_of hok.1
  refine x_one ?_
  rw [exec_Assign_Name_used _ _ _ _ hsw]
  refine wpAny_bind (wpAny_standAt (wpAny_bind ?_))
  show wpAny _ A (do let _ ← comprehension (cmp2 elt iter0 iter1 c x0 x1 p0 p1 scope pos) scope env _ (newList []) false (eval iter0 env) (some (assign (.Name y py) env))) _ _ s
  refine wpAny_bind (wpAny_mono (Q := fun _ s' => wpAny (Md w) A (execs rest env) Q E s') ?_ (fun _ s' h' => wpAny_pure (wpAny_pure h')) fun _ _ e => e)
  refine wpAny_comprehension_free rfl hs hclos hkind hnames (wpAny_mono h (fun v s₁ h₁ => ?_) fun _ _ e => e)
  obtain ⟨ok, n, row, val, own, S, F, hok1, okE, h₁⟩ := h₁
  refine S.iter F hok1 fun it s₂ F₂ => ?_
  refine wpAny_newObj_type (hd := by size_fits) ?_
  have F₃ := F₂.push (o := { cls := .type "list", dict := none, data := .seq ([] : List Value).toArray }) (P := LstP []) (t := s₂.toks) rfl ⟨_, rfl⟩
  refine wp_newEnv F₃ fun C cr s₄ hcr F₄ => bp_nil ?_
  rw [hok.2] at hcr
  cases cr with
  | cons _ _ => simp at hcr
  | nil =>
    obtain ⟨J, J0, Jok, turn, fin⟩ := h₁ C it s₂.heap.objs.size (cKs hk hks hok.1 (look_of hnd))
    replace F₄ : Fm w B s₄ ((C, NsP []) :: (s₂.heap.objs.size, LstP []) :: (it, row 0) :: own) := F₄
    have F₅ : Fm w B s₄ ((C, NsP []) :: (it, row 0) :: (s₂.heap.objs.size, LstP []) :: own) := F₄.perm' (List.Perm.cons _ (.swap ..))
    have loop := comp2_loop (elt := elt) (iter0 := iter0) (iter1 := iter1) (c := c) (scope := scope) (p0 := p0) (p1 := p1) (pos := pos) (x0 := x0) (x1 := x1) (cenv := compEnvC scope cl C env)
      (R := compPost (Md w) A E (some (assign (.Name y py) env)) (fun _ s' => wpAny (Md w) A (execs rest env) Q E s') (.ref s₂.heap.objs.size) C) hA (hs1 _) S J Jok J0 F₅ turn (fun ys own s hJ F => ?_) okE
    · exact codeAny_compStart_list loop (S.self (i := 0) F₅ (.tail _ (.head _)) loop)
    · refine wpAny_assign_Name (wpAny_mono (fin ys own s hJ F) (fun _ s' h' => ?_) fun _ _ e => e)
      obtain ⟨own', bs, F', hq⟩ := h'
      obtain ⟨m, hn, hg⟩ := F'.letGo
      exact ⟨m, hn, fun h' hs => hq _ (hg h' hs)⟩
end
end

section
open PySem PySem.W PySem.Spec PySem.Calls PyProof.Rows
set_option Elab.async false
set_option maxRecDepth 100000
set_option maxHeartbeats 0
noncomputable def kids (bk : Book) (k : Str) : List Str := (bget bk k).getD []
noncomputable def cOut (ps : List (Option Str)) (bk : Book) (k : Str) : List Str := ((kids bk k).filter (takes ps)).map (jn k)
noncomputable def cStep (nx : Book → Str → Book) (ps : List (Option Str)) (st : Book × List Str) (k : Str) : Book × List Str := (nx st.1 k, st.2 ++ cOut ps st.1 k)
noncomputable def sIn (k : Str) (found zs : List Str) : List Str := zs.foldl (fun acc n => if jn k n ∈ acc then acc else acc ++ [jn k n]) found
noncomputable def okF (found : List Str) : Bool := decide (found.length ≤ 1000) && found.all fun k => decide (k.length ≤ 5000)
noncomputable def pStar (nx : Book → Str → Book) : Nat → Nat → Book × List Str → Option (Book × List Str)
  | 0, at_, st => if at_ < st.2.length then none else some st
  | f + 1, at_, st => match st.2[at_]? with
    | none => some st
    | some k => if okF (sIn k st.2 (kids st.1 k)) = true then pStar nx f (at_ + 1) (nx st.1 k, sIn k st.2 (kids st.1 k)) else none
noncomputable def pItem (nx : Book → Str → Book) (st : Book × List Str) (p : Nat) : Option (Book × List Str) :=
  if decide (st.1.length ≤ 50000) && okF st.2 = true then
    (if p = 9 then pStar nx 100 0 st else if okF (st.2.foldl (cStep nx (partsL.getD p [])) (st.1, [])).2 = true then some (st.2.foldl (cStep nx (partsL.getD p [])) (st.1, [])) else none)
  else none
noncomputable def pWalk (nx : Book → Str → Book) (bk : Book) (picks : List Nat) : Option (Book × List Str) := picks.foldl (fun o p => o.bind fun st => pItem nx st p) (some (bk, [Str.ofString "/"]))
noncomputable def NmOk (bk : Book) : Prop := ∀ e ∈ bk, ∀ z ∈ e.2, z.length ≤ 100 
structure NxOk (nx : Book → Str → Book) : Prop where
  len : ∀ bk k, (nx bk k).length ≤ bk.length + 1
  nm : ∀ bk k, NmOk bk → NmOk (nx bk k)
theorem nx_id : NxOk (fun bk _ => bk) := ⟨fun _ _ => by omega, fun _ _ h => h⟩
theorem nx_touch : NxOk btouch := by
  constructor
  · intro bk k
    unfold btouch
    split
    · omega
    · simp
  · intro bk k h
    unfold btouch
    split
    · exact h
    · intro e he z hz
      rcases List.mem_append.mp he with he | he
      · exact h e he z hz
      · rw [List.mem_singleton.mp he] at hz; cases hz
theorem nm_kids {bk : Book} (h : NmOk bk) (k : Str) : ∀ z ∈ kids bk k, z.length ≤ 100 := by
  intro z hz
  unfold kids bget at hz
  cases e : bk.find? fun p => p.1 == k with
  | none => rw [e] at hz; simp at hz
  | some p => rw [e] at hz; exact h p (List.mem_of_find?_eq_some e) z (by simpa using hz)
theorem foldl_none {α : Type} (f : α → Nat → Option α) : ∀ (l : List Nat), l.foldl (fun o p => o.bind fun st => f st p) none = none
  | [] => rfl
  | _ :: r => foldl_none f r
structure BkLk (w : World) (B : Shared) (n : Nat) (b dx : Addr) (Bk : Kds → Led) (nx : Book → Str → Book) : Prop where
  ok : NxOk nx
  ne : (b == sysModules) = false
  has : ∀ K, (b, BkP w dx (kvsK K)) ∈ Bk K
  look : ∀ {A : Around} {E Q : Value → Shared → Prop} {s : Shared} {pre : Led} {K : Kds} {k : Str} {t : Tok}, Rm A (n + 3) → Fm w B s (pre ++ Bk K) → (absK K).length ≤ 100000 →
    (∀ D K' Ex s', absK K' = nx (absK K) k → (D, LS (kids (absK K) k)) ∈ Ex ++ Bk K' → Fm w B s' (pre ++ (Ex ++ Bk K')) → Q (.ref D) s') → wpAny (Md w) A (getItem (.ref b) (.str k t)) Q E s
theorem lk_loose {w : World} {B : Shared} {n : Nat} {b dx : Addr} {rest : Led} (h1 : (b == sysModules) = false) : BkLk w B n b dx (fun K => (b, BkP w dx (kvsK K)) :: (dx, DxP none) :: (rowsK K ++ rest)) btouch where
  ok := nx_touch
  ne := h1
  has := fun K => .head _
  look := fun {A E Q s pre K k t} hA F hz h => by
    refine o_look pre (hA.less (m := n + 2)) F h1 hz fun p1 D zs p2 s' e1 e2 e3 F' => ?_
    refine h D (p1 ++ (k, D, zs) :: p2) [] s' e1 ?_ F'
    refine .tail _ (.tail _ ?_)
    unfold kids
    rw [← e3]
    exact memK
theorem lk_frozen {w : World} {B : Shared} {n : Nat} {b dx f c cs : Addr} {q : Str} {rest : Led} (h1 : (b == sysModules) = false) (hf : (f, FroP w q c cs) ∈ rest) (hc : (c, CodeP q) ∈ rest) (hcs : (cs, CellP (some (.ref b))) ∈ rest) :
    BkLk w B n b dx (fun K => (b, BkP w dx (kvsK K)) :: (dx, DxP (some (.ref f))) :: (rowsK K ++ rest)) (fun bk _ => bk) where
  ok := nx_id
  ne := h1
  has := fun K => .head _
  look := fun {A E Q s pre K k t} hA F hz h => by
    have up : ∀ {p : Addr × (Obj → Prop)}, p ∈ rest → p ∈ pre ++ ((b, BkP w dx (kvsK K)) :: (dx, DxP (some (.ref f))) :: (rowsK K ++ rest)) := fun h => List.mem_append_right _ (.tail _ (.tail _ (List.mem_append_right _ h)))
    have hb : (b, BkP w dx (kvsK K)) ∈ pre ++ ((b, BkP w dx (kvsK K)) :: (dx, DxP (some (.ref f))) :: (rowsK K ++ rest)) := List.mem_append_right _ (.head _)
    rcases keysK K k with ⟨p1, D, zs, p2, rfl, hp⟩ | hm
    · have e := bget_hit (D := D) (zs := zs) (post := p2) hp
      refine o_hit F hb h1 (kget_hit hp) fun s' F' => h D _ [] s' rfl ?_ F'
      refine .tail _ (.tail _ ?_)
      unfold kids
      rw [e]
      exact memK
    · have e := bget_miss hm
      refine o_fmiss hA F hb h1 (List.mem_append_right _ (.tail _ (.head _))) (up hf) (up hc) (up hcs) (kget_miss hm) fun D s' F' => ?_
      have ez : kids (absK K) k = [] := by unfold kids; rw [e]; rfl
      refine h D K [(D, LS [])] s' rfl (by rw [ez]; exact .head _) (F'.perm' List.perm_middle)
end

section
open PySem PySem.W PySem.Spec PySem.Calls PyProof.Rows
set_option Elab.async false
set_option maxRecDepth 100000
set_option maxHeartbeats 0
theorem isfn_237 (P : Params) : isFnK (KH P) 237 = true := by kernel_rfl
theorem g_law_walk : Glo (PySem.Str.ofString "_law_walk") (.ref 237) := Glo.ofK (fun _ => by kernel_rfl)
theorem lay2 {cr : List (Str × Addr)} {a b : Str} (h : cr.map (·.1) = [a, b]) : ∃ x y, cr = [(a, x), (b, y)] := by
  obtain ⟨x, c1, e1, h1⟩ := lay_c h
  obtain ⟨y, c2, e2, h2⟩ := lay_c h1
  exact ⟨x, y, by rw [e1, e2, List.map_eq_nil_iff.mp h2]⟩
theorem star_eq {p : Nat} (h : p ≤ 9) : (itemsL.getD p Str.empty == Str.ofString "**") = decide (p = 9) := by
  have key : ((List.range 10).all fun p => (itemsL.getD p Str.empty == Str.ofString "**") == decide (p = 9)) = true := by kernel_rfl
  exact eq_of_beq (List.all_eq_true.mp key p (List.mem_range.mpr (Nat.lt_succ_of_le h)))
theorem pWalk_step {nx : Book → Str → Book} {bk : Book} {picks : List Nat} {i p : Nat} (h : picks[i]? = some p) : pWalk nx bk (picks.take (i + 1)) = (pWalk nx bk (picks.take i)).bind fun st => pItem nx st p := by
  unfold pWalk
  rw [List.take_add_one, h, List.foldl_append]
  rfl
theorem pWalk_some {nx : Book → Str → Book} {bk : Book} {picks : List Nat} {r : Book × List Str} (h : pWalk nx bk picks = some r) (i : Nat) : ∃ r', pWalk nx bk (picks.take i) = some r' := by
  cases e : pWalk nx bk (picks.take i) with
  | some r' => exact ⟨r', rfl⟩
  | none =>
    unfold pWalk at h e
    rw [← List.take_append_drop i picks, List.foldl_append, e, foldl_none] at h
    cases h
theorem okF_len {l : List Str} (h : okF l = true) : l.length ≤ 1000 := by
  unfold okF at h
  simp only [Bool.and_eq_true, decide_eq_true_eq] at h
  exact h.1
theorem okF_mem {l : List Str} (h : okF l = true) {k : Str} (hk : k ∈ l) : k.length ≤ 5000 := by
  unfold okF at h
  simp only [Bool.and_eq_true, List.all_eq_true, decide_eq_true_eq] at h
  exact h.2 k hk
theorem sIn_step (k : Str) (found zs : List Str) {i : Nat} {n : Str} (h : zs[i]? = some n) : sIn k found (zs.take (i + 1)) = if jn k n ∈ sIn k found (zs.take i) then sIn k found (zs.take i) else sIn k found (zs.take i) ++ [jn k n] := by
  unfold sIn
  rw [List.take_add_one, h, List.foldl_append]
  rfl
theorem sIn_pre (k : Str) : ∀ (zs found : List Str), ∃ r, sIn k found zs = found ++ r
  | [], found => ⟨[], by simp [sIn]⟩
  | n :: zs, found => by
    have e : sIn k found (n :: zs) = sIn k (if jn k n ∈ found then found else found ++ [jn k n]) zs := rfl
    rw [e]
    obtain ⟨r, hr⟩ := sIn_pre k zs (if jn k n ∈ found then found else found ++ [jn k n])
    rw [hr]
    split
    · exact ⟨r, rfl⟩
    · exact ⟨[jn k n] ++ r, by simp⟩
theorem sIn_take (k : Str) (zs found : List Str) (i : Nat) : ∃ r, sIn k found zs = sIn k found (zs.take i) ++ r := by
  have e : sIn k found zs = sIn k (sIn k found (zs.take i)) (zs.drop i) := by
    unfold sIn
    rw [← List.foldl_append, List.take_append_drop]
  rw [e]
  exact sIn_pre k _ _
noncomputable abbrev wkC (Df li : Addr) (at_ : Nat) (ta : Tok) : List (Str × Value) := [(Str.ofString "at", .int (at_ : Nat) ta), (Str.ofString "found", .ref Df), (Str.ofString "items", .ref li)]
theorem Fm.noEx {w : World} {B s : Shared} {p1 p2 p3 p4 p5 : Addr × (Obj → Prop)} {Ex l : Led} (F : Fm w B s (p1 :: p2 :: p3 :: p4 :: p5 :: (Ex ++ l))) : Fm w B s (p1 :: p2 :: p3 :: p4 :: p5 :: l) :=
  F.weak (.cons_cons _ (.cons_cons _ (.cons_cons _ (.cons_cons _ (.cons_cons _ (List.sublist_append_right _ _))))))
theorem cFold_pre (nx : Book → Str → Book) (ps : List (Option Str)) : ∀ (zs : List Str) (st : Book × List Str), ∃ r, (zs.foldl (cStep nx ps) st).2 = st.2 ++ r
  | [], st => ⟨[], by simp⟩
  | z :: zs, st => by
    obtain ⟨r, hr⟩ := cFold_pre nx ps zs (cStep nx ps st z)
    exact ⟨cOut ps st.1 z ++ r, by rw [List.foldl_cons, hr]; simp [cStep]⟩
theorem take_filter_snoc {α : Type} (p : α → Bool) {zs : List α} {i : Nat} {z : α} (h : zs[i]? = some z) : (zs.take (i + 1)).filter p = (zs.take i).filter p ++ (if p z = true then [z] else []) := by
  rw [List.take_add_one, h, List.filter_append]
  cases e : p z <;> simp [e]
noncomputable abbrev wkB (Df li : Addr) : List (Str × Value) := [(Str.ofString "found", .ref Df), (Str.ofString "items", .ref li)]
inductive WkI (Bk : Kds → Led) (nx : Book → Str → Book) (K : Kds) (picks : List Nat) (L li cp cb b : Addr) (i : Nat) (own : Led) : Prop
  | mk (K' : Kds) (found : List Str) (Df : Addr) (pv : Option Value) (h1 : pWalk nx (absK K) (picks.take i) = some (absK K', found)) (h2 : NmOk (absK K')) (e : own = (L, NsP (wkB Df li)) :: (Df, LS found) :: (cp, CellP pv) :: (cb, CellP (some (.ref b))) :: Bk K')
inductive WkS (w : World) (B : Shared) (Bk : Kds → Led) (nx : Book → Str → Book) (r1 : Book × List Str) (L li it Df cp cb b : Addr) (i : Nat) (pv : Option Value) (f : Nat) (s' : Shared) : Prop
  | mk (at_ : Nat) (K2 : Kds) (fd : List Str) (ta : Tok) (h1 : pStar nx f at_ (absK K2, fd) = some r1) (h2 : NmOk (absK K2)) (h3 : okF fd = true) (h4 : (absK K2).length + f ≤ 50100)
      (F : Fm w B s' ((L, NsP (wkC Df li at_ ta)) :: (it, ItP li (i + 1)) :: (Df, LS fd) :: (cp, CellP pv) :: (cb, CellP (some (.ref b))) :: Bk K2))
inductive WkC (Bk : Kds → Led) (nx : Book → Str → Book) (ps : List (Option Str)) (K1 : Kds) (found : List Str) (L li it Df Dp cp cb b : Addr) (i j : Nat) (ys : List Value) (own : Led) : Prop
  | mk (K2 : Kds) (acc : List Str) (h1 : StrsAre ys acc) (h2 : (found.take j).foldl (cStep nx ps) (absK K1, []) = (absK K2, acc)) (h3 : NmOk (absK K2)) (h4 : (absK K2).length ≤ 50000 + j)
      (e : own = (L, NsP (wkB Df li)) :: (it, ItP li (i + 1)) :: (Df, LS found) :: (Dp, LP ps) :: (cp, CellP (some (.ref Dp))) :: (cb, CellP (some (.ref b))) :: Bk K2)
theorem c_law_walk {w : World} {A : Around} {B s : Shared} {n : Nat} {R : Result → Shared → Prop} {b dx li : Addr} {K : Kds} {Bk : Kds → Led} {nx : Book → Str → Book} {picks : List Nat} {r : Book × List Str} (hA : Rm A (n + 4)) (LK : BkLk w B n b dx Bk nx)
    (h8 : ∀ K, (178, T8) ∈ Bk K) (hli : ∀ K, (li, LS (picks.map fun p => itemsL.getD p Str.empty)) ∈ Bk K) (hp9 : ∀ p ∈ picks, p ≤ 9) (hpl : picks.length ≤ 100) (F : Fm w B s (Bk K)) (hnm : NmOk (absK K)) (hW : pWalk nx (absK K) picks = some r) (h64 : r.2.length < 64)
    (h : ∀ K' D s', absK K' = r.1 → Fm w B s' ((D, LS (srt r.2)) :: Bk K') → R (.ok (.ret (.ref D))) s') :
    codeAny (Md w) A (.call (.ref 237) ⟨[.ref b, .ref li], []⟩) R s := by
  have hbig : 100000 ≤ sizeLine := Nat.le_of_ble_eq_true rfl
  have hb1 := LK.ne
  with_reducible refine enterC (cs := [Str.ofString "book", Str.ofString "parts"]) (binds := [(Str.ofString "book", .ref b), (Str.ofString "items", .ref li)]) (ks := [(Str.ofString "book", .cell), (Str.ofString "items", .local), (Str.ofString "found", .local), (Str.ofString "item", .local), (Str.ofString "at", .local), (Str.ofString "name", .local), (Str.ofString "path", .local), (Str.ofString "parts", .cell), (Str.ofString "len", .globalImplicit), (Str.ofString "join", .globalImplicit), (Str.ofString "_translate", .globalImplicit), (Str.ofString "sorted", .globalImplicit)]) hA F.base (by kernel_rfl) (by kernel_rfl) (by kernel_rfl) ?_
  intro L cr s1 hcr F1 hA' hk E' A'
  obtain ⟨cp, cb, rfl⟩ := lay2 hcr
  replace F1 : Fm w B s1 ((cp, CellP none) :: (cb, CellP none) :: (L, NsP []) :: Bk K) := F.trans F1
  with_reducible refine bp_cons ?_
  with_reducible refine st_cell F1 hk (by kd_mem) (by kd_mem) (by kd_all) ?_
  intro s2 F2
  with_reducible refine bp_cons ?_
  kst_all
  rename_i s3 F3
  with_reducible refine bp_nil ⟨F3.base, ?_⟩
  conv in bodyOf _ => whnf
  with_reducible refine x_assign (e_strs F3 (zs := [Str.ofString "/"]) (by kernel_rfl) (Nat.le_of_ble_eq_true rfl) ?_)
  intro Df0 s4 F4
  kst_all
  rename_i s5 F5
  with_reducible refine x_for (B := B) hA' ?_
  kst_mem
  have F6 : Fm w B s5 ((L, NsP (wkB Df0 li)) :: (Df0, LS [Str.ofString "/"]) :: (cp, CellP none) :: (cb, CellP (some (.ref b))) :: Bk K) := (F5.nsw (bs' := wkB Df0 li) (by kd_all) (by kqd_sub)).sel (by kqd_all)
  clear F F1 F2 F3 F4 F5
  have okli : ∀ {K' : Kds} {p1 p2 p3 p4 : Addr × (Obj → Prop)}, Has B (p1 :: p2 :: p3 :: p4 :: Bk K') li (LS (picks.map fun p => itemsL.getD p Str.empty)) := fun {K' _ _ _ _} => .led (.tail _ (.tail _ (.tail _ (.tail _ (hli K')))))
  with_reducible refine ⟨_, _, _, _, _, srcS (l := li) (zs := picks.map fun p => itemsL.getD p Str.empty), F6, okli, WkI Bk nx K picks L li cp cb b, ?_, ?_, ?_, ?_⟩
  · exact ⟨K, _, Df0, none, rfl, hnm, rfl⟩
  · rintro i own ⟨K', found, Df, pv, _, _, rfl⟩
    exact okli
  · rintro it i v own s7 Kx hKx hi ⟨K1, found, Df, pv, hw1, hnm1, rfl⟩ F7 ⟨z, tz, rfl, hzi⟩
    have hip : i < picks.length := by simpa using hi
    have hpi : picks[i]? = some picks[i] := List.getElem?_eq_getElem hip
    have ez : z = itemsL.getD picks[i] Str.empty := by rw [List.getElem?_map, hpi] at hzi; simpa using hzi.symm
    have hp9' := hp9 picks[i] (List.getElem_mem hip)
    generalize picks[i] = p at ez hpi hp9'
    subst ez
    have hws := pWalk_step (nx := nx) (bk := absK K) hpi
    rw [hw1] at hws
    obtain ⟨r1, hr1⟩ := pWalk_some hW (i + 1)
    rw [hr1] at hws
    have hit : pItem nx (absK K1, found) p = some r1 := hws.symm
    unfold pItem at hit
    split at hit
    case isFalse => cases hit
    rename_i hg
    simp only [Bool.and_eq_true, decide_eq_true_eq] at hg
    obtain ⟨hg1, hg2⟩ := hg
    clear F6 hws
    with_reducible refine turn ?_
    kst_all
    rename_i s8 F8
    with_reducible refine x_if (bt_cmp ?_)
    kst_mem
    with_reducible refine e_str F8 ?_; intro t9 s9 F9
    with_reducible refine o_eqs (t_bool (br_cases (fun e1 => br_true ?_) (fun e1 => br_false ?_)))
    · have e9 : p = 9 := by rw [star_eq hp9'] at e1; exact of_decide_eq_true e1
      rw [if_pos e9] at hit
      with_reducible refine x_assign (e_int F9 ?_); intro t10 s10 F10
      kst_all
      rename_i s11 F11
      have F12 : Fm w B s11 ((L, NsP (wkC Df li 0 t10)) :: (it, ItP li (i + 1)) :: (Df, LS found) :: (cp, CellP pv) :: (cb, CellP (some (.ref b))) :: Bk K1) := (F11.nsw (bs' := wkC Df li 0 t10) (by kd_all) (by kqd_sub)).sel (by kqd_all)
      clear F7 F8 F9 F10 F11
      with_reducible refine x_while (WkS w B Bk nx r1 L li it Df cp cb b i pv) 100 ?_ ?_
      · exact ⟨0, K1, found, t10, hit, hnm1, hg2, by omega, F12⟩
      clear F12 hit hg1 hg2 hnm1 hw1
      rintro f s13 Kw hKw ⟨at_, K2, fd, ta, hst, hnm2, hok2, hlen2, F13⟩
      with_reducible refine wturn ?_
      have hfl := okF_len hok2
      with_reducible refine bt_cmp ?_
      kst_mem
      with_reducible refine c_glo F13 hk (by kd_mem) g_len (cw_bi (ev_cons ?_))
      kst_mem
      with_reducible refine ev_nil (o_lenS F13 (.led (by kd_mem)) (by omega) ?_)
      intro t14 s14 F14
      with_reducible refine o_lti (t_bool (b2 (fun e2 => ?_) (fun e2 => ?_)))
      · have hat : at_ < fd.length := by have := of_decide_eq_true e2; omega
        have hxk : fd[at_]? = some fd[at_] := List.getElem?_eq_getElem hat
        have hkz := okF_mem hok2 (List.getElem_mem hat)
        generalize fd[at_] = k at hxk hkz
        cases f with
        | zero => unfold pStar at hst; rw [if_pos hat] at hst; cases hst
        | succ f =>
        unfold pStar at hst
        simp only [hxk] at hst
        split at hst
        case isFalse => cases hst
        rename_i hok3
        have hnk := nm_kids hnm2 k
        with_reducible refine x_for (B := B) hA' (e_sub (e_cell F14 hk (by kd_mem) (by kd_mem) (.led (by kd_mem)) (e_sub ?_)))
        kst_mem
        kst_mem
        with_reducible refine o_liS F14 (.led (by kd_mem)) (by omega) hxk ?_
        intro t15
        refine bk_tail (bk_at F14 (.tail _ (.tail _ (.tail _ (.tail _ (.tail _ (LK.has K2)))))) hb1) (LK.look (pre := [(L, NsP (wkC Df li at_ ta)), (it, ItP li (i + 1)), (Df, LS fd), (cp, CellP pv), (cb, CellP (some (.ref b)))]) hA' F14 (by omega) fun D K3 Ex s16 e3 hD F16 => ?_)
        replace F16 : Fm w B s16 ((L, NsP (wkC Df li at_ ta)) :: (it, ItP li (i + 1)) :: (Df, LS fd) :: (cp, CellP pv) :: (cb, CellP (some (.ref b))) :: (Ex ++ Bk K3)) := F16
        have okD : ∀ {p1 p2 p3 p4 p5 : Addr × (Obj → Prop)}, Has B (p1 :: p2 :: p3 :: p4 :: p5 :: (Ex ++ Bk K3)) D (LS (kids (absK K2) k)) := fun {_ _ _ _ _} => .led (.tail _ (.tail _ (.tail _ (.tail _ (.tail _ hD)))))
        with_reducible refine ⟨_, _, _, _, _, srcS (l := D) (zs := kids (absK K2) k), F16, okD, fun i1 own => own = (L, NsP (wkC Df li at_ ta)) :: (it, ItP li (i + 1)) :: (Df, LS (sIn k fd ((kids (absK K2) k).take i1))) :: (cp, CellP pv) :: (cb, CellP (some (.ref b))) :: (Ex ++ Bk K3), ?_, ?_, ?_, ?_⟩
        · exact rfl
        · rintro i1 own rfl
          exact okD
        · rintro it1 i1 v1 own s17 Kx hKx hi1 rfl F17 ⟨nm, tn, rfl, hnmi⟩
          have hnz := hnk nm (List.mem_of_getElem? hnmi)
          have hsi := sIn_step k fd _ hnmi
          obtain ⟨r2, hr2⟩ := sIn_take k (kids (absK K2) k) fd i1
          obtain ⟨r3, hr3⟩ := sIn_pre k ((kids (absK K2) k).take i1) fd
          have hl3 : (sIn k fd ((kids (absK K2) k).take i1)).length ≤ 1000 := by
            have := okF_len hok3
            rw [hr2, List.length_append] at this
            omega
          have hxk3 : (sIn k fd ((kids (absK K2) k).take i1))[at_]? = some k := by
            rw [hr3, List.getElem?_append_left hat, hxk]
          generalize sIn k fd ((kids (absK K2) k).take i1) = fd1 at hsi hr2 hr3 hl3 hxk3 F17
          with_reducible refine turn ?_
          kst_all
          rename_i s18 F18
          with_reducible refine x_assign (c_glo F18 hk (by kd_mem) g_join (cw_fn (isfn_138 _) (ev_cons (e_sub ?_))))
          kst_mem
          kst_mem
          with_reducible refine o_liS F18 (.led (by kd_mem)) (by omega) hxk3 ?_
          intro t19
          with_reducible refine ev_cons ?_
          kst_mem
          with_reducible refine ev_nil ⟨F18.base, wpAny_call (c_join (n := n + 1) hA' F18.base (by omega) (by omega) ?_)⟩
          intro t20 s20 x20
          have F20 := F18.ext x20
          kst_all
          rename_i s21 F21
          with_reducible refine x_if (bt_cmp ?_)
          kst_mem
          kst_mem
          with_reducible refine o_notinS F21 (.led (by kd_mem)) (t_bool (br_cases (fun e4 => br_true (x_expr (c_meth ?_))) (fun e4 => br_skip (x_nil (ec_next (hKx _ _ rfl ?_))))))
          · have hni : jn k nm ∉ fd1 := by simpa using e4
            kst_mem
            with_reducible refine fun _ => ?_
            with_reducible refine g_lmS F21 (.led (by kd_mem)) PySem.F.slot_list_append PySem.F.type_list_append ?_
            with_reducible refine cw_m (ev_cons ?_)
            kst_mem
            with_reducible refine ev_nil (o_appendS F21 (by kd_all) (by omega) ?_)
            intro s22 F22
            with_reducible refine x_nil (nx_next (x_nil (ec_next (hKx _ _ rfl ?_))))
            rw [hsi, if_neg hni]
            exact (F22.nsw (bs' := wkC Df li at_ ta) (by kd_all) (by kqd_sub)).sel (by kqd_all)
          · have hni : jn k nm ∈ fd1 := by simpa using e4
            rw [hsi, if_pos hni]
            exact (F21.nsw (bs' := wkC Df li at_ ta) (by kd_all) (by kqd_sub)).sel (by kqd_all)
        · rintro own s17 rfl F17
          rw [List.take_of_length_le (Nat.le_refl _)] at F17
          with_reducible refine x_aug (ld_loc F17 hk (by kd_mem) (by kd_mem) (by kd_mem) (e_int F17 ?_))
          intro t18 s18 F18
          with_reducible refine o_iadd1 F18 ?_; intro t19 s19 F19
          kst_all
          rename_i s20 F20
          have hnl := LK.ok.len (absK K2) k
          refine x_nil (ec_next (hKw f _ (Nat.lt_succ_self f) ⟨at_ + 1, K3, sIn k fd (kids (absK K2) k), t19, by rw [e3]; exact hst, by rw [e3]; exact LK.ok.nm _ _ hnm2, hok3, by rw [e3]; omega, F20.noEx⟩))
      · have hat : ¬ at_ < fd.length := by have := of_decide_eq_false e2; omega
        have hr : r1 = (absK K2, fd) := by
          cases f with
          | zero => unfold pStar at hst; rw [if_neg hat] at hst; exact (Option.some.inj hst).symm
          | succ f =>
            unfold pStar at hst
            have : fd[at_]? = none := List.getElem?_eq_none (by omega)
            simp only [this] at hst
            exact (Option.some.inj hst).symm
        subst hr
        with_reducible refine x_nil (nx_next (x_nil (ec_next (hKx _ _ ⟨K2, fd, Df, pv, hr1, hnm2, rfl⟩ ?_))))
        exact (F14.nsw (bs' := wkB Df li) (by kd_all) (by kqd_sub)).sel (by kqd_all)
    · have e9 : p ≠ 9 := by rw [star_eq hp9'] at e1; exact of_decide_eq_false e1
      rw [if_neg e9] at hit
      split at hit
      case isFalse => cases hit
      rename_i hg3
      have hit := Option.some.inj hit
      with_reducible refine x_assign (c_glo F9 hk (by kd_mem) g_translate (cw_fn (isfn_183 _) (ev_cons ?_)))
      kst_mem
      with_reducible refine ev_cons (e_none (ev_cons (e_str F9 ?_)))
      intro t10 s10 F10
      refine ev_nil ⟨F10.base, wpAny_call (c_tr (n := n + 1) hA'.less F10 (.tail _ (.tail _ (.tail _ (.tail _ (.tail _ (h8 K1)))))) (show p < 9 by omega) ?_)⟩
      intro Dp s11 F11
      with_reducible refine st_cell F11 hk (by kd_mem) (by kd_mem) (by kd_all) ?_
      intro s12 F12
      have F13 : Fm w B s12 ((L, NsP (wkB Df li)) :: (it, ItP li (i + 1)) :: (Df, LS found) :: (Dp, LP (partsL.getD p [])) :: (cp, CellP (some (.ref Dp))) :: (cb, CellP (some (.ref b))) :: Bk K1) := (F12.nsw (bs' := wkB Df li) (by kd_all) (by kqd_sub)).sel (by kqd_all)
      clear F7 F8 F9 F10 F11 F12
      generalize partsL.getD p [] = ps at hit hg3 F13
      have hok2 := okF_len hg3
      have hfl := okF_len hg2
      with_reducible refine x_comp2 (B := B) (cl := [(Str.ofString "parts", cp), (Str.ofString "book", cb)]) (ks' := [(Str.ofString "path", .local), (Str.ofString "name", .local), (Str.ofString "_law_takes", .globalImplicit), (Str.ofString "join", .globalImplicit), (Str.ofString "book", .cell), (Str.ofString "parts", .cell)]) hA' hk (by kernel_rfl) (by kernel_rfl) (by kernel_rfl) (by kernel_rfl) ?_
      kst_mem
      with_reducible refine ⟨_, _, _, _, _, srcS (l := Df) (zs := found), F13, .led (by kd_mem), fun _ _ h => h.cons, fun C it2 Dn hkc => ⟨WkC Bk nx ps K1 found L li it Df Dp cp cb b i, ?_, ?_, ?_, ?_⟩⟩
      · exact ⟨K1, [], .nil, rfl, hnm1, by omega, rfl⟩
      · rintro j ys own ⟨K2, acc, _, _, _, _, rfl⟩
        exact .led (by kd_mem)
      · rintro j v ys own s14 K2x hK2x hj ⟨K2, acc, hys, hfold, hnm2, hl2, rfl⟩ F14 ⟨k, tk, rfl, hkj⟩
        clear F13
        have hfs : (found.take (j + 1)).foldl (cStep nx ps) (absK K1, []) = (nx (absK K2) k, acc ++ cOut ps (absK K2) k) := by
          rw [List.take_add_one, hkj, List.foldl_append, hfold]; rfl
        have hfz : (acc ++ cOut ps (absK K2) k).length ≤ 1000 := by
          obtain ⟨r2, hr2⟩ := cFold_pre nx ps (found.drop (j + 1)) ((found.take (j + 1)).foldl (cStep nx ps) (absK K1, []))
          rw [← List.foldl_append, List.take_append_drop, hfs] at hr2
          rw [hr2, List.length_append] at hok2
          show (acc ++ cOut ps (absK K2) k).length ≤ 1000
          have : ((nx (absK K2) k, acc ++ cOut ps (absK K2) k) : Book × List Str).2.length = (acc ++ cOut ps (absK K2) k).length := rfl
          omega
        have hkz := okF_mem hg2 (List.mem_of_getElem? hkj)
        have hnk := nm_kids hnm2 k
        unfold C2Turn
        kst_all
        rename_i s15 F15
        with_reducible refine e_sub (e_cell F15 hkc (by kd_mem) (by kd_mem) (.led (by kd_mem)) ?_)
        kst_mem
        refine bk_tail (bk_at F15 (.tail _ (.tail _ (.tail _ (.tail _ (.tail _ (.tail _ (.tail _ (.tail _ (.tail _ (LK.has K2)))))))))) hb1) (LK.look (pre := [(C, NsP [(Str.ofString "path", .str k tk)]), (it2, ItP Df (j + 1)), (Dn, LstP ys), (L, NsP (wkB Df li)), (it, ItP li (i + 1)), (Df, LS found), (Dp, LP ps), (cp, CellP (some (.ref Dp))), (cb, CellP (some (.ref b)))]) hA' F15 (by omega) fun D K3 Ex s16 e3 hD F16 => ?_)
        replace F16 : Fm w B s16 ((C, NsP [(Str.ofString "path", .str k tk)]) :: (it2, ItP Df (j + 1)) :: (Dn, LstP ys) :: ((L, NsP (wkB Df li)) :: (it, ItP li (i + 1)) :: (Df, LS found) :: (Dp, LP ps) :: (cp, CellP (some (.ref Dp))) :: (cb, CellP (some (.ref b))) :: (Ex ++ Bk K3))) := F16
        have okD : Has B ((L, NsP (wkB Df li)) :: (it, ItP li (i + 1)) :: (Df, LS found) :: (Dp, LP ps) :: (cp, CellP (some (.ref Dp))) :: (cb, CellP (some (.ref b))) :: (Ex ++ Bk K3)) D (LS (kids (absK K2) k)) := .led (.tail _ (.tail _ (.tail _ (.tail _ (.tail _ (.tail _ hD))))))
        have szz : ∀ i1, (acc ++ (((kids (absK K2) k).take i1).filter (takes ps)).map (jn k)).length ≤ 1000 := fun i1 => by
          have hsub : ((((kids (absK K2) k).take i1).filter (takes ps)).map (jn k)).length ≤ (cOut ps (absK K2) k).length := by
            unfold cOut
            rw [List.length_map, List.length_map]
            exact ((List.take_sublist _ _).filter _).length_le
          rw [List.length_append] at hfz ⊢
          omega
        with_reducible refine ⟨_, _, _, _, _, _, srcS (l := D) (zs := kids (absK K2) k), F16, okD, fun _ _ h => h.cons, fun i1 ys own => StrsAre ys (acc ++ (((kids (absK K2) k).take i1).filter (takes ps)).map (jn k)) ∧
          own = (L, NsP (wkB Df li)) :: (it, ItP li (i + 1)) :: (Df, LS found) :: (Dp, LP ps) :: (cp, CellP (some (.ref Dp))) :: (cb, CellP (some (.ref b))) :: (Ex ++ Bk K3), ?_, ?_, ?_, ?_⟩
        · exact ⟨by simpa using hys, rfl⟩
        · rintro i1 ys1 own ⟨hys1, rfl⟩
          exact ⟨okD, by rw [strs_len hys1]; have := szz i1; omega⟩
        · rintro it1 i1 u ys1 own s17 Ky Kn hKy hKn hi1 ⟨hys1, rfl⟩ F17 ⟨nm, tn, rfl, hnmi⟩
          have hnz := hnk nm (List.mem_of_getElem? hnmi)
          have hts := take_filter_snoc (takes ps) hnmi
          clear F14 F15 F16
          kst_all
          rename_i s18 F18
          with_reducible refine bt_call (c_glo F18 hkc (by kd_mem) g_law_takes (cw_fn (isfn_225 _) (ev_cons (e_cell F18 hkc (by kd_mem) (by kd_mem) (.led (by kd_mem)) (ev_cons ?_)))))
          kst_mem
          obtain ⟨o, ho, vs, hvs, hlv⟩ := F18.sat (Dp, LP ps) (.tail _ (.tail _ (.tail _ (.tail _ (.tail _ (.tail _ (.tail _ (.head _))))))))
          refine ev_nil ⟨F18.base, wpAny_call (c_law_takes (n := n + 1) hA' F18.base ⟨o, ho, hlv⟩ hvs hnz fun s19 x19 => ?_)⟩
          have F19 := F18.ext x19
          with_reducible refine t_bool (b2 (fun e => ?_) (fun e => ?_))
          · with_reducible refine c_glo F19 hkc (by kd_mem) g_join (cw_fn (isfn_138 _) (ev_cons ?_))
            kst_mem
            with_reducible refine ev_cons ?_
            kst_mem
            refine ev_nil ⟨F19.base, wpAny_call (c_join (n := n + 1) hA' F19.base (by omega) (by omega) fun t20 s20 x20 => ?_)⟩
            have F20 := F19.ext x20
            refine hKy _ _ _ ⟨?_, rfl⟩ (F20.nsw (bs' := [(Str.ofString "path", .str k tk)]) (by kd_all) (by kqd_sub))
            rw [hts, e, if_pos rfl, List.map_append, ← List.append_assoc]
            exact strs_app hys1 (.cons _ _ .nil)
          · refine hKn _ _ ⟨?_, rfl⟩ (F19.nsw (bs' := [(Str.ofString "path", .str k tk)]) (by kd_all) (by kqd_sub))
            rw [hts, e, if_neg Bool.false_ne_true, List.append_nil]
            exact hys1
        · rintro ys1 own s17 ⟨hys1, rfl⟩ F17
          rw [List.take_of_length_le (Nat.le_refl _)] at hys1
          have hnl := LK.ok.len (absK K2) k
          refine hK2x _ [(Str.ofString "path", .str k tk)] _ _ ⟨K3, _, hys1, by rw [hfs, e3]; rfl, by rw [e3]; exact LK.ok.nm _ _ hnm2, by rw [e3]; omega, rfl⟩ (F17.weak ?_)
          exact .cons_cons _ (.cons_cons _ (.cons_cons _ (.cons_cons _ (.cons_cons _ (.cons_cons _ (.cons_cons _ (.cons_cons _ (.cons_cons _ (List.sublist_append_right _ _)))))))))
      · rintro ys own s14 ⟨K2, acc, hys, hfold, hnm2, hl2, rfl⟩ F14
        rw [List.take_of_length_le (Nat.le_refl _)] at hfold
        have F15 : Fm w B s14 ((C, NsP []) :: (Dn, LS acc) :: (L, NsP (wkB Df li)) :: (it, ItP li (i + 1)) :: (Df, LS found) :: (Dp, LP ps) :: (cp, CellP (some (.ref Dp))) :: (cb, CellP (some (.ref b))) :: Bk K2) := F14.imp (.tail .head) fun o ho => ⟨ys, hys, ho⟩
        clear F13 F14
        kst_all
        rename_i s16 F16
        refine ⟨_, _, F16, fun s17 F17 => ?_⟩
        rw [hfold] at hit
        subst hit
        with_reducible refine x_nil (nx_next (x_nil (ec_next (hKx _ _ ⟨K2, acc, Dn, some (.ref Dp), hr1, hnm2, rfl⟩ ?_))))
        exact (F17.nsw (bs' := wkB Dn li) (by kd_all) (by kqd_sub)).sel (by kqd_all)
  · rintro own s7 ⟨K', found, Df, pv, hw1, _, rfl⟩ F7
    rw [List.length_map, List.take_of_length_le (Nat.le_refl _), hW] at hw1
    have e := Option.some.inj hw1
    subst e
    with_reducible refine x_ret (c_glo F7 hk (by kd_mem) g_sorted (cw_bi (ev_cons ?_)))
    kst_mem
    with_reducible refine ev_nil (o_sortS F7 (.led (by kd_mem)) h64 ?_)
    intro Rl s8 F8
    exact h K' Rl s8 rfl (F8.sel (by kqd_all))
end

section
open PySem PySem.W PySem.Spec PySem.Calls PyProof.Rows
set_option Elab.async false
set_option maxRecDepth 100000
set_option maxHeartbeats 0
noncomputable def LNn (n : Nat) (o : Obj) : Prop := ∃ vs ps, ps.length = n ∧ NatsAre vs ps ∧ o.cls = .type "list" ∧ ∃ m, o.data = .seq vs.toArray m
theorem nats_at {vs : List Value} {ps : List Nat} (h : NatsAre vs ps) {i : Nat} (hi : i < vs.length) : ∃ (z : Nat) (t : Tok), vs[i]? = some (.int z t) := by
  obtain ⟨z, t, hz, _⟩ := nats_get h (List.getElem?_eq_getElem hi)
  exact ⟨z, t, by rw [List.getElem?_eq_getElem hi, hz]⟩
theorem nats_set {vs : List Value} {ps : List Nat} (h : NatsAre vs ps) (z : Nat) (t : Tok) : ∀ i, ∃ qs, qs.length = ps.length ∧ NatsAre (vs.set i (.int z t)) qs := by
  induction h with
  | nil => intro i; exact ⟨[], rfl, by simpa using NatsAre.nil⟩
  | @cons y t' vs ps h ih =>
    intro i
    cases i with
    | zero => exact ⟨z :: ps, rfl, .cons z t h⟩
    | succ i =>
      obtain ⟨qs, h1, h2⟩ := ih i
      exact ⟨y :: qs, by simp [h1], .cons y t' h2⟩
section
variable {w : World} {A : Around} {B s : Shared} {own own' : Led} {E : Value → Shared → Prop} {env : Env} {L l : Addr} {cl : List (Str × Addr)} {ks : List (Str × NameKind)} {x y : Str} {v : Value} {px pos : Pos} {k : Nat} {t u : Tok} {Q : Value → Shared → Prop} {value slice : Expr} {rest : List Stmt}
theorem Fm.hasLNn {n : Nat} (F : Fm w B s own) (h : Has B own l (LNn n)) : ∃ vs ps, ps.length = n ∧ NatsAre vs ps ∧ s.heap.IsList l vs.toArray := by
  obtain ⟨o, e, vs, ps, h1, h2, hc, m, hd⟩ := F.has h
  exact ⟨vs, ps, h1, h2, _, e, hc, m, hd⟩
theorem o_liN {n i : Nat} (F : Fm w B s own) (hl : Has B own l (LNn n)) (hi : i < n) (hi' : i < 100000) (h : ∀ (z : Nat) t, Q (.int z t) s)
    (hs : subscripted slice false (.ref l) (.int i u) = operate [.ref l, .int i u] (getItem (.ref l) (.int i u)) := by with_unfolding_all rfl) : wpAny (Md w) A (subscriptTail value slice (.ref l) (.int i u)) Q E s := by
  obtain ⟨vs, ps, h1, h2, h3⟩ := F.hasLNn hl
  obtain ⟨z, tz, hz⟩ := nats_at h2 (i := i) (by rw [nats_len h2, h1]; exact hi)
  exact tail_any h3.typeIs slot_list_getitem.lookup (wpAny_getItem_list h3 (by omega) (by omega) (x := .int z tz) (by simpa using hz) (h z tz)) hs
theorem o_giN {n i : Nat} (F : Fm w B s own) (hl : Has B own l (LNn n)) (hi : i < n) (hi' : i < 100000) (h : ∀ (z : Nat) t, Q (.int z t) s) :
    wpAny (Md w) A (getItem (.ref l) (.int i u)) Q E s := by
  obtain ⟨vs, ps, h1, h2, h3⟩ := F.hasLNn hl
  obtain ⟨z, tz, hz⟩ := nats_at h2 (i := i) (by rw [nats_len h2, h1]; exact hi)
  exact wpAny_getItem_list h3 (by omega) (by omega) (x := .int z tz) (by simpa using hz) (h z tz)
theorem o_siN {n i z : Nat} {Q : Unit → Shared → Prop} (F : Fm w B s own) (hl : (l, LNn n) ∈ own) (hi : i < n) (hi' : i < 100000) (h : ∀ s', Fm w B s' own → Q () s') :
    wpAny (Md w) A (setItem (.ref l) (.int i u) (.int z t)) Q E s := by
  obtain ⟨vs, ps, h1, h2, h3⟩ := F.hasLNn (.led hl)
  refine wpAny_setItem_list h3 (by omega) (by omega) (by rw [List.size_toArray, nats_len h2, h1]; omega) fun h' hl' hs => h _ ?_
  obtain ⟨o, e, hc, m, hd⟩ := hl'
  obtain ⟨qs, q1, q2⟩ := nats_set h2 z t i
  refine F.upd (t := s.toks) (UpdE.self hl) hs ⟨o, e, _, qs, q1.trans h1, q2, hc, m, ?_⟩
  rw [hd]; simp
theorem x_augsub {o : Expr} {i : Str} {pi pos' : Pos} {op : Operator} {Q : Flow → Shared → Prop}
    (h : wpAny (Md w) A (eval o env) (fun ov s₁ => wpAny (Md w) A (eval (.Name i pi) env) (fun iv s₂ => wpAny (Md w) A (getItem ov iv) (fun old s₃ =>
      wpAny (Md w) A (eval value env) (fun v s₄ => wpAny (Md w) A (inplaceOp op old v) (fun new s₅ =>
        wpAny (Md w) A (setItem ov iv new) (fun _ s₆ => wpAny (Md w) A (execs rest env) Q E s₆) E s₅) E s₄) E s₃) E s₂) E s₁) E s) :
    wpAny (Md w) A (execs (.AugAssign (.Subscript o (.Name i pi) pos') op value pos :: rest) env) Q E s := x_one (wpAny_AugAssign_Subscript h)
theorem o_absN {a : Int} (F : Fm w B s own) (h : ∀ (n : Nat) t' s', Fm w B s' own → Q (.int n t') s') : wpAny (Md w) A (call (.builtin "abs") [.int a t]) Q E s := by
  refine PyProof.Rows.call_abs_int fun u tk => ?_
  have e : (if a < 0 then -a else a) = (a.natAbs : Int) := by split <;> omega
  rw [e]
  exact h _ _ _ (F.tok _)
theorem o_iaddN {a b : Nat} (F : Fm w B s own) (h : ∀ t' s', Fm w B s' own → Q (.int (a + b : Nat) t') s') : wpAny (Md w) A (inplaceOp .Add (.int a t) (.int b u)) Q E s := o_iaddi F h
theorem o_powN {a b : Nat} (F : Fm w B s own) (ha : a < 1000) (hb : b < 1000) (h : ∀ t' s', Fm w B s' own → Q (.int (a ^ b : Nat) t') s') : wpAny (Md w) A (binaryOp .Pow (.int a t) (.int b u)) Q E s := by
  refine pow_int_small (by omega) (by omega) (Nat.lt_trans (show (a : Int).natAbs < 1000 by omega) (by decide)) ?_
  have e : ((a : Int) ^ ((b : Int)).toNat) = ((a ^ b : Nat) : Int) := by simp
  rw [e]
  exact h _ _ (F.tok _)
theorem o_divN {a b : Nat} (F : Fm w B s own) (hb : b ≠ 0) (hb' : b < 1000000) (h : ∀ t' s', Fm w B s' own → Q (.int (a / b : Nat) t') s') : wpAny (Md w) A (binaryOp .FloorDiv (.int a t) (.int b u)) Q E s := by
  refine floordiv_int (by omega) ?_ (Or.inl (PyProof.noPylong_small (by omega)))
  have e : ((a : Int).fdiv (b : Int)) = ((a / b : Nat) : Int) := by rw [Int.fdiv_eq_ediv_of_nonneg _ (by omega)]; rfl
  rw [e]
  exact h _ _ (F.tok _)
theorem o_modN {a b : Nat} (F : Fm w B s own) (hb : b ≠ 0) (h : ∀ t' s', Fm w B s' own → Q (.int (a % b : Nat) t') s') : wpAny (Md w) A (binaryOp .Mod (.int a t) (.int b u)) Q E s := by
  refine PyProof.Rows.mod_int (by omega) ?_
  have e : ((a : Int).fmod (b : Int)) = ((a % b : Nat) : Int) := by rw [Int.fmod_eq_emod_of_nonneg _ (by omega)]; rfl
  rw [e]
  exact h _ _ (F.tok _)
theorem x_compC {n0 : Nat} {elt iter : Expr} {ifs : List Expr} {scope : Scope} {cl : List (Str × Addr)} {cn : Str} {py spos : Pos} {Q : Flow → Shared → Prop} {cl0 ks ks'} (hA : Rm A n0) (hk : Ks env L cl0 ks)
    (hclos : closureFor scope env = pure cl) (hok : (cchk scope && cellNames scope == [cn]) = true) (hks : chk (relabel scope env) ks' = true) (hnd : decide ((((cn, 0) :: cl : List (Str × Addr)).map (·.1)).Nodup) = true)
    (h : wpAny (Md w) A (eval iter env) (CompP w B fun ok n row val own => ∀ C it D c, Ks (compEnvC scope ((cn, c) :: cl) C env) C ((cn, c) :: cl) ks' →
        CompJ w A B (compEnvC scope ((cn, c) :: cl) C env) x ifs elt ok n row val C it D ((c, CellP none) :: own) fun ys own s => Fm w B s ((C, NsP []) :: (D, LstP ys) :: own) → wpAny (Md w) A (storeName env y (.ref D)) (fun _ s' => ∃ own' bs, Fm w B s' ((C, NsP bs) :: own') ∧
          ∀ s'', Fm w B s'' own' → wpAny (Md w) A (execs rest env) Q E s'') E s) E s)
    (hsw : swapsWith (.ListComp elt [⟨.Name x px, iter, ifs, 0⟩] scope pos) (some (.Name y py)) spos.line env = pure true := by with_unfolding_all rfl)
    (hs : ∀ x, foldedSetIterable iter env x = pure x := by intro _; with_unfolding_all rfl) :
    wpAny (Md w) A (execs (.Assign [.Name y py] (.ListComp elt [⟨.Name x px, iter, ifs, 0⟩] scope pos) spos :: rest) env) Q E s := by
  rw [Bool.and_eq_true, beq_iff_eq] at hok
  refine x_one ?_
  rw [exec_Assign_Name_used _ _ _ _ hsw]
  refine wpAny_bind (wpAny_standAt (wpAny_bind ?_))
  show wpAny _ A (do let _ ← comprehension (.ListComp elt [⟨.Name x px, iter, ifs, 0⟩] scope pos) scope env _ (newList []) false (eval iter env) (some (assign (.Name y py) env))) _ _ s
  refine wpAny_bind (wpAny_mono (comp_use (B := B) (Q := fun _ s' => wpAny (Md w) A (execs rest env) Q E s') hA hclos hok.1 hok.2 (wpAny_mono h (fun v s₁ h₁ => ?_) fun _ _ e => e) hs) (fun _ s' h' => wpAny_pure (wpAny_pure h')) fun _ _ e => e)
  obtain ⟨ok, n, row, val, own, S, hz, F, hkk, okE, h₁⟩ := h₁
  refine ⟨ok, n, row, val, own, S, hz, F, hkk, okE, fun C it D cr hcr => ?_⟩
  obtain ⟨c, c1, e1, h1⟩ := lay_c (a := cn) (r := []) hcr
  have e2 := List.map_eq_nil_iff.mp h1
  subst e2
  subst e1
  obtain ⟨J, J0, Jok, turn, fin⟩ := h₁ C it D c (cKs hk hks hok.1 (look_of hnd))
  exact ⟨J, J0, Jok, turn, fun ys own s hJ hl F => wpAny_assign_Name (fin ys own s hJ hl F)⟩
end
end

section
open PySem PySem.W PySem.Spec PySem.Calls PyProof.Rows
set_option Elab.async false
set_option maxRecDepth 100000
set_option maxHeartbeats 0
/-! == and in, over lists of texts and the like -/
noncomputable def OkT (z : Str) : Prop := PyData.strOk z = true
noncomputable def dS (zs : List Str) : Dat := .list (zs.map .str)
noncomputable def dN (ns : List Nat) : Dat := .list (ns.map fun n : Nat => .int (n : Int))
noncomputable def dP (e : Str × List Str) : Dat := .tuple [.str e.1, dS e.2]
theorem str_map_inj : ∀ {xs ys : List Str}, xs.map Dat.str = ys.map Dat.str → xs = ys
  | [], [], _ => rfl
  | [], _ :: _, h => by cases h
  | _ :: _, [], h => by cases h
  | x :: xs, y :: ys, h => by
    simp only [List.map_cons, List.cons.injEq, Dat.str.injEq] at h
    rw [h.1, str_map_inj h.2]
theorem dS_inj {xs ys : List Str} : dS xs = dS ys ↔ xs = ys := by
  unfold dS
  rw [Dat.list.injEq]
  exact ⟨str_map_inj, fun e => by rw [e]⟩
theorem dP_inj {x y : Str × List Str} (h : dP x = dP y) : x = y := by
  unfold dP at h
  simp only [Dat.tuple.injEq, List.cons.injEq, Dat.str.injEq, and_true] at h
  exact Prod.ext h.1 (dS_inj.mp h.2)
theorem map_dP_inj : ∀ {xs ys : Book}, xs.map dP = ys.map dP → xs = ys
  | [], [], _ => rfl
  | [], _ :: _, h => by cases h
  | _ :: _, [], h => by cases h
  | x :: xs, y :: ys, h => by
    simp only [List.map_cons, List.cons.injEq] at h
    rw [dP_inj h.1, map_dP_inj h.2]
theorem map_dS_mem {x : List Str} : ∀ {xs : List (List Str)}, dS x ∈ xs.map dS ↔ x ∈ xs := by
  intro xs
  rw [List.mem_map]
  exact ⟨fun ⟨y, h, e⟩ => dS_inj.mp e ▸ h, fun h => ⟨x, h, rfl⟩⟩
theorem ok_dS {zs : List Str} (h : ∀ z ∈ zs, OkT z) : ∀ n, kqdOk (n + 1) (dS zs) = true := fun n => by
  unfold dS kqdOk
  rw [List.all_map, List.all_eq_true]
  intro z hz
  have := h z hz
  show kqdOk n (.str z) = true
  cases n <;> exact this
theorem ok_dSm {zs : List Str} (h : ∀ z ∈ zs, OkT z) : ∀ d ∈ zs.map Dat.str, kqdOk 8 d = true := fun d hd => by
  obtain ⟨z, hz, rfl⟩ := List.mem_map.mp hd
  exact h z hz
theorem ok_dP {e : Str × List Str} (h1 : OkT e.1) (h2 : ∀ z ∈ e.2, OkT z) : kqdOk 8 (dP e) = true := by
  show ([.str e.1, dS e.2] : List Dat).all (kqdOk 7) = true
  rw [List.all_cons, List.all_cons, ok_dS h2]
  simp only [List.all_nil, Bool.and_true]
  exact h1
section
variable {w : World} {A : Around} {B s : Shared} {own own' : Led} {E : Value → Shared → Prop} {env : Env} {L l a b : Addr} {t u : Tok} {Q : Value → Shared → Prop}
theorem reads_strs {h : Heap} {vs : List Value} {zs : List Str} (hs : StrsAre vs zs) : ∃ as, ReadsAll h vs (kqdPs (zs.map .str)) as := by
  induction hs with
  | nil => exact ⟨_, .nil⟩
  | cons y t _ ih => obtain ⟨as, r⟩ := ih; exact ⟨_, .cons (.str _ _) r⟩
theorem reads_nats {h : Heap} {vs : List Value} {zs : List Nat} (hs : NatsAre vs zs) : ∃ as, ReadsAll h vs (kqdPs (zs.map fun n : Nat => .int (n : Int))) as := by
  induction hs with
  | nil => exact ⟨_, .nil⟩
  | cons y t _ ih => obtain ⟨as, r⟩ := ih; exact ⟨_, .cons (.int _ _) r⟩
theorem rd_seq {vs : List Value} {ds : List Dat} {n : Nat} {as : List Addr} (e : s.heap.get? l = some (seqObj "list" vs.toArray n)) (r : ReadsAll s.heap vs (kqdPs ds) as) : ∃ as, Reads s.heap (.ref l) (kqdP (.list ds)) as := by
  rw [kqdP]
  exact ⟨_, reads_list_at e rfl rfl (by simpa using r)⟩
theorem rd_S {zs : List Str} (F : Fm w B s own) (h : Has B own l (LS zs)) : ∃ as, Reads s.heap (.ref l) (kqdP (dS zs)) as := by
  obtain ⟨vs, n, hs, e⟩ := F.hasLS h
  obtain ⟨as, r⟩ := reads_strs (h := s.heap) hs
  exact rd_seq e r
theorem rd_N {ns : List Nat} (F : Fm w B s own) (h : Has B own l (LN ns)) : ∃ as, Reads s.heap (.ref l) (kqdP (dN ns)) as := by
  obtain ⟨o, e, vs, hs, n, rfl⟩ := F.has h
  obtain ⟨as, r⟩ := reads_nats (h := s.heap) hs
  exact rd_seq e r
theorem rd_nil (F : Fm w B s own) (h : Has B own l (LstP [])) : ∃ as, Reads s.heap (.ref l) (kqdP (.list [])) as := by
  obtain ⟨o, e, n, rfl⟩ := F.has h
  exact rd_seq e (as := []) .nil
theorem rd_pairs {D : List Pr} (F : Fm w B s own) (h : Has B own l (LstP (refsP D))) (hr : ∀ p ∈ rowsPr D, p ∈ own) : ∃ as, Reads s.heap (.ref l) (kqdP (.list ((absP D).map dP))) as := by
  obtain ⟨o, e, n, rfl⟩ := F.has h
  have key : ∀ D : List Pr, (∀ p ∈ rowsPr D, p ∈ own) → ∃ as, ReadsAll s.heap (refsP D) (kqdPs ((absP D).map dP)) as := by
    intro D
    induction D with
    | nil => intro _; exact ⟨_, .nil⟩
    | cons x D ih =>
      intro hr
      obtain ⟨as, r⟩ := ih fun p hp => hr p (List.mem_append_right _ hp)
      obtain ⟨ot, et, τ, nt, rfl⟩ := F.sat _ (hr _ (List.mem_append_left _ (.head _)))
      obtain ⟨bs, rb⟩ := rd_S F (l := x.d) (zs := x.zs) (.led (hr _ (List.mem_append_left _ (.tail _ (.head _)))))
      have rt : Reads s.heap (.ref x.t) (kqdP (dP (x.k, x.zs))) ([] ++ (bs ++ [])) := by
        unfold dP
        rw [kqdP]
        exact reads_tuple_at et rfl rfl (.cons (.str _ _) (.cons rb .nil))
      exact ⟨_, .cons rt r⟩
  obtain ⟨as, r⟩ := key D hr
  exact rd_seq e r
theorem rd_fam {T : List (Addr × List Str)} (F : Fm w B s own) (h : Has B own l (LstP (T.map fun p => .ref p.1))) (hr : ∀ p ∈ T, (p.1, LS p.2) ∈ own) : ∃ as, Reads s.heap (.ref l) (kqdP (.list (T.map fun p => dS p.2))) as := by
  obtain ⟨o, e, n, rfl⟩ := F.has h
  have key : ∀ T : List (Addr × List Str), (∀ p ∈ T, (p.1, LS p.2) ∈ own) → ∃ as, ReadsAll s.heap (T.map fun p => .ref p.1) (kqdPs (T.map fun p => dS p.2)) as := by
    intro T
    induction T with
    | nil => intro _; exact ⟨_, .nil⟩
    | cons x T ih =>
      intro hr
      obtain ⟨as, r⟩ := ih fun p hp => hr p (.tail _ hp)
      obtain ⟨bs, rb⟩ := rd_S F (l := x.1) (zs := x.2) (.led (hr _ (.head _)))
      exact ⟨_, .cons rb r⟩
  obtain ⟨as, r⟩ := key T hr
  exact rd_seq e r
theorem shaped_of {ds : List Dat} (h : ∀ d ∈ ds, kqdOk 8 d = true) : SeqAt.shaped (kqdP (.list ds)) = true := by
  have l := kqd_lay 9 (.list ds) (by simpa [kqdOk] using h)
  unfold SeqAt.shaped
  rw [l.1, Bool.true_and]
  exact decide_eq_true (Nat.le_trans l.2 (by decide))
theorem eqv_dec {ds es : List Dat} {b0 : Bool} (ha : ∀ d ∈ ds, kqdOk 8 d = true) (hb : ∀ d ∈ es, kqdOk 8 d = true) (h0 : b0 = true ↔ ds = es) : PyData.eqv (kqdP (.list ds)) (kqdP (.list es)) = b0 := by
  have q := kqd_eqv 9 (.list ds) (.list es) 9 (by simpa [kqdOk] using ha) (by simpa [kqdOk] using hb)
  rw [Dat.list.injEq] at q
  exact Bool.eq_iff_iff.mpr (q.trans h0.symm)
theorem o_eqD {ds es : List Dat} {b0 : Bool} {n : Nat} (hA : Rm A n) (ra : ∃ as, Reads s.heap (.ref a) (kqdP (.list ds)) as) (rb : ∃ as, Reads s.heap (.ref b) (kqdP (.list es)) as) (ha : ∀ d ∈ ds, kqdOk 8 d = true) (hb : ∀ d ∈ es, kqdOk 8 d = true) (h0 : b0 = true ↔ ds = es)
    (h : Q (.bool b0) s) : wpAny (Md w) A (compareOp .Eq (.ref a) (.ref b)) Q E s := by
  obtain ⟨as, ra⟩ := ra
  obtain ⟨bs, rb⟩ := rb
  refine eq_dataH ra rb (shaped_of ha) (shaped_of hb) (by have := hA.units; omega) ?_
  rw [eqv_dec ha hb h0]; exact h
theorem o_neD {ds es : List Dat} {b0 : Bool} {n : Nat} (hA : Rm A n) (ra : ∃ as, Reads s.heap (.ref a) (kqdP (.list ds)) as) (rb : ∃ as, Reads s.heap (.ref b) (kqdP (.list es)) as) (ha : ∀ d ∈ ds, kqdOk 8 d = true) (hb : ∀ d ∈ es, kqdOk 8 d = true) (h0 : b0 = true ↔ ds = es)
    (h : Q (.bool (!b0)) s) : wpAny (Md w) A (compareOp .NotEq (.ref a) (.ref b)) Q E s := by
  obtain ⟨as, ra⟩ := ra
  obtain ⟨bs, rb⟩ := rb
  refine ne_dataH ra rb (shaped_of ha) (shaped_of hb) (by have := hA.units; omega) ?_
  rw [eqv_dec ha hb h0]; exact h
theorem o_eqSS {n : Nat} {xs ys : List Str} (hA : Rm A n) (F : Fm w B s own) (ha : Has B own a (LS xs)) (hb : Has B own b (LS ys)) (hx : ∀ z ∈ xs, OkT z) (hy : ∀ z ∈ ys, OkT z) (h : Q (.bool (decide (xs = ys))) s) :
    wpAny (Md w) A (compareOp .Eq (.ref a) (.ref b)) Q E s :=
  o_eqD hA (rd_S F ha) (rd_S F hb) (ok_dSm hx) (ok_dSm hy) (by rw [decide_eq_true_iff]; exact ⟨fun e => by rw [e], str_map_inj⟩) h
theorem o_neSS {n : Nat} {xs ys : List Str} (hA : Rm A n) (F : Fm w B s own) (ha : Has B own a (LS xs)) (hb : Has B own b (LS ys)) (hx : ∀ z ∈ xs, OkT z) (hy : ∀ z ∈ ys, OkT z) (h : Q (.bool (!decide (xs = ys))) s) :
    wpAny (Md w) A (compareOp .NotEq (.ref a) (.ref b)) Q E s :=
  o_neD hA (rd_S F ha) (rd_S F hb) (ok_dSm hx) (ok_dSm hy) (by rw [decide_eq_true_iff]; exact ⟨fun e => by rw [e], str_map_inj⟩) h
theorem o_neSn {n : Nat} {xs : List Str} (hA : Rm A n) (F : Fm w B s own) (ha : Has B own a (LS xs)) (hb : Has B own b (LstP [])) (hx : ∀ z ∈ xs, OkT z) (h : Q (.bool (!xs.isEmpty)) s) :
    wpAny (Md w) A (compareOp .NotEq (.ref a) (.ref b)) Q E s :=
  o_neD hA (rd_S F ha) (rd_nil F hb) (ok_dSm hx) (fun d hd => by cases hd) (by cases xs <;> simp) h
theorem o_neNn {n : Nat} {ns : List Nat} (hA : Rm A n) (F : Fm w B s own) (ha : Has B own a (LN ns)) (hb : Has B own b (LstP [])) (h : Q (.bool (!ns.isEmpty)) s) :
    wpAny (Md w) A (compareOp .NotEq (.ref a) (.ref b)) Q E s :=
  o_neD (ds := ns.map fun n : Nat => .int (n : Int)) hA (rd_N F ha) (rd_nil F hb) (fun d hd => by obtain ⟨m, _, rfl⟩ := List.mem_map.mp hd; rfl) (fun d hd => by cases hd) (by cases ns <;> simp) h
noncomputable def OkB (bk : Book) : Prop := ∀ e ∈ bk, OkT e.1 ∧ ∀ z ∈ e.2, OkT z
theorem ok_dPm {bk : Book} (h : OkB bk) : ∀ d ∈ bk.map dP, kqdOk 8 d = true := fun d hd => by
  obtain ⟨e, he, rfl⟩ := List.mem_map.mp hd
  exact ok_dP (h e he).1 (h e he).2
theorem o_eqPP {n : Nat} {D D' : List Pr} (hA : Rm A n) (F : Fm w B s own) (ha : Has B own a (LstP (refsP D))) (hra : ∀ p ∈ rowsPr D, p ∈ own) (hb : Has B own b (LstP (refsP D'))) (hrb : ∀ p ∈ rowsPr D', p ∈ own) (hx : OkB (absP D)) (hy : OkB (absP D')) (h : Q (.bool (decide (absP D = absP D'))) s) :
    wpAny (Md w) A (compareOp .Eq (.ref a) (.ref b)) Q E s :=
  o_eqD hA (rd_pairs F ha hra) (rd_pairs F hb hrb) (ok_dPm hx) (ok_dPm hy) (by rw [decide_eq_true_iff]; exact ⟨fun e => by rw [e], map_dP_inj⟩) h
theorem o_nePP {n : Nat} {D D' : List Pr} (hA : Rm A n) (F : Fm w B s own) (ha : Has B own a (LstP (refsP D))) (hra : ∀ p ∈ rowsPr D, p ∈ own) (hb : Has B own b (LstP (refsP D'))) (hrb : ∀ p ∈ rowsPr D', p ∈ own) (hx : OkB (absP D)) (hy : OkB (absP D')) (h : Q (.bool (!decide (absP D = absP D'))) s) :
    wpAny (Md w) A (compareOp .NotEq (.ref a) (.ref b)) Q E s :=
  o_neD hA (rd_pairs F ha hra) (rd_pairs F hb hrb) (ok_dPm hx) (ok_dPm hy) (by rw [decide_eq_true_iff]; exact ⟨fun e => by rw [e], map_dP_inj⟩) h
theorem map_dS_eq (T : List (Addr × List Str)) : (T.map fun p => dS p.2) = (T.map (·.2)).map dS := by simp
theorem o_ninF {n : Nat} {T : List (Addr × List Str)} {xs : List Str} (hA : Rm A n) (F : Fm w B s own) (ha : Has B own a (LS xs)) (hb : Has B own l (LstP (T.map fun p => .ref p.1))) (hr : ∀ p ∈ T, (p.1, LS p.2) ∈ own) (hx : ∀ z ∈ xs, OkT z) (hy : ∀ e ∈ T, ∀ z ∈ e.2, OkT z)
    (h : Q (.bool (!decide (xs ∈ T.map (·.2)))) s) : wpAny (Md w) A (compareOp .NotIn (.ref a) (.ref l)) Q E s := by
  obtain ⟨as, ra⟩ := rd_fam F hb hr
  obtain ⟨bs, rx⟩ := rd_S F ha
  have okT : ∀ d ∈ T.map fun p => dS p.2, kqdOk 8 d = true := fun d hd => by
    obtain ⟨e, he, rfl⟩ := List.mem_map.mp hd
    exact ok_dS (hy e he) 7
  have l := kqd_layL okT
  have ld := kqd_lay 8 (dS xs) (ok_dS hx 7)
  have e : ((kqdPs (T.map fun p => dS p.2)).any fun y => PyData.eqv y (kqdP (dS xs))) = decide (xs ∈ T.map (·.2)) := by
    have q := kqd_any (T.map fun p => dS p.2) (dS xs) okT (ok_dS hx 7)
    have q2 : dS xs ∈ (T.map fun p => dS p.2) ↔ xs ∈ T.map (·.2) := by rw [map_dS_eq]; exact map_dS_mem
    by_cases hq : xs ∈ T.map (·.2)
    · rw [decide_eq_true hq]; exact q.mpr (q2.mpr hq)
    · rw [decide_eq_false hq]; exact Bool.eq_false_iff.mpr fun z => hq (q2.mp (q.mp z))
  have l2 := ld.2
  rw [kqdP] at ra
  refine SeqAt.notIn_list_reads ra rx l.1 ld.1 ?_ (by rw [e]; exact h)
  have := Nat.min_le_right (PyData.depthAll (kqdPs (T.map fun p => dS p.2))) (kqdP (dS xs)).depth
  have := hA.units
  omega
end
end

section
open PySem PySem.W PySem.Spec PySem.Calls PyProof.Rows
set_option Elab.async false
set_option maxRecDepth 100000
set_option maxHeartbeats 0
/-! slices; families of lists of texts -/
noncomputable abbrev Fam := List (Addr × List Str)
noncomputable def famV (T : Fam) : List Value := T.map fun p => .ref p.1
noncomputable def famR (T : Fam) : Led := T.map fun p => (p.1, LS p.2)
noncomputable def famS (T : Fam) : List (List Str) := T.map (·.2)
theorem famV_snoc (T : Fam) (a : Addr) (z : List Str) : famV (T ++ [(a, z)]) = famV T ++ [.ref a] := by simp [famV]
theorem famR_snoc (T : Fam) (a : Addr) (z : List Str) : famR (T ++ [(a, z)]) = famR T ++ [(a, LS z)] := by simp [famR]
theorem famS_snoc (T : Fam) (a : Addr) (z : List Str) : famS (T ++ [(a, z)]) = famS T ++ [z] := by simp [famS]
theorem famV_app (T U : Fam) : famV (T ++ U) = famV T ++ famV U := by simp [famV]
theorem famR_app (T U : Fam) : famR (T ++ U) = famR T ++ famR U := by simp [famR]
theorem famS_app (T U : Fam) : famS (T ++ U) = famS T ++ famS U := by simp [famS]
theorem famV_len (T : Fam) : (famV T).length = T.length := by simp [famV]
theorem famS_len (T : Fam) : (famS T).length = T.length := by simp [famS]
theorem famR_mem {T : Fam} {p : Addr × List Str} (h : p ∈ T) : (p.1, LS p.2) ∈ famR T := List.mem_map.mpr ⟨p, h, rfl⟩
theorem famR_at {T : Fam} {i : Nat} {p : Addr × List Str} (h : T[i]? = some p) : (p.1, LS p.2) ∈ famR T := famR_mem (List.mem_of_getElem? h)
theorem famS_at {T : Fam} {i : Nat} {p : Addr × List Str} (h : T[i]? = some p) : (famS T)[i]? = some p.2 := by simp [famS, h]
theorem Fm.snocF {w : World} {B s : Shared} {own : Led} {a : Addr} {zs : List Str} {T : Fam} {pre rest : Led} (F : Fm w B s ((a, LS zs) :: own)) (e : own = pre ++ (famR T ++ rest)) :
    Fm w B s (pre ++ (famR (T ++ [(a, zs)]) ++ rest)) := by
  subst e
  refine F.perm' ?_
  rw [famR_snoc]
  have e : pre ++ (famR T ++ [(a, LS zs)] ++ rest) = (pre ++ famR T) ++ ((a, LS zs) :: rest) := by simp
  rw [e, ← List.append_assoc]
  exact List.perm_middle
section
variable {w : World} {A : Around} {B s : Shared} {own own' : Led} {E : Value → Shared → Prop} {env : Env} {L l : Addr} {pos : Pos} {t u : Tok} {Q : Value → Shared → Prop} {value slice : Expr}
theorem srcF {T : Fam} : Src w B (fun own => Has B own l (LstP (famV T))) (.ref l) T.length (ItP l) (fun i v => ∃ p : Addr × List Str, v = .ref p.1 ∧ T[i]? = some p) := by
  have S := srcList (w := w) (B := B) (l := l) (xs := famV T)
  rw [famV_len] at S
  refine ⟨S.iter, S.self, fun {A s own it i Q E} hh hi F ok h => S.next hh hi F ok fun v s' hv F' => h v s' ?_ F', S.done⟩
  unfold famV at hv
  rw [List.getElem?_map] at hv
  cases e : T[i]? with
  | none => rw [e] at hv; cases hv
  | some p => rw [e] at hv; exact ⟨p, (Option.some.inj hv).symm, rfl⟩
theorem srcNn {n : Nat} : Src w B (fun own => Has B own l (LNn n)) (.ref l) n (ItP l) (fun _ v => ∃ (z : Nat) (t : Tok), v = .int z t) where
  iter := fun F ok h => by
    obtain ⟨vs, ps, h1, h2, h3⟩ := F.hasLNn ok
    exact wpAny_pyIter_list h3 (h _ _ (F.push rfl ⟨rfl, rfl⟩))
  self := fun F hm h => by
    obtain ⟨o, e, h1, h2⟩ := F.sat _ hm
    exact wpAny_pyIter_listiter ⟨o, e, h1, h2⟩ h
  next := fun {A s own it i Q E} hh hi F ok h => by
    obtain ⟨vs, ps, q1, q2, q3⟩ := F.hasLNn ok.cons
    obtain ⟨o, e, h1, h2⟩ := F.sat _ (.head _)
    have hi' : i < vs.length := by rw [nats_len q2, q1]; exact hi
    obtain ⟨z, t, hz, hx⟩ := nats_get q2 (List.getElem?_eq_getElem hi')
    refine wpAny_pyNext_list_item ⟨o, e, h1, h2⟩ q3 (x := vs[i]) (by simp [hi']) fun h' hit hs => h _ _ ⟨z, t, hz⟩ ?_
    obtain ⟨o', e', h1', h2'⟩ := hit
    exact F.upd .head hs ⟨o', e', h1', h2'⟩
  done := fun {A s own it Q E} hh F ok h => by
    obtain ⟨vs, ps, q1, q2, q3⟩ := F.hasLNn ok.cons
    obtain ⟨o, e, h1, h2⟩ := F.sat _ (.head _)
    exact wpAny_pyNext_list_end hh ⟨o, e, h1, h2⟩ q3 (by simp [nats_len q2, q1]) fun h' he => h _ (F.drop1 he)
inductive PreNn (w : World) (B : Shared) (Q : Value → Shared → Prop) (o j : Value) (s₂ : Shared) : Prop
  | mk (l : Addr) (n i : Nat) (u : Tok) (own' : Led) (e1 : o = .ref l) (e2 : j = .int (i : Nat) u) (F : Fm w B s₂ own') (hl : Has B own' l (LNn n)) (hz : n ≤ 1000)
      (h : ∀ D s', Fm w B s' ((D, LNn (min i n)) :: own') → Q (.ref D) s')
theorem e_preNn {e : Expr} {p : Pos} (h : wpAny (Md w) A (eval value env) (KN (Md w) A E env e (PreNn w B Q)) E s) :
    wpAny (Md w) A (eval (.Subscript value (.Slice none (some e) none p) pos) env) Q E s := by
  refine Subscript_ (wpAny_mono h (fun o s₁ h₁ => ?_) fun _ _ e => e)
  refine wpAny_Slice (evalPart_none_step (evalPart_some_step (wpAny_mono h₁ (fun j s₂ h₂ => evalPart_none_step ?_) fun _ _ e => e)))
  obtain ⟨l, n, i, u, own', rfl, rfl, F, hl, hz, h₂⟩ := h₂
  obtain ⟨vs, ps, q1, q2, q3⟩ := F.hasLNn hl
  refine o_lslI F q3 (by rw [nats_len q2, q1]; exact Nat.le_trans hz (Nat.le_of_ble_eq_true rfl)) .none (.int i u) .none (by simp) (fun D s' F' => h₂ D s' (F'.imp .head fun o ho => ?_)) fun i => .inl rfl
  rw [pick_take] at ho
  obtain ⟨m, rfl⟩ := ho
  exact ⟨_, ps.take i, by rw [List.length_take, q1], nats_take q2 i, rfl, m, rfl⟩
inductive PreN (w : World) (B : Shared) (Q : Value → Shared → Prop) (o j : Value) (s₂ : Shared) : Prop
  | mk (l : Addr) (ns : List Nat) (i : Nat) (u : Tok) (own' : Led) (e1 : o = .ref l) (e2 : j = .int (i : Nat) u) (F : Fm w B s₂ own') (hl : Has B own' l (LN ns)) (hz : ns.length ≤ 1000)
      (h : ∀ D s', Fm w B s' ((D, LN (ns.take i)) :: own') → Q (.ref D) s')
theorem e_preN {e : Expr} {p : Pos} (h : wpAny (Md w) A (eval value env) (KN (Md w) A E env e (PreN w B Q)) E s) :
    wpAny (Md w) A (eval (.Subscript value (.Slice none (some e) none p) pos) env) Q E s := by
  refine Subscript_ (wpAny_mono h (fun o s₁ h₁ => ?_) fun _ _ e => e)
  refine wpAny_Slice (evalPart_none_step (evalPart_some_step (wpAny_mono h₁ (fun j s₂ h₂ => evalPart_none_step ?_) fun _ _ e => e)))
  obtain ⟨l, ns, i, u, own', rfl, rfl, F, hl, hz, h₂⟩ := h₂
  obtain ⟨o, e, vs, hs, n, rfl⟩ := F.has hl
  refine o_lslI F (isListS e) (by rw [nats_len hs]; exact Nat.le_trans hz (Nat.le_of_ble_eq_true rfl)) .none (.int i u) .none (by simp) (fun D s' F' => h₂ D s' (F'.imp .head fun o ho => ⟨vs.take i, nats_take hs i, ?_⟩)) fun i => .inl rfl
  rw [pick_take] at ho
  exact ho
theorem pick_init (xs : List Value) : (slicePick xs.toArray none (some (-1)) none).toList = xs.dropLast := by
  rw [show ((-1 : Int)) = -((1 : Nat) : Int) from rfl, slicePick_butLast _ _ (Nat.le_refl _), List.dropLast_eq_take]
  simp
theorem strs_init {vs : List Value} {zs : List Str} (h : StrsAre vs zs) : StrsAre vs.dropLast zs.dropLast := by
  rw [List.dropLast_eq_take, List.dropLast_eq_take, strs_len h]
  exact strs_take h _
inductive InitS (w : World) (B : Shared) (Q : Value → Shared → Prop) (o j : Value) (s₂ : Shared) : Prop
  | mk (l : Addr) (zs : List Str) (u : Tok) (own' : Led) (e1 : o = .ref l) (e2 : j = .int (-1) u) (F : Fm w B s₂ own') (hl : Has B own' l (LS zs)) (hz : zs.length ≤ 1000)
      (h : ∀ D s', Fm w B s' ((D, LS zs.dropLast) :: own') → Q (.ref D) s')
theorem e_initS {e : Expr} {p : Pos} (h : wpAny (Md w) A (eval value env) (KN (Md w) A E env e (InitS w B Q)) E s) :
    wpAny (Md w) A (eval (.Subscript value (.Slice none (some e) none p) pos) env) Q E s := by
  refine Subscript_ (wpAny_mono h (fun o s₁ h₁ => ?_) fun _ _ e => e)
  refine wpAny_Slice (evalPart_none_step (evalPart_some_step (wpAny_mono h₁ (fun j s₂ h₂ => evalPart_none_step ?_) fun _ _ e => e)))
  obtain ⟨l, zs, u, own', rfl, rfl, F, hl, hz, h₂⟩ := h₂
  obtain ⟨vs, n, hss, el⟩ := F.hasLS hl
  refine o_lslI F (isListS el) (by rw [strs_len hss]; exact Nat.le_trans hz (Nat.le_of_ble_eq_true rfl)) .none (.int (-1) u) .none (by simp) (fun D s' F' => h₂ D s' (F'.imp .head fun o ho => ⟨vs.dropLast, strs_init hss, ?_⟩)) fun i => .inl rfl
  rw [pick_init] at ho
  exact ho
end
end

section
open PySem PySem.W PySem.Spec PySem.Calls PyProof.Rows
set_option Elab.async false
set_option maxRecDepth 100000
set_option maxHeartbeats 0
noncomputable def LI (o : Obj) : Prop := ∃ vs ns, IntsAre vs ns ∧ vs.length ≤ 1000 ∧ o.cls = .type "list" ∧ ∃ m, o.data = .seq vs.toArray m
theorem filterMap_le {α β : Type} (f : α → Option β) : ∀ l : List α, (l.filterMap f).length ≤ l.length := fun l => List.length_filterMap_le f l
section
variable {w : World} {A : Around} {B s : Shared} {own own' : Led} {E : Value → Shared → Prop} {env : Env} {L l : Addr} {pos : Pos} {t u : Tok} {Q : Value → Shared → Prop} {value slice : Expr}
theorem Fm.hasLI (F : Fm w B s own) (h : Has B own l LI) : ∃ vs ns, IntsAre vs ns ∧ vs.length ≤ 1000 ∧ s.heap.IsList l vs.toArray := by
  obtain ⟨o, e, vs, ns, h1, h2, hc, m, hd⟩ := F.has h
  exact ⟨vs, ns, h1, h2, _, e, hc, m, hd⟩
theorem pick_le {vs : List Value} {lo hi st : Option Int} (h : vs.length ≤ 1000) (h1 : ∀ k, st = some k → 1 ≤ k) : (slicePick vs.toArray lo hi st).toList.length ≤ 1000 := by
  have key : ∀ (a b c : Int), 0 ≤ a → b ≤ 1000 → 1 ≤ c → (sliceRange a b c).length ≤ 1000 := by
    intro a b c ha hb hc
    unfold sliceRange
    rw [List.length_map, List.length_range, if_pos (by omega)]
    split
    · have := ceilDiv_le (b - a) c (by omega) hc
      omega
    · omega
  unfold slicePick
  refine Nat.le_trans ?_ (key (sliceBounds lo hi st vs.toArray.size).1 (sliceBounds lo hi st vs.toArray.size).2.1 (sliceBounds lo hi st vs.toArray.size).2.2 ?_ ?_ ?_)
  · simpa using List.length_filterMap_le _ _
  all_goals
    have hs : vs.toArray.size ≤ 1000 := by simpa using h
    generalize vs.toArray.size = n at hs
    have hst : 1 ≤ st.getD 1 := by cases st with
      | none => exact Int.le_refl 1
      | some k => exact h1 k rfl
    unfold sliceBounds
    have hpos : st.getD 1 > 0 := by omega
    simp only [hpos, if_true]
    first
    | exact hst
    | (cases lo with
        | none => exact Int.le_refl 0
        | some i => exact Int.le_max_left _ _)
    | (cases hi with
        | none => show (n : Int) ≤ 1000; omega
        | some i => show max 0 (min (if i < 0 then i + ↑n else i) ↑n) ≤ 1000; omega)
theorem li_pick {vs : List Value} {ns : List Int} {lo hi st : Option Int} (h : IntsAre vs ns) (hl : vs.length ≤ 1000) (h1 : ∀ k, st = some k → 1 ≤ k) {o : Obj} (ho : LstP (slicePick vs.toArray lo hi st).toList o) : LI o := by
  obtain ⟨m, rfl⟩ := ho
  exact ⟨_, _, h.pick lo hi st, pick_le hl h1, rfl, m, rfl⟩
inductive PreI (w : World) (B : Shared) (Q : Value → Shared → Prop) (o j : Value) (s₂ : Shared) : Prop
  | mk (l : Addr) (i : Int) (u : Tok) (own' : Led) (e1 : o = .ref l) (e2 : j = .int i u) (F : Fm w B s₂ own') (hl : Has B own' l LI) (h : ∀ D s', Fm w B s' ((D, LI) :: own') → Q (.ref D) s')
theorem e_preI {e : Expr} {p : Pos} (h : wpAny (Md w) A (eval value env) (KN (Md w) A E env e (PreI w B Q)) E s) :
    wpAny (Md w) A (eval (.Subscript value (.Slice none (some e) none p) pos) env) Q E s := by
  refine Subscript_ (wpAny_mono h (fun o s₁ h₁ => ?_) fun _ _ e => e)
  refine wpAny_Slice (evalPart_none_step (evalPart_some_step (wpAny_mono h₁ (fun j s₂ h₂ => evalPart_none_step ?_) fun _ _ e => e)))
  obtain ⟨l, i, u, own', rfl, rfl, F, hl, h₂⟩ := h₂
  obtain ⟨vs, ns, q1, q2, q3⟩ := F.hasLI hl
  exact o_lslI F q3 (Nat.le_trans q2 (Nat.le_of_ble_eq_true rfl)) .none (.int i u) .none (by simp) (fun D s' F' => h₂ D s' (F'.imp .head fun o ho => li_pick q1 q2 (by simp) ho)) fun i => .inl rfl
inductive StepI (w : World) (B : Shared) (Q : Value → Shared → Prop) (o a j : Value) (s₃ : Shared) : Prop
  | mk (l : Addr) (i : Int) (u : Tok) (i' : Int) (u' : Tok) (own' : Led) (e1 : o = .ref l) (e2 : a = .int i' u') (e3 : j = .int i u) (h0 : 1 ≤ i) (F : Fm w B s₃ own') (hl : Has B own' l LI) (h : ∀ D s', Fm w B s' ((D, LI) :: own') → Q (.ref D) s')
theorem e_stepI {e e' : Expr} {p : Pos} (h : wpAny (Md w) A (eval value env) (KN (Md w) A E env e fun o a s₂ => wpAny (Md w) A (eval e' env) (StepI w B Q o a) E s₂) E s) :
    wpAny (Md w) A (eval (.Subscript value (.Slice (some e) none (some e') p) pos) env) Q E s := by
  refine Subscript_ (wpAny_mono h (fun o s₁ h₁ => ?_) fun _ _ e => e)
  refine wpAny_Slice (evalPart_some_step (wpAny_mono h₁ (fun a s₂ h₂ => evalPart_none_step (evalPart_some_step (wpAny_mono h₂ (fun j s₃ h₃ => ?_) fun _ _ e => e))) fun _ _ e => e))
  obtain ⟨l, i, u, i', u', own', rfl, rfl, rfl, h0, F, hl, h₃⟩ := h₃
  obtain ⟨vs, ns, q1, q2, q3⟩ := F.hasLI hl
  exact o_lslI F q3 (Nat.le_trans q2 (Nat.le_of_ble_eq_true rfl)) (.int i' u') .none (.int i u) (by simp; omega) (fun D s' F' => h₃ D s' (F'.imp .head fun o ho => li_pick q1 q2 (fun k hk => by cases hk; exact h0) ho)) fun i => .inr rfl
theorem o_sumLI (hh : A.handled = none) (F : Fm w B s own) (hl : Has B own l LI) (h : ∀ (z : Int) t' s', Fm w B s' own → Q (.int z t') s') :
    wpAny (Md w) A (call (.builtin "sum") [.ref l]) Q E s := by
  obtain ⟨vs, ns, q1, q2, hl'⟩ := F.hasLI hl
  obtain ⟨xs, hx⟩ := q1.allInts.items
  rw [hx] at hl'
  exact sum_intListG hh hl' fun h' tk t' hk => h _ _ _ (F.ext ⟨hk, rfl, rfl⟩)
end
/-! the law's own frame -/
noncomputable def lEnv (w : World) (L fa : Addr) (cd : Value) : Env := envOfC "law" (fdOf (KH w.params) 259).scope L fa cd
noncomputable def lawB (w : World) : List Stmt := bodyOf (fdOf (KH w.params) 259)
noncomputable abbrev lawKs : List (Str × NameKind) := [(Str.ofString "script", .local), (Str.ofString "seeds", .cell), (Str.ofString "k", .local), (Str.ofString "rows", .local), (Str.ofString "picks", .cell), (Str.ofString "items", .local), (Str.ofString "tree", .cell), (Str.ofString "row", .local), (Str.ofString "names", .cell), (Str.ofString "due", .local), (Str.ofString "held", .local), (Str.ofString "bare", .local), (Str.ofString "below", .local), (Str.ofString "looked", .local), (Str.ofString "paths", .local), (Str.ofString "frozen", .local), (Str.ofString "loose", .local),
  (Str.ofString "range", .globalImplicit), (Str.ofString "abs", .globalImplicit), (Str.ofString "sum", .globalImplicit), (Str.ofString "_law_names", .globalImplicit), (Str.ofString "len", .globalImplicit), (Str.ofString "sorted", .globalImplicit), (Str.ofString "_law_book", .globalImplicit), (Str.ofString "_law_walk", .globalImplicit), (Str.ofString "_law_rows", .globalImplicit)]
noncomputable abbrev lawCl (L : Addr) : List (Str × Addr) := [(Str.ofString "names", L + 4), (Str.ofString "tree", L + 3), (Str.ofString "picks", L + 2), (Str.ofString "seeds", L + 1)]
theorem law_chk (P : Params) : chk (fdOf (KH P) 259).scope lawKs = true := by kernel_rfl
theorem law_ks (w : World) (L fa : Addr) (cd : Value) : Ks (lEnv w L fa cd) L (lawCl L) lawKs := by
  refine ⟨by kernel_rfl, rfl, rfl, rfl, fun p hp => ?_, kinds_of (law_chk w.params)⟩
  have e : (lEnv w L fa cd).cells = lawCl L := by kernel_rfl
  rw [e]
  exact look_of (by kernel_rfl) p hp
end

section
open PySem PySem.W PySem.Spec PySem.Calls PyProof.Rows
set_option Elab.async false
set_option maxRecDepth 100000
set_option maxHeartbeats 0
theorem g_abs : Glo (PySem.Str.ofString "abs") (.builtin "abs") := Glo.ofB (fun _ => by kernel_rfl) (by kernel_rfl) (by decide +kernel)
theorem g_sum : Glo (PySem.Str.ofString "sum") (.builtin "sum") := Glo.ofB (fun _ => by kernel_rfl) (by kernel_rfl) (by decide +kernel)
noncomputable abbrev cells4 (L : Addr) (vn vt vp vs : Option Value) (own : Led) : Led := (L + 4, CellP vn) :: (L + 3, CellP vt) :: (L + 2, CellP vp) :: (L + 1, CellP vs) :: own
theorem law_s0 {w : World} {A : Around} {B s : Shared} {n : Nat} {Q : Flow → Shared → Prop} {E : Value → Shared → Prop} {L fa ref : Addr} {cd : Value} {own : Led} (hA : Rm A n)
    (F : Fm w B s ((L, NsP [(Str.ofString "script", .ref ref)]) :: cells4 L none none none none own)) (hr : ∀ own, Has B own ref LI)
    (h : ∀ s' ls, Fm w B s' ((L, NsP []) :: (ls, LNn 5) :: cells4 L none none none (some (.ref ls)) own) → wpAny (Md w) A (execs ((lawB w).drop 2) (lEnv w L fa cd)) Q E s') :
    wpAny (Md w) A (execs ((lawB w).drop 0) (lEnv w L fa cd)) Q E s := by
  have hk := law_ks w L fa cd
  conv in List.drop 0 _ => whnf
  with_reducible refine x_assign (e_list (B := B) (ev_cons (e_int F ?_)))
  intro t1 s1 F1
  with_reducible refine ev_cons (e_int F1 ?_)
  intro t2 s2 F2
  with_reducible refine ev_cons (e_int F2 ?_)
  intro t3 s3 F3
  with_reducible refine ev_cons (e_int F3 ?_)
  intro t4 s4 F4
  with_reducible refine ev_cons (e_int F4 ?_)
  intro t5 s5 F5
  with_reducible refine ev_nil ⟨_, F5, Nat.le_of_ble_eq_true rfl, ?_⟩
  intro ls s6 F6
  have F7 := F6.imp (P' := LNn 5) .head (fun o ⟨m, ho⟩ => by
    subst ho
    exact ⟨_, [3856, 553, 2675, 322, 2372], rfl, .cons 3856 t1 (.cons 553 t2 (.cons 2675 t3 (.cons 322 t4 (.cons 2372 t5 .nil)))), rfl, m, rfl⟩)
  clear F1 F2 F3 F4 F5 F6
  with_reducible refine st_cell F7 hk (by kd_mem) (by kd_mem) (by kd_all) ?_
  intro s8 F8
  with_reducible refine x_for (B := B) hA (c_glo F8 hk (by kd_mem) g_range (cw_ty (ev_cons (e_int F8 ?_))))
  intro t9 s9 F9
  refine ev_nil (o_range1 (b := 5) F9 ?_)
  intro r s10 F10
  clear F F7 F8 F9
  have F11 : Fm w B s10 ((r, RngP 0 (0 + (5 : Nat)) 1) :: (L, NsP [(Str.ofString "script", .ref ref)]) :: (ls, LNn 5) :: cells4 L none none none (some (.ref ls)) own) := F10.sel (by kqd_all)
  clear F10
  with_reducible refine ⟨_, _, _, _, _, srcRng (a := 0) (n := 5) (by omega) (by omega), F11, .led (by kd_mem), fun i own' => own' = (r, RngP 0 (0 + (5 : Nat)) 1) :: (L, NsP [(Str.ofString "script", .ref ref)]) :: (ls, LNn 5) :: cells4 L none none none (some (.ref ls)) own, ?_, ?_, ?_, ?_⟩
  · exact rfl
  · rintro i own' rfl
    exact .led (by kd_mem)
  · rintro it i v own' s12 Kx hKx hi rfl F12 ⟨t12, rfl⟩
    clear F11
    have ei : (0 : Int) + (i : Int) = (i : Int) := by omega
    rw [ei]
    with_reducible refine turn ?_
    kst_all
    rename_i s13 F13
    with_reducible refine x_augsub (e_cell F13 hk (by kd_mem) (by kd_mem) (.led (by kd_mem)) ?_)
    kst_mem
    with_reducible refine o_giN F13 (.led (by kd_mem)) hi (by omega) ?_
    intro z tz
    with_reducible refine c_glo F13 hk (by kd_mem) g_abs (cw_bi (ev_cons (c_glo F13 hk (by kd_mem) g_sum (cw_bi (ev_cons (e_stepI (B := B) (e_preI (B := B) ?_)))))))
    kst_mem
    with_reducible refine e_int F13 ?_; intro t14 s14 F14
    with_reducible refine ⟨_, _, _, _, rfl, rfl, F14, hr _, ?_⟩
    intro D1 s15 F15
    kst_mem
    with_reducible refine e_int F15 ?_; intro t16 s16 F16
    with_reducible refine ⟨_, _, _, _, _, _, rfl, rfl, rfl, by omega, F16, .led (by kd_mem), ?_⟩
    intro D2 s17 F17
    with_reducible refine ev_nil (o_sumLI hA.h F17 (.led (by kd_mem)) ?_)
    intro z2 t18 s18 F18
    with_reducible refine ev_nil (o_absN F18 ?_)
    intro z3 t19 s19 F19
    with_reducible refine o_iaddN F19 ?_
    intro t20 s20 F20
    with_reducible refine o_siN F20 (by kd_mem) hi (by omega) ?_
    intro s21 F21
    with_reducible refine x_nil (ec_next (hKx _ _ rfl ?_))
    exact (F21.nsw (bs' := [(Str.ofString "script", .ref ref)]) (by kd_all) (by kqd_sub)).sel (by kqd_all)
  · rintro own' s12 rfl F12
    exact h s12 ls ((F12.nsw (bs' := []) (by kd_all) (by kqd_sub)).sel (by kqd_all))
end

section
open PySem PySem.W PySem.Spec PySem.Calls PyProof.Rows
set_option Elab.async false
set_option maxRecDepth 100000
set_option maxHeartbeats 0
noncomputable def figs : List Str := [Str.ofString "a", Str.ofString "b", Str.ofString "ab", Str.ofString ".a", Str.ofString "*", Str.ofString "..", Str.ofString ".", Str.ofString ""]
structure RowOk (z : List Str) : Prop where
  len : z.length = 4
  mem : ∀ x ∈ z, x ∈ figs
inductive RwI (c D0 L ls : Addr) (own : Led) (i : Nat) (ys : List Value) (own' : Led) : Prop
  | mk (T : Fam) (pv : Option Value) (e1 : ys = famV T) (h1 : T.length = i) (h2 : ∀ p ∈ T, RowOk p.2) (e2 : own' = (c, CellP pv) :: (D0, LNn 4) :: (L, NsP []) :: (ls, LNn 5) :: cells4 L none none none (some (.ref ls)) (famR T ++ own))
inductive RwJ (T : Fam) (z : Nat) (tz : Tok) (r C it D0 D c L ls : Addr) (i : Nat) (own : Led) (j : Nat) (ys : List Value) (own' : Led) : Prop
  | mk (zs : List Str) (h1 : StrsAre ys zs) (h2 : zs.length = j) (h3 : ∀ z ∈ zs, z ∈ figs) (e : own' = (r, RngP 0 (0 + (4 : Nat)) 1) :: (C, NsP []) :: (it, ItP D0 (i + 1)) :: (D, LstP (famV T)) :: (c, CellP (some (.int z tz))) :: (D0, LNn 4) :: (L, NsP []) :: (ls, LNn 5) :: cells4 L none none none (some (.ref ls)) (famR T ++ own))
theorem law_s1 {w : World} {A : Around} {B s : Shared} {n : Nat} {Q : Flow → Shared → Prop} {E : Value → Shared → Prop} {L fa ls : Addr} {cd : Value} {own : Led} (hA : Rm A n)
    (F : Fm w B s ((L, NsP []) :: (ls, LNn 5) :: cells4 L none none none (some (.ref ls)) own))
    (h : ∀ s' D T, T.length = 4 → (∀ p ∈ T, RowOk p.2) → Fm w B s' ((L, NsP [(Str.ofString "rows", .ref D)]) :: (D, LstP (famV T)) :: (ls, LNn 5) :: cells4 L none none none (some (.ref ls)) (famR T ++ own)) → wpAny (Md w) A (execs ((lawB w).drop 3) (lEnv w L fa cd)) Q E s') :
    wpAny (Md w) A (execs ((lawB w).drop 2) (lEnv w L fa cd)) Q E s := by
  have hbig : 100000 ≤ sizeLine := Nat.le_of_ble_eq_true rfl
  have hk := law_ks w L fa cd
  conv in List.drop 2 _ => whnf
  with_reducible refine x_compC (B := B) (cn := Str.ofString "x") (cl := []) (ks' := [(Str.ofString "x", .cell), (Str.ofString "range", .globalImplicit)]) hA hk (by kernel_rfl) (by kernel_rfl) (by kernel_rfl) (by kernel_rfl) ?_
  with_reducible refine e_preNn (B := B) (e_cell F hk (by kd_mem) (by kd_mem) (.led (by kd_mem)) (e_int F ?_))
  intro t1 s1 F1
  refine ⟨ls, 5, 4, t1, _, rfl, rfl, F1, .led (by kd_mem), by omega, ?_⟩
  intro D0 s2 F2
  clear F F1
  with_reducible refine ⟨_, _, _, _, _, srcNn (n := 4), by omega, F2, .led (by kd_mem), fun _ _ h => h.cons, fun C it D c hkc => ⟨RwI c D0 L ls own, ?_, ?_, ?_, ?_⟩⟩
  · exact ⟨[], none, rfl, rfl, fun p hp => (by cases hp), rfl⟩
  · rintro i ys own' ⟨T, pv, _, _, _, rfl⟩
    exact .led (by kd_mem)
  · rintro i v ys own' s3 Ky Kn hKy hKn hi ⟨T, pv, rfl, hT, hok, rfl⟩ hlen F3 ⟨z, tz, rfl⟩
    clear F2
    with_reducible refine ct_none ?_
    with_reducible refine st_cell F3 hkc (by kd_mem) (by kd_mem) (by kd_all) ?_
    intro s4 F4
    with_reducible refine e_comp (B := B) (cl := [(Str.ofString "x", c)]) (ks' := [(Str.ofString "k", .local), (Str.ofString "x", .cell)]) hA hkc (by kernel_rfl) (by kernel_rfl) (by kernel_rfl) (by kernel_rfl) ?_
    with_reducible refine c_glo F4 hkc (by kd_mem) g_range (cw_ty (ev_cons (e_int F4 ?_)))
    intro t5 s5 F5
    refine ev_nil (o_range1 (b := 4) F5 ?_)
    intro r s6 F6
    clear F3 F4 F5
    with_reducible refine ⟨_, _, _, _, _, srcRng (a := 0) (n := 4) (by omega) (by omega), by omega, F6, .led (by kd_mem), fun _ _ h => h.cons, fun C2 it2 D2 hkc2 => ⟨RwJ T z tz r C it D0 D c L ls i own, ?_, ?_, ?_, ?_⟩⟩
    · exact ⟨[], .nil, rfl, fun z hz => (by cases hz), rfl⟩
    · rintro j ys own' ⟨zs, _, _, _, rfl⟩
      exact .led (by kd_mem)
    · rintro j v2 ys own' s7 Ky Kn hKy hKn hj ⟨zs, hys, hzl, hzf, rfl⟩ hlen2 F7 ⟨t7, rfl⟩
      clear F6
      have ei : (0 : Int) + (j : Int) = (j : Int) := by omega
      rw [ei]
      with_reducible refine ct_none ?_
      kst_all
      rename_i s8 F8
      with_reducible refine e_sub (e_strs F8 (zs := figs) (by kernel_rfl) (Nat.le_of_ble_eq_true rfl) ?_)
      intro m8 s9 F9
      with_reducible refine o_bin (o_bin (e_cell F9 hkc2 (by kd_mem) (by kd_mem) (.led (by kd_mem)) (o_bin (e_int F9 ?_))))
      intro t10 s10 F10
      kst_mem
      refine o_powN (a := 8) (b := j) F10 (by omega) (by omega) ?_
      intro t11 s11 F11
      refine o_divN F11 (Nat.pos_iff_ne_zero.mp (Nat.pow_pos (by omega))) (Nat.lt_of_le_of_lt (Nat.pow_le_pow_right (by omega) (show j ≤ 4 by omega)) (by decide)) ?_
      intro t12 s12 F12
      with_reducible refine e_int F12 ?_
      intro t13 s13 F13
      refine o_modN (b := 8) F13 (by omega) ?_
      intro t14 s14 F14
      have hm : z / 8 ^ j % 8 < 8 := Nat.mod_lt _ (by omega)
      generalize z / 8 ^ j % 8 = m at hm F14
      have hf : figs[m]? = some (figs.getD m Str.empty) := by
        rw [List.getD_eq_getElem?_getD, List.getElem?_eq_getElem (show m < figs.length from hm)]; rfl
      with_reducible refine o_liS F14 (.led (by kd_mem)) (by omega) hf ?_
      intro t15
      refine hKy _ _ _ _ ⟨zs ++ [figs.getD m Str.empty], strs_app hys (.cons _ _ .nil), by simp [hzl], fun q hq => ?_, rfl⟩ (F14.weak (.cons _ (List.Sublist.refl _)))
      rcases List.mem_append.mp hq with hq | hq
      · exact hzf q hq
      · rw [List.mem_singleton.mp hq]; exact List.mem_of_getElem? hf
    · rintro ys own' s7 ⟨zs, hys, hzl, hzf, rfl⟩ hlen2 F7
      have F8 := F7.imp (P' := LS zs) .head (fun o ho => ⟨ys, hys, ho⟩)
      refine hKy _ _ [] _ ⟨T ++ [(D2, zs)], some (.int z tz), (famV_snoc ..).symm, by simp [hT], fun p hp => ?_, rfl⟩ ?_
      · rcases List.mem_append.mp hp with hp | hp
        · exact hok p hp
        · rw [List.mem_singleton.mp hp]; exact ⟨hzl, hzf⟩
      · have F9 := F8.sel (own' := (D2, LS zs) :: (C, NsP []) :: (it, ItP D0 (i + 1)) :: (D, LstP (famV T)) :: (c, CellP (some (.int z tz))) :: (D0, LNn 4) :: (L, NsP []) :: (ls, LNn 5) :: cells4 L none none none (some (.ref ls)) (famR T ++ own)) (by kqd_all)
        exact F9.snocF (pre := [(C, NsP []), (it, ItP D0 (i + 1)), (D, LstP (famV T)), (c, CellP (some (.int z tz))), (D0, LNn 4), (L, NsP []), (ls, LNn 5), (L + 4, CellP none), (L + 3, CellP none), (L + 2, CellP none), (L + 1, CellP (some (.ref ls)))]) (rest := own) rfl
  · rintro ys own' s3 ⟨T, pv, rfl, hT, hok, rfl⟩ hlen F3
    kst_all
    rename_i s4 F4
    refine ⟨_, _, F4, fun s5 F5 => ?_⟩
    exact h s5 D T hT hok (F5.sel (by kqd_all))
end

section
open PySem PySem.W PySem.Spec PySem.Calls PyProof.Rows
set_option Elab.async false
set_option maxRecDepth 100000
set_option maxHeartbeats 0
noncomputable abbrev itemOf (p : Nat) : Str := itemsL.getD p Str.empty
theorem law_s2 {w : World} {A : Around} {B s : Shared} {n : Nat} {Q : Flow → Shared → Prop} {E : Value → Shared → Prop} {L fa ls Dr : Addr} {cd : Value} {own : Led} (hA : Rm A n)
    (F : Fm w B s ((L, NsP [(Str.ofString "rows", .ref Dr)]) :: (ls, LNn 5) :: cells4 L none none none (some (.ref ls)) own))
    (h : ∀ s' lp ps, ps.length ≤ 3 → (∀ p ∈ ps, p ≤ 9) → Fm w B s' ((L, NsP [(Str.ofString "rows", .ref Dr)]) :: (lp, LN ps) :: cells4 L none none (some (.ref lp)) (some (.ref ls)) own) → wpAny (Md w) A (execs ((lawB w).drop 4) (lEnv w L fa cd)) Q E s') :
    wpAny (Md w) A (execs ((lawB w).drop 3) (lEnv w L fa cd)) Q E s := by
  have hbig : 100000 ≤ sizeLine := Nat.le_of_ble_eq_true rfl
  have hk := law_ks w L fa cd
  conv in List.drop 3 _ => whnf
  with_reducible refine x_assign (e_comp (B := B) (cl := [(Str.ofString "seeds", L + 1)]) (ks' := [(Str.ofString "k", .local), (Str.ofString "seeds", .cell)]) hA hk (by kernel_rfl) (by kernel_rfl) (by kernel_rfl) (by kernel_rfl) ?_)
  with_reducible refine c_glo F hk (by kd_mem) g_range (cw_ty (ev_cons (o_bin (e_int F ?_))))
  intro t1 s1 F1
  with_reducible refine o_bin (e_sub (e_cell F1 hk (by kd_mem) (by kd_mem) (.led (by kd_mem)) (e_int F1 ?_)))
  intro t2 s2 F2
  refine o_liN (n := 5) (i := 4) F2 (.led (by kd_mem)) (by omega) (by omega) ?_
  intro z3 tz3
  with_reducible refine e_int F2 ?_
  intro t4 s4 F4
  refine o_modN (b := 3) F4 (by omega) ?_
  intro t5 s5 F5
  with_reducible refine o_addi F5 ?_
  intro t6 s6 F6
  have hm : z3 % 3 < 3 := Nat.mod_lt _ (by omega)
  generalize z3 % 3 = m at hm
  refine ev_nil (o_range1 (b := 1 + m) F6 ?_)
  intro r s7 F7
  clear F F1 F2 F4 F5 F6
  with_reducible refine ⟨_, _, _, _, _, srcRng (a := 0) (n := 1 + m) (by omega) (by omega), by omega, F7, .led (by kd_mem), fun _ _ h => h.cons, fun C it D hkc => ⟨fun j ys own' => ∃ ps, NatsAre ys ps ∧ ps.length = j ∧ (∀ p ∈ ps, p ≤ 9) ∧ own' = (r, RngP 0 (0 + (1 + m : Nat)) 1) :: (L, NsP [(Str.ofString "rows", .ref Dr)]) :: (ls, LNn 5) :: cells4 L none none none (some (.ref ls)) own, ?_, ?_, ?_, ?_⟩⟩
  · exact ⟨[], .nil, rfl, fun p hp => (by cases hp), rfl⟩
  · rintro j ys own' ⟨ps, _, _, _, rfl⟩
    exact .led (by kd_mem)
  · rintro j v ys own' s8 Ky Kn hKy hKn hj ⟨ps, hys, hpl, hp9, rfl⟩ hlen F8 ⟨t8, rfl⟩
    clear F7
    have ei : (0 : Int) + (j : Int) = (j : Int) := by omega
    rw [ei]
    with_reducible refine ct_none ?_
    kst_all
    rename_i s9 F9
    with_reducible refine o_bin (o_bin (o_bin (e_sub (e_cell F9 hkc (by kd_mem) (by kd_mem) (.led (by kd_mem)) (e_int F9 ?_)))))
    intro t10 s10 F10
    refine o_liN (n := 5) (i := 4) F10 (.led (by kd_mem)) (by omega) (by omega) ?_
    intro z11 tz11
    with_reducible refine e_int F10 ?_
    intro t11 s11 F11
    refine o_divN (b := 3) F11 (by omega) (by omega) ?_
    intro t12 s12 F12
    with_reducible refine o_bin (e_int F12 ?_)
    intro t13 s13 F13
    kst_mem
    refine o_powN (a := 10) (b := j) F13 (by omega) (by omega) ?_
    intro t14 s14 F14
    refine o_divN F14 (Nat.pos_iff_ne_zero.mp (Nat.pow_pos (by omega))) (Nat.lt_of_le_of_lt (Nat.pow_le_pow_right (by omega) (show j ≤ 4 by omega)) (by decide)) ?_
    intro t15 s15 F15
    with_reducible refine e_int F15 ?_
    intro t16 s16 F16
    refine o_modN (b := 10) F16 (by omega) ?_
    intro t17 s17 F17
    have hq : z11 / 3 / 10 ^ j % 10 < 10 := Nat.mod_lt _ (by omega)
    generalize z11 / 3 / 10 ^ j % 10 = q at hq
    refine hKy _ _ _ _ ⟨ps ++ [q], nats_app hys (.cons q t17 .nil), by simp [hpl], fun p hp => ?_, rfl⟩ F17
    rcases List.mem_append.mp hp with hp | hp
    · exact hp9 p hp
    · rw [List.mem_singleton.mp hp]; omega
  · rintro ys own' s8 ⟨ps, hys, hpl, hp9, rfl⟩ hlen F8
    have F9 := F8.imp (P' := LN ps) .head (fun o ho => ⟨ys, hys, ho⟩)
    with_reducible refine st_cell F9 hk (by kd_mem) (by kd_mem) (by kd_all) ?_
    intro s10 F10
    exact h s10 D ps (by omega) hp9 (F10.sel (by kqd_all))
theorem law_s3 {w : World} {A : Around} {B s : Shared} {n : Nat} {Q : Flow → Shared → Prop} {E : Value → Shared → Prop} {L fa lp Dr : Addr} {vs : Option Value} {ps : List Nat} {cd : Value} {own : Led} (hA : Rm A n) (hl : ps.length ≤ 3) (h9 : ∀ p ∈ ps, p ≤ 9)
    (F : Fm w B s ((L, NsP [(Str.ofString "rows", .ref Dr)]) :: (lp, LN ps) :: cells4 L none none (some (.ref lp)) vs own))
    (h : ∀ s' li, Fm w B s' ((L, NsP [(Str.ofString "items", .ref li), (Str.ofString "rows", .ref Dr)]) :: (li, LS (ps.map itemOf)) :: (lp, LN ps) :: cells4 L none none (some (.ref lp)) vs own) → wpAny (Md w) A (execs ((lawB w).drop 5) (lEnv w L fa cd)) Q E s') :
    wpAny (Md w) A (execs ((lawB w).drop 4) (lEnv w L fa cd)) Q E s := by
  have hbig : 100000 ≤ sizeLine := Nat.le_of_ble_eq_true rfl
  have hk := law_ks w L fa cd
  conv in List.drop 4 _ => whnf
  with_reducible refine x_comp (B := B) (cl := []) (ks' := [(Str.ofString "pick", .local)]) hA hk (by kernel_rfl) (by kernel_rfl) (by kernel_rfl) (by kernel_rfl) ?_
  with_reducible refine e_cell F hk (by kd_mem) (by kd_mem) (.led (by kd_mem)) ?_
  with_reducible refine ⟨_, _, _, _, _, srcN (l := lp) (ps := ps), by omega, F, .led (by kd_mem), fun _ _ h => h.cons, fun C it D hkc => ⟨fun j ys own' => StrsAre ys ((ps.take j).map itemOf) ∧ own' = (L, NsP [(Str.ofString "rows", .ref Dr)]) :: (lp, LN ps) :: cells4 L none none (some (.ref lp)) vs own, ?_, ?_, ?_, ?_⟩⟩
  · exact ⟨.nil, rfl⟩
  · rintro j ys own' ⟨_, rfl⟩
    exact .led (by kd_mem)
  · rintro j v ys own' s2 Ky Kn hKy hKn hj ⟨hys, rfl⟩ hlen F2 ⟨q, tq, rfl, hq⟩
    have hq9 := h9 q (List.mem_of_getElem? hq)
    with_reducible refine ct_none ?_
    kst_all
    rename_i s3 F3
    with_reducible refine e_sub (e_strs F3 (zs := itemsL) (by kernel_rfl) (Nat.le_of_ble_eq_true rfl) ?_)
    intro m4 s4 F4
    kst_mem
    have hf : itemsL[q]? = some (itemOf q) := by
      unfold itemOf
      rw [List.getD_eq_getElem?_getD, List.getElem?_eq_getElem (show q < itemsL.length from Nat.lt_of_le_of_lt hq9 (by decide))]; rfl
    with_reducible refine o_liS F4 (.led (by kd_mem)) (by omega) hf ?_
    intro t5
    refine hKy _ _ _ _ ⟨?_, rfl⟩ (F4.weak (.cons _ (List.Sublist.refl _)))
    rw [List.take_add_one, hq, List.map_append]
    exact strs_app hys (.cons _ _ .nil)
  · rintro ys own' s2 ⟨hys, rfl⟩ hlen F2
    rw [List.take_of_length_le (Nat.le_refl _)] at hys
    have F3 := F2.imp (P' := LS (ps.map itemOf)) (.tail .head) (fun o ho => ⟨ys, hys, ho⟩)
    kst_all
    rename_i s4 F4
    refine ⟨_, _, F4, fun s5 F5 => ?_⟩
    exact h s5 D (F5.sel (by kqd_all))
end

section
open PySem PySem.W PySem.Spec PySem.Calls PyProof.Rows
set_option Elab.async false
set_option maxRecDepth 100000
set_option maxHeartbeats 0
theorem fills_list_iadd : fillsInplaceSlot (.type "list") "add" (Operator.Add == .Add) = pure false := by
  unfold fillsInplaceSlot
  show (typeLookup (.type "list") (dunderI "add") >>= fun fi => pure (fi.isSome && !isSeqSlot fi)) = pure false
  rw [typeLookup_type, builtinLookup_eq_fast]
  kernel_rfl
theorem seq_list_iadd : seqSlot? (.type "list") (dunderI "add") = pure (some (.builtin "list.__iadd__")) := by
  unfold seqSlot?
  rw [typeLookup_type, builtinLookup_eq_fast]
  kernel_rfl
section
variable {w : World} {A : Around} {B s : Shared} {own own' : Led} {E Q : Value → Shared → Prop} {l b : Addr} {xs ys : List Value}
theorem o_iaddL (F : Fm w B s own) (U : UpdE l (LstP xs) (LstP (xs ++ ys)) own own') (hb : Has B own b (LstP ys)) (hz : xs.length + ys.length ≤ 10000) (h : ∀ s', Fm w B s' own' → Q (.ref l) s') :
    wpAny (Md w) A (inplaceOp .Add (.ref l) (.ref b)) Q E s := by
  obtain ⟨o1, e1, n1, rfl⟩ := F.sat _ U.mem
  obtain ⟨o2, e2, n2, rfl⟩ := F.has hb
  have hbig : 100000 ≤ sizeLine := Nat.le_of_ble_eq_true rfl
  have hT1 : s.TypeIs (.ref l) "list" := ⟨_, e1, rfl⟩
  have hT2 : s.TypeIs (.ref b) "list" := ⟨_, e2, rfl⟩
  have hls : ¬(!(xs.toArray).isEmpty && Builtin.List.listTooLong (xs.toArray.size + ys.toArray.size)) = true := by
    have : Builtin.List.listTooLong (xs.toArray.size + ys.toArray.size) = false := by
      unfold Builtin.List.listTooLong
      simp only [List.size_toArray]
      first
      | exact decide_eq_false (by omega)
      | (simp only [decide_eq_false_iff_not]; omega)
    rw [this, Bool.and_false]; exact Bool.false_ne_true
  unfold inplaceOp
  refine wpAny_holding ?_
  refine wpAny_bind (wpAny_typeOf hT1 (wpAny_bind (wpAny_of_eq fills_list_iadd ?_)))
  show wpAny _ A (if false = true then _ else _) Q E s
  rw [if_neg Bool.false_ne_true]
  refine wpAny_bind (wpAny_binaryOp1_none (nm := "add") hT1 hT2 noFill_list_add ?_)
  refine wpAny_bind (wpAny_of_eq seq_list_iadd ?_)
  refine wpAny_bind (wpAny_rule ?_)
  refine call_meets PySem.F.slot_list_iadd hT1 PySem.F.entry_list_iadd (PySem.F.args_list_iadd_2 _ _) (PySem.AutoSeq1.list___iadd___list_list_0 l xs.toArray n1 b ys.toArray n2 hls (by rw [List.size_toArray]; omega) (by rw [List.size_toArray, List.size_toArray]; omega)) ⟨e1, e2, ?_⟩
  have eu := get?_update_seq e1 (fun x => x ++ ys.toArray)
  exact h _ (F.upd (t := s.toks) U (Heap.SameBut.update ..) ⟨_, eu, _, by rw [List.append_toArray]⟩)
end
end

section
open PySem PySem.W PySem.Spec PySem.Calls PyProof.Rows
set_option Elab.async false
set_option maxRecDepth 100000
set_option maxHeartbeats 0
noncomputable def five : List Str := [Str.ofString "a", Str.ofString "b", Str.ofString "ab", Str.ofString ".a", Str.ofString "*"]
theorem five_ok : ∀ x ∈ five, OkT x := by
  intro x hx
  simp only [five, List.mem_cons, List.not_mem_nil, or_false] at hx
  rcases hx with rfl | rfl | rfl | rfl | rfl <;> (show PyData.strOk _ = true; kernel_rfl)
structure NodeOk (z : List Str) : Prop where
  len : z.length ≤ 4
  mem : ∀ x ∈ z, x ∈ five
theorem NodeOk.ok {z : List Str} (h : NodeOk z) : ∀ x ∈ z, OkT x := fun x hx => five_ok x (h.mem x hx)
theorem NodeOk.take {z : List Str} (h : NodeOk z) (k : Nat) : NodeOk (z.take k) := ⟨by have := h.len; rw [List.length_take]; omega, fun x hx => h.mem x (List.mem_of_mem_take hx)⟩
theorem NodeOk.nil : NodeOk [] := ⟨Nat.zero_le _, fun x hx => by cases hx⟩
theorem figs_five {x : Str} (h : x ∈ figs) (h1 : (x == Str.ofString "..") = false) (h2 : (x == Str.ofString "") = false) (h3 : (x == Str.ofString ".") = false) : x ∈ five := by
  simp only [figs, List.mem_cons, List.not_mem_nil, or_false] at h
  rcases h with rfl | rfl | rfl | rfl | rfl | rfl | rfl | rfl
  · exact .head _
  · exact .tail _ (.head _)
  · exact .tail _ (.tail _ (.head _))
  · exact .tail _ (.tail _ (.tail _ (.head _)))
  · exact .tail _ (.tail _ (.tail _ (.tail _ (.head _))))
  · rw [beq_self_eq_true] at h1; cases h1
  · rw [beq_self_eq_true] at h3; cases h3
  · rw [beq_self_eq_true] at h2; cases h2
theorem nm_mem : ∀ (zs : List Str) (st : Int × List Str), (∀ x ∈ zs, x ∈ figs) → (∀ x ∈ st.2, x ∈ five) → ∀ x ∈ (zs.foldl nmStep st).2, x ∈ five
  | [], _, _, h => h
  | z :: zs, st, hf, h => by
    rw [List.foldl_cons]
    refine nm_mem zs _ (fun x hx => hf x (.tail _ hx)) ?_
    have hz := hf z (.head _)
    unfold nmStep
    split
    · exact h
    · rename_i h1
      split
      · exact h
      · rename_i h2
        split
        · exact h
        · rename_i h3
          split
          · exact h
          · intro x hx
            rcases List.mem_cons.mp hx with rfl | hx
            · exact figs_five hz (by simpa using h1) (by simpa using h2) (by simpa using h3)
            · exact h x hx
theorem names_ok {z : List Str} (h : RowOk z) : NodeOk (lawNames z) := by
  unfold lawNames
  refine ⟨?_, nm_mem _ _ (fun x hx => h.mem x (List.mem_reverse.mp hx)) fun x hx => by cases hx⟩
  have := nm_len z.reverse (0, [])
  rw [List.length_reverse, h.len] at this
  simpa using this
noncomputable def newOf (tr : List (List Str)) (nm : List Str) (k : Nat) : List (List Str) := ((List.range k).map fun i => nm.take (i + 1)).filter fun z => !decide (z ∈ tr)
noncomputable def tStep (tr : List (List Str)) (row : List Str) : List (List Str) := tr ++ newOf tr (lawNames row) (lawNames row).length
noncomputable def pTree (rows : List (List Str)) : List (List Str) := rows.foldl tStep [[]]
theorem newOf_len (tr : List (List Str)) (nm : List Str) (k : Nat) : (newOf tr nm k).length ≤ k := by
  unfold newOf
  refine Nat.le_trans (List.length_filter_le _ _) ?_
  rw [List.length_map, List.length_range]
  exact Nat.le_refl _
theorem newOf_mem {tr : List (List Str)} {nm : List Str} {k : Nat} {z : List Str} (h : z ∈ newOf tr nm k) : ∃ i, z = nm.take i := by
  unfold newOf at h
  obtain ⟨i, _, rfl⟩ := List.mem_map.mp (List.mem_filter.mp h).1
  exact ⟨_, rfl⟩
theorem newOf_succ (tr : List (List Str)) (nm : List Str) (k : Nat) : newOf tr nm (k + 1) = newOf tr nm k ++ (if nm.take (k + 1) ∈ tr then [] else [nm.take (k + 1)]) := by
  unfold newOf
  rw [List.range_succ, List.map_append, List.filter_append]
  congr 1
  by_cases e : nm.take (k + 1) ∈ tr <;> simp [e]
structure TreeOk (tr : List (List Str)) (n : Nat) : Prop where
  len : tr.length ≤ 1 + 4 * n
  ok : ∀ z ∈ tr, NodeOk z
theorem tree_step {tr : List (List Str)} {n : Nat} {row : List Str} (h : TreeOk tr n) (hr : RowOk row) : TreeOk (tStep tr row) (n + 1) := by
  have hn := names_ok hr
  refine ⟨?_, fun z hz => ?_⟩
  · unfold tStep
    rw [List.length_append]
    have := newOf_len tr (lawNames row) (lawNames row).length
    have := hn.len
    have := h.len
    omega
  · rcases List.mem_append.mp hz with hz | hz
    · exact h.ok z hz
    · obtain ⟨i, rfl⟩ := newOf_mem hz
      exact hn.take i
theorem tree_ok : ∀ (rows : List (List Str)) (tr : List (List Str)) (n : Nat), (∀ r ∈ rows, RowOk r) → TreeOk tr n → TreeOk (rows.foldl tStep tr) (n + rows.length)
  | [], _, _, _, h => h
  | r :: rows, tr, n, hr, h => by
    have := tree_ok rows (tStep tr r) (n + 1) (fun x hx => hr x (.tail _ hx)) (tree_step h (hr r (.head _)))
    rw [List.foldl_cons, List.length_cons]
    rwa [show n + (rows.length + 1) = n + 1 + rows.length by omega]
theorem famR_in {T : Fam} {pre rest : Led} {p : Addr × List Str} (h : p ∈ T) : (p.1, LS p.2) ∈ pre ++ (famR T ++ rest) := List.mem_append_right _ (List.mem_append_left _ (famR_mem h))
theorem pTree_take {rows : List (List Str)} {i : Nat} {r : List Str} (h : rows[i]? = some r) : pTree (rows.take (i + 1)) = tStep (pTree (rows.take i)) r := by
  unfold pTree
  rw [List.take_add_one, h, List.foldl_append]
  rfl
noncomputable abbrev lfI (li Dr : Addr) : List (Str × Value) := [(Str.ofString "items", .ref li), (Str.ofString "rows", .ref Dr)]
inductive TsI (T : Fam) (L li Dr : Addr) (vp vs : Option Value) (own : Led) (i : Nat) (own' : Led) : Prop
  | mk (lt : Addr) (U : Fam) (vn : Option Value) (h : famS U = pTree ((famS T).take i)) (e : own' = (L, NsP (lfI li Dr)) :: (lt, LstP (famV U)) :: (Dr, LstP (famV T)) :: cells4 L vn (some (.ref lt)) vp vs (famR U ++ (famR T ++ own)))
inductive TsJ (T U : Fam) (nm : List Str) (r it L li lt ln Dr : Addr) (vp vs : Option Value) (i : Nat) (own : Led) (j : Nat) (ys : List Value) (own' : Led) : Prop
  | mk (V : Fam) (e1 : ys = famV V) (h : famS V = newOf (famS U) nm j) (e2 : own' = (r, RngP 1 (1 + nm.length) 1) :: (it, ItP Dr (i + 1)) :: (L, NsP (lfI li Dr)) :: (lt, LstP (famV U)) :: (ln, LS nm) :: (Dr, LstP (famV T)) :: cells4 L (some (.ref ln)) (some (.ref lt)) vp vs (famR V ++ (famR U ++ (famR T ++ own))))
theorem law_s5 {w : World} {A : Around} {B s : Shared} {n : Nat} {Q : Flow → Shared → Prop} {E : Value → Shared → Prop} {L fa li lp Dr : Addr} {vs : Option Value} {vp : Option Value} {cd : Value} {own : Led} {T : Fam} (hA : Rm A (n + 1)) (hT : T.length ≤ 4) (hok : ∀ p ∈ T, RowOk p.2)
    (F : Fm w B s ((L, NsP (lfI li Dr)) :: (Dr, LstP (famV T)) :: cells4 L none none vp vs (famR T ++ own)))
    (h : ∀ s' lt U vn, famS U = pTree (famS T) → Fm w B s' ((L, NsP (lfI li Dr)) :: (lt, LstP (famV U)) :: (Dr, LstP (famV T)) :: cells4 L vn (some (.ref lt)) vp vs (famR U ++ (famR T ++ own))) → wpAny (Md w) A (execs ((lawB w).drop 7) (lEnv w L fa cd)) Q E s') :
    wpAny (Md w) A (execs ((lawB w).drop 5) (lEnv w L fa cd)) Q E s := by
  have hbig : 100000 ≤ sizeLine := Nat.le_of_ble_eq_true rfl
  have hk := law_ks w L fa cd
  conv in List.drop 5 _ => whnf
  with_reducible refine x_assign (e_list (B := B) (ev_cons (e_list (B := B) (ev_nil ⟨_, F, Nat.zero_le _, ?_⟩))))
  intro d0 s1 F1
  have F2 := F1.imp (P' := LS []) .head (fun o ho => ⟨[], .nil, ho⟩)
  with_reducible refine ev_nil ⟨_, F2, Nat.le_of_ble_eq_true rfl, ?_⟩
  intro lt s3 F3
  with_reducible refine st_cell F3 hk (by kd_mem) (by kd_mem) (by kd_all) ?_
  intro s4 F4
  with_reducible refine x_for (B := B) hA ?_
  kst_mem
  have F5 : Fm w B s4 ((L, NsP (lfI li Dr)) :: (lt, LstP (famV [(d0, [])])) :: (Dr, LstP (famV T)) :: cells4 L none (some (.ref lt)) vp vs (famR [(d0, [])] ++ (famR T ++ own))) := F4.sel (own' := (L, NsP (lfI li Dr)) :: (lt, LstP [.ref d0]) :: (Dr, LstP (famV T)) :: (L + 4, CellP none) :: (L + 3, CellP (some (.ref lt))) :: (L + 2, CellP vp) :: (L + 1, CellP vs) :: (d0, LS []) :: (famR T ++ own)) (by kqd_all)
  clear F F1 F2 F3 F4
  with_reducible refine ⟨_, _, _, _, _, srcF (l := Dr) (T := T), F5, .led (by kd_mem), TsI T L li Dr vp vs own, ?_, ?_, ?_, ?_⟩
  · exact ⟨lt, [(d0, [])], none, rfl, rfl⟩
  · rintro i own' ⟨lt, U, vn, _, rfl⟩
    exact .led (by kd_mem)
  · rintro it i v own' s6 Kx hKx hi ⟨lt, U, vn, hU, rfl⟩ F6 ⟨p, rfl, hp⟩
    clear F5
    have hpk := hok p (List.mem_of_getElem? hp)
    have htk := pTree_take (famS_at hp)
    have hto : TreeOk (famS U) i := by
      have := tree_ok ((famS T).take i) [[]] 0 (fun r hr => by
        obtain ⟨q, hq, rfl⟩ := List.mem_map.mp (List.mem_of_mem_take hr)
        exact hok q hq) ⟨by simp, fun z hz => by rw [List.mem_singleton.mp hz]; exact .nil⟩
      rw [hU]
      unfold pTree
      have e : ((famS T).take i).length = i := by rw [List.length_take, famS_len]; omega
      rw [e] at this
      simpa using this
    with_reducible refine turn ?_
    kst_all
    rename_i s7 F7
    with_reducible refine x_assign (c_glo F7 hk (by kd_mem) g_law_names (cw_fn (isfn_244 _) (ev_cons ?_)))
    kst_mem
    have hrow := F7.has (B := B) (a := p.1) (P := LS p.2) (.led (.tail _ (.tail _ (.tail _ (.tail _ (.tail _ (.tail _ (.tail _ (.tail _ (List.mem_append_right _ (List.mem_append_left _ (famR_at hp))))))))))))
    with_reducible refine ev_nil ⟨F7.base, wpAny_call (c_law_names (n := n) hA F7.base hrow (by rw [hpk.len]; omega) ?_)⟩
    intro ln s8 x8
    have F8 := F7.new x8
    have hnm := names_ok hpk
    rw [hU] at hto
    have htk' : tStep (famS U) p.2 = pTree ((famS T).take (i + 1)) := by rw [htk, hU]
    rw [← hU] at hto
    unfold tStep at htk'
    generalize lawNames p.2 = nm at hnm htk' F8
    have hn4 := hnm.len
    clear x8 F6 F7
    with_reducible refine st_cell F8 hk (by kd_mem) (by kd_mem) (by kd_all) ?_
    intro s9 F9
    with_reducible refine x_aug (ld_cell F9 hk (by kd_mem) (by kd_mem) (.led (by kd_mem)) (e_comp (B := B) (cl := [(Str.ofString "tree", L + 3), (Str.ofString "names", L + 4)]) (ks' := [(Str.ofString "k", .local), (Str.ofString "names", .cell), (Str.ofString "tree", .cell)]) hA hk (by kernel_rfl) (by kernel_rfl) (by kernel_rfl) (by kernel_rfl) ?_))
    with_reducible refine c_glo F9 hk (by kd_mem) g_range (cw_ty (ev_cons (e_int F9 ?_)))
    intro t10 s10 F10
    with_reducible refine ev_cons (o_bin (c_glo F10 hk (by kd_mem) g_len (cw_bi (ev_cons (e_cell F10 hk (by kd_mem) (by kd_mem) (.led (by kd_mem)) (ev_nil (o_lenS F10 (.led (by kd_mem)) (by omega) ?_)))))))
    intro t11 s11 F11
    with_reducible refine e_int F11 ?_
    intro t12 s12 F12
    with_reducible refine o_addi F12 ?_
    intro t13 s13 F13
    rw [show ((nm.length : Int) + 1) = 1 + (nm.length : Int) by omega]
    with_reducible refine ev_nil (o_range2 F13 ?_)
    intro r s14 F14
    clear F8 F9 F10 F11 F12 F13
    have F15 : Fm w B s14 ((r, RngP 1 (1 + nm.length) 1) :: (it, ItP Dr (i + 1)) :: (L, NsP (lfI li Dr)) :: (lt, LstP (famV U)) :: (ln, LS nm) :: (Dr, LstP (famV T)) :: cells4 L (some (.ref ln)) (some (.ref lt)) vp vs (famR U ++ (famR T ++ own))) :=
      (F14.nsw (bs' := lfI li Dr) (by kd_all) (by kqd_sub)).sel (by kqd_all)
    clear F14
    have hUl := hto.len
    rw [famS_len] at hUl
    with_reducible refine ⟨_, _, _, _, _, srcRng (a := 1) (n := nm.length) (by omega) (by omega), by omega, F15, .led (by kd_mem), fun _ _ h => h.cons, fun C it2 D hkc => ⟨TsJ T U nm r it L li lt ln Dr vp vs i own, ?_, ?_, ?_, ?_⟩⟩
    · exact ⟨[], rfl, rfl, rfl⟩
    · rintro j ys own' ⟨V, _, _, rfl⟩
      exact .led (by kd_mem)
    · rintro j v2 ys own' s16 Ky Kn hKy hKn hj ⟨V, rfl, hV, rfl⟩ hlen2 F16 ⟨t16, rfl⟩
      clear F15
      have ei : (1 : Int) + (j : Int) = ((j + 1 : Nat) : Int) := by omega
      rw [ei]
      have hsucc := newOf_succ (famS U) nm j
      with_reducible refine ct_one ?_
      kst_all
      rename_i s17 F17
      with_reducible refine bt_cmp (e_preS (B := B) (e_cell F17 hkc (by kd_mem) (by kd_mem) (.led (by kd_mem)) ?_))
      kst_mem
      refine ⟨ln, nm, j + 1, t16, _, rfl, rfl, F17, .led (by kd_mem), by omega, ?_⟩
      intro D1 s18 F18
      with_reducible refine e_cell F18 hkc (by kd_mem) (by kd_mem) (.led (by kd_mem)) ?_
      have hUm : ∀ q ∈ U, (q.1, LS q.2) ∈ (D1, LS (nm.take (j + 1))) :: (C, NsP [(Str.ofString "k", .int (j + 1 : Nat) t16)]) :: (it2, RItP (1 + ((j + 1 : Nat) : Int)) (nm.length - ((j + 1 : Nat) : Int)) 1) :: (D, LstP (famV V)) :: (r, RngP 1 (1 + nm.length) 1) :: (it, ItP Dr (i + 1)) :: (L, NsP (lfI li Dr)) :: (lt, LstP (famV U)) :: (ln, LS nm) :: (Dr, LstP (famV T)) :: cells4 L (some (.ref ln)) (some (.ref lt)) vp vs (famR V ++ (famR U ++ (famR T ++ own))) := fun q hq =>
        .tail _ (.tail _ (.tail _ (.tail _ (.tail _ (.tail _ (.tail _ (.tail _ (.tail _ (.tail _ (.tail _ (.tail _ (.tail _ (.tail _ (List.mem_append_right _ (List.mem_append_left _ (famR_mem hq))))))))))))))))
      refine o_ninF (T := U) (xs := nm.take (j + 1)) hA F18 (.led (.head _)) (.led (by kd_mem)) hUm (hnm.take _).ok (fun e he => (hto.ok e.2 (List.mem_map.mpr ⟨e, he, rfl⟩)).ok) ?_
      with_reducible refine t_bool (b2 (fun e => ?_) (fun e => ?_))
      · have hni : nm.take (j + 1) ∉ famS U := by simpa [famS] using e
        with_reducible refine e_preS (B := B) (e_cell F18 hkc (by kd_mem) (by kd_mem) (.led (by kd_mem)) ?_)
        kst_mem
        refine ⟨ln, nm, j + 1, t16, _, rfl, rfl, F18, .led (by kd_mem), by omega, ?_⟩
        intro D2 s19 F19
        refine hKy _ _ [(Str.ofString "k", .int (j + 1 : Nat) t16)] _ ⟨V ++ [(D2, nm.take (j + 1))], (famV_snoc ..).symm, by rw [famS_snoc, hV, hsucc, if_neg hni], rfl⟩ ?_
        have F20 := F19.sel (own' := (D2, LS (nm.take (j + 1))) :: (C, NsP [(Str.ofString "k", .int (j + 1 : Nat) t16)]) :: (it2, RItP (1 + ((j + 1 : Nat) : Int)) (nm.length - ((j + 1 : Nat) : Int)) 1) :: (D, LstP (famV V)) :: (r, RngP 1 (1 + nm.length) 1) :: (it, ItP Dr (i + 1)) :: (L, NsP (lfI li Dr)) :: (lt, LstP (famV U)) :: (ln, LS nm) :: (Dr, LstP (famV T)) :: cells4 L (some (.ref ln)) (some (.ref lt)) vp vs (famR V ++ (famR U ++ (famR T ++ own)))) (by kqd_all)
        exact F20.snocF (pre := [(C, NsP [(Str.ofString "k", .int (j + 1 : Nat) t16)]), (it2, RItP (1 + ((j + 1 : Nat) : Int)) (nm.length - ((j + 1 : Nat) : Int)) 1), (D, LstP (famV V)), (r, RngP 1 (1 + nm.length) 1), (it, ItP Dr (i + 1)), (L, NsP (lfI li Dr)), (lt, LstP (famV U)), (ln, LS nm), (Dr, LstP (famV T)), (L + 4, CellP (some (.ref ln))), (L + 3, CellP (some (.ref lt))), (L + 2, CellP vp), (L + 1, CellP vs)]) (rest := famR U ++ (famR T ++ own)) rfl
      · have hin : nm.take (j + 1) ∈ famS U := by simpa [famS] using e
        refine hKn _ _ _ ⟨V, rfl, by rw [hV, hsucc, if_pos hin, List.append_nil], rfl⟩ (F18.weak (.cons _ (List.Sublist.refl _)))
    · rintro ys own' s16 ⟨V, rfl, hV, rfl⟩ hlen2 F16
      rw [famV_len] at hlen2
      refine o_iaddL (xs := famV U) (ys := famV V) F16 (.tail (.tail (.tail (.tail .head)))) (.led (.head _)) (by rw [famV_len, famV_len]; omega) ?_
      intro s17 F17
      rw [← famV_app] at F17
      with_reducible refine st_cell F17 hk (by kd_mem) (by kd_mem) (by kd_all) ?_
      intro s18 F18
      with_reducible refine x_nil (ec_next (hKx _ _ ⟨lt, U ++ V, some (.ref ln), by rw [famS_app, hV, htk'], rfl⟩ ?_))
      have F19 := F18.sel (own' := (it, ItP Dr (i + 1)) :: (L, NsP (lfI li Dr)) :: (lt, LstP (famV (U ++ V))) :: (Dr, LstP (famV T)) :: cells4 L (some (.ref ln)) (some (.ref lt)) vp vs (famR V ++ (famR U ++ (famR T ++ own)))) (by kqd_all)
      refine F19.perm' ?_
      rw [famR_app, List.append_assoc]
      refine List.Perm.append_left [(it, ItP Dr (i + 1)), (L, NsP (lfI li Dr)), (lt, LstP (famV (U ++ V))), (Dr, LstP (famV T)), (L + 4, CellP (some (.ref ln))), (L + 3, CellP (some (.ref lt))), (L + 2, CellP vp), (L + 1, CellP vs)] ?_
      exact List.perm_append_comm_assoc _ _ _
  · rintro own' s6 ⟨lt, U, vn, hU, rfl⟩ F6
    rw [List.take_of_length_le (by rw [famS_len]; exact Nat.le_refl _)] at hU
    exact h s6 lt U vn hU F6
end

section
open PySem PySem.W PySem.Spec PySem.Calls PyProof.Rows
set_option Elab.async false
set_option maxRecDepth 100000
set_option maxHeartbeats 0
noncomputable def pth (ns : List Str) : Str := Str.ofString "/" ++ Txt.join (Str.ofString "/") ns
noncomputable def pDue (ps : List Nat) (tr : List (List Str)) : List Str := (tr.filter (fits ps)).map pth
theorem figs_len : ∀ x ∈ figs, x.length ≤ 2 := by
  intro x hx
  simp only [figs, List.mem_cons, List.not_mem_nil, or_false] at hx
  rcases hx with rfl | rfl | rfl | rfl | rfl | rfl | rfl | rfl <;> decide +kernel
theorem five_figs {x : Str} (h : x ∈ five) : x ∈ figs := by
  simp only [five, List.mem_cons, List.not_mem_nil, or_false] at h
  rcases h with rfl | rfl | rfl | rfl | rfl
  · exact .head _
  · exact .tail _ (.head _)
  · exact .tail _ (.tail _ (.head _))
  · exact .tail _ (.tail _ (.tail _ (.head _)))
  · exact .tail _ (.tail _ (.tail _ (.tail _ (.head _))))
theorem five_len {x : Str} (h : x ∈ five) : x.length ≤ 2 := figs_len x (five_figs h)
section
variable {w : World} {A : Around} {B s : Shared} {own : Led} {E Q : Value → Shared → Prop} {env : Env} {pre : Str}
theorem e_pth {X : Expr} {k1 k2 : Nat} {p1 p2 apos pos pos' : Pos} (hpre : pre.length ≤ 16) (h : ∀ (_ : Tok) s1, Fm w B s1 own → wpAny (Md w) A (eval X env) (fun v s2 => ∃ l zs own', v = .ref l ∧ Fm w B s2 own' ∧ Has B own' l (LS zs) ∧ zs.length ≤ 4 ∧ (∀ z ∈ zs, z.length ≤ 2) ∧
      ∀ t' s3, Fm w B s3 own' → Q (.str (pre ++ Txt.join (Str.ofString "/") zs) t') s3) E s1) (F : Fm w B s own)
    (hp : plainE X = true := by with_unfolding_all rfl) (hline : (apos.endLine == pos.line) = true := by with_unfolding_all rfl) :
    wpAny (Md w) A (eval (.BinOp (.Constant (.str pre) k1 p1) .Add (.Call (.Attribute (.Constant (.str (Str.ofString "/")) k2 p2) (Str.ofString "join") apos) [X] [] pos) pos') env) Q E s := by
  have hbig : 2000 ≤ sizeLine := Nat.le_of_ble_eq_true rfl
  have h2 : (Str.ofString "/").length = 1 := by kernel_rfl
  refine o_bin (e_str F fun t1 s1 F1 => c_meth (e_str F1 fun t2 s2 F2 => fun _ => GM.join (cw_m (ev_cons (wpAny_mono (h t1 s2 F2) (fun v s3 h3 => ?_) fun _ _ e => e)) (by simp [hp]))) (by with_unfolding_all rfl) (by simp [hp]) hline)
  obtain ⟨l, zs, own', rfl, F3, hl, hz, hzz, h4⟩ := h3
  obtain ⟨vs, n, hs, e⟩ := F3.hasLS hl
  obtain ⟨o, eo, n', ho⟩ : ∃ o, s3.heap.get? l = some o ∧ ∃ n', o = seqObj "list" vs.toArray n' := ⟨_, e, n, rfl⟩
  have hj := join_le (sep := Str.ofString "/") hzz
  have hw := sum_le hzz
  rw [h2] at hj
  have hl2 : wpAny (Md w) A (call (.builtin "str.join") [.str (Str.ofString "/") t2, .ref l]) (fun v s4 => wpAny (Md w) A (binaryOp .Add (.str pre t1) v) Q E s4) E s3 := by
    have F4 : Fm w s3 s3 [] := Fm.start F3.base
    refine m_join (F := F4) (own := []) (xs := vs) (zs := zs) (.base ⟨_, e, n, rfl⟩) hs (joinOk_of_weight ?_ (Nat.le_of_ble_eq_true rfl)) fun t5 s5 F5 => ?_
    · omega
    · have F6 := F3.ext F5.toExt
      refine o_add F6 (by omega) fun t6 s6 F7 => h4 t6 s6 F7
  exact ev_nil hl2
end
theorem law_s6 {w : World} {A : Around} {B s : Shared} {n : Nat} {Q : Flow → Shared → Prop} {E : Value → Shared → Prop} {L fa li lp lt Dr : Addr} {vs vn : Option Value} {cd : Value} {own : Led} {U : Fam} {ps : List Nat} (hA : Rm A (n + 1)) (hU : ∀ z ∈ famS U, NodeOk z) (hUl : U.length ≤ 17) (hpl : ps.length ≤ 3) (h9 : ∀ p ∈ ps, p ≤ 9)
    (F : Fm w B s ((L, NsP (lfI li Dr)) :: (lt, LstP (famV U)) :: (lp, LN ps) :: cells4 L vn (some (.ref lt)) (some (.ref lp)) vs (famR U ++ own)))
    (h : ∀ s' ld, Fm w B s' ((L, NsP ((Str.ofString "due", .ref ld) :: lfI li Dr)) :: (ld, LS (srt (pDue ps (famS U)))) :: (lt, LstP (famV U)) :: (lp, LN ps) :: cells4 L vn (some (.ref lt)) (some (.ref lp)) vs (famR U ++ own)) → wpAny (Md w) A (execs ((lawB w).drop 8) (lEnv w L fa cd)) Q E s') :
    wpAny (Md w) A (execs ((lawB w).drop 7) (lEnv w L fa cd)) Q E s := by
  have hbig : 100000 ≤ sizeLine := Nat.le_of_ble_eq_true rfl
  have hk := law_ks w L fa cd
  conv in List.drop 7 _ => whnf
  with_reducible refine x_assign (c_glo F hk (by kd_mem) g_sorted (cw_bi (ev_cons (e_comp (B := B) (cl := [(Str.ofString "picks", L + 2)]) (ks' := [(Str.ofString "names", .local), (Str.ofString "_law_fits", .globalImplicit), (Str.ofString "picks", .cell)]) hA hk (by kernel_rfl) (by kernel_rfl) (by kernel_rfl) (by kernel_rfl) ?_))))
  with_reducible refine e_cell F hk (by kd_mem) (by kd_mem) (.led (by kd_mem)) ?_
  with_reducible refine ⟨_, _, _, _, _, srcF (l := lt) (T := U), by omega, F, .led (by kd_mem), fun _ _ h => h.cons, fun C it D hkc => ⟨fun j ys own' => StrsAre ys (pDue ps ((famS U).take j)) ∧ own' = (L, NsP (lfI li Dr)) :: (lt, LstP (famV U)) :: (lp, LN ps) :: cells4 L vn (some (.ref lt)) (some (.ref lp)) vs (famR U ++ own), ?_, ?_, ?_, ?_⟩⟩
  · exact ⟨.nil, rfl⟩
  · rintro j ys own' ⟨_, rfl⟩
    exact .led (by kd_mem)
  · rintro j v ys own' s2 Ky Kn hKy hKn hj ⟨hys, rfl⟩ hlen F2 ⟨p, rfl, hp⟩
    have hpn := hU p.2 (List.mem_map.mpr ⟨p, List.mem_of_getElem? hp, rfl⟩)
    have hts : pDue ps ((famS U).take (j + 1)) = pDue ps ((famS U).take j) ++ (if fits ps p.2 = true then [pth p.2] else []) := by
      unfold pDue
      rw [take_filter_snoc (fits ps) (famS_at hp), List.map_append]
      cases fits ps p.2 <;> rfl
    with_reducible refine ct_one ?_
    kst_all
    rename_i s3 F3
    with_reducible refine bt_call (c_glo F3 hkc (by kd_mem) g_law_fits (cw_fn (isfn_249 _) (ev_cons (e_cell F3 hkc (by kd_mem) (by kd_mem) (.led (by kd_mem)) (ev_cons ?_)))))
    kst_mem
    have hrow3 : ∀ {x1 x2 x3 x4 x5 x6 x7 x8 x9 x10 : Addr × (Obj → Prop)}, (p.1, LS p.2) ∈ x1 :: x2 :: x3 :: x4 :: x5 :: x6 :: x7 :: x8 :: x9 :: x10 :: (famR U ++ own) := fun {_ _ _ _ _ _ _ _ _ _} => .tail _ (.tail _ (.tail _ (.tail _ (.tail _ (.tail _ (.tail _ (.tail _ (.tail _ (.tail _ (List.mem_append_left _ (famR_at hp)))))))))))
    refine ev_nil ⟨F3.base, wpAny_call (c_law_fits (n := n) hA F3.base (F3.has (B := B) (.led (by kd_mem))) h9 (F3.has (B := B) (.led hrow3)) (by have := hpn.len; omega) ?_)⟩
    intro s4 x4
    have F4 := F3.ext x4
    with_reducible refine t_bool (b2 (fun e => ?_) (fun e => ?_))
    · refine e_pth (B := B) (by decide +kernel) (fun t5 s5 F5 => ?_) F4
      kst_mem
      refine ⟨_, _, _, rfl, F5, .led hrow3, hpn.len, fun z hz => five_len (hpn.mem z hz), fun t6 s6 F6 => ?_⟩
      refine hKy _ _ _ _ ⟨?_, rfl⟩ F6
      rw [hts, e, if_pos rfl]
      exact strs_app hys (.cons _ _ .nil)
    · refine hKn _ _ _ ⟨?_, rfl⟩ F4
      rw [hts, e, if_neg Bool.false_ne_true, List.append_nil]
      exact hys
  · rintro ys own' s2 ⟨hys, rfl⟩ hlen F2
    rw [List.take_of_length_le (by rw [famS_len]; exact Nat.le_refl _)] at hys
    have F3 := F2.imp (P' := LS (pDue ps (famS U))) .head (fun o ho => ⟨ys, hys, ho⟩)
    have hdl := strs_len hys
    refine ev_nil (o_sortS F3 (.led (.head _)) (by omega) ?_)
    intro R s4 F4
    kst_all
    rename_i s5 F5
    exact h s5 R (F5.sel (by kqd_all))
end

section
open PySem PySem.W PySem.Spec PySem.Calls PyProof.Rows
set_option Elab.async false
set_option maxRecDepth 100000
set_option maxHeartbeats 0
noncomputable def isKid (ns one : List Str) : Bool := !one.isEmpty && decide (one.dropLast = ns)
noncomputable def lastOf (one : List Str) : Str := one.getLast?.getD Str.empty
noncomputable def pBelow (tr : List (List Str)) (ns : List Str) : List Str := (tr.filter (isKid ns)).map lastOf
noncomputable def lookAt (ps : List Nat) (ns : List Str) (k : Nat) : Bool := fits (ps.take k) ns || (decide (ps.getD k 0 = 9) && fits (ps.take (k + 1)) ns)
noncomputable def pLook (ps : List Nat) (ns : List Str) : List Nat := (List.range ps.length).filter (lookAt ps ns)
noncomputable def hasKid (tr : List (List Str)) (ns : List Str) : Bool := !(pBelow tr ns).isEmpty
noncomputable def isBare (tr : List (List Str)) (ps : List Nat) (ns : List Str) : Bool := !hasKid tr ns && !(pLook ps ns).isEmpty
noncomputable def rowOf (tr : List (List Str)) (ns : List Str) : Str × List Str := (pth ns, srt (pBelow tr ns))
noncomputable def pHeld (tr l : List (List Str)) : Book := (l.filter (hasKid tr)).map (rowOf tr)
noncomputable def pBare (tr : List (List Str)) (ps : List Nat) (l : List (List Str)) : Book := (l.filter (isBare tr ps)).map (rowOf tr)
theorem pBelow_five {tr : List (List Str)} (h : ∀ z ∈ tr, NodeOk z) (ns : List Str) : ∀ x ∈ pBelow tr ns, x ∈ five := by
  intro x hx
  unfold pBelow at hx
  obtain ⟨one, h1, rfl⟩ := List.mem_map.mp hx
  obtain ⟨h2, h3⟩ := List.mem_filter.mp h1
  unfold isKid at h3
  rw [Bool.and_eq_true] at h3
  unfold lastOf
  cases e : one.getLast? with
  | none => rw [List.getLast?_eq_none_iff] at e; subst e; simp at h3
  | some y => exact (h one h2).mem y (List.mem_of_getLast? e)
theorem srt_len (l : List Str) : (srt l).length = l.length := (srt_perm l).length_eq
theorem srt_empty (l : List Str) : (srt l).isEmpty = l.isEmpty := by
  have := srt_len l
  cases l with
  | nil => cases e : srt [] with
    | nil => rfl
    | cons a b => rw [e] at this; simp at this
  | cons x l => cases e : srt (x :: l) with
    | nil => rw [e] at this; simp at this
    | cons a b => rfl
section
variable {w : World} {A : Around} {B s : Shared} {own own' : Led} {E Q : Value → Shared → Prop} {l : Addr} {ps : List Nat} {value slice : Expr} {u : Tok}
theorem o_lenN (F : Fm w B s own) (hl : Has B own l (LN ps)) (hz : ps.length ≤ 1000) (h : ∀ t' s', Fm w B s' own → Q (.int ps.length t') s') : wpAny (Md w) A (call (.builtin "len") [.ref l]) Q E s := by
  obtain ⟨o, e, vs, hs, n, rfl⟩ := F.has hl
  have hl := nats_len hs
  refine o_lenl (B := s) (own := []) (xs := vs) (Fm.start F.base) (.base ⟨_, e, n, rfl⟩) (by omega) fun t' s' F' => ?_
  rw [hl]
  exact h t' s' (F.ext F'.toExt)
theorem o_liLN {i z : Nat} (F : Fm w B s own) (hl : Has B own l (LN ps)) (hi : i < 100000) (hx : ps[i]? = some z) (h : ∀ t, Q (.int z t) s)
    (hs : subscripted slice false (.ref l) (.int i u) = operate [.ref l, .int i u] (getItem (.ref l) (.int i u)) := by with_unfolding_all rfl) : wpAny (Md w) A (subscriptTail value slice (.ref l) (.int i u)) Q E s := by
  obtain ⟨o, e, vs, hss, n, rfl⟩ := F.has hl
  have hi' : i < vs.length := by
    rw [nats_len hss]
    exact (List.getElem?_eq_some_iff.mp hx).1
  obtain ⟨z', t, hz, hx'⟩ := nats_get hss (List.getElem?_eq_getElem hi')
  rw [hx] at hx'
  cases hx'
  exact o_li (B := s) (own := []) (xs := vs) (v := .int z t) (Fm.start F.base) (.base ⟨_, e, n, rfl⟩) hi (by rw [List.getElem?_eq_getElem hi', hz]) (h t) hs
end
noncomputable abbrev hbB (lb lh ld li Dr : Addr) : List (Str × Value) := [(Str.ofString "bare", .ref lb), (Str.ofString "held", .ref lh), (Str.ofString "due", .ref ld), (Str.ofString "items", .ref li), (Str.ofString "rows", .ref Dr)]
noncomputable abbrev hbR (L lb lh ld li Dr lt lp : Addr) (vn vs : Option Value) (H Z : List Pr) (U : Fam) (ps : List Nat) (due : List Str) (own : Led) : Led :=
  (L, NsP (hbB lb lh ld li Dr)) :: (lh, LstP (refsP H)) :: (lb, LstP (refsP Z)) :: (ld, LS due) :: (lt, LstP (famV U)) :: (lp, LN ps) :: (L + 4, CellP vn) :: (L + 3, CellP (some (.ref lt))) :: (L + 2, CellP (some (.ref lp))) :: (L + 1, CellP vs) :: (rowsPr H ++ (rowsPr Z ++ (famR U ++ own)))
theorem hbR_mem {L lb lh ld li Dr lt lp : Addr} {vn vs : Option Value} {H Z : List Pr} {U : Fam} {ps : List Nat} {due : List Str} {own : Led} {q : Addr × List Str} (h : q ∈ U) : (q.1, LS q.2) ∈ hbR L lb lh ld li Dr lt lp vn vs H Z U ps due own :=
  .tail _ (.tail _ (.tail _ (.tail _ (.tail _ (.tail _ (.tail _ (.tail _ (.tail _ (.tail _ (List.mem_append_right _ (List.mem_append_right _ (List.mem_append_left _ (famR_mem h)))))))))))))
theorem refsP_snoc (D : List Pr) (e : Pr) : refsP (D ++ [e]) = refsP D ++ [.ref e.t] := by simp [refsP]
theorem absP_snoc (D : List Pr) (e : Pr) : absP (D ++ [e]) = absP D ++ [(e.k, e.zs)] := by simp [absP]
theorem refsP_len (D : List Pr) : (refsP D).length = (absP D).length := by simp [refsP, absP]
inductive HbI (L lb lh ld li Dr lt lp : Addr) (vs : Option Value) (U : Fam) (ps : List Nat) (due : List Str) (own : Led) (i : Nat) (own' : Led) : Prop
  | mk (vn : Option Value) (H Z : List Pr) (h1 : absP H = pHeld (famS U) ((famS U).take i)) (h2 : absP Z = pBare (famS U) ps ((famS U).take i)) (e : own' = hbR L lb lh ld li Dr lt lp vn vs H Z U ps due own)
theorem law_s8 {w : World} {A : Around} {B s : Shared} {n : Nat} {Q : Flow → Shared → Prop} {E : Value → Shared → Prop} {L fa li lp lt ld Dr : Addr} {vs vn : Option Value} {cd : Value} {own : Led} {U : Fam} {ps : List Nat} {due : List Str} (hA : Rm A (n + 1)) (hU : ∀ z ∈ famS U, NodeOk z) (hUl : U.length ≤ 17) (hpl : ps.length ≤ 3) (h9 : ∀ p ∈ ps, p ≤ 9)
    (F : Fm w B s ((L, NsP ((Str.ofString "due", .ref ld) :: lfI li Dr)) :: (ld, LS due) :: (lt, LstP (famV U)) :: (lp, LN ps) :: cells4 L vn (some (.ref lt)) (some (.ref lp)) vs (famR U ++ own)))
    (h : ∀ s' lh lb vn H Z, absP H = pHeld (famS U) (famS U) → absP Z = pBare (famS U) ps (famS U) → Fm w B s' (hbR L lb lh ld li Dr lt lp vn vs H Z U ps due own) → wpAny (Md w) A (execs ((lawB w).drop 11) (lEnv w L fa cd)) Q E s') :
    wpAny (Md w) A (execs ((lawB w).drop 8) (lEnv w L fa cd)) Q E s := by
  have hbig : 100000 ≤ sizeLine := Nat.le_of_ble_eq_true rfl
  have hk := law_ks w L fa cd
  conv in List.drop 8 _ => whnf
  with_reducible refine x_assign (e_list (B := B) (ev_nil ⟨_, F, Nat.zero_le _, ?_⟩))
  intro lh s1 F1
  kst_all
  rename_i s2 F2
  with_reducible refine x_assign (e_list (B := B) (ev_nil ⟨_, F2, Nat.zero_le _, ?_⟩))
  intro lb s3 F3
  kst_all
  rename_i s4 F4
  with_reducible refine x_for (B := B) hA (e_cell F4 hk (by kd_mem) (by kd_mem) (.led (by kd_mem)) ?_)
  have F5 : Fm w B s4 (hbR L lb lh ld li Dr lt lp vn vs [] [] U ps due own) := F4.sel (own' := (L, NsP (hbB lb lh ld li Dr)) :: (lh, LstP []) :: (lb, LstP []) :: (ld, LS due) :: (lt, LstP (famV U)) :: (lp, LN ps) :: (L + 4, CellP vn) :: (L + 3, CellP (some (.ref lt))) :: (L + 2, CellP (some (.ref lp))) :: (L + 1, CellP vs) :: (famR U ++ own)) (by kqd_all)
  clear F F1 F2 F3 F4
  with_reducible refine ⟨_, _, _, _, _, srcF (l := lt) (T := U), F5, .led (by kd_mem), HbI L lb lh ld li Dr lt lp vs U ps due own, ?_, ?_, ?_, ?_⟩
  · exact ⟨vn, [], [], rfl, rfl, rfl⟩
  · rintro i own' ⟨vn, H, Z, _, _, rfl⟩
    exact .led (by kd_mem)
  · rintro it i v own' s6 Kx hKx hi ⟨vn, H, Z, hH, hZ, rfl⟩ F6 ⟨p, rfl, hp⟩
    clear F5
    have hpU := List.mem_of_getElem? hp
    have hpn := hU p.2 (List.mem_map.mpr ⟨p, hpU, rfl⟩)
    have hHs : pHeld (famS U) ((famS U).take (i + 1)) = absP H ++ (if hasKid (famS U) p.2 = true then [rowOf (famS U) p.2] else []) := by
      rw [hH]
      unfold pHeld
      rw [take_filter_snoc (hasKid (famS U)) (famS_at hp), List.map_append]
      cases hasKid (famS U) p.2 <;> rfl
    have hZs : pBare (famS U) ps ((famS U).take (i + 1)) = absP Z ++ (if isBare (famS U) ps p.2 = true then [rowOf (famS U) p.2] else []) := by
      rw [hZ]
      unfold pBare
      rw [take_filter_snoc (isBare (famS U) ps) (famS_at hp), List.map_append]
      cases isBare (famS U) ps p.2 <;> rfl
    have hHl : (absP H).length ≤ 17 := by
      rw [hH]; unfold pHeld
      rw [List.length_map]
      refine Nat.le_trans (List.length_filter_le _ _) (Nat.le_trans (List.length_take_le' _ _) ?_)
      rw [famS_len]; exact hUl
    have hZl : (absP Z).length ≤ 17 := by
      rw [hZ]; unfold pBare
      rw [List.length_map]
      refine Nat.le_trans (List.length_filter_le _ _) (Nat.le_trans (List.length_take_le' _ _) ?_)
      rw [famS_len]; exact hUl
    with_reducible refine turn ?_
    with_reducible refine st_cell F6 hk (by kd_mem) (by kd_mem) (by kd_all) ?_
    intro s7 F7
    clear F6
    have hpm := hbR_mem (L := L) (lb := lb) (lh := lh) (ld := ld) (li := li) (Dr := Dr) (lt := lt) (lp := lp) (vn := some (.ref p.1)) (vs := vs) (H := H) (Z := Z) (ps := ps) (due := due) (own := own) hpU
    -- below
    with_reducible refine x_assign (c_glo F7 hk (by kd_mem) g_sorted (cw_bi (ev_cons (e_comp (B := B) (cl := [(Str.ofString "names", L + 4)]) (ks' := [(Str.ofString "one", .local), (Str.ofString "names", .cell)]) hA hk (by kernel_rfl) (by kernel_rfl) (by kernel_rfl) (by kernel_rfl) ?_))))
    with_reducible refine e_cell F7 hk (by kd_mem) (by kd_mem) (.led (by kd_mem)) ?_
    with_reducible refine ⟨_, _, _, _, _, srcF (l := lt) (T := U), by omega, F7, .led (by kd_mem), fun _ _ h => h.cons, fun C it2 D hkc => ⟨fun j ys own' => StrsAre ys (pBelow ((famS U).take j) p.2) ∧ own' = (it, ItP lt (i + 1)) :: hbR L lb lh ld li Dr lt lp (some (.ref p.1)) vs H Z U ps due own, ?_, ?_, ?_, ?_⟩⟩
    · exact ⟨.nil, rfl⟩
    · rintro j ys own' ⟨_, rfl⟩
      exact .led (by kd_mem)
    · rintro j v ys own' s8 Ky Kn hKy hKn hj ⟨hys, rfl⟩ hlen F8 ⟨q, rfl, hq⟩
      clear F7
      have hqU := List.mem_of_getElem? hq
      have hqn := hU q.2 (List.mem_map.mpr ⟨q, hqU, rfl⟩)
      have hqm := hbR_mem (L := L) (lb := lb) (lh := lh) (ld := ld) (li := li) (Dr := Dr) (lt := lt) (lp := lp) (vn := some (.ref p.1)) (vs := vs) (H := H) (Z := Z) (ps := ps) (due := due) (own := own) hqU
      have hts : pBelow ((famS U).take (j + 1)) p.2 = pBelow ((famS U).take j) p.2 ++ (if isKid p.2 q.2 = true then [lastOf q.2] else []) := by
        unfold pBelow
        rw [take_filter_snoc (isKid p.2) (famS_at hq), List.map_append]
        cases isKid p.2 q.2 <;> rfl
      with_reducible refine ct_one ?_
      kst_all
      rename_i s9 F9
      with_reducible refine bt_and (bt_cmp ?_)
      kst_mem
      with_reducible refine e_list (B := B) (ev_nil ⟨_, F9, Nat.zero_le _, ?_⟩)
      intro D1 s10 F10
      refine o_neSn hA F10 (.led (.tail _ (.tail _ (.tail _ (.tail _ (.tail _ hqm)))))) (.led (.head _)) hqn.ok ?_
      with_reducible refine t_bool (b2 (fun e1 => bt_cmp (e_initS (B := B) ?_)) (fun e1 => ?_))
      · kst_mem
        with_reducible refine e_neg1 F10 ?_
        intro t11 s11 F11
        refine ⟨q.1, q.2, t11, _, rfl, rfl, F11, .led (.tail _ (.tail _ (.tail _ (.tail _ (.tail _ hqm))))), by have := hqn.len; omega, ?_⟩
        intro D2 s12 F12
        with_reducible refine e_cell F12 hkc (by kd_mem) (by kd_mem) (.led (by kd_mem)) ?_
        refine o_eqSS (xs := q.2.dropLast) (ys := p.2) hA F12 (.led (.head _)) (.led (.tail _ (.tail _ (.tail _ (.tail _ (.tail _ (.tail _ hpm))))))) (fun z hz => hqn.ok z ((List.dropLast_sublist _).subset hz)) hpn.ok ?_
        with_reducible refine t_bool (b2 (fun e2 => e_sub ?_) (fun e2 => ?_))
        · kst_mem
          with_reducible refine e_neg1 F12 ?_
          intro t13 s13 F13
          have hne : q.2 ≠ [] := fun e => by rw [e] at e1; simp at e1
          have hkid : isKid p.2 q.2 = true := by unfold isKid; rw [e1, e2]; rfl
          have hlast : q.2.getLast? = some (lastOf q.2) := by
            unfold lastOf
            rw [List.getLast?_eq_some_getLast hne]; rfl
          refine o_lnegS F13 (.led (.tail _ (.tail _ (.tail _ (.tail _ (.tail _ (.tail _ hqm))))))) hlast ?_
          intro t14
          refine hKy _ _ _ _ ⟨?_, rfl⟩ (F13.weak (.cons _ (.cons _ (List.Sublist.refl _))))
          rw [hts, hkid, if_pos rfl]
          exact strs_app hys (.cons _ _ .nil)
        · have hkid : isKid p.2 q.2 = false := by unfold isKid; rw [e2, Bool.and_false]
          refine hKn _ _ _ ⟨?_, rfl⟩ (F12.weak (.cons _ (.cons _ (List.Sublist.refl _))))
          rw [hts, hkid, if_neg Bool.false_ne_true, List.append_nil]
          exact hys
      · have hkid : isKid p.2 q.2 = false := by unfold isKid; rw [e1, Bool.false_and]
        refine hKn _ _ _ ⟨?_, rfl⟩ (F10.weak (.cons _ (List.Sublist.refl _)))
        rw [hts, hkid, if_neg Bool.false_ne_true, List.append_nil]
        exact hys
    rintro ys own' s8 ⟨hys, rfl⟩ hlen F8
    rw [List.take_of_length_le (by rw [famS_len]; exact Nat.le_refl _)] at hys
    have F9 := F8.imp (P' := LS (pBelow (famS U) p.2)) .head (fun o ho => ⟨ys, hys, ho⟩)
    have hdl := strs_len hys
    have hb5 := pBelow_five hU p.2
    refine ev_nil (o_sortS F9 (.led (.head _)) (by omega) ?_)
    intro Db s10 F10
    kst_all
    rename_i s11 F11
    clear F7 F8 F9 F10
    have F12 : Fm w B s11 ((it, ItP lt (i + 1)) :: (Db, LS (srt (pBelow (famS U) p.2))) :: (L, NsP ((Str.ofString "below", .ref Db) :: hbB lb lh ld li Dr)) :: (lh, LstP (refsP H)) :: (lb, LstP (refsP Z)) :: (ld, LS due) :: (lt, LstP (famV U)) :: (lp, LN ps) :: (L + 4, CellP (some (.ref p.1))) :: (L + 3, CellP (some (.ref lt))) :: (L + 2, CellP (some (.ref lp))) :: (L + 1, CellP vs) :: (rowsPr H ++ (rowsPr Z ++ (famR U ++ own)))) := F11.sel (by kqd_all)
    clear F11
    have hpm2 : (p.1, LS p.2) ∈ rowsPr H ++ (rowsPr Z ++ (famR U ++ own)) := List.mem_append_right _ (List.mem_append_right _ (List.mem_append_left _ (famR_mem hpU)))
    generalize hRest : rowsPr H ++ (rowsPr Z ++ (famR U ++ own)) = rest at F12 hpm2
    -- looked
    with_reducible refine x_comp (B := B) (cl := [(Str.ofString "picks", L + 2), (Str.ofString "names", L + 4)]) (ks' := [(Str.ofString "k", .local), (Str.ofString "_law_fits", .globalImplicit), (Str.ofString "names", .cell), (Str.ofString "picks", .cell)]) hA hk (by kernel_rfl) (by kernel_rfl) (by kernel_rfl) (by kernel_rfl) ?_
    with_reducible refine c_glo F12 hk (by kd_mem) g_range (cw_ty (ev_cons (c_glo F12 hk (by kd_mem) g_len (cw_bi (ev_cons (e_cell F12 hk (by kd_mem) (by kd_mem) (.led (by kd_mem)) (ev_nil (o_lenN F12 (.led (by kd_mem)) (by omega) ?_))))))))
    intro t13 s13 F13
    with_reducible refine ev_nil (o_range1 F13 ?_)
    intro r s14 F14
    clear F12 F13
    with_reducible refine ⟨_, _, _, _, _, srcRng (a := 0) (n := ps.length) (by omega) (by omega), by omega, F14, .led (by kd_mem), fun _ _ h => h.cons, fun C it2 D hkc => ⟨fun j ys own' => NatsAre ys ((List.range j).filter (lookAt ps p.2)) ∧ own' = (r, RngP 0 (0 + ps.length) 1) :: (it, ItP lt (i + 1)) :: (Db, LS (srt (pBelow (famS U) p.2))) :: (L, NsP ((Str.ofString "below", .ref Db) :: hbB lb lh ld li Dr)) :: (lh, LstP (refsP H)) :: (lb, LstP (refsP Z)) :: (ld, LS due) :: (lt, LstP (famV U)) :: (lp, LN ps) :: (L + 4, CellP (some (.ref p.1))) :: (L + 3, CellP (some (.ref lt))) :: (L + 2, CellP (some (.ref lp))) :: (L + 1, CellP vs) :: rest, ?_, ?_, ?_, ?_⟩⟩
    · exact ⟨.nil, rfl⟩
    · rintro j ys own' ⟨_, rfl⟩
      exact .led (by kd_mem)
    · rintro j v ys own' s15 Ky Kn hKy hKn hj ⟨hys, rfl⟩ hlen F15 ⟨t15, rfl⟩
      clear F14
      have ei : (0 : Int) + (j : Int) = (j : Int) := by omega
      rw [ei]
      have hpj : ps[j]? = some (ps.getD j 0) := by rw [List.getD_eq_getElem?_getD, List.getElem?_eq_getElem hj]; rfl
      have hts : (List.range (j + 1)).filter (lookAt ps p.2) = (List.range j).filter (lookAt ps p.2) ++ (if lookAt ps p.2 j = true then [j] else []) := by
        rw [List.range_succ, List.filter_append]
        cases e : lookAt ps p.2 j <;> simp [e]
      have fin : ∀ (C it2 D : Addr) (bs : List (Str × Value)) (row : Obj → Prop) (own2 : Led) (s : Shared) (b : Bool), lookAt ps p.2 j = b → Fm w B s ((C, NsP ((Str.ofString "k", .int j t15) :: bs)) :: (it2, row) :: (D, LstP ys) :: own2) → True := fun _ _ _ _ _ _ _ _ _ _ => trivial
      have p9 : ∀ m, ∀ q ∈ ps.take m, q ≤ 9 := fun m q hq => h9 q (List.mem_of_mem_take hq)
      with_reducible refine ct_one ?_
      kst_all
      rename_i s16 F16
      with_reducible refine bt_or (bt_call (c_glo F16 hkc (by kd_mem) g_law_fits (cw_fn (isfn_249 _) (ev_cons (e_preN (B := B) (e_cell F16 hkc (by kd_mem) (by kd_mem) (.led (by kd_mem)) ?_))))))
      kst_mem
      refine ⟨lp, ps, j, t15, _, rfl, rfl, F16, .led (by kd_mem), by omega, ?_⟩
      intro D1 s17 F17
      have hpm3 : ∀ {x1 x2 x3 x4 x5 x6 x7 x8 x9 x10 x11 x12 x13 x14 x15 x16 x17 : Addr × (Obj → Prop)}, (p.1, LS p.2) ∈ x1 :: x2 :: x3 :: x4 :: x5 :: x6 :: x7 :: x8 :: x9 :: x10 :: x11 :: x12 :: x13 :: x14 :: x15 :: x16 :: x17 :: rest := fun {_ _ _ _ _ _ _ _ _ _ _ _ _ _ _ _ _} => .tail _ (.tail _ (.tail _ (.tail _ (.tail _ (.tail _ (.tail _ (.tail _ (.tail _ (.tail _ (.tail _ (.tail _ (.tail _ (.tail _ (.tail _ (.tail _ (.tail _ hpm2))))))))))))))))
      with_reducible refine ev_cons (e_cell F17 hkc (by kd_mem) (by kd_mem) (.led (by kd_mem)) ?_)
      refine ev_nil ⟨F17.base, wpAny_call (c_law_fits (n := n) hA F17.base (F17.has (B := B) (.led (.head _))) (p9 j) (F17.has (B := B) (.led hpm3)) (by have := hpn.len; omega) ?_)⟩
      intro s18 x18
      have F18 := F17.ext x18
      have F19 := F18.weak (.cons _ (List.Sublist.refl _))
      clear F16 F17 F18
      with_reducible refine t_bool (b2 (fun e1 => ?_) (fun e1 => bt_and (bt_cmp (e_sub (e_cell F19 hkc (by kd_mem) (by kd_mem) (.led (by kd_mem)) ?_)))))
      · have hlk : lookAt ps p.2 j = true := by unfold lookAt; rw [e1, Bool.true_or]
        with_reducible refine b2_t ?_
        kst_mem
        refine hKy _ _ _ _ ⟨?_, rfl⟩ F19
        rw [hts, hlk, if_pos rfl]
        exact nats_app hys (.cons j t15 .nil)
      · kst_mem
        refine o_liLN F19 (.led (by kd_mem)) (by omega) hpj ?_
        intro t20
        with_reducible refine e_int F19 ?_
        intro t21 s21 F21
        refine o_eqi (t_bool (b2 (fun e2 => bt_call (c_glo F21 hkc (by kd_mem) g_law_fits (cw_fn (isfn_249 _) (ev_cons (e_preN (B := B) (e_cell F21 hkc (by kd_mem) (by kd_mem) (.led (by kd_mem)) (o_bin ?_))))))) (fun e2 => ?_)))
        · have e9 : ps.getD j 0 = 9 := by have := beq_iff_eq.mp e2; omega
          kst_mem
          with_reducible refine e_int F21 ?_
          intro t22 s22 F22
          with_reducible refine o_addi F22 ?_
          intro t23 s23 F23
          refine ⟨lp, ps, j + 1, t23, _, rfl, rfl, F23, .led (by kd_mem), by omega, ?_⟩
          intro D2 s24 F24
          with_reducible refine ev_cons (e_cell F24 hkc (by kd_mem) (by kd_mem) (.led (by kd_mem)) ?_)
          refine ev_nil ⟨F24.base, wpAny_call (c_law_fits (n := n) hA F24.base (F24.has (B := B) (.led (.head _))) (p9 (j + 1)) (F24.has (B := B) (.led hpm3)) (by have := hpn.len; omega) ?_)⟩
          intro s25 x25
          have F25 := (F24.ext x25).weak (.cons _ (List.Sublist.refl _))
          have hlk : lookAt ps p.2 j = fits (ps.take (j + 1)) p.2 := by unfold lookAt; rw [e1, Bool.false_or, e9]; simp
          with_reducible refine t_bool (b2 (fun e3 => ?_) (fun e3 => ?_))
          · kst_mem
            refine hKy _ _ _ _ ⟨?_, rfl⟩ F25
            rw [hts, hlk, e3, if_pos rfl]
            exact nats_app hys (.cons j t15 .nil)
          · refine hKn _ _ _ ⟨?_, rfl⟩ F25
            rw [hts, hlk, e3, if_neg Bool.false_ne_true, List.append_nil]
            exact hys
        · have e9 : ps.getD j 0 ≠ 9 := fun e => by rw [e] at e2; simp at e2
          have hlk : lookAt ps p.2 j = false := by unfold lookAt; rw [e1, Bool.false_or, decide_eq_false e9, Bool.false_and]
          refine hKn _ _ _ ⟨?_, rfl⟩ F21
          rw [hts, hlk, if_neg Bool.false_ne_true, List.append_nil]
          exact hys
    rintro ys own' s15 ⟨hys, rfl⟩ hlen F15
    have F16 := F15.imp (P' := LN (pLook ps p.2)) (.tail .head) (fun o ho => ⟨ys, hys, ho⟩)
    clear F14 F15
    kst_all
    rename_i s17 F17
    refine ⟨_, _, F17, fun s18 F18 => ?_⟩
    have hsb : ∀ z ∈ srt (pBelow (famS U) p.2), OkT z := fun z hz => five_ok z (hb5 z ((srt_perm _).mem_iff.mp hz))
    have hemp := srt_empty (pBelow (famS U) p.2)
    have F19 := F18.sel (own' := (it, ItP lt (i + 1)) :: (Db, LS (srt (pBelow (famS U) p.2))) :: (D, LN (pLook ps p.2)) :: (L, NsP ((Str.ofString "looked", .ref D) :: (Str.ofString "below", .ref Db) :: hbB lb lh ld li Dr)) :: (lh, LstP (refsP H)) :: (lb, LstP (refsP Z)) :: (ld, LS due) :: (lt, LstP (famV U)) :: (lp, LN ps) :: (L + 4, CellP (some (.ref p.1))) :: (L + 3, CellP (some (.ref lt))) :: (L + 2, CellP (some (.ref lp))) :: (L + 1, CellP vs) :: rest) (by kqd_all)
    clear F16 F17 F18
    with_reducible refine x_if (bt_cmp ?_)
    kst_mem
    with_reducible refine e_list (B := B) (ev_nil ⟨_, F19, Nat.zero_le _, ?_⟩)
    intro D1 s20 F20
    refine o_neSn hA F20 (.led (.tail _ (.tail _ (.head _)))) (.led (.head _)) hsb ?_
    have F21 := F20.weak (.cons _ (List.Sublist.refl _))
    clear F19 F20
    rw [hemp]
    have hpm4 : ∀ {x1 x2 x3 x4 x5 x6 x7 x8 x9 x10 x11 x12 x13 : Addr × (Obj → Prop)}, (p.1, LS p.2) ∈ x1 :: x2 :: x3 :: x4 :: x5 :: x6 :: x7 :: x8 :: x9 :: x10 :: x11 :: x12 :: x13 :: rest := fun {_ _ _ _ _ _ _ _ _ _ _ _ _} => .tail _ (.tail _ (.tail _ (.tail _ (.tail _ (.tail _ (.tail _ (.tail _ (.tail _ (.tail _ (.tail _ (.tail _ (.tail _ hpm2))))))))))))
    with_reducible refine t_bool (br_cases (fun e1 => br_true ?_) (fun e1 => br_false ?_))
    · have hkid : hasKid (famS U) p.2 = true := e1
      have hbr : isBare (famS U) ps p.2 = false := by unfold isBare; rw [hkid]; rfl
      with_reducible refine x_expr (c_meth ?_)
      kst_mem
      with_reducible refine fun _ => ?_
      with_reducible refine g_lm F21 (.led (by kd_mem)) PySem.F.slot_list_append PySem.F.type_list_append ?_
      with_reducible refine cw_m (ev_cons (e_tup F21 (ev_cons ?_)))
      refine e_pth (B := B) (by decide +kernel) (fun t22 s22 F22 => e_cell F22 hk (by kd_mem) (by kd_mem) (.led (by kd_mem)) ⟨_, _, _, rfl, F22, .led hpm4, hpn.len, fun z hz => five_len (hpn.mem z hz), fun t23 s23 F23 => ?_⟩) F21
      with_reducible refine ev_cons ?_
      kst_mem
      with_reducible refine ev_nil ⟨_, F23, Nat.le_of_ble_eq_true rfl, ?_⟩
      intro tt s24 F24
      with_reducible refine ev_nil (o_append F24 (by kd_all) (by rw [refsP_len]; omega) ?_)
      intro s25 F25
      replace F25 : Fm w B s25 ((tt, TupP [.str (pth p.2) t23, .ref Db]) :: _) := F25
      have F26 := F25.sel (own' := (tt, TupP [.str (pth p.2) t23, .ref Db]) :: (Db, LS (srt (pBelow (famS U) p.2))) :: (it, ItP lt (i + 1)) :: (L, NsP ((Str.ofString "looked", .ref D) :: (Str.ofString "below", .ref Db) :: hbB lb lh ld li Dr)) :: (lh, LstP (refsP H ++ [.ref tt])) :: (lb, LstP (refsP Z)) :: (ld, LS due) :: (lt, LstP (famV U)) :: (lp, LN ps) :: (L + 4, CellP (some (.ref p.1))) :: (L + 3, CellP (some (.ref lt))) :: (L + 2, CellP (some (.ref lp))) :: (L + 1, CellP vs) :: rest) (by kqd_all)
      have F27 := F26.snocP (pre := [(it, ItP lt (i + 1)), (L, NsP ((Str.ofString "looked", .ref D) :: (Str.ofString "below", .ref Db) :: hbB lb lh ld li Dr)), (lh, LstP (refsP H ++ [.ref tt])), (lb, LstP (refsP Z)), (ld, LS due), (lt, LstP (famV U)), (lp, LN ps), (L + 4, CellP (some (.ref p.1))), (L + 3, CellP (some (.ref lt))), (L + 2, CellP (some (.ref lp))), (L + 1, CellP vs)]) (D := H) (rest := rowsPr Z ++ (famR U ++ own)) (by rw [hRest]; rfl)
      refine x_nil (nx_next (x_nil (ec_next (hKx _ _ ⟨some (.ref p.1), H ++ [⟨tt, pth p.2, Db, srt (pBelow (famS U) p.2)⟩], Z, by rw [hHs, hkid, absP_snoc]; rfl, by rw [hZs, hbr]; simp, rfl⟩ ?_))))
      rw [← refsP_snoc H ⟨tt, pth p.2, Db, srt (pBelow (famS U) p.2)⟩] at F27
      exact F27.nsw (bs' := hbB lb lh ld li Dr) (.tail .head) (by kqd_sub)
    · have hkid : hasKid (famS U) p.2 = false := e1
      with_reducible refine x_if (bt_cmp ?_)
      kst_mem
      with_reducible refine e_list (B := B) (ev_nil ⟨_, F21, Nat.zero_le _, ?_⟩)
      intro D1 s22 F22
      refine o_neNn hA F22 (.led (.tail _ (.tail _ (.tail _ (.head _))))) (.led (.head _)) ?_
      have F23 := F22.weak (.cons _ (List.Sublist.refl _))
      clear F21 F22
      with_reducible refine t_bool (br_cases (fun e2 => br_true ?_) (fun e2 => br_skip (x_nil (nx_next (x_nil (ec_next (hKx _ _ ⟨some (.ref p.1), H, Z, ?_, ?_, rfl⟩ ?_)))))))
      · have hbr : isBare (famS U) ps p.2 = true := by unfold isBare; rw [hkid, e2]; rfl
        with_reducible refine x_expr (c_meth ?_)
        kst_mem
        with_reducible refine fun _ => ?_
        with_reducible refine g_lm F23 (.led (by kd_mem)) PySem.F.slot_list_append PySem.F.type_list_append ?_
        with_reducible refine cw_m (ev_cons (e_tup F23 (ev_cons ?_)))
        refine e_pth (B := B) (by decide +kernel) (fun t24 s24 F24 => e_cell F24 hk (by kd_mem) (by kd_mem) (.led (by kd_mem)) ⟨_, _, _, rfl, F24, .led hpm4, hpn.len, fun z hz => five_len (hpn.mem z hz), fun t25 s25 F25 => ?_⟩) F23
        with_reducible refine ev_cons ?_
        kst_mem
        with_reducible refine ev_nil ⟨_, F25, Nat.le_of_ble_eq_true rfl, ?_⟩
        intro tt s26 F26
        with_reducible refine ev_nil (o_append F26 (by kd_all) (by rw [refsP_len]; omega) ?_)
        intro s27 F27
        replace F27 : Fm w B s27 ((tt, TupP [.str (pth p.2) t25, .ref Db]) :: _) := F27
        have F28 := F27.sel (own' := (tt, TupP [.str (pth p.2) t25, .ref Db]) :: (Db, LS (srt (pBelow (famS U) p.2))) :: (it, ItP lt (i + 1)) :: (L, NsP ((Str.ofString "looked", .ref D) :: (Str.ofString "below", .ref Db) :: hbB lb lh ld li Dr)) :: (lh, LstP (refsP H)) :: (lb, LstP (refsP Z ++ [.ref tt])) :: (ld, LS due) :: (lt, LstP (famV U)) :: (lp, LN ps) :: (L + 4, CellP (some (.ref p.1))) :: (L + 3, CellP (some (.ref lt))) :: (L + 2, CellP (some (.ref lp))) :: (L + 1, CellP vs) :: rest) (by kqd_all)
        have F29 := F28.snocP (pre := [(it, ItP lt (i + 1)), (L, NsP ((Str.ofString "looked", .ref D) :: (Str.ofString "below", .ref Db) :: hbB lb lh ld li Dr)), (lh, LstP (refsP H)), (lb, LstP (refsP Z ++ [.ref tt])), (ld, LS due), (lt, LstP (famV U)), (lp, LN ps), (L + 4, CellP (some (.ref p.1))), (L + 3, CellP (some (.ref lt))), (L + 2, CellP (some (.ref lp))), (L + 1, CellP vs)] ++ rowsPr H) (D := Z) (rest := famR U ++ own) (by rw [← hRest, List.append_assoc]; rfl)
        rw [List.append_assoc, ← refsP_snoc Z ⟨tt, pth p.2, Db, srt (pBelow (famS U) p.2)⟩] at F29
        refine x_nil (nx_next (x_nil (nx_next (x_nil (ec_next (hKx _ _ ⟨some (.ref p.1), H, Z ++ [⟨tt, pth p.2, Db, srt (pBelow (famS U) p.2)⟩], by rw [hHs, hkid]; simp, by rw [hZs, hbr, absP_snoc]; rfl, rfl⟩ ?_))))))
        exact F29.nsw (bs' := hbB lb lh ld li Dr) (.tail .head) (by kqd_sub)
      · rw [hHs, hkid]; simp
      · have hbr : isBare (famS U) ps p.2 = false := by unfold isBare; rw [e2, Bool.and_false]
        rw [hZs, hbr]; simp
      · subst hRest
        exact (F23.nsw (bs' := hbB lb lh ld li Dr) (by kd_all) (by kqd_sub)).sel (by kqd_all)
  · rintro own' s6 ⟨vn, H, Z, hH, hZ, rfl⟩ F6
    rw [List.take_of_length_le (by rw [famS_len]; exact Nat.le_refl _)] at hH hZ
    exact h s6 lh lb vn H Z hH hZ F6
end

section
open PySem PySem.W PySem.Spec PySem.Calls PyProof.Rows
set_option Elab.async false
set_option maxRecDepth 100000
set_option maxHeartbeats 0
theorem ty_206 (P : Params) : typeIn (KH P) (.ref 206) = some (.type "function") := by kernel_rfl
theorem isfn_206 (P : Params) : isFnK (KH P) 206 = true := by kernel_rfl
theorem sh_empty (name : Str) : shadowIn (some emptyDict) name = some false := by kernel_rfl
theorem gm_freeze {w : World} {A : Around} {B s : Shared} {own : Led} {E : Value → Shared → Prop} {b dx : Addr} {kvs : List (Str × Value)} {pl : Sem Bool} {Q : Value × List Value → Shared → Prop} (F : Fm w B s own) (hb : (b, BkP w dx kvs) ∈ own) (hd : (dx, DxP none) ∈ own) (h1 : (b == sysModules) = false)
    (h : Q (.ref 206, [.ref b]) s) : wpAny (Md w) A (getMethod (.ref b) (Str.ofString "freeze") pl) Q E s := by
  have x := bk_at F hb h1
  have X := x.wg.K
  obtain ⟨od, hod, e0⟩ := F.sat _ hd
  have e0' : od = emptyDict := e0
  subst e0'
  obtain ⟨ox, I⟩ := bk_inst (F.sat _ hb) hod
  unfold getMethod specialOf
  refine wpAny_bind (wpAny_bind (I.type.here ((looks_findIn X (f_ga w.params)).here ?_)))
  dsimp only
  rw [can_ga, if_neg (by decide)]
  refine wpAny_bind (wpAny_bind (I.type.here ((looks_findIn X (f_gat w.params)).here ?_)))
  refine wpAny_bind (wpAny_bind (I.type.here ((looks_findIn X (f_fr w.params)).here (wpAny_bind ((looks_typeIn X (ty_206 w.params)).here ?_)))))
  rw [if_neg (by decide +kernel)]
  refine wpAny_bind (wpAny_loadPart I.at_ ?_)
  have hd := I.dict
  cases e : ox.dict with
  | none => exact wpAny_bind (wpAny_rule (wpAny_pure h))
  | some dx =>
    rw [e] at hd
    obtain ⟨r, a, b⟩ := Option.map_eq_some_iff.mp (show (lookIn (Str.ofString "freeze") emptyDict).map (·.isSome) = some false from sh_empty (Str.ofString "freeze"))
    refine wpAny_bind (wpAny_bind (wpAny_loadPart hd ?_))
    rw [nsLook_of a]
    refine wpAny_pure ?_
    rw [b]
    exact wpAny_bind (wpAny_rule (wpAny_pure h))
noncomputable def rowPath (row : List Str) : Str := Str.ofString "/./" ++ Txt.join (Str.ofString "/") row
theorem law_s9 {w : World} {A : Around} {B s : Shared} {n : Nat} {Q : Flow → Shared → Prop} {E : Value → Shared → Prop} {L fa lr : Addr} {bs : List (Str × Value)} {cd : Value} {own : Led} {T : Fam} (hA : Rm A n) (hT : T.length ≤ 4) (hok : ∀ p ∈ T, RowOk p.2) (hbs : (Str.ofString "rows", Value.ref lr) ∈ bs) {bs' : List (Str × Value)} (hdr : Dr (Str.ofString "paths") bs bs')
    (F : Fm w B s ((L, NsP bs) :: (lr, LstP (famV T)) :: (famR T ++ own)))
    (h : ∀ s' lq, Fm w B s' ((L, NsP ((Str.ofString "paths", .ref lq) :: bs')) :: (lq, LS ((famS T).map rowPath)) :: (lr, LstP (famV T)) :: (famR T ++ own)) → wpAny (Md w) A (execs ((lawB w).drop 12) (lEnv w L fa cd)) Q E s') :
    wpAny (Md w) A (execs ((lawB w).drop 11) (lEnv w L fa cd)) Q E s := by
  have hbig : 100000 ≤ sizeLine := Nat.le_of_ble_eq_true rfl
  have hk := law_ks w L fa cd
  conv in List.drop 11 _ => whnf
  with_reducible refine x_comp (B := B) (cl := []) (ks' := [(Str.ofString "row", .local)]) hA hk (by kernel_rfl) (by kernel_rfl) (by kernel_rfl) (by kernel_rfl) ?_
  refine e_loc F hk (by kd_mem) (.head _) hbs ?_
  with_reducible refine ⟨_, _, _, _, _, srcF (l := lr) (T := T), by omega, F, .led (by kd_mem), fun _ _ h => h.cons, fun C it D hkc => ⟨fun j ys own' => StrsAre ys (((famS T).take j).map rowPath) ∧ own' = (L, NsP bs) :: (lr, LstP (famV T)) :: (famR T ++ own), ?_, ?_, ?_, ?_⟩⟩
  · exact ⟨.nil, rfl⟩
  · rintro j ys own' ⟨_, rfl⟩
    exact .led (by kd_mem)
  · rintro j v ys own' s2 Ky Kn hKy hKn hj ⟨hys, rfl⟩ hlen F2 ⟨p, rfl, hp⟩
    have hpk := hok p (List.mem_of_getElem? hp)
    with_reducible refine ct_none ?_
    kst_all
    rename_i s3 F3
    refine e_pth (B := B) (by decide +kernel) (fun t5 s5 F5 => ?_) F3
    kst_mem
    have hrow3 : ∀ {x1 x2 x3 x4 x5 : Addr × (Obj → Prop)}, (p.1, LS p.2) ∈ x1 :: x2 :: x3 :: x4 :: x5 :: (famR T ++ own) := fun {_ _ _ _ _} => .tail _ (.tail _ (.tail _ (.tail _ (.tail _ (List.mem_append_left _ (famR_at hp))))))
    refine ⟨_, _, _, rfl, F5, .led hrow3, by rw [hpk.len]; omega, fun z hz => figs_len z (hpk.mem z hz), fun t6 s6 F6 => ?_⟩
    refine hKy _ _ _ _ ⟨?_, rfl⟩ F6
    rw [List.take_add_one, famS_at hp, List.map_append]
    exact strs_app hys (.cons _ _ .nil)
  · rintro ys own' s2 ⟨hys, rfl⟩ hlen F2
    rw [List.take_of_length_le (by rw [famS_len]; exact Nat.le_refl _)] at hys
    have F3 := F2.imp (P' := LS ((famS T).map rowPath)) (.tail .head) (fun o ho => ⟨ys, hys, ho⟩)
    refine st_loc F3 hk (by kd_mem) (.tail (.tail .head)) hdr fun s4 F4 => ?_
    refine ⟨_, _, F4, fun s5 F5 => ?_⟩
    exact h s5 D (F5.sel (by kqd_all))
end

section
open PySem PySem.W PySem.Spec PySem.Calls PyProof.Rows
set_option Elab.async false
set_option maxRecDepth 100000
set_option maxHeartbeats 0
structure LawOk (paths : List Str) (ps : List Nat) (due : List Str) (hd br : Book) : Prop where
  plen : paths.length ≤ 100
  path : ∀ p ∈ paths, NpOk p ∧ Chain 20 (spHead (nPath p)) (spTail (nPath p))
  nm : NmOk (pBook paths)
  dueOk : ∀ z ∈ due, OkT z
  hOk : OkB hd
  bOk : OkB br
  nd : ((hd ++ br).map (·.1)).Nodup
  hlen : (hd ++ br).length < 64
  r1 : ∃ r, pWalk (fun bk _ => bk) (pBook paths) ps = some (pBook paths, r) ∧ r.length < 64 ∧ srt r = due
  b1 : ((pBook paths).map (·.1)).Nodup ∧ (pBook paths).length < 64 ∧ (∀ e ∈ pBook paths, e.2.length < 64) ∧ srtP (srtd (pBook paths)) = srtP hd
  r2 : ∃ bk r, pWalk btouch (pBook paths) ps = some (bk, r) ∧ r.length < 64 ∧ srt r = due ∧ (bk.map (·.1)).Nodup ∧ bk.length < 64 ∧ (∀ e ∈ bk, e.2.length < 64) ∧ srtP (srtd bk) = srtP (hd ++ br)
theorem okB_srtP {bk : Book} (h : OkB bk) : OkB (srtP bk) := fun e he => h e ((srtP_perm bk).mem_iff.mp he)
theorem okB_app {b1 b2 : Book} (h1 : OkB b1) (h2 : OkB b2) : OkB (b1 ++ b2) := fun e he => (List.mem_append.mp he).elim (h1 e) (h2 e)
theorem absP_app (D D' : List Pr) : absP (D ++ D') = absP D ++ absP D' := by simp [absP]
theorem refsP_app (D D' : List Pr) : refsP (D ++ D') = refsP D ++ refsP D' := by simp [refsP]
theorem rowsPr_app (D D' : List Pr) : rowsPr (D ++ D') = rowsPr D ++ rowsPr D' := by simp [rowsPr]
theorem absP_keys (D : List Pr) : D.map (·.k) = (absP D).map (·.1) := by simp [absP]
theorem absP_len (D : List Pr) : (absP D).length = D.length := by simp [absP]
theorem rowsPr_perm {D D' : List Pr} (h : D'.Perm D) : ∀ p ∈ rowsPr D', p ∈ rowsPr D := fun _ hp => (List.Perm.flatMap_right _ h).mem_iff.mp hp
theorem Fm.mid {w : World} {B s : Shared} {P M X T : Led} (F : Fm w B s (P ++ (M ++ (X ++ T)))) : Fm w B s (P ++ (X ++ (M ++ T))) :=
  F.perm' (List.Perm.append_left _ (List.perm_append_comm_assoc _ _ _))
noncomputable abbrev enB (b lq lb lh ld li : Addr) : List (Str × Value) := [(Str.ofString "frozen", .ref b), (Str.ofString "paths", .ref lq), (Str.ofString "bare", .ref lb), (Str.ofString "held", .ref lh), (Str.ofString "due", .ref ld), (Str.ofString "items", .ref li)]
noncomputable abbrev enB0 (lq lb lh ld li : Addr) : List (Str × Value) := [(Str.ofString "paths", .ref lq), (Str.ofString "bare", .ref lb), (Str.ofString "held", .ref lh), (Str.ofString "due", .ref ld), (Str.ofString "items", .ref li)]
noncomputable abbrev enX (L lq ld li lh lb : Addr) (bs : List (Str × Value)) (paths due is : List Str) (H Z : List Pr) (tb : Obj → Prop) (T : Led) : Led :=
  (L, NsP bs) :: (lq, LS paths) :: (ld, LS due) :: (li, LS is) :: (lh, LstP (refsP H)) :: (lb, LstP (refsP Z)) :: (178, T8) :: (201, tb) :: T
theorem enX_L {L lq ld li lh lb : Addr} {bs : List (Str × Value)} {paths due is : List Str} {H Z : List Pr} {tb : Obj → Prop} {T : Led} : (L, NsP bs) ∈ enX L lq ld li lh lb bs paths due is H Z tb T := .head _
theorem enX_q {L lq ld li lh lb : Addr} {bs : List (Str × Value)} {paths due is : List Str} {H Z : List Pr} {tb : Obj → Prop} {T : Led} : (lq, LS paths) ∈ enX L lq ld li lh lb bs paths due is H Z tb T := .tail _ (.head _)
theorem enX_d {L lq ld li lh lb : Addr} {bs : List (Str × Value)} {paths due is : List Str} {H Z : List Pr} {tb : Obj → Prop} {T : Led} : (ld, LS due) ∈ enX L lq ld li lh lb bs paths due is H Z tb T := .tail _ (.tail _ (.head _))
theorem enX_i {L lq ld li lh lb : Addr} {bs : List (Str × Value)} {paths due is : List Str} {H Z : List Pr} {tb : Obj → Prop} {T : Led} : (li, LS is) ∈ enX L lq ld li lh lb bs paths due is H Z tb T := .tail _ (.tail _ (.tail _ (.head _)))
theorem enX_h {L lq ld li lh lb : Addr} {bs : List (Str × Value)} {paths due is : List Str} {H Z : List Pr} {tb : Obj → Prop} {T : Led} : (lh, LstP (refsP H)) ∈ enX L lq ld li lh lb bs paths due is H Z tb T := .tail _ (.tail _ (.tail _ (.tail _ (.head _))))
theorem enX_b {L lq ld li lh lb : Addr} {bs : List (Str × Value)} {paths due is : List Str} {H Z : List Pr} {tb : Obj → Prop} {T : Led} : (lb, LstP (refsP Z)) ∈ enX L lq ld li lh lb bs paths due is H Z tb T := .tail _ (.tail _ (.tail _ (.tail _ (.tail _ (.head _)))))
theorem enX_8 {L lq ld li lh lb : Addr} {bs : List (Str × Value)} {paths due is : List Str} {H Z : List Pr} {tb : Obj → Prop} {T : Led} : (178, T8) ∈ enX L lq ld li lh lb bs paths due is H Z tb T := .tail _ (.tail _ (.tail _ (.tail _ (.tail _ (.tail _ (.head _))))))
theorem enX_T {L lq ld li lh lb : Addr} {bs : List (Str × Value)} {paths due is : List Str} {H Z : List Pr} {tb : Obj → Prop} {T : Led} {p : Addr × (Obj → Prop)} (h : p ∈ T) : p ∈ enX L lq ld li lh lb bs paths due is H Z tb T := .tail _ (.tail _ (.tail _ (.tail _ (.tail _ (.tail _ (.tail _ (.tail _ h)))))))
theorem law_s15 {w : World} {A : Around} {B s : Shared} {n : Nat} {Q : Flow → Shared → Prop} {E : Value → Shared → Prop} {L fa lq ld li lh lb : Addr} {cd : Value} {paths due : List Str} {ps : List Nat} {H Z : List Pr} {own : Led} (hA : Rm A (n + 4)) (O : LawOk paths ps due (absP H) (absP Z)) (hpl : ps.length ≤ 3) (h9 : ∀ p ∈ ps, p ≤ 9)
    (F : Fm w B s (enX L lq ld li lh lb (enB0 lq lb lh ld li) paths due (ps.map itemOf) H Z (TabP #[]) (rowsPr H ++ (rowsPr Z ++ own))))
    (h : ∀ s' b tb, Fm w B s' (enX L lq ld li lh lb (enB b lq lb lh ld li) paths due (ps.map itemOf) H Z (TabP tb) (rowsPr H ++ (rowsPr Z ++ own))) → wpAny (Md w) A (execs ((lawB w).drop 15) (lEnv w L fa cd)) Q E s') :
    wpAny (Md w) A (execs ((lawB w).drop 12) (lEnv w L fa cd)) Q E s := by
  have hbig : 100000 ≤ sizeLine := Nat.le_of_ble_eq_true rfl
  have hk := law_ks w L fa cd
  conv in List.drop 12 _ => whnf
  generalize hT : rowsPr H ++ (rowsPr Z ++ own) = T at F h
  have hHT : ∀ p ∈ rowsPr H, p ∈ T := fun p hp => by rw [← hT]; exact List.mem_append_left _ hp
  with_reducible refine x_assign (c_glo F hk (by kd_mem) g_law_book (cw_fn (isfn_232 _) (ev_cons ?_)))
  kst_mem
  refine ev_nil ⟨F.base, wpAny_call (c_law_book (n := n) hA F.base (F.has (B := B) (.led enX_q)) O.plen O.path ?_)⟩
  intro b dx K s1 hb1 hK F1
  have F2 := F.trans F1
  replace F2 : Fm w B s1 ([(b, BkP w dx (kvsK K)), (dx, DxP none)] ++ (rowsK K ++ (enX L lq ld li lh lb (enB0 lq lb lh ld li) paths due (ps.map itemOf) H Z (TabP #[]) [] ++ T))) := by
    simpa using F2
  have F3 := F2.mid
  clear F F1 F2
  replace F3 : Fm w B s1 ((b, BkP w dx (kvsK K)) :: (dx, DxP none) :: enX L lq ld li lh lb (enB0 lq lb lh ld li) paths due (ps.map itemOf) H Z (TabP #[]) (rowsK K ++ T)) := F3
  kst_all
  rename_i s4 F4
  clear F3
  with_reducible refine x_expr (c_meth ?_)
  kst_mem
  with_reducible refine fun _ => ?_
  refine gm_freeze F4 (.head _) (.tail _ (.head _)) hb1 ?_
  refine cw_fm (isfn_206 _) (ev_nil ⟨F4.base, wpAny_call (c_freeze (n := n) (b := b) (dx := dx) (kvs := kvsK K) (own1 := fun ps1 => (b, BkP w dx (kvsK K)) :: (dx, DxP none) :: enX L lq ld li lh lb (enB b lq lb lh ld li) paths due (ps.map itemOf) H Z (TabP ps1) (rowsK K ++ T)) (own2 := fun ps1 v => (b, BkP w dx (kvsK K)) :: (dx, DxP (some v)) :: enX L lq ld li lh lb (enB b lq lb lh ld li) paths due (ps.map itemOf) H Z (TabP ps1) (rowsK K ++ T)) (hA.less (m := n + 1)) F4 (fun _ => .head _) hb1 (fun _ => .tail (.tail (.tail (.tail (.tail (.tail (.tail (.tail (.tail .head))))))))) (fun {_} _ => .tail .head) ?_)⟩)
  intro f c' cs q tb s5 F5
  have F6 : Fm w B s5 ((b, BkP w dx (kvsK K)) :: (dx, DxP (some (.ref f))) :: (f, FroP w q c' cs) :: (c', CodeP q) :: (cs, CellP (some (.ref b))) :: enX L lq ld li lh lb (enB b lq lb lh ld li) paths due (ps.map itemOf) H Z (TabP tb) (rowsK K ++ T)) :=
    F5.sel (by kqd_all)
  have F7 := Fm.mid (P := [(b, BkP w dx (kvsK K)), (dx, DxP (some (.ref f)))]) (M := [(f, FroP w q c' cs), (c', CodeP q), (cs, CellP (some (.ref b)))] ++ enX L lq ld li lh lb (enB b lq lb lh ld li) paths due (ps.map itemOf) H Z (TabP tb) []) (X := rowsK K) (T := T) F6
  clear F4 F5 F6
  replace F7 : Fm w B s5 ((b, BkP w dx (kvsK K)) :: (dx, DxP (some (.ref f))) :: (rowsK K ++ ((f, FroP w q c' cs) :: (c', CodeP q) :: (cs, CellP (some (.ref b))) :: enX L lq ld li lh lb (enB b lq lb lh ld li) paths due (ps.map itemOf) H Z (TabP tb) T))) := by
    simpa using F7
  obtain ⟨r, hW, hr64, hrd⟩ := O.r1
  obtain ⟨nd1, len1, el1, eq1⟩ := O.b1
  have LK : BkLk w B n b dx (fun K => (b, BkP w dx (kvsK K)) :: (dx, DxP (some (.ref f))) :: (rowsK K ++ ((f, FroP w q c' cs) :: (c', CodeP q) :: (cs, CellP (some (.ref b))) :: enX L lq ld li lh lb (enB b lq lb lh ld li) paths due (ps.map itemOf) H Z (TabP tb) T))) (fun bk _ => bk) :=
    lk_frozen hb1 (.head _) (.tail _ (.head _)) (.tail _ (.tail _ (.head _)))
  generalize hX : (f, FroP w q c' cs) :: (c', CodeP q) :: (cs, CellP (some (.ref b))) :: enX L lq ld li lh lb (enB b lq lb lh ld li) paths due (ps.map itemOf) H Z (TabP tb) T = X at F7 LK
  have up : ∀ {p : Addr × (Obj → Prop)}, p ∈ enX L lq ld li lh lb (enB b lq lb lh ld li) paths due (ps.map itemOf) H Z (TabP tb) T → p ∈ X := fun hp => by rw [← hX]; exact .tail _ (.tail _ (.tail _ hp))
  have up2 : ∀ {p : Addr × (Obj → Prop)} {K : Kds}, p ∈ X → p ∈ (b, BkP w dx (kvsK K)) :: (dx, DxP (some (.ref f))) :: (rowsK K ++ X) := fun hp => .tail _ (.tail _ (List.mem_append_right _ hp))
  with_reducible refine x_if (bt_or (bt_cmp (c_glo F7 hk (by kd_mem) g_law_walk (cw_fn (isfn_237 _) (ev_cons ?_)))))
  refine e_loc F7 hk (by kd_mem) (up2 (up enX_L)) (by kd_mem) ?_
  with_reducible refine ev_cons ?_
  refine e_loc F7 hk (by kd_mem) (up2 (up enX_L)) (by kd_mem) ?_
  rw [← hK] at hW
  have hnm := O.nm
  rw [← hK] at hnm
  refine ev_nil ⟨F7.base, wpAny_call (c_law_walk (n := n) hA LK (fun _ => up2 (up enX_8)) (fun _ => up2 (up enX_i)) h9 (by omega) F7 hnm hW hr64 ?_)⟩
  intro K2 D s8 hK2 F8
  dsimp only at hK2 F8
  have hsd : srt r = due := hrd
  refine e_loc F8 hk (by kd_mem) (.tail _ (up2 (up enX_L))) (by kd_mem) ?_
  refine o_neSS hA F8 (.led (.head _)) (.led (.tail _ (up2 (up enX_d)))) (by rw [hsd]; exact O.dueOk) O.dueOk ?_
  rw [decide_eq_true hsd]
  with_reducible refine t_bool ?_
  refine b2_f (bt_cmp (c_glo F8 hk (by kd_mem) g_law_rows (cw_fn (isfn_254 _) (ev_cons ?_))))
  refine e_loc F8 hk (by kd_mem) (.tail _ (up2 (up enX_L))) (by kd_mem) ?_
  have hK3 : absK K2 = pBook paths := by rw [hK2, hK]
  refine ev_nil ⟨F8.base, wpAny_call (c_law_rows (n := n) (hA.less (m := n + 1)) F8 (.tail _ (.head _)) hb1 (fun p hp => .tail _ (.tail _ (.tail _ (List.mem_append_left _ hp)))) (by rw [hK3]; exact nd1) (by rw [hK3]; exact len1) (by rw [hK3]; exact el1) ?_)⟩
  intro Rl Dp s9 hDp F9
  rw [hK3, eq1] at hDp
  have up3 : ∀ {p : Addr × (Obj → Prop)}, p ∈ X → p ∈ (Rl, LstP (refsP Dp)) :: (rowsPr Dp ++ ((D, LS (srt r)) :: (b, BkP w dx (kvsK K2)) :: (dx, DxP (some (.ref f))) :: (rowsK K2 ++ X))) := fun hp => .tail _ (List.mem_append_right _ (.tail _ (up2 hp)))
  with_reducible refine c_glo F9 hk (by kd_mem) g_sorted (cw_bi (ev_cons ?_))
  refine e_loc F9 hk (by kd_mem) (up3 (up enX_L)) (by kd_mem) ?_
  have hndH : (H.map (·.k)).Nodup := by
    have := O.nd
    rw [List.map_append] at this
    rw [absP_keys]
    exact (List.nodup_append.mp this).1
  have hlH : H.length < 64 := by
    have := O.hlen
    rw [List.length_append, absP_len, absP_len] at this
    omega
  refine ev_nil (o_sortPP F9 (.led (up3 (up enX_h))) (fun e he => up3 (up (enX_T (hHT _ (rowsPr_t he))))) hndH hlH ?_)
  intro D' R2 s10 hperm hD' F10
  have heq : absP Dp = absP D' := by rw [hDp, hD']
  refine o_nePP (D := Dp) (D' := D') hA F10 (.led (.tail _ (.head _))) (fun p hp => .tail _ (.tail _ (List.mem_append_left _ hp))) (.led (.head _)) (fun p hp => .tail _ (up3 (up (enX_T (hHT _ (rowsPr_perm hperm p hp)))))) (by rw [hDp]; exact okB_srtP O.hOk) (by rw [hD']; exact okB_srtP O.hOk) ?_
  rw [decide_eq_true heq]
  with_reducible refine t_bool ?_
  refine br_skip (h s10 b tb ?_)
  subst hX
  refine F10.weak ?_
  refine .cons _ (.cons _ (List.Sublist.trans ?_ (List.sublist_append_right _ _)))
  refine .cons _ (.cons _ (.cons _ (List.Sublist.trans ?_ (List.sublist_append_right _ _))))
  exact .cons _ (.cons _ (.cons _ (List.Sublist.refl _)))
end

section
open PySem PySem.W PySem.Spec PySem.Calls PyProof.Rows
set_option Elab.async false
set_option maxRecDepth 100000
set_option maxHeartbeats 0
noncomputable abbrev lsB (c b lq lb lh ld li : Addr) : List (Str × Value) := [(Str.ofString "loose", .ref c), (Str.ofString "frozen", .ref b), (Str.ofString "paths", .ref lq), (Str.ofString "bare", .ref lb), (Str.ofString "held", .ref lh), (Str.ofString "due", .ref ld), (Str.ofString "items", .ref li)]
theorem law_s17 {w : World} {A : Around} {B s : Shared} {n : Nat} {Q : Flow → Shared → Prop} {E : Value → Shared → Prop} {L fa lq ld li lh lb c : Addr} {cd : Value} {paths due : List Str} {ps : List Nat} {H Z : List Pr} {own : Led} {tb : Array Value} (hA : Rm A (n + 4)) (O : LawOk paths ps due (absP H) (absP Z)) (hpl : ps.length ≤ 3) (h9 : ∀ p ∈ ps, p ≤ 9)
    (F : Fm w B s (enX L lq ld li lh lb (enB c lq lb lh ld li) paths due (ps.map itemOf) H Z (TabP tb) (rowsPr H ++ (rowsPr Z ++ own))))
    (h : ∀ s', Fm w B s' [(178, T8), (201, TabP tb)] → Q (.ret (.bool true)) s') :
    wpAny (Md w) A (execs ((lawB w).drop 15) (lEnv w L fa cd)) Q E s := by
  have hbig : 100000 ≤ sizeLine := Nat.le_of_ble_eq_true rfl
  have hk := law_ks w L fa cd
  conv in List.drop 15 _ => whnf
  generalize hT : rowsPr H ++ (rowsPr Z ++ own) = T at F
  have hHT : ∀ p ∈ rowsPr (H ++ Z), p ∈ T := fun p hp => by
    rw [rowsPr_app] at hp
    rw [← hT]
    exact (List.mem_append.mp hp).elim (fun hp => List.mem_append_left _ hp) fun hp => List.mem_append_right _ (List.mem_append_left _ hp)
  with_reducible refine x_assign (c_glo F hk (by kd_mem) g_law_book (cw_fn (isfn_232 _) (ev_cons ?_)))
  kst_mem
  refine ev_nil ⟨F.base, wpAny_call (c_law_book (n := n) hA F.base (F.has (B := B) (.led enX_q)) O.plen O.path ?_)⟩
  intro b dx K s1 hb1 hK F1
  have F2 := F.trans F1
  replace F2 : Fm w B s1 ([(b, BkP w dx (kvsK K)), (dx, DxP none)] ++ (rowsK K ++ (enX L lq ld li lh lb (enB c lq lb lh ld li) paths due (ps.map itemOf) H Z (TabP tb) [] ++ T))) := by
    simpa using F2
  have F3 := F2.mid
  clear F F1 F2
  replace F3 : Fm w B s1 ((b, BkP w dx (kvsK K)) :: (dx, DxP none) :: enX L lq ld li lh lb (enB c lq lb lh ld li) paths due (ps.map itemOf) H Z (TabP tb) (rowsK K ++ T)) := F3
  kst_all
  rename_i s4 F4
  clear F3
  have F7 := Fm.mid (P := [(b, BkP w dx (kvsK K)), (dx, DxP none)]) (M := enX L lq ld li lh lb (lsB b c lq lb lh ld li) paths due (ps.map itemOf) H Z (TabP tb) []) (X := rowsK K) (T := T) F4
  clear F4
  replace F7 : Fm w B s4 ((b, BkP w dx (kvsK K)) :: (dx, DxP none) :: (rowsK K ++ (enX L lq ld li lh lb (lsB b c lq lb lh ld li) paths due (ps.map itemOf) H Z (TabP tb) T))) := by
    simpa using F7
  obtain ⟨bk, r, hW, hr64, hrd, nd1, len1, el1, eq1⟩ := O.r2
  have LK : BkLk w B n b dx (fun K => (b, BkP w dx (kvsK K)) :: (dx, DxP none) :: (rowsK K ++ (enX L lq ld li lh lb (lsB b c lq lb lh ld li) paths due (ps.map itemOf) H Z (TabP tb) T))) btouch :=
    lk_loose hb1
  generalize hX : enX L lq ld li lh lb (lsB b c lq lb lh ld li) paths due (ps.map itemOf) H Z (TabP tb) T = X at F7 LK
  have up : ∀ {p : Addr × (Obj → Prop)}, p ∈ enX L lq ld li lh lb (lsB b c lq lb lh ld li) paths due (ps.map itemOf) H Z (TabP tb) T → p ∈ X := fun hp => by rw [← hX]; exact hp
  have up2 : ∀ {p : Addr × (Obj → Prop)} {K : Kds}, p ∈ X → p ∈ (b, BkP w dx (kvsK K)) :: (dx, DxP none) :: (rowsK K ++ X) := fun hp => .tail _ (.tail _ (List.mem_append_right _ hp))
  with_reducible refine x_ret (e_and (e_cmp (c_glo F7 hk (by kd_mem) g_law_walk (cw_fn (isfn_237 _) (ev_cons ?_)))))
  refine e_loc F7 hk (by kd_mem) (up2 (up enX_L)) (by kd_mem) ?_
  with_reducible refine ev_cons ?_
  refine e_loc F7 hk (by kd_mem) (up2 (up enX_L)) (by kd_mem) ?_
  rw [← hK] at hW
  have hnm := O.nm
  rw [← hK] at hnm
  refine ev_nil ⟨F7.base, wpAny_call (c_law_walk (n := n) hA LK (fun _ => up2 (up enX_8)) (fun _ => up2 (up enX_i)) h9 (by omega) F7 hnm hW hr64 ?_)⟩
  intro K2 D s8 hK2 F8
  dsimp only at hK2 F8
  have hsd : srt r = due := hrd
  refine e_loc F8 hk (by kd_mem) (.tail _ (up2 (up enX_L))) (by kd_mem) ?_
  refine o_eqSS hA F8 (.led (.head _)) (.led (.tail _ (up2 (up enX_d)))) (by rw [hsd]; exact O.dueOk) O.dueOk ?_
  rw [decide_eq_true hsd]
  with_reducible refine t_bool ?_
  refine b2_t (e_cmp (c_glo F8 hk (by kd_mem) g_law_rows (cw_fn (isfn_254 _) (ev_cons ?_))))
  refine e_loc F8 hk (by kd_mem) (.tail _ (up2 (up enX_L))) (by kd_mem) ?_
  refine ev_nil ⟨F8.base, wpAny_call (c_law_rows (n := n) (hA.less (m := n + 1)) F8 (.tail _ (.head _)) hb1 (fun p hp => .tail _ (.tail _ (.tail _ (List.mem_append_left _ hp)))) (by rw [hK2]; exact nd1) (by rw [hK2]; exact len1) (by rw [hK2]; exact el1) ?_)⟩
  intro Rl Dp s9 hDp F9
  rw [hK2, eq1] at hDp
  have up3 : ∀ {p : Addr × (Obj → Prop)}, p ∈ X → p ∈ (Rl, LstP (refsP Dp)) :: (rowsPr Dp ++ ((D, LS (srt r)) :: (b, BkP w dx (kvsK K2)) :: (dx, DxP none) :: (rowsK K2 ++ X))) := fun hp => .tail _ (List.mem_append_right _ (.tail _ (up2 hp)))
  with_reducible refine c_glo F9 hk (by kd_mem) g_sorted (cw_bi (ev_cons (o_bin ?_)))
  refine e_loc F9 hk (by kd_mem) (up3 (up enX_L)) (by kd_mem) ?_
  refine e_loc F9 hk (by kd_mem) (up3 (up enX_L)) (by kd_mem) ?_
  have hlH : (H ++ Z).length < 64 := by
    have := O.hlen
    rwa [← absP_app, absP_len] at this
  refine o_addl F9 (.led (up3 (up enX_h))) (.led (up3 (up enX_b))) (by unfold refsP; rw [List.length_map, List.length_map, ← List.length_append]; omega) ?_
  intro D3 s10 F10
  rw [← refsP_app] at F10
  have hndH : ((H ++ Z).map (·.k)).Nodup := by
    rw [absP_keys, absP_app]
    exact O.nd
  refine ev_nil (o_sortPP F10 (.led (.head _)) (fun e he => .tail _ (up3 (up (enX_T (hHT _ (rowsPr_t he)))))) hndH hlH ?_)
  intro D' R2 s11 hperm hD' F11
  have heq : absP Dp = absP D' := by rw [hDp, hD', absP_app]
  refine o_eqPP (D := Dp) (D' := D') hA F11 (.led (.tail _ (.tail _ (.head _)))) (fun p hp => .tail _ (.tail _ (.tail _ (List.mem_append_left _ hp)))) (.led (.head _)) (fun p hp => .tail _ (.tail _ (up3 (up (enX_T (hHT _ (rowsPr_perm hperm p hp))))))) (by rw [hDp]; exact okB_srtP (okB_app O.hOk O.bOk)) (by rw [hD', absP_app]; exact okB_srtP (okB_app O.hOk O.bOk)) ?_
  rw [decide_eq_true heq]
  refine h s11 ?_
  subst hX
  refine F11.weak ?_
  refine .cons _ (.cons _ (.cons _ (List.Sublist.trans ?_ (List.sublist_append_right _ _))))
  refine .cons _ (.cons _ (.cons _ (List.Sublist.trans ?_ (List.sublist_append_right _ _))))
  exact .cons _ (.cons _ (.cons _ (.cons _ (.cons _ (.cons _ (.cons_cons _ (.cons_cons _ (List.nil_sublist _))))))))
end

section
open PySem PySem.W PySem.Spec PySem.Calls PyProof.Rows
set_option Elab.async false
set_option maxRecDepth 100000
set_option maxHeartbeats 0
noncomputable def PlainLaw : Prop := ∀ (rows : List (List Str)) (ps : List Nat), rows.length = 4 → (∀ r ∈ rows, RowOk r) → ps.length ≤ 3 → (∀ p ∈ ps, p ≤ 9) →
  LawOk (rows.map rowPath) ps (srt (pDue ps (pTree rows))) (pHeld (pTree rows) (pTree rows)) (pBare (pTree rows) ps (pTree rows))
theorem law_all {w : World} {A : Around} {B s : Shared} {n : Nat} {Q : Flow → Shared → Prop} {E : Value → Shared → Prop} {L fa ref : Addr} {cd : Value} (hA : Rm A (n + 4)) (hP : PlainLaw)
    (F : Fm w B s ((L, NsP [(Str.ofString "script", .ref ref)]) :: cells4 L none none none none [(178, T8), (201, TabP #[])])) (hr : ∀ own, Has B own ref LI)
    (h : ∀ s' tb, Fm w B s' [(178, T8), (201, TabP tb)] → Q (.ret (.bool true)) s') :
    wpAny (Md w) A (execs (lawB w) (lEnv w L fa cd)) Q E s := by
  refine law_s0 (n := n + 4) hA F hr fun s0 ls F0 => ?_
  clear F
  refine law_s1 (n := n + 4) hA F0 fun s1 Dr T hT hok F1 => ?_
  clear F0
  refine law_s2 (n := n + 4) (own := (Dr, LstP (famV T)) :: (famR T ++ [(178, T8), (201, TabP #[])])) hA (F1.sel (by kqd_all)) fun s2 lp ps hpl h9 F2 => ?_
  clear F1
  refine law_s3 (n := n + 4) hA hpl h9 F2 fun s3 li F3 => ?_
  clear F2
  have F4 : Fm w B s3 ((L, NsP (lfI li Dr)) :: (Dr, LstP (famV T)) :: cells4 L none none (some (.ref lp)) (some (.ref ls)) ((li, LS (ps.map itemOf)) :: (lp, LN ps) :: (famR T ++ [(178, T8), (201, TabP #[])]))) := F3.sel (by kqd_all)
  clear F3
  have F5 := Fm.mid (P := (L, NsP (lfI li Dr)) :: (Dr, LstP (famV T)) :: cells4 L none none (some (.ref lp)) (some (.ref ls)) []) (M := [(li, LS (ps.map itemOf)), (lp, LN ps)]) (X := famR T) (T := [(178, T8), (201, TabP #[])]) F4
  clear F4
  refine law_s5 (n := n) (lp := lp) (T := T) (own := [(li, LS (ps.map itemOf)), (lp, LN ps)] ++ [(178, T8), (201, TabP #[])]) (hA.less (m := n + 1)) (Nat.le_of_eq hT) hok F5 fun s6 lt U vn hU F6 => ?_
  clear F5
  have hrows : ∀ r ∈ famS T, RowOk r := fun r hr => by
    obtain ⟨p, hp, rfl⟩ := List.mem_map.mp hr
    exact hok p hp
  have hrl : (famS T).length = 4 := by rw [famS_len]; exact hT
  have O := hP (famS T) ps hrl hrows hpl h9
  have hto : TreeOk (famS U) 4 := by
    have := tree_ok (famS T) [[]] 0 hrows ⟨by simp, fun z hz => by rw [List.mem_singleton.mp hz]; exact .nil⟩
    rw [hU]
    unfold pTree
    rw [hrl] at this
    simpa using this
  rw [← hU] at O
  have hUl : U.length ≤ 17 := by have := hto.len; rw [famS_len] at this; omega
  have F7 := Fm.mid (P := (L, NsP (lfI li Dr)) :: (lt, LstP (famV U)) :: (Dr, LstP (famV T)) :: cells4 L vn (some (.ref lt)) (some (.ref lp)) (some (.ref ls)) []) (M := famR U ++ famR T) (X := [(li, LS (ps.map itemOf)), (lp, LN ps)]) (T := [(178, T8), (201, TabP #[])]) (by simpa using F6)
  clear F6
  replace F7 : Fm w B s6 ((L, NsP (lfI li Dr)) :: (lt, LstP (famV U)) :: (Dr, LstP (famV T)) :: (L + 4, CellP vn) :: (L + 3, CellP (some (.ref lt))) :: (L + 2, CellP (some (.ref lp))) :: (L + 1, CellP (some (.ref ls))) :: (li, LS (ps.map itemOf)) :: (lp, LN ps) :: (famR U ++ (famR T ++ [(178, T8), (201, TabP #[])]))) := by
    simpa using F7
  have F8 : Fm w B s6 ((L, NsP (lfI li Dr)) :: (lt, LstP (famV U)) :: (lp, LN ps) :: (L + 4, CellP vn) :: (L + 3, CellP (some (.ref lt))) :: (L + 2, CellP (some (.ref lp))) :: (L + 1, CellP (some (.ref ls))) :: (Dr, LstP (famV T)) :: (li, LS (ps.map itemOf)) :: (famR U ++ (famR T ++ [(178, T8), (201, TabP #[])]))) := F7.sel (by kqd_all)
  clear F7
  have F9 := Fm.mid (P := (L, NsP (lfI li Dr)) :: (lt, LstP (famV U)) :: (lp, LN ps) :: cells4 L vn (some (.ref lt)) (some (.ref lp)) (some (.ref ls)) []) (M := [(Dr, LstP (famV T)), (li, LS (ps.map itemOf))]) (X := famR U) (T := famR T ++ [(178, T8), (201, TabP #[])]) F8
  clear F8
  refine law_s6 (n := n) (U := U) (ps := ps) (own := [(Dr, LstP (famV T)), (li, LS (ps.map itemOf))] ++ (famR T ++ [(178, T8), (201, TabP #[])])) (hA.less (m := n + 1)) hto.ok hUl hpl h9 F9 fun s10 ld F10 => ?_
  clear F9
  refine law_s8 (n := n) (U := U) (ps := ps) (own := [(Dr, LstP (famV T)), (li, LS (ps.map itemOf))] ++ (famR T ++ [(178, T8), (201, TabP #[])])) (hA.less (m := n + 1)) hto.ok hUl hpl h9 F10 fun s11 lh lb vn' H Z hH hZ F11 => ?_
  clear F10
  rw [← hH, ← hZ] at O
  have F12 : Fm w B s11 ([(L, NsP (hbB lb lh ld li Dr)), (lh, LstP (refsP H)), (lb, LstP (refsP Z)), (ld, LS (srt (pDue ps (famS U))))] ++ ((rowsPr H ++ rowsPr Z) ++ (([(Dr, LstP (famV T)), (li, LS (ps.map itemOf))] ++ (famR T ++ [(178, T8), (201, TabP #[])])) ++ []))) := by
    refine F11.weak ?_
    refine .cons_cons _ (.cons_cons _ (.cons_cons _ (.cons_cons _ (.cons _ (.cons _ (.cons _ (.cons _ (.cons _ (.cons _ ?_)))))))))
    show List.Sublist ((rowsPr H ++ rowsPr Z) ++ (([(Dr, LstP (famV T)), (li, LS (ps.map itemOf))] ++ (famR T ++ [(178, T8), (201, TabP #[])])) ++ [])) _
    rw [List.append_nil, List.append_assoc (rowsPr H)]
    exact (List.Sublist.refl _).append ((List.Sublist.refl _).append (List.sublist_append_right _ _))
  clear F11
  have F13 := F12.mid
  clear F12
  have F14 : Fm w B s11 ((L, NsP (hbB lb lh ld li Dr)) :: (Dr, LstP (famV T)) :: (lh, LstP (refsP H)) :: (lb, LstP (refsP Z)) :: (ld, LS (srt (pDue ps (famS U)))) :: (li, LS (ps.map itemOf)) :: (famR T ++ ((178, T8) :: (201, TabP #[]) :: (rowsPr H ++ (rowsPr Z ++ []))))) := by
    have F13' : Fm w B s11 ((L, NsP (hbB lb lh ld li Dr)) :: (lh, LstP (refsP H)) :: (lb, LstP (refsP Z)) :: (ld, LS (srt (pDue ps (famS U)))) :: (Dr, LstP (famV T)) :: (li, LS (ps.map itemOf)) :: (famR T ++ ((178, T8) :: (201, TabP #[]) :: (rowsPr H ++ (rowsPr Z ++ []))))) := by simpa using F13
    exact F13'.sel (by kqd_all)
  clear F13
  have F15 := Fm.mid (P := [(L, NsP (hbB lb lh ld li Dr)), (Dr, LstP (famV T))]) (M := [(lh, LstP (refsP H)), (lb, LstP (refsP Z)), (ld, LS (srt (pDue ps (famS U)))), (li, LS (ps.map itemOf))]) (X := famR T) (T := (178, T8) :: (201, TabP #[]) :: (rowsPr H ++ (rowsPr Z ++ []))) F14
  clear F14
  refine law_s9 (n := n + 4) (bs := hbB lb lh ld li Dr) (bs' := hbB lb lh ld li Dr) hA (Nat.le_of_eq hT) hok (by kd_mem) (by kd_p) F15 fun s16 lq F16 => ?_
  clear F15
  have F17 : Fm w B s16 ((L, NsP ((Str.ofString "paths", .ref lq) :: hbB lb lh ld li Dr)) :: (lq, LS ((famS T).map rowPath)) :: (lh, LstP (refsP H)) :: (lb, LstP (refsP Z)) :: (ld, LS (srt (pDue ps (famS U)))) :: (li, LS (ps.map itemOf)) :: (178, T8) :: (201, TabP #[]) :: (rowsPr H ++ (rowsPr Z ++ []))) := by
    refine F16.weak ?_
    refine .cons_cons _ (.cons_cons _ (.cons _ ?_))
    exact List.sublist_append_right _ _
  clear F16
  have F18 : Fm w B s16 (enX L lq ld li lh lb (enB0 lq lb lh ld li) ((famS T).map rowPath) (srt (pDue ps (famS U))) (ps.map itemOf) H Z (TabP #[]) (rowsPr H ++ (rowsPr Z ++ []))) := (F17.nsw (bs' := enB0 lq lb lh ld li) .head (by kqd_sub)).sel (by kqd_all)
  clear F17
  refine law_s15 (n := n) hA O hpl h9 F18 fun s19 b tb F19 => ?_
  clear F18
  exact law_s17 (n := n) hA O hpl h9 F19 fun s20 F20 => h s20 tb F20
end

section
open PySem PySem.W PySem.Spec PySem.Calls PyProof.Rows
set_option Elab.async false
set_option maxRecDepth 100000
set_option maxHeartbeats 0
theorem nd7 (L : Nat) (h : 178 < L ∧ 201 < L) : ([L, L + 4, L + 3, L + 2, L + 1, 178, 201] : List Nat).Nodup := by
  have k : (([0, 4, 3, 2, 1] : List Nat).map (L + ·) ++ [178, 201]).Pairwise (· ≠ ·) := by
    refine List.pairwise_append.mpr ⟨List.Pairwise.map (L + ·) (fun a b n e => n (Nat.add_left_cancel e)) (by decide : ([0, 4, 3, 2, 1] : List Nat).Pairwise (· ≠ ·)), by decide, fun a ha b hb => ?_⟩
    obtain ⟨d, _, rfl⟩ := List.mem_map.mp ha
    have hb' : b < L := by
      rcases List.mem_cons.mp hb with rfl | hb
      · exact h.1
      · rw [List.mem_singleton.mp hb]; exact h.2
    exact Nat.ne_of_gt (Nat.lt_of_lt_of_le hb' (Nat.le_add_right L d))
  exact k
theorem law_start {w : World} {A : Around} {Q : Flow → Shared → Prop} {E : Value → Shared → Prop} {G h₁ : Heap} {L fa ref : Addr} {cd : Value} {m : Str → Option Value} {vs : List Value} {ns : List Int} {gens : Array GenState} {drawn : Drawn} {tk₁ : Nat} {os : OsState} {o1 o2 o3 o4 : Obj}
    (hA : Rm A 4) (hP : PlainLaw) (W : Wd w G) (F : Fr G L h₁ m) (hm : m (Str.ofString "script") = some (.ref ref))
    (N : News G L h₁ [(L + 1 + 1 + 1 + 1, o4), (L + 1 + 1 + 1, o3), (L + 1 + 1, o2), (L + 1, o1), (178, tabObj #[]), (201, tabObj #[])])
    (d4 : o4.data = .cell none) (d3 : o3.data = .cell none) (d2 : o2.data = .cell none) (d1 : o1.data = .cell none) (l0 : 178 < L ∧ 201 < L)
    (hl : G.IsList ref vs.toArray) (hI : IntsAre vs ns) (hns : ns.length ≤ 63)
    (h : ∀ s', (∀ b o, G.get? b = some o → s'.heap.get? b = some o) → s'.gens = gens → s'.os = os → (∃ ps, s'.heap.get? 178 = some (tabObj ps)) → (∃ ps, s'.heap.get? 201 = some (tabObj ps)) → Q (.ret (.bool true)) s') :
    wpAny (Md w) A (execs (lawB w) (lEnv w L fa cd)) Q E { heap := h₁, gens := gens, drawn := drawn, toks := tk₁, os := os } := by
  have hr : ∀ own, Has { heap := G, gens := gens, drawn := drawn, toks := tk₁, os := os : Shared } own ref LI := fun own => by
    obtain ⟨o, e, hc, k, hd⟩ := hl
    exact .base ⟨o, e, vs, ns, hI, by rw [hI.length]; omega, hc, k, hd⟩
  have N4 := N _ (.head _)
  have N3 := N _ (.tail _ (.head _))
  have N2 := N _ (.tail _ (.tail _ (.head _)))
  have N1 := N _ (.tail _ (.tail _ (.tail _ (.head _))))
  have M8 := N _ (.tail _ (.tail _ (.tail _ (.tail _ (.head _)))))
  have M1 := N _ (.tail _ (.tail _ (.tail _ (.tail _ (.tail _ (.head _))))))
  have FF : Fm w { heap := G, gens := gens, drawn := drawn, toks := tk₁, os := os : Shared } { heap := h₁, gens := gens, drawn := drawn, toks := tk₁, os := os : Shared } ((L, NsP [(Str.ofString "script", .ref ref)]) :: cells4 L none none none none [(178, T8), (201, TabP #[])]) := by
    refine ⟨⟨G, W, Sub.refl _⟩, fun p hp => ?_, ?_, fun p hp => ?_, F.keep, rfl, rfl⟩
    · simp only [cells4, List.mem_cons, List.not_mem_nil, or_false] at hp
      rcases hp with rfl | rfl | rfl | rfl | rfl | rfl | rfl
      · exact nsP_of F.ns fun p hp => by rw [List.mem_singleton.mp hp]; exact hm
      · exact ⟨o4, N4.1, d4⟩
      · exact ⟨o3, N3.1, d3⟩
      · exact ⟨o2, N2.1, d2⟩
      · exact ⟨o1, N1.1, d1⟩
      · exact ⟨_, M8.1, #[], trivial, rfl⟩
      · exact ⟨_, M1.1, rfl⟩
    · exact nd7 L l0
    · simp only [cells4, List.mem_cons, List.not_mem_nil, or_false] at hp
      rcases hp with rfl | rfl | rfl | rfl | rfl | rfl | rfl
      · exact Heap.get?_none_of_le F.above
      · exact N4.2.2
      · exact N3.2.2
      · exact N2.2.2
      · exact N1.2.2
      · exact M8.2.2
      · exact M1.2.2
  refine law_all (n := 0) hA hP FF hr fun s' tb F' => ?_
  obtain ⟨o8, e8, ps8, _, rfl⟩ := F'.sat _ (.head _)
  obtain ⟨o9, e9, q9⟩ := F'.sat _ (.tail _ (.head _))
  have q9' : o9 = tabObj tb := q9
  subst q9'
  exact h s' F'.keep F'.gens F'.os ⟨_, e8⟩ ⟨_, e9⟩
end

section
open PySem PySem.W PySem.Spec PySem.Calls PyProof.Rows
set_option Elab.async false
set_option maxRecDepth 100000
set_option maxHeartbeats 0
/-! texts as lists of code points -/
noncomputable abbrev tl (x : Str) : List Nat := x.cps.toList
theorem tl_app (a b : Str) : tl (a ++ b) = tl a ++ tl b := by
  show (a.cps ++ b.cps).toList = _
  simp
theorem tl_ext {a b : Str} (h : tl a = tl b) : a = b := by
  obtain ⟨a⟩ := a
  obtain ⟨b⟩ := b
  have : a = b := by simpa using h
  rw [this]
theorem tl_len (a : Str) : a.length = (tl a).length := by simp [Str.length]
theorem sl_eq : Str.ofString "/" = ⟨#[47]⟩ := by kernel_rfl
theorem tl_sl : tl (Str.ofString "/") = [47] := by rw [sl_eq]
theorem slice_from (x : Str) {a : Nat} (h : a ≤ x.length) : tl (Txt.slice x (some (a : Int)) none) = (tl x).drop a := by
  have e : Txt.slice x (some (a : Int)) none = StrLaws.sliceText x (some (a : Int)) none := rfl
  rw [e, StrLaws.sliceText_from ⟨by omega, by rw [tl_len] at h; exact_mod_cast h⟩]
  simp only [Int.toNat_natCast]
  show (List.take _ _) = _
  rw [List.take_of_length_le]
  simp
theorem slice_to (x : Str) {a : Nat} (h : a ≤ x.length) : tl (Txt.slice x none (some (a : Int))) = (tl x).take a := by
  have e : Txt.slice x none (some (a : Int)) = StrLaws.sliceText x none (some (a : Int)) := rfl
  rw [e, StrLaws.sliceText_to ⟨by omega, by rw [tl_len] at h; exact_mod_cast h⟩]
  simp

noncomputable def Free (x : Str) : Prop := 47 ∉ tl x
theorem at_iff {x : Str} {i : Nat} : StrLaws.At x (Str.ofString "/") x.length i ↔ (tl x)[i]? = some 47 := by
  rw [sl_eq]
  exact StrLaws.subAt_one x 47 i
theorem rfind_at {x : Str} {i : Nat} (h : (tl x)[i]? = some 47) (h2 : ∀ k, i < k → (tl x)[k]? ≠ some 47) : Txt.rfind x (Str.ofString "/") = (i : Int) := by
  have hat : StrLaws.At x (Str.ofString "/") x.length i := at_iff.mpr h
  unfold Txt.rfind
  rcases StrLaws.last_spec x (Str.ofString "/") with ⟨e, hn⟩ | ⟨j, e, hj, hk⟩
  · exact absurd hat (hn i)
  · rw [e]
    have : j = i := by
      rcases Nat.lt_trichotomy i j with h' | h' | h'
      · exact absurd (at_iff.mp hj) (h2 j h')
      · exact h'.symm
      · exact absurd hat (hk i h')
    rw [this]
theorem free_at {t : Str} (h : Free t) (u : List Nat) : ((u ++ 47 :: tl t)[u.length]? = some 47) ∧ ∀ k, u.length < k → (u ++ 47 :: tl t)[k]? ≠ some 47 := by
  refine ⟨by simp, fun k hk e => ?_⟩
  rw [List.getElem?_append_right (by omega)] at e
  obtain ⟨m, hm⟩ : ∃ m, k - u.length = m + 1 := ⟨k - u.length - 1, by omega⟩
  rw [hm] at e
  have e' : (tl t)[m]? = some 47 := by simpa using e
  exact h (List.mem_of_getElem? e')
theorem spI_eq {u t : Str} (h : Free t) : spI (u ++ (Str.ofString "/" ++ t)) = ((tl u).length + 1 : Nat) := by
  have e : tl (u ++ (Str.ofString "/" ++ t)) = tl u ++ 47 :: tl t := by rw [tl_app, tl_app, tl_sl]; rfl
  unfold spI
  rw [rfind_at (i := (tl u).length) (by rw [e]; exact (free_at h _).1) (by rw [e]; exact (free_at h _).2)]
  rfl
theorem spTail_eq {u t : Str} (h : Free t) : spTail (u ++ (Str.ofString "/" ++ t)) = t := by
  unfold spTail
  rw [spI_eq h]
  refine tl_ext ?_
  rw [slice_from _ (by rw [tl_len, tl_app, tl_app, tl_sl]; simp), tl_app, tl_app, tl_sl]
  rw [← List.append_assoc, List.drop_left' (by simp)]
theorem spH0_eq {u t : Str} (h : Free t) : spH0 (u ++ (Str.ofString "/" ++ t)) = u ++ Str.ofString "/" := by
  unfold spH0
  rw [spI_eq h]
  refine tl_ext ?_
  rw [slice_to _ (by rw [tl_len, tl_app, tl_app, tl_sl]; simp), tl_app, tl_app, tl_sl, tl_app, tl_sl]
  rw [← List.append_assoc, List.take_left' (by simp)]
theorem tl_rep (n : Nat) : tl (rep (Str.ofString "/") n) = List.replicate n 47 := by
  have key : ∀ n (acc : Array Nat), ((List.replicate n (Str.ofString "/").cps).foldl (· ++ ·) acc).toList = acc.toList ++ List.replicate n 47 := by
    intro n
    induction n with
    | zero => intro acc; simp
    | succ n ih =>
      intro acc
      rw [List.replicate_succ, List.foldl_cons, ih, Array.toList_append]
      have : (Str.ofString "/").cps.toList = [47] := tl_sl
      rw [this, List.append_assoc]
      rfl
  unfold rep
  show (Array.toList _) = _
  rw [key]
  rfl
noncomputable def EndOk (u : Str) : Prop := ∃ l c, tl u = l ++ [c] ∧ c ≠ 47
theorem rstrip_eq {u : Str} (h : EndOk u) : Txt.rstripChars (u ++ Str.ofString "/") (Str.ofString "/") = u := by
  obtain ⟨l, c, hu, hc⟩ := h
  unfold Txt.rstripChars
  rw [PyProof.Rows.stripBy_eq]
  have e : tl (u ++ Str.ofString "/") = l ++ [c, 47] := by rw [tl_app, tl_sl, hu]; simp
  have h2 : (Str.ofString "/").cps.contains 47 = true := by rw [sl_eq]; simp
  have h3 : (Str.ofString "/").cps.contains c = false := by
    rw [sl_eq]
    simp [hc]
  refine tl_ext ?_
  show (PySem.Builtin.Str.strSub _ _ _).cps.toList = _
  rw [StrLaws.strSub_toList]
  unfold stripLo stripHi
  simp only [Bool.false_eq_true, if_false, if_true, List.drop_zero, Nat.sub_zero]
  have e' : (u ++ Str.ofString "/").cps.toList = l ++ [c, 47] := e
  rw [e', tl_len, e]
  have e2 : ((l ++ [c, 47]).reverse.takeWhile (Str.ofString "/").cps.contains) = [47] := by
    rw [List.reverse_append]
    show List.takeWhile _ (47 :: c :: l.reverse) = _
    rw [List.takeWhile_cons, if_pos h2, List.takeWhile_cons, if_neg (by rw [h3]; exact Bool.false_ne_true)]
  rw [e2, hu]
  simp only [List.length_append, List.length_cons, List.length_nil]
  rw [show l ++ [c, 47] = (l ++ [c]) ++ [47] by simp]
  exact List.take_left' (by simp)
theorem emp_app (x : Str) : Str.empty ++ x = x := tl_ext (by rw [tl_app]; rfl)
theorem spHead_one {t : Str} (h : Free t) : spHead (Str.ofString "/" ++ t) = Str.ofString "/" := by
  have e : (Str.ofString "/" ++ t) = Str.empty ++ (Str.ofString "/" ++ t) := (emp_app _).symm
  have e0 := spH0_eq (u := Str.empty) h
  rw [← e, emp_app] at e0
  unfold spHead
  rw [e0]
  have h2 : (Str.ofString "/" != rep (Str.ofString "/") (Str.ofString "/").length) = false := by kernel_rfl
  rw [h2, if_neg Bool.false_ne_true]
  split <;> rfl
theorem spHead_more {u t : Str} (h : Free t) (hu : EndOk u) : spHead (u ++ (Str.ofString "/" ++ t)) = u := by
  unfold spHead
  rw [spH0_eq h]
  have hl : (u ++ Str.ofString "/").length = (tl u).length + 1 := by rw [tl_len, tl_app, tl_sl]; simp
  rw [if_pos (by rw [hl]; simp; omega), if_pos, rstrip_eq hu]
  rw [bne_iff_ne]
  intro e
  have e2 := congrArg tl e
  rw [tl_rep, tl_app, tl_sl, hl] at e2
  obtain ⟨l, c, hu, hc⟩ := hu
  rw [hu] at e2
  have : c ∈ List.replicate ((l ++ [c]).length + 1) 47 := by rw [← e2]; simp
  exact hc (List.eq_of_mem_replicate this)
end

section
open PySem PySem.W PySem.Spec PySem.Calls PyProof.Rows
set_option Elab.async false
set_option maxRecDepth 100000
set_option maxHeartbeats 0
noncomputable def Ns5 (ns : List Str) : Prop := ∀ x ∈ ns, x ∈ five
theorem Ns5.snoc {ns : List Str} {x : Str} (h : Ns5 (ns ++ [x])) : Ns5 ns ∧ x ∈ five := ⟨fun y hy => h y (List.mem_append_left _ hy), h x (List.mem_append_right _ (.head _))⟩
theorem NodeOk.n5 {ns : List Str} (h : NodeOk ns) : Ns5 ns := h.mem
theorem figs_free {x : Str} (h : x ∈ figs) : Free x := by
  simp only [figs, List.mem_cons, List.not_mem_nil, or_false] at h
  unfold Free
  rcases h with rfl | rfl | rfl | rfl | rfl | rfl | rfl | rfl <;> decide +kernel
theorem five_free {x : Str} (h : x ∈ five) : Free x := figs_free (five_figs h)
theorem five_end {x : Str} (h : x ∈ five) : EndOk x := by
  simp only [five, List.mem_cons, List.not_mem_nil, or_false] at h
  rcases h with rfl | rfl | rfl | rfl | rfl
  · exact ⟨[], 97, by kernel_rfl, by decide⟩
  · exact ⟨[], 98, by kernel_rfl, by decide⟩
  · exact ⟨[97], 98, by kernel_rfl, by decide⟩
  · exact ⟨[46], 97, by kernel_rfl, by decide⟩
  · exact ⟨[], 42, by kernel_rfl, by decide⟩
noncomputable def jl : List Str → List Nat
  | [] => []
  | [x] => tl x
  | x :: y :: r => tl x ++ 47 :: jl (y :: r)
theorem tl_sjoin : ∀ zs : List Str, tl (Str.join (Str.ofString "/") zs) = jl zs
  | [] => rfl
  | [x] => rfl
  | x :: y :: r => by
    show tl (x ++ Str.ofString "/" ++ Str.join (Str.ofString "/") (y :: r)) = _
    rw [tl_app, tl_app, tl_sl, tl_sjoin (y :: r), jl]
    simp
theorem tl_join (zs : List Str) : tl (Txt.join (Str.ofString "/") zs) = jl zs := by
  have e : Txt.join (Str.ofString "/") zs = Str.join (Str.ofString "/") zs := StrLaws.glued_eq_join _ zs
  rw [e, tl_sjoin]
theorem jl_snoc : ∀ (ns : List Str) (x : Str), jl (ns ++ [x]) = (if ns = [] then tl x else jl ns ++ 47 :: tl x)
  | [], x => rfl
  | [y], x => by simp [jl]
  | y :: z :: r, x => by
    have ih := jl_snoc (z :: r) x
    rw [if_neg (by simp)] at ih ⊢
    show tl y ++ 47 :: jl ((z :: r) ++ [x]) = _
    rw [ih, jl]
    simp
theorem tl_pth (ns : List Str) : tl (pth ns) = 47 :: jl ns := by
  unfold pth
  rw [tl_app, tl_sl, tl_join]; rfl
theorem pth_snoc (ns : List Str) (x : Str) : pth (ns ++ [x]) = (if ns = [] then Str.empty else pth ns) ++ (Str.ofString "/" ++ x) := by
  refine tl_ext ?_
  rw [tl_pth, jl_snoc, tl_app, tl_app, tl_sl]
  by_cases h : ns = []
  · rw [if_pos h, if_pos h]; rfl
  · rw [if_neg h, if_neg h, tl_pth]; simp
theorem pth_nil : pth [] = Str.ofString "/" := tl_ext (by rw [tl_pth, tl_sl]; rfl)
theorem end_app {u x : Str} (h : EndOk x) : EndOk (u ++ x) := by
  obtain ⟨l, c, e, hc⟩ := h
  exact ⟨tl u ++ l, c, by rw [tl_app, e, List.append_assoc], hc⟩
theorem pth_end {ns : List Str} (h : Ns5 ns) (hne : ns ≠ []) : EndOk (pth ns) := by
  obtain e | ⟨i, x, rfl⟩ := snoc_or ns
  · exact absurd e hne
  · rw [pth_snoc]
    exact end_app (end_app (five_end h.snoc.2))
theorem spTail_pth {ns : List Str} {x : Str} (h : Ns5 (ns ++ [x])) : spTail (pth (ns ++ [x])) = x := by
  rw [pth_snoc]
  exact spTail_eq (five_free h.snoc.2)
theorem spHead_pth {ns : List Str} {x : Str} (h : Ns5 (ns ++ [x])) : spHead (pth (ns ++ [x])) = pth ns := by
  rw [pth_snoc]
  by_cases e : ns = []
  · rw [if_pos e, emp_app, spHead_one (five_free h.snoc.2), e, pth_nil]
  · rw [if_neg e]
    exact spHead_more (five_free h.snoc.2) (pth_end h.snoc.1 e)
theorem emp_eq : Str.ofString "" = Str.empty := by kernel_rfl
theorem spTail_nil : spTail (pth []) = Str.ofString "" := by kernel_rfl
theorem five_ne {x : Str} (h : x ∈ five) : x ≠ Str.ofString "" := by
  rintro rfl
  obtain ⟨l, c, e, _⟩ := five_end h
  have : tl (Str.ofString "") = [] := by kernel_rfl
  rw [this] at e
  simp at e
theorem pth_inj : ∀ (n : Nat) (a b : List Str), a.length ≤ n → Ns5 a → Ns5 b → pth a = pth b → a = b := by
  intro n
  induction n with
  | zero =>
    intro a b ha h5 h5' e
    have ea : a = [] := List.eq_nil_of_length_eq_zero (by omega)
    subst ea
    obtain eb | ⟨i, x, rfl⟩ := snoc_or b
    · exact eb.symm
    · have := spTail_pth h5'
      rw [← e, spTail_nil] at this
      exact absurd this.symm (five_ne h5'.snoc.2)
  | succ n ih =>
    intro a b ha h5 h5' e
    obtain ea | ⟨i, x, rfl⟩ := snoc_or a
    · subst ea
      obtain eb | ⟨i, x, rfl⟩ := snoc_or b
      · exact eb.symm
      · have := spTail_pth h5'
        rw [← e, spTail_nil] at this
        exact absurd this.symm (five_ne h5'.snoc.2)
    · obtain eb | ⟨j, y, rfl⟩ := snoc_or b
      · subst eb
        have := spTail_pth h5
        rw [e, spTail_nil] at this
        exact absurd this.symm (five_ne h5.snoc.2)
      · have h1 := spTail_pth h5
        rw [e, spTail_pth h5'] at h1
        have h2 := spHead_pth h5
        rw [e, spHead_pth h5'] at h2
        rw [List.length_append] at ha
        have ha' : i.length ≤ n := by simpa using ha
        have := ih i j ha' h5.snoc.1 h5'.snoc.1 h2.symm
        rw [this, h1]
theorem pth_inj' {a b : List Str} (h : Ns5 a) (h' : Ns5 b) (e : pth a = pth b) : a = b := pth_inj a.length a b (Nat.le_refl _) h h' e
theorem sl_len : (Str.ofString "/").length = 1 := by kernel_rfl
theorem take1_eq {l : List Nat} {c : Nat} : (l.take 1 == [c]) = true ↔ l.head? = some c := by
  cases l with
  | nil => simp
  | cons a l => simp
theorem jn_pth {ns : List Str} {x : Str} (h : Ns5 ns) (hx : x ∈ five) : jn (pth ns) x = pth (ns ++ [x]) := by
  have h1 : Txt.startswith x (Str.ofString "/") = false := by
    unfold Txt.startswith
    rw [StrLaws.subAt_eq, sl_len]
    have e : (Str.ofString "/").cps.toList = [47] := tl_sl
    rw [e, List.drop_zero]
    cases q : (x.cps.toList.take 1 == [47]) with
    | false => exact Bool.and_false _
    | true =>
      have := take1_eq.mp q
      exact absurd (List.mem_of_mem_head? this) (five_free hx)
  have hl : (pth ns).length = (jl ns).length + 1 := by rw [tl_len, tl_pth]; rfl
  unfold jn
  rw [h1, if_neg Bool.false_ne_true, if_neg (by rw [hl]; simp; omega)]
  have e : (Str.ofString "/").cps.toList = [47] := tl_sl
  by_cases hn : ns = []
  · subst hn
    rw [if_pos (by rw [pth_nil]; kernel_rfl), pth_snoc, if_pos rfl, emp_app, pth_nil]
  · have h2 : Txt.endswith (pth ns) (Str.ofString "/") = false := by
      obtain ⟨l, c, el, hc⟩ := pth_end h hn
      unfold Txt.endswith
      rw [StrLaws.subAt_eq, sl_len, e]
      have el' : (pth ns).cps.toList = l ++ [c] := el
      rw [el', tl_len, el]
      have : ((l ++ [c]).length - 1) = l.length := by simp
      rw [this, List.drop_left' rfl]
      have q : ((List.take 1 [c]) == [47]) = false := by
        simp [hc]
      rw [q, Bool.and_false]
    rw [h2, if_neg Bool.false_ne_true, pth_snoc, if_neg hn]
end

section
open PySem PySem.W PySem.Spec PySem.Calls PyProof.Rows
set_option Elab.async false
set_option maxRecDepth 100000
set_option maxHeartbeats 0
theorem cut_inj : ∀ {a b A B : List Nat}, 47 ∉ a → 47 ∉ b → a ++ 47 :: A = b ++ 47 :: B → a = b ∧ A = B
  | [], [], A, B, _, _, h => ⟨rfl, by simpa using h⟩
  | [], y :: b, A, B, _, h2, h => by
    simp only [List.nil_append, List.cons_append, List.cons.injEq] at h
    exact absurd (by rw [← h.1]; exact .head _) h2
  | x :: a, [], A, B, h1, _, h => by
    simp only [List.nil_append, List.cons_append, List.cons.injEq] at h
    exact absurd (by rw [h.1]; exact .head _) h1
  | x :: a, y :: b, A, B, h1, h2, h => by
    simp only [List.cons_append, List.cons.injEq] at h
    obtain ⟨e1, e2⟩ := cut_inj (fun m => h1 (.tail _ m)) (fun m => h2 (.tail _ m)) h.2
    exact ⟨by rw [h.1, e1], e2⟩
theorem jl_inj : ∀ {a b : List Str}, a ≠ [] → b ≠ [] → (∀ x ∈ a, Free x) → (∀ x ∈ b, Free x) → jl a = jl b → a = b
  | [], _, h, _, _, _, _ => absurd rfl h
  | _, [], _, h, _, _, _ => absurd rfl h
  | [x], [y], _, _, _, _, h => by
    have := tl_ext (a := x) (b := y) h
    rw [this]
  | [x], y :: y2 :: r, _, _, h1, _, h => by
    have h : tl x = tl y ++ 47 :: jl (y2 :: r) := h
    exact absurd (by rw [h]; simp) (h1 x (.head _))
  | x :: x2 :: r, [y], _, _, _, h2, h => by
    have h : tl x ++ 47 :: jl (x2 :: r) = tl y := h
    exact absurd (by rw [← h]; simp) (h2 y (.head _))
  | x :: x2 :: r, y :: y2 :: r', _, _, h1, h2, h => by
    have h : tl x ++ 47 :: jl (x2 :: r) = tl y ++ 47 :: jl (y2 :: r') := h
    obtain ⟨e1, e2⟩ := cut_inj (h1 x (.head _)) (h2 y (.head _)) h
    have e3 := jl_inj (by simp) (by simp) (fun z hz => h1 z (.tail _ hz)) (fun z hz => h2 z (.tail _ hz)) e2
    rw [tl_ext e1, e3]
theorem split_ne (x : Str) : Txt.split x (Str.ofString "/") ≠ [] := by
  unfold Txt.split
  split
  · simp
  · split
    · simp
    · rw [StrLaws.partsBetween_eq]
      obtain ⟨p, r, e⟩ := StrLaws.partsFrom_ne x (Str.ofString "/").length 0 (PySem.Builtin.Str.occurrences x (Str.ofString "/") 0 x.length (x.length + 1))
      rw [e]
      simp
theorem split_join {zs : List Str} (h : zs ≠ []) (hf : ∀ z ∈ zs, Free z) : Txt.split (Txt.join (Str.ofString "/") zs) (Str.ofString "/") = zs := by
  refine jl_inj (split_ne _) h (fun p hp => ?_) hf ?_
  · rw [sl_eq] at hp
    exact StrLaws.split_free _ 47 p hp
  · have e := StrLaws.join_split (Txt.join (Str.ofString "/") zs) (Str.ofString "/")
    rw [← tl_sjoin, e, tl_join]
theorem rowPath_cut {row : List Str} (h : row ≠ []) : Txt.slice (rowPath row) (some 1) none = Txt.join (Str.ofString "/") (Str.ofString "." :: row) := by
  refine tl_ext ?_
  have e0 : tl (Str.ofString "/./") = [47, 46, 47] := by kernel_rfl
  have e1 : tl (rowPath row) = 47 :: 46 :: 47 :: jl row := by
    unfold rowPath
    rw [tl_app, e0, tl_join]; rfl
  have e2 := slice_from (rowPath row) (a := 1) (by rw [tl_len, e1]; simp)
  have e3 : tl (Str.ofString ".") = [46] := by kernel_rfl
  rw [show ((1 : Int)) = ((1 : Nat) : Int) from rfl, e2, e1, tl_join]
  cases row with
  | nil => exact absurd rfl h
  | cons x r =>
    show [46, 47] ++ jl (x :: r) = tl (Str.ofString ".") ++ 47 :: jl (x :: r)
    rw [e3]; rfl
theorem dot_free : Free (Str.ofString ".") := by
  unfold Free
  decide +kernel
theorem row_split {row : List Str} (h : RowOk row) : Txt.split (Txt.slice (rowPath row) (some 1) none) (Str.ofString "/") = Str.ofString "." :: row := by
  have hne : row ≠ [] := fun e => by have := h.len; rw [e] at this; simp at this
  rw [rowPath_cut hne]
  refine split_join (by simp) fun z hz => ?_
  rcases List.mem_cons.mp hz with rfl | hz
  · exact dot_free
  · exact figs_free (h.mem z hz)
/-! the two reckonings over names -/
theorem nStep_dd {acc : List Str} (h : ∀ x ∈ acc, x ∈ five) : nStep acc (Str.ofString "..") = acc.dropLast := by
  have h1 : (!(((Str.ofString "..").length : Int) != 0)) = false := by decide +kernel
  have h2 : (Str.ofString ".." == Str.ofString ".") = false := by decide +kernel
  have h3 : (Str.ofString ".." != Str.ofString "..") = false := by decide +kernel
  unfold nStep
  rw [h1, if_neg Bool.false_ne_true, h2, if_neg Bool.false_ne_true, h3, if_neg Bool.false_ne_true]
  cases e : acc.getLast? with
  | none => rw [List.getLast?_eq_none_iff] at e; rw [e]; rfl
  | some z =>
    have hz := h z (List.mem_of_getLast? e)
    have : (z == Str.ofString "..") = false := by
      simp only [five, List.mem_cons, List.not_mem_nil, or_false] at hz
      rcases hz with rfl | rfl | rfl | rfl | rfl <;> decide +kernel
    show (if (z == Str.ofString "..") = true then _ else _) = _
    rw [this, if_neg Bool.false_ne_true]
theorem nStep_nil (acc : List Str) : nStep acc (Str.ofString "") = acc := by
  have h1 : (!(((Str.ofString "").length : Int) != 0)) = true := by decide +kernel
  unfold nStep
  rw [if_pos h1]
theorem nStep_dot (acc : List Str) : nStep acc (Str.ofString ".") = acc := by
  have h1 : (!(((Str.ofString ".").length : Int) != 0)) = false := by decide +kernel
  unfold nStep
  rw [h1, if_neg Bool.false_ne_true, if_pos (by decide +kernel)]
theorem nStep_five (acc : List Str) {c : Str} (h : c ∈ five) : nStep acc c = acc ++ [c] := by
  have h1 : (!((c.length : Int) != 0)) = false ∧ (c == Str.ofString ".") = false ∧ (c != Str.ofString "..") = true := by
    simp only [five, List.mem_cons, List.not_mem_nil, or_false] at h
    rcases h with rfl | rfl | rfl | rfl | rfl <;> decide +kernel
  unfold nStep
  rw [h1.1, if_neg Bool.false_ne_true, h1.2.1, if_neg Bool.false_ne_true, if_pos h1.2.2]
theorem figs_cases {x : Str} (h : x ∈ figs) : x ∈ five ∨ x = Str.ofString ".." ∨ x = Str.ofString "." ∨ x = Str.ofString "" := by
  by_cases h1 : (x == Str.ofString "..") = true
  · exact .inr (.inl (by simpa using h1))
  · by_cases h2 : (x == Str.ofString "") = true
    · exact .inr (.inr (.inr (by simpa using h2)))
    · by_cases h3 : (x == Str.ofString ".") = true
      · exact .inr (.inr (.inl (by simpa using h3)))
      · exact .inl (figs_five h (by simpa using h1) (by simpa using h2) (by simpa using h3))
theorem nm_dd (st : Int × List Str) : nmStep st (Str.ofString "..") = (st.1 + 1, st.2) := by
  unfold nmStep
  rw [if_pos (by decide +kernel)]
theorem nm_nil (st : Int × List Str) : nmStep st (Str.ofString "") = st := by
  unfold nmStep
  rw [if_neg (by decide +kernel), if_pos (by decide +kernel)]
theorem nm_dot (st : Int × List Str) : nmStep st (Str.ofString ".") = st := by
  unfold nmStep
  rw [if_neg (by decide +kernel), if_neg (by decide +kernel), if_pos (by decide +kernel)]
theorem nm_five (st : Int × List Str) {c : Str} (h : c ∈ five) : nmStep st c = if st.1 > 0 then (st.1 - 1, st.2) else (st.1, c :: st.2) := by
  have h1 : (c == Str.ofString "..") = false ∧ (c == Str.ofString "") = false ∧ (c == Str.ofString ".") = false := by
    simp only [five, List.mem_cons, List.not_mem_nil, or_false] at h
    rcases h with rfl | rfl | rfl | rfl | rfl <;> decide +kernel
  unfold nmStep
  rw [h1.1, if_neg Bool.false_ne_true, h1.2.1, if_neg Bool.false_ne_true, h1.2.2, if_neg Bool.false_ne_true]
theorem names_eq : ∀ (r acc : List Str), (∀ x ∈ r, x ∈ figs) → (∀ x ∈ acc, x ∈ five) →
    0 ≤ (r.reverse.foldl nmStep (0, [])).1 ∧ r.foldl nStep acc = acc.take (acc.length - (r.reverse.foldl nmStep (0, [])).1.toNat) ++ (r.reverse.foldl nmStep (0, [])).2
  | [], acc, _, _ => ⟨Int.le_refl 0, by simp⟩
  | c :: r, acc, hr, ha => by
    rw [List.reverse_cons, List.foldl_append, List.foldl_cons, List.foldl_nil, List.foldl_cons]
    have ih := fun acc' ha' => names_eq r acc' (fun x hx => hr x (.tail _ hx)) ha'
    generalize r.reverse.foldl nmStep (0, []) = st at ih
    obtain ⟨d, nm⟩ := st
    dsimp only at ih ⊢
    rcases figs_cases (hr c (.head _)) with hc | rfl | rfl | rfl
    · have ha' : ∀ x ∈ acc ++ [c], x ∈ five := fun x hx => (List.mem_append.mp hx).elim (ha x) fun h => by rw [List.mem_singleton.mp h]; exact hc
      obtain ⟨h0, h1⟩ := ih _ ha'
      rw [nStep_five acc hc, nm_five _ hc, h1]
      dsimp only
      split
      · rename_i hd
        dsimp only
        obtain ⟨n, rfl⟩ : ∃ n : Nat, d = ((n + 1 : Nat) : Int) := ⟨(d - 1).toNat, by omega⟩
        rw [show ((n + 1 : Nat) : Int) - 1 = (n : Int) from (Int.add_sub_cancel (n : Int) 1 : (n : Int) + 1 - 1 = n)]
        refine ⟨Int.natCast_nonneg n, ?_⟩
        have e : acc.length + 1 - (n + 1) = acc.length - n := Nat.add_sub_add_right _ 1 _
        show (acc ++ [c]).take ((acc ++ [c]).length - (n + 1)) ++ nm = acc.take (acc.length - n) ++ nm
        rw [List.length_append, List.length_singleton, e, List.take_append_of_le_length (Nat.sub_le _ _)]
      · rename_i hd
        have hd0 : d = 0 := by omega
        subst hd0
        dsimp only
        refine ⟨Int.le_refl 0, ?_⟩
        simp only [Int.toNat_zero, Nat.sub_zero, List.length_append, List.length_cons, List.length_nil]
        rw [List.take_of_length_le (by simp), List.take_of_length_le (Nat.le_refl _)]
        simp
    · obtain ⟨h0, h1⟩ := ih acc.dropLast (fun x hx => ha x ((List.dropLast_sublist _).subset hx))
      rw [nStep_dd ha, nm_dd, h1]
      dsimp only
      obtain ⟨n, rfl⟩ := Int.eq_ofNat_of_zero_le h0
      refine ⟨Int.natCast_nonneg (n + 1), ?_⟩
      rw [List.dropLast_eq_take, List.take_take, List.length_take, Nat.min_eq_left (Nat.sub_le _ _), Nat.min_eq_left (Nat.sub_le _ _), Nat.sub_sub, Nat.add_comm]
      rfl
    · rw [nStep_dot, nm_dot]
      exact ih acc ha
    · rw [nStep_nil, nm_nil]
      exact ih acc ha
theorem nComps_row {row : List Str} (h : RowOk row) : nComps (rowPath row) = lawNames row := by
  unfold nComps
  rw [row_split h, List.foldl_cons, nStep_dot]
  have := (names_eq row [] h.mem (fun x hx => by cases hx)).2
  rw [this]
  simp [lawNames]
theorem nPath_row {row : List Str} (h : RowOk row) : nPath (rowPath row) = pth (lawNames row) := by
  unfold nPath pth
  rw [nComps_row h]
theorem pth_len {ns : List Str} (h : NodeOk ns) : (pth ns).length ≤ 100 := by
  have h2 := join_le (sep := Str.ofString "/") (zs := ns) (b := 2) (fun z hz => five_len (h.mem z hz))
  rw [sl_len] at h2
  have := h.len
  unfold pth
  rw [Str.length_append, sl_len]
  omega
theorem row_npok {row : List Str} (h : RowOk row) : NpOk (rowPath row) := by
  have hbig : 100000 ≤ sizeLine := Nat.le_of_ble_eq_true rfl
  have hne : row ≠ [] := fun e => by have := h.len; rw [e] at this; simp at this
  have e0 : tl (Str.ofString "/./") = [47, 46, 47] := by kernel_rfl
  have e1 : tl (rowPath row) = 47 :: 46 :: 47 :: jl row := by
    unfold rowPath
    rw [tl_app, e0, tl_join]; rfl
  have hj := join_le (sep := Str.ofString "/") (zs := row) (b := 2) (fun z hz => figs_len z (h.mem z hz))
  rw [sl_len, h.len] at hj
  have hl : (rowPath row).length ≤ 15 := by
    unfold rowPath
    rw [Str.length_append]
    have : (Str.ofString "/./").length = 3 := by kernel_rfl
    omega
  have hl3 : 3 ≤ (rowPath row).length := by rw [tl_len, e1]; simp
  have hcut : (Txt.slice (rowPath row) (some 1) none).length ≤ 15 := Nat.le_trans (Txt.slice_le _ _ _) hl
  refine ⟨by omega, by simp; omega, ?_, ?_, ?_, ?_, ?_, ?_⟩
  · refine tl_ext ?_
    rw [show ((1 : Int)) = ((1 : Nat) : Int) from rfl, slice_to _ (by omega), e1, tl_sl]; rfl
  · rw [bne_iff_ne]
    intro e
    have e2 : Txt.slice (rowPath row) (some 1) (some 2) = StrLaws.sliceText (rowPath row) (some ((1 : Nat) : Int)) (some ((2 : Nat) : Int)) := rfl
    rw [e2, StrLaws.sliceText_nat _ (by omega) (by omega)] at e
    have e3 := congrArg tl e
    rw [tl_sl] at e3
    have e4 : (rowPath row).cps.toList = 47 :: 46 :: 47 :: jl row := e1
    simp [e4] at e3
    have e5 : ([46] : List Nat) = [47] := e3
    simp at e5
  · rw [StrLaws.partsBetween_eq]
    have key : ∀ (x : Str) (w : Nat) (cuts : List Nat) (a : Nat), (StrLaws.partsFrom x w a cuts).length = cuts.length + 1 := by
      intro x w cuts
      induction cuts with
      | nil => intro a; rfl
      | cons c cuts ih =>
        intro a
        show (StrLaws.partsFrom x w _ cuts).length + 1 = _
        rw [ih]; rfl
    rw [key]
    have := StrLaws.occ_length_le (Txt.slice (rowPath row) (some 1) none) (Str.ofString "/") 0 (Txt.slice (rowPath row) (some 1) none).length ((Txt.slice (rowPath row) (some 1) none).length + 1)
    omega
  · rw [row_split h, List.length_cons, h.len]; omega
  · rw [row_split h]
    intro z hz
    rcases List.mem_cons.mp hz with rfl | hz
    · decide +kernel
    · have := figs_len z (h.mem z hz); omega
  · rw [nPath_row h]
    have := pth_len (names_ok h)
    omega
theorem chain_pth : ∀ (n : Nat) (ns : List Str), ns.length ≤ n → NodeOk ns → Chain (n + 1) (spHead (pth ns)) (spTail (pth ns))
  | n, ns, hl, h => by
    obtain e | ⟨i, x, rfl⟩ := snoc_or ns
    · subst e
      exact .inl spTail_nil
    · have h5 : Ns5 (i ++ [x]) := h.n5
      have hi : NodeOk i := ⟨by have := h.len; rw [List.length_append] at this; omega, fun y hy => h.mem y (List.mem_append_left _ hy)⟩
      rw [spHead_pth h5, spTail_pth h5]
      refine .inr ⟨by have := pth_len hi; omega, ?_⟩
      cases n with
      | zero => simp at hl
      | succ n => exact chain_pth n i (by rw [List.length_append] at hl; simpa using hl) hi
theorem chain_row {row : List Str} (h : RowOk row) : Chain 20 (spHead (nPath (rowPath row))) (spTail (nPath (rowPath row))) := by
  rw [nPath_row h]
  have hn := names_ok h
  exact chain_pth 19 _ (by have := hn.len; omega) hn
end

section
open PySem PySem.W PySem.Spec PySem.Calls PyProof.Rows
set_option Elab.async false
set_option maxRecDepth 100000
set_option maxHeartbeats 0
structure TI (tr : List (List Str)) : Prop where
  ok : ∀ z ∈ tr, NodeOk z
  nil : [] ∈ tr
  pre : ∀ ns x, ns ++ [x] ∈ tr → ns ∈ tr
  nd : tr.Nodup
theorem take_snoc_eq {nm z : List Str} {x : Str} {i : Nat} (h : nm.take (i + 1) = z ++ [x]) (hi : i < nm.length) : z = nm.take i := by
  have h2 := congrArg List.dropLast h
  rw [List.dropLast_concat, List.dropLast_eq_take, List.take_take, List.length_take] at h2
  rw [← h2]
  congr 1
  omega
theorem mem_newOf {tr : List (List Str)} {nm m : List Str} {k : Nat} : m ∈ newOf tr nm k ↔ (∃ i, i < k ∧ m = nm.take (i + 1)) ∧ m ∉ tr := by
  unfold newOf
  rw [List.mem_filter, List.mem_map]
  constructor
  · rintro ⟨⟨i, hi, rfl⟩, h⟩
    exact ⟨⟨i, List.mem_range.mp hi, rfl⟩, by simpa using h⟩
  · rintro ⟨⟨i, hi, rfl⟩, h⟩
    exact ⟨⟨i, List.mem_range.mpr hi, rfl⟩, by simpa using h⟩
theorem mem_tStep {tr : List (List Str)} {row m : List Str} : m ∈ tStep tr row ↔ m ∈ tr ∨ ∃ i, i < (lawNames row).length ∧ m = (lawNames row).take (i + 1) := by
  unfold tStep
  rw [List.mem_append, mem_newOf]
  constructor
  · rintro (h | ⟨h, _⟩)
    · exact .inl h
    · exact .inr h
  · rintro (h | h)
    · exact .inl h
    · by_cases hm : m ∈ tr
      · exact .inl hm
      · exact .inr ⟨h, hm⟩
theorem nodup_newOf (tr : List (List Str)) (nm : List Str) : (newOf tr nm nm.length).Nodup := by
  unfold newOf
  refine List.Sublist.nodup List.filter_sublist ?_
  have key : ∀ k, k ≤ nm.length → ((List.range k).map fun i => nm.take (i + 1)).Nodup := by
    intro k
    induction k with
    | zero => intro _; simp
    | succ k ih =>
      intro hk
      rw [List.range_succ, List.map_append, List.nodup_append]
      refine ⟨ih (by omega), by simp, ?_⟩
      rintro a ha b hb rfl
      obtain ⟨i, hi, e⟩ := List.mem_map.mp ha
      have hb' : a = nm.take (k + 1) := by simpa using hb
      have hi' := List.mem_range.mp hi
      have := congrArg List.length (e.trans hb')
      simp only [List.length_take] at this
      omega
  exact key _ (Nat.le_refl _)
theorem ti_step {tr : List (List Str)} {row : List Str} (h : TI tr) (hr : RowOk row) : TI (tStep tr row) := by
  refine ⟨fun z hz => ?_, mem_tStep.mpr (.inl h.nil), fun ns x hx => ?_, ?_⟩
  · rcases mem_tStep.mp hz with hz | ⟨i, _, rfl⟩
    · exact h.ok z hz
    · exact (names_ok hr).take _
  · rcases mem_tStep.mp hx with hx | ⟨i, hi, e⟩
    · exact mem_tStep.mpr (.inl (h.pre ns x hx))
    · have := take_snoc_eq e.symm hi
      subst this
      cases i with
      | zero => exact mem_tStep.mpr (.inl (by simpa using h.nil))
      | succ i => exact mem_tStep.mpr (.inr ⟨i, by omega, rfl⟩)
  · unfold tStep
    rw [List.nodup_append]
    refine ⟨h.nd, nodup_newOf _ _, ?_⟩
    rintro a ha b hb rfl
    exact (mem_newOf.mp hb).2 ha
theorem ti_tree : ∀ (rows : List (List Str)) (tr : List (List Str)), (∀ r ∈ rows, RowOk r) → TI tr → TI (rows.foldl tStep tr)
  | [], _, _, h => h
  | r :: rows, tr, hr, h => ti_tree rows _ (fun x hx => hr x (.tail _ hx)) (ti_step h (hr r (.head _)))
theorem ti_nil : TI [[]] := ⟨fun z hz => by rw [List.mem_singleton.mp hz]; exact .nil, .head _, fun ns x h => by simp at h, by simp⟩
structure BI (S P : List Str → Prop) (bk : Book) : Prop where
  nd : (bk.map (·.1)).Nodup
  ent : ∀ k v, (k, v) ∈ bk → ∃ ns, NodeOk ns ∧ k = pth ns ∧ v.Nodup ∧ (∀ x, x ∈ v ↔ S (ns ++ [x])) ∧ (v = [] → P ns)
  has : ∀ ns x, S (ns ++ [x]) → ∃ v, (pth ns, v) ∈ bk
  tch : ∀ ns, P ns → ∃ v, (pth ns, v) ∈ bk
  sok : ∀ ns, S ns → NodeOk ns
theorem NodeOk.init {ns : List Str} {x : Str} (h : NodeOk (ns ++ [x])) : NodeOk ns := ⟨by have := h.len; rw [List.length_append] at this; omega, fun y hy => h.mem y (List.mem_append_left _ hy)⟩
theorem BI.imp {S S' P P' : List Str → Prop} {bk : Book} (h : BI S P bk) (e : ∀ m, S' m ↔ S m) (e' : ∀ m, P' m ↔ P m) : BI S' P' bk :=
  ⟨h.nd, fun k v hv => let ⟨ns, a, b, c, d, f⟩ := h.ent k v hv; ⟨ns, a, b, c, fun x => (d x).trans (e _).symm, fun q => (e' _).mpr (f q)⟩, fun ns x hx => h.has ns x ((e _).mp hx), fun ns hx => h.tch ns ((e' _).mp hx), fun ns hx => h.sok ns ((e _).mp hx)⟩
theorem bget_none {bk : Book} {k : Str} (h : bget bk k = none) : ∀ v, (k, v) ∉ bk := by
  intro v hv
  unfold bget at h
  rw [Option.map_eq_none_iff, List.find?_eq_none] at h
  exact h _ hv (by simp)
theorem bget_mem {bk : Book} {k : Str} {v : List Str} (h : bget bk k = some v) : (k, v) ∈ bk := by
  unfold bget at h
  rw [Option.map_eq_some_iff] at h
  obtain ⟨p, h1, rfl⟩ := h
  have := List.find?_some h1
  have e : p.1 = k := by simpa using this
  rw [← e]
  exact List.mem_of_find?_eq_some h1
theorem BI.kids {S P : List Str → Prop} {bk : Book} (h : BI S P bk) {ns : List Str} (hn : NodeOk ns) : (kids bk (pth ns)).Nodup ∧ ∀ x, x ∈ Mine.kids bk (pth ns) ↔ S (ns ++ [x]) := by
  unfold Mine.kids
  cases e : bget bk (pth ns) with
  | none =>
    refine ⟨List.nodup_nil, fun x => ⟨fun hx => (nomatch hx), fun hx => ?_⟩⟩
    obtain ⟨v, hv⟩ := h.has ns x hx
    exact absurd hv (bget_none e v)
  | some v =>
    obtain ⟨ns', a, b, c, d, _⟩ := h.ent _ _ (bget_mem e)
    have := pth_inj' hn.n5 a.n5 b
    subst this
    exact ⟨c, d⟩
theorem keys_put : ∀ (bk : Book) (k t : Str), (bput bk k t).map (·.1) = if k ∈ bk.map (·.1) then bk.map (·.1) else bk.map (·.1) ++ [k]
  | [], k, t => by simp [bput]
  | (k', zs) :: r, k, t => by
    have ih := keys_put r k t
    unfold bput
    split
    · rename_i e
      subst e
      simp
    · rename_i e
      rw [List.map_cons, List.map_cons, ih]
      have : k ≠ k' := fun q => e q.symm
      simp only [List.mem_cons, this, false_or]
      split <;> rfl
theorem mem_put : ∀ (bk : Book) (k t : Str), (bk.map (·.1)).Nodup → ∀ k' v, (k', v) ∈ bput bk k t ↔ (k' ≠ k ∧ (k', v) ∈ bk) ∨ (k' = k ∧ v = Mine.kids bk k ++ [t])
  | [], k, t, _, k', v => by
    have : Mine.kids [] k = [] := rfl
    simp [bput, this]
  | (a, zs) :: r, k, t, nd, k', v => by
    rw [List.map_cons, List.nodup_cons] at nd
    have ih := mem_put r k t nd.2 k' v
    unfold bput
    split
    · rename_i e
      subst e
      have e2 : Mine.kids ((a, zs) :: r) a = zs := by simp [Mine.kids, bget]
      rw [e2]
      simp only [List.mem_cons, Prod.mk.injEq]
      constructor
      · rintro (⟨rfl, rfl⟩ | h)
        · exact .inr ⟨rfl, rfl⟩
        · refine .inl ⟨?_, .inr h⟩
          rintro rfl
          exact nd.1 (List.mem_map.mpr ⟨_, h, rfl⟩)
      · rintro (⟨h1, ⟨h2, _⟩ | h2⟩ | ⟨rfl, rfl⟩)
        · exact absurd h2 h1
        · exact .inr h2
        · exact .inl ⟨rfl, rfl⟩
    · rename_i e
      have e2 : Mine.kids ((a, zs) :: r) k = Mine.kids r k := by
        unfold Mine.kids bget
        rw [List.find?_cons_of_neg (by simpa using e)]
      rw [e2, List.mem_cons, ih, List.mem_cons]
      constructor
      · rintro (h | ⟨h1, h2⟩ | h)
        · refine .inl ⟨?_, .inl h⟩
          rintro rfl
          exact e (Prod.mk.inj h).1.symm
        · exact .inl ⟨h1, .inr h2⟩
        · exact .inr h
      · rintro (⟨h1, h2 | h2⟩ | h)
        · exact .inl h2
        · exact .inr (.inl ⟨h1, h2⟩)
        · exact .inr (.inr h)
theorem bi_put {S P : List Str → Prop} {bk : Book} (h : BI S P bk) {ns : List Str} {x : Str} (hn : NodeOk (ns ++ [x])) (hx : ¬ S (ns ++ [x])) : BI (fun m => S m ∨ m = ns ++ [x]) P (bput bk (pth ns) x) := by
  have hk := h.kids hn.init
  have hm := mem_put bk (pth ns) x h.nd
  refine ⟨?_, fun k v hv => ?_, fun ms y hy => ?_, fun ms hp => ?_, fun ms hs => hs.elim (h.sok ms) fun e => e ▸ hn⟩
  · rw [keys_put]
    split
    · exact h.nd
    · rename_i hn'
      rw [List.nodup_append]
      refine ⟨h.nd, by simp, ?_⟩
      rintro a ha b hb rfl
      rw [List.mem_singleton.mp hb] at ha
      exact hn' ha
  · rcases (hm k v).mp hv with ⟨hne, hv⟩ | ⟨rfl, rfl⟩
    · obtain ⟨ms, a, b, c, d, f⟩ := h.ent k v hv
      refine ⟨ms, a, b, c, fun y => ?_, f⟩
      rw [d]
      refine ⟨.inl, fun q => q.elim id fun e => ?_⟩
      have := List.append_inj' e rfl
      rw [this.1] at b
      exact absurd b hne
    · refine ⟨ns, hn.init, rfl, ?_, fun y => ?_, fun e => by simp at e⟩
      · rw [List.nodup_append]
        refine ⟨hk.1, by simp, ?_⟩
        rintro a ha b hb rfl
        rw [List.mem_singleton.mp hb] at ha
        exact hx ((hk.2 _).mp ha)
      · rw [List.mem_append, hk.2, List.mem_singleton]
        refine ⟨fun q => q.imp id fun e => by rw [e], fun q => q.imp id fun e => ?_⟩
        exact (List.cons.inj (List.append_inj' e rfl).2).1
  · by_cases e : ms = ns
    · subst e
      exact ⟨_, (hm _ _).mpr (.inr ⟨rfl, rfl⟩)⟩
    · have hs : S (ms ++ [y]) := hy.elim id fun q => absurd (List.append_inj' q rfl).1 e
      obtain ⟨v, hv⟩ := h.has ms y hs
      refine ⟨v, (hm _ _).mpr (.inl ⟨fun q => ?_, hv⟩)⟩
      exact e (pth_inj' (h.sok _ hs).init.n5 hn.init.n5 q)
  · obtain ⟨v, hv⟩ := h.tch ms hp
    by_cases e : pth ms = pth ns
    · exact ⟨_, (hm _ _).mpr (.inr ⟨e, rfl⟩)⟩
    · exact ⟨v, (hm _ _).mpr (.inl ⟨e, hv⟩)⟩
theorem ins_ok : ∀ (n : Nat) (nm : List Str) (S P : List Str → Prop) (bk : Book), nm.length < n → NodeOk nm → BI S P bk → (∀ i j, 0 < i → i ≤ j → j ≤ nm.length → S (nm.take j) → S (nm.take i)) →
    BI (fun m => S m ∨ ∃ i, i < nm.length ∧ m = nm.take (i + 1)) P (pIns n (spHead (pth nm)) (spTail (pth nm)) bk)
  | 0, _, _, _, _, h, _, _, _ => absurd h (by omega)
  | n + 1, nm, S, P, bk, hn, hok, h, hcl => by
    obtain e | ⟨ns, x, rfl⟩ := snoc_or nm
    · subst e
      unfold pIns
      rw [spTail_nil, if_neg (by simp)]
      exact h.imp (fun m => ⟨fun q => q.elim id fun ⟨i, hi, _⟩ => by simp at hi, .inl⟩) fun _ => Iff.rfl
    · have h5 : Ns5 (ns ++ [x]) := hok.n5
      have hk := h.kids hok.init
      have hlen : (ns ++ [x]).length = ns.length + 1 := by simp
      unfold pIns
      rw [spTail_pth h5, spHead_pth h5, if_pos (by rw [bne_iff_ne]; exact five_ne h5.snoc.2)]
      have ek : (bget bk (pth ns)).getD [] = Mine.kids bk (pth ns) := rfl
      rw [ek]
      split
      · rename_i hx
        have hs := (hk.2 x).mp hx
        refine h.imp (fun m => ⟨fun q => q.elim id fun ⟨i, hi, e⟩ => ?_, .inl⟩) fun _ => Iff.rfl
        rw [e]
        refine hcl (i + 1) (ns ++ [x]).length (by omega) (by omega) (Nat.le_refl _) ?_
        rw [List.take_of_length_le (Nat.le_refl _)]
        exact hs
      · rename_i hx
        have hs : ¬ S (ns ++ [x]) := fun q => hx ((hk.2 x).mpr q)
        have h1 := bi_put h hok hs
        have ih := ins_ok n ns _ P _ (by omega) hok.init h1 (fun i j h0 hij hj q => ?_)
        · refine ih.imp (fun m => ?_) fun _ => Iff.rfl
          constructor
          · rintro (q | ⟨i, hi, e⟩)
            · exact .inl (.inl q)
            · by_cases hi' : i < ns.length
              · exact .inr ⟨i, hi', by rw [e, List.take_append_of_le_length (by omega)]⟩
              · have : i = ns.length := by omega
                subst this
                exact .inl (.inr (by rw [e, List.take_of_length_le (by rw [hlen]; exact Nat.le_refl _)]))
          · rintro ((q | q) | ⟨i, hi, e⟩)
            · exact .inl q
            · exact .inr ⟨ns.length, by omega, by rw [q, List.take_of_length_le (by rw [hlen]; exact Nat.le_refl _)]⟩
            · exact .inr ⟨i, by omega, by rw [e, List.take_append_of_le_length (by omega)]⟩
        · rcases q with q | q
          · have e1 : ns.take j = (ns ++ [x]).take j := by rw [List.take_append_of_le_length hj]
            have e2 : ns.take i = (ns ++ [x]).take i := by rw [List.take_append_of_le_length (by omega)]
            rw [e1] at q
            rw [e2]
            exact .inl (hcl i j h0 hij (by omega) q)
          · have := congrArg List.length q
            rw [List.length_take, hlen] at this
            omega
theorem ti_take {tr : List (List Str)} (h : TI tr) : ∀ (d : Nat) (nm : List Str) (i : Nat), nm.length = i + d → nm ∈ tr → nm.take i ∈ tr
  | 0, nm, i, hl, hm => by rw [List.take_of_length_le (by omega)]; exact hm
  | d + 1, nm, i, hl, hm => by
    obtain e | ⟨ns, x, rfl⟩ := snoc_or nm
    · subst e; simp at hl
    · have hl' : ns.length = i + d := by
        rw [List.length_append] at hl
        have : [x].length = 1 := rfl
        omega
      rw [List.take_append_of_le_length (by omega)]
      exact ti_take h d ns i hl' (h.pre ns x hm)
theorem bi_step {tr : List (List Str)} {row : List Str} {bk : Book} (ht : TI tr) (hr : RowOk row) (h : BI (· ∈ tr) (fun _ => False) bk) : BI (· ∈ tStep tr row) (fun _ => False) (pStep bk (rowPath row)) := by
  unfold pStep
  rw [nPath_row hr]
  have hn := names_ok hr
  refine (ins_ok 20 (lawNames row) (· ∈ tr) (fun _ => False) bk (by have := hn.len; omega) hn h (fun i j h0 hij hj q => ?_)).imp (fun m => mem_tStep) fun _ => Iff.rfl
  have := ti_take ht (j - i) ((lawNames row).take j) i (by rw [List.length_take]; omega) q
  rw [List.take_take] at this
  rwa [Nat.min_eq_left hij] at this
theorem bi_rows : ∀ (rows : List (List Str)) (tr : List (List Str)) (bk : Book), (∀ r ∈ rows, RowOk r) → TI tr → BI (· ∈ tr) (fun _ => False) bk → BI (· ∈ rows.foldl tStep tr) (fun _ => False) ((rows.map rowPath).foldl pStep bk)
  | [], _, _, _, _, h => h
  | r :: rows, tr, bk, hr, ht, h => bi_rows rows _ _ (fun x hx => hr x (.tail _ hx)) (ti_step ht (hr r (.head _))) (bi_step ht (hr r (.head _)) h)
theorem bi_book {rows : List (List Str)} (hr : ∀ r ∈ rows, RowOk r) : BI (· ∈ pTree rows) (fun _ => False) (pBook (rows.map rowPath)) :=
  bi_rows rows _ _ hr ti_nil ⟨List.nodup_nil, fun k v h => (nomatch h), fun ns x h => by simp at h, fun _ h => h.elim, fun z hz => by rw [List.mem_singleton.mp hz]; exact .nil⟩
theorem ti_rows {rows : List (List Str)} (hr : ∀ r ∈ rows, RowOk r) : TI (pTree rows) := ti_tree rows _ hr ti_nil
end

section
open PySem PySem.W PySem.Spec PySem.Calls PyProof.Rows
set_option Elab.async false
set_option maxRecDepth 100000
set_option maxHeartbeats 0
/-! what fits, from the last pick on -/
theorem takes_means : ((List.range 9).all fun p => five.all fun x => takes (partsL.getD p []) x == decide (x ∈ meansL.getD p [])) = true := by decide +kernel
theorem takes_eq {p : Nat} {x : Str} (hp : p < 9) (hx : x ∈ five) : takes (partsL.getD p []) x = decide (x ∈ meansL.getD p []) := by
  have h := List.all_eq_true.mp (List.all_eq_true.mp takes_means p (List.mem_range.mpr hp)) x hx
  exact beq_iff_eq.mp h
noncomputable def reach (ps : List Nat) (ns : List Str) : List Bool := ps.foldl (ftStep ns) (true :: List.replicate ns.length false)
theorem reach_len (ps : List Nat) (ns : List Str) : (reach ps ns).length = ns.length + 1 := ftf_len ns ps _ (by simp)
theorem reach_snoc (ps : List Nat) (p : Nat) (ns : List Str) : reach (ps ++ [p]) ns = ftStep ns (reach ps ns) p := by
  unfold reach
  rw [List.foldl_append]; rfl
noncomputable def fitR : List Nat → List Str → Bool
  | [], ns => ns.isEmpty
  | p :: r, ns => if p = 9 then (List.range (ns.length + 1)).any fun i => fitR r (ns.take i) else match ns.getLast? with
    | none => false
    | some x => fitR r ns.dropLast && decide (x ∈ meansL.getD p [])
theorem true_take {r : List Bool} {k : Nat} : true ∈ r.take (k + 1) ↔ ∃ i, i ≤ k ∧ i < r.length ∧ r.getD i false = true := by
  rw [List.mem_iff_getElem]
  constructor
  · rintro ⟨i, hi, e⟩
    rw [List.length_take] at hi
    rw [List.getElem_take] at e
    refine ⟨i, by omega, by omega, ?_⟩
    rw [List.getD_eq_getElem?_getD, List.getElem?_eq_getElem (by omega), e]; rfl
  · rintro ⟨i, h1, h2, e⟩
    refine ⟨i, by rw [List.length_take]; omega, ?_⟩
    rw [List.getElem_take]
    rw [List.getD_eq_getElem?_getD, List.getElem?_eq_getElem h2] at e
    exact e
theorem reach_get : ∀ (rp : List Nat) (ns : List Str) (k : Nat), k ≤ ns.length → (reach rp.reverse ns).getD k false = fitR rp (ns.take k)
  | [], ns, k, hk => by
    show (true :: List.replicate ns.length false).getD k false = (ns.take k).isEmpty
    cases k with
    | zero => simp
    | succ k =>
      have : (ns.take (k + 1)).isEmpty = false := by
        cases ns with
        | nil => simp at hk
        | cons a l => rfl
      rw [this, List.getD_eq_getElem?_getD, List.getElem?_cons_succ, List.getElem?_replicate]
      split <;> rfl
  | p :: rp, ns, k, hk => by
    have ih := fun j hj => reach_get rp ns j hj
    rw [List.reverse_cons, reach_snoc]
    have hl := reach_len rp.reverse ns
    generalize reach rp.reverse ns = r at ih hl
    unfold ftStep fitR
    by_cases h9 : p = 9
    · rw [if_pos h9, if_pos h9]
      unfold stStar
      rw [List.getD_eq_getElem?_getD, List.getElem?_map, List.getElem?_range (by omega)]
      show decide (true ∈ r.take (k + 1)) = _
      rw [Bool.eq_iff_iff, decide_eq_true_iff, true_take, List.any_eq_true]
      constructor
      · rintro ⟨i, h1, h2, e⟩
        refine ⟨i, List.mem_range.mpr (by rw [List.length_take]; omega), ?_⟩
        rw [List.take_take, Nat.min_eq_left h1, ← ih i (by omega)]
        exact e
      · rintro ⟨i, h1, e⟩
        have h1' := List.mem_range.mp h1
        rw [List.length_take] at h1'
        rw [List.take_take, Nat.min_eq_left (by omega), ← ih i (by omega)] at e
        exact ⟨i, by omega, by omega, e⟩
    · rw [if_neg h9, if_neg h9]
      unfold stPart
      cases k with
      | zero => simp
      | succ k =>
        have hk' : k < ns.length := by omega
        have e1 : ns.take (k + 1) = ns.take k ++ [ns.getD k Str.empty] := by
          rw [List.take_add_one, List.getD_eq_getElem?_getD, List.getElem?_eq_getElem hk']; rfl
        rw [e1, List.getLast?_concat, List.dropLast_concat]
        rw [List.getD_eq_getElem?_getD, List.getElem?_cons_succ, List.getElem?_map, List.getElem?_range hk']
        show (r.getD k false && _) = _
        rw [ih k (by omega)]
theorem fits_eq (ps : List Nat) (ns : List Str) : fits ps ns = fitR ps.reverse ns := by
  have h := reach_get ps.reverse ns ns.length (Nat.le_refl _)
  rw [List.reverse_reverse, List.take_of_length_le (Nat.le_refl _)] at h
  rw [← h]
  have hl := reach_len ps ns
  show ((reach ps ns).getLast?).getD false = _
  rw [List.getD_eq_getElem?_getD, List.getLast?_eq_getElem?, hl]; rfl
theorem fits_nil (ns : List Str) : fits [] ns = ns.isEmpty := by rw [fits_eq]; rfl
theorem fits_part {ps : List Nat} {p : Nat} (h : p ≠ 9) (ns : List Str) (x : Str) : fits (ps ++ [p]) (ns ++ [x]) = (fits ps ns && decide (x ∈ meansL.getD p [])) := by
  rw [fits_eq, fits_eq, List.reverse_append]
  show fitR (p :: ps.reverse) _ = _
  rw [fitR, if_neg h, List.getLast?_concat, List.dropLast_concat]
theorem fits_part_nil {ps : List Nat} {p : Nat} (h : p ≠ 9) : fits (ps ++ [p]) [] = false := by
  rw [fits_eq, List.reverse_append]
  show fitR (p :: ps.reverse) _ = _
  rw [fitR, if_neg h]; rfl
theorem fits_star {ps : List Nat} (ns : List Str) : fits (ps ++ [9]) ns = true ↔ ∃ i, i ≤ ns.length ∧ fits ps (ns.take i) = true := by
  rw [fits_eq, List.reverse_append]
  show fitR (9 :: ps.reverse) _ = true ↔ _
  rw [fitR, if_pos rfl, List.any_eq_true]
  constructor
  · rintro ⟨i, h1, e⟩
    exact ⟨i, by have := List.mem_range.mp h1; omega, by rw [fits_eq]; exact e⟩
  · rintro ⟨i, h1, e⟩
    exact ⟨i, List.mem_range.mpr (by omega), by rw [← fits_eq]; exact e⟩
theorem fits_star_self {ps : List Nat} {ns : List Str} (h : fits ps ns = true) : fits (ps ++ [9]) ns = true :=
  (fits_star ns).mpr ⟨ns.length, Nat.le_refl _, by rw [List.take_of_length_le (Nat.le_refl _)]; exact h⟩
end

section
open PySem PySem.W PySem.Spec PySem.Calls PyProof.Rows
set_option Elab.async false
set_option maxRecDepth 100000
set_option maxHeartbeats 0
/-! the walk over a book of a tree -/
theorem len_le_of_sub {α : Type} [DecidableEq α] {l L : List α} (hl : l.Nodup) (hL : L.Nodup) (h : ∀ x ∈ l, x ∈ L) : l.length ≤ L.length := by
  have hp : l.Perm (L.filter fun x => decide (x ∈ l)) := by
    refine (List.perm_ext_iff_of_nodup hl (List.Sublist.nodup List.filter_sublist hL)).mpr fun x => ?_
    rw [List.mem_filter]
    exact ⟨fun hx => ⟨h x hx, by simpa using hx⟩, fun hx => by simpa using hx.2⟩
  rw [hp.length_eq]
  exact List.length_filter_le _ _
theorem pths_nodup {tr : List (List Str)} (h : TI tr) : (tr.map pth).Nodup := by
  have key : ∀ l : List (List Str), (∀ z ∈ l, NodeOk z) → l.Nodup → (l.map pth).Nodup := by
    intro l
    induction l with
    | nil => intro _ _; simp
    | cons z l ih =>
      intro hok nd
      rw [List.nodup_cons] at nd
      rw [List.map_cons, List.nodup_cons]
      refine ⟨fun hm => ?_, ih (fun y hy => hok y (.tail _ hy)) nd.2⟩
      obtain ⟨y, hy, e⟩ := List.mem_map.mp hm
      have := pth_inj' (hok y (.tail _ hy)).n5 (hok z (.head _)).n5 e
      subst this
      exact nd.1 hy
  exact key tr h.ok h.nd
noncomputable def Pths (tr : List (List Str)) (fd : List Str) : Prop := fd.Nodup ∧ ∀ k ∈ fd, ∃ ns ∈ tr, k = pth ns
theorem Pths.len {tr : List (List Str)} {fd : List Str} (ht : TI tr) (h : Pths tr fd) : fd.length ≤ tr.length := by
  have := len_le_of_sub h.1 (pths_nodup ht) fun k hk => by
    obtain ⟨ns, hn, rfl⟩ := h.2 k hk
    exact List.mem_map.mpr ⟨ns, hn, rfl⟩
  rwa [List.length_map] at this
theorem Pths.okF {tr : List (List Str)} {fd : List Str} (ht : TI tr) (hl : tr.length ≤ 17) (h : Pths tr fd) : okF fd = true := by
  unfold Mine.okF
  rw [Bool.and_eq_true, decide_eq_true_eq, List.all_eq_true]
  refine ⟨by have := h.len ht; omega, fun k hk => ?_⟩
  obtain ⟨ns, hn, rfl⟩ := h.2 k hk
  have := pth_len (ht.ok ns hn)
  exact decide_eq_true (by omega)
theorem bk_len {tr : List (List Str)} {P : List Str → Prop} {bk : Book} (ht : TI tr) (h : BI (· ∈ tr) P bk) (hP : ∀ m, P m → m ∈ tr) : bk.length ≤ tr.length := by
  have := len_le_of_sub h.nd (pths_nodup ht) fun k hk => by
    obtain ⟨⟨k', v⟩, hv, rfl⟩ := List.mem_map.mp hk
    obtain ⟨ns, a, b, c, d, f⟩ := h.ent k' v hv
    refine List.mem_map.mpr ⟨ns, ?_, b.symm⟩
    cases v with
    | nil => exact hP ns (f rfl)
    | cons x v => exact ht.pre ns x ((d x).mp (.head _))
  rwa [List.length_map, List.length_map] at this
noncomputable def NxT (tr : List (List Str)) (nx : Book → Str → Book) (T : Prop) : Prop :=
  ∀ (P : List Str → Prop) bk ns, ns ∈ tr → BI (· ∈ tr) P bk → BI (· ∈ tr) (fun m => P m ∨ (T ∧ m = ns)) (nx bk (pth ns))
theorem nxt_id (tr : List (List Str)) : NxT tr (fun bk _ => bk) False := fun P bk ns _ h => h.imp (fun _ => Iff.rfl) fun m => ⟨fun q => q.elim id fun q => q.1.elim, .inl⟩
theorem nxt_touch {tr : List (List Str)} (ht : TI tr) : NxT tr btouch True := by
  intro P bk ns hns h
  have hk := h.kids (ht.ok ns hns)
  unfold btouch
  cases e : bget bk (pth ns) with
  | some v =>
    refine ⟨h.nd, fun k v hv => ?_, h.has, fun m hm => ?_, h.sok⟩
    · obtain ⟨ms, a, b, c, d, f⟩ := h.ent k v hv
      exact ⟨ms, a, b, c, d, fun q => .inl (f q)⟩
    · rcases hm with hm | ⟨_, rfl⟩
      · exact h.tch m hm
      · exact ⟨v, bget_mem e⟩
  | none =>
    have hno := bget_none e
    have hkids : Mine.kids bk (pth ns) = [] := by unfold Mine.kids; rw [e]; rfl
    refine ⟨?_, fun k v hv => ?_, fun ms x hx => ?_, fun m hm => ?_, h.sok⟩
    · rw [List.map_append, List.nodup_append]
      refine ⟨h.nd, by simp, ?_⟩
      rintro a ha b hb rfl
      have hb' : a = pth ns := by simpa using hb
      subst hb'
      obtain ⟨⟨k, v⟩, hv, e2⟩ := List.mem_map.mp ha
      have e3 : k = pth ns := e2
      subst e3
      exact hno v hv
    · rcases List.mem_append.mp hv with hv | hv
      · obtain ⟨ms, a, b, c, d, f⟩ := h.ent k v hv
        exact ⟨ms, a, b, c, d, fun q => .inl (f q)⟩
      · obtain ⟨rfl, rfl⟩ := Prod.mk.inj (List.mem_singleton.mp hv)
        refine ⟨ns, ht.ok ns hns, rfl, List.nodup_nil, fun x => ?_, fun _ => .inr ⟨trivial, rfl⟩⟩
        rw [← hk.2, hkids]
    · obtain ⟨v, hv⟩ := h.has ms x hx
      exact ⟨v, List.mem_append_left _ hv⟩
    · rcases hm with hm | ⟨_, rfl⟩
      · obtain ⟨v, hv⟩ := h.tch m hm
        exact ⟨v, List.mem_append_left _ hv⟩
      · exact ⟨[], List.mem_append_right _ (.head _)⟩
section
variable {tr : List (List Str)} {nx : Book → Str → Book} {T : Prop}
theorem cOut_mem {P : List Str → Prop} {bk : Book} {ps : List (Option Str)} {ns : List Str} (ht : TI tr) (h : BI (· ∈ tr) P bk) (hn : ns ∈ tr) :
    (cOut ps bk (pth ns)).Nodup ∧ ∀ k, k ∈ cOut ps bk (pth ns) ↔ ∃ x, ns ++ [x] ∈ tr ∧ takes ps x = true ∧ k = pth (ns ++ [x]) := by
  have hk := h.kids (ht.ok ns hn)
  have hj : ∀ x ∈ Mine.kids bk (pth ns), jn (pth ns) x = pth (ns ++ [x]) := fun x hx => by
    have hm := (hk.2 x).mp hx
    exact jn_pth (ht.ok ns hn).n5 ((ht.ok _ hm).n5.snoc.2)
  unfold cOut
  constructor
  · have key : ∀ l : List Str, l.Nodup → (∀ x ∈ l, x ∈ Mine.kids bk (pth ns)) → (l.map (jn (pth ns))).Nodup := by
      intro l
      induction l with
      | nil => intro _ _; simp
      | cons a l ih =>
        intro nd hs
        rw [List.nodup_cons] at nd
        rw [List.map_cons, List.nodup_cons]
        refine ⟨fun hm => ?_, ih nd.2 fun x hx => hs x (.tail _ hx)⟩
        obtain ⟨b, hb, e⟩ := List.mem_map.mp hm
        rw [hj a (hs a (.head _)), hj b (hs b (.tail _ hb))] at e
        have ha' := (ht.ok _ ((hk.2 a).mp (hs a (.head _)))).n5
        have hb' := (ht.ok _ ((hk.2 b).mp (hs b (.tail _ hb)))).n5
        have := (List.cons.inj (List.append_inj' (pth_inj' hb' ha' e) rfl).2).1
        subst this
        exact nd.1 hb
    exact key _ (List.Sublist.nodup List.filter_sublist hk.1) fun x hx => (List.mem_filter.mp hx).1
  · intro k
    rw [List.mem_map]
    constructor
    · rintro ⟨x, hx, rfl⟩
      obtain ⟨h1, h2⟩ := List.mem_filter.mp hx
      exact ⟨x, (hk.2 x).mp h1, h2, hj x h1⟩
    · rintro ⟨x, h1, h2, rfl⟩
      have hx := (hk.2 x).mpr h1
      exact ⟨x, List.mem_filter.mpr ⟨hx, h2⟩, hj x hx⟩
theorem part_fold (ht : TI tr) (hnx : NxT tr nx T) (ps : List (Option Str)) (P : List Str → Prop) : ∀ (l : List Str) (bk : Book) (out : List Str) (D : List Str → Prop), (∀ k ∈ l, ∃ ns ∈ tr, k = pth ns) → l.Nodup → (∀ ns, D ns → ns ∈ tr ∧ pth ns ∉ l) →
    BI (· ∈ tr) (fun m => P m ∨ (T ∧ D m)) bk → out.Nodup → (∀ k, k ∈ out ↔ ∃ ns x, D ns ∧ ns ++ [x] ∈ tr ∧ takes ps x = true ∧ k = pth (ns ++ [x])) →
    BI (· ∈ tr) (fun m => P m ∨ (T ∧ (D m ∨ (m ∈ tr ∧ pth m ∈ l)))) (l.foldl (cStep nx ps) (bk, out)).1 ∧ (l.foldl (cStep nx ps) (bk, out)).2.Nodup ∧
      (∀ k, k ∈ (l.foldl (cStep nx ps) (bk, out)).2 ↔ ∃ ns x, (D ns ∨ (ns ∈ tr ∧ pth ns ∈ l)) ∧ ns ++ [x] ∈ tr ∧ takes ps x = true ∧ k = pth (ns ++ [x]))
  | [], bk, out, D, _, _, _, h, hnd, ho => by
    refine ⟨h.imp (fun _ => Iff.rfl) fun m => ?_, hnd, fun k => ?_⟩
    · simp
    · show k ∈ out ↔ _
      rw [ho]; simp
  | k :: l, bk, out, D, hl, nd, hD, h, hnd, ho => by
    rw [List.nodup_cons] at nd
    obtain ⟨ns, hns, rfl⟩ := hl k (.head _)
    have hc := cOut_mem (ps := ps) ht h hns
    have hb := hnx _ bk ns hns h
    have hDn : ¬ D ns := fun q => (hD ns q).2 (.head _)
    have ih := part_fold ht hnx ps P l (nx bk (pth ns)) (out ++ cOut ps bk (pth ns)) (fun m => D m ∨ m = ns) (fun k hk => hl k (.tail _ hk)) nd.2
      (fun m hm => by
        rcases hm with hm | rfl
        · exact ⟨(hD m hm).1, fun q => (hD m hm).2 (.tail _ q)⟩
        · exact ⟨hns, nd.1⟩)
      (hb.imp (fun _ => Iff.rfl) fun m => by
        constructor
        · rintro (q | ⟨t, q | q⟩)
          · exact .inl (.inl q)
          · exact .inl (.inr ⟨t, q⟩)
          · exact .inr ⟨t, q⟩
        · rintro ((q | ⟨t, q⟩) | ⟨t, q⟩)
          · exact .inl q
          · exact .inr ⟨t, .inl q⟩
          · exact .inr ⟨t, .inr q⟩)
      (by
        rw [List.nodup_append]
        refine ⟨hnd, hc.1, ?_⟩
        rintro a ha b hb rfl
        obtain ⟨ms, x, q1, q2, _, q4⟩ := (ho a).mp ha
        obtain ⟨y, r1, _, r3⟩ := (hc.2 a).mp hb
        have e := pth_inj' (ht.ok _ q2).n5 (ht.ok _ r1).n5 (q4.symm.trans r3)
        have := (List.append_inj' e rfl).1
        subst this
        exact hDn q1)
      (fun k => by
        rw [List.mem_append, ho, hc.2]
        constructor
        · rintro (⟨ms, x, q1, q2, q3, q4⟩ | ⟨x, q2, q3, q4⟩)
          · exact ⟨ms, x, .inl q1, q2, q3, q4⟩
          · exact ⟨ns, x, .inr rfl, q2, q3, q4⟩
        · rintro ⟨ms, x, q1 | q1, q2, q3, q4⟩
          · exact .inl ⟨ms, x, q1, q2, q3, q4⟩
          · subst q1
            exact .inr ⟨x, q2, q3, q4⟩)
    have em : ∀ m, (D m ∨ (m ∈ tr ∧ pth m ∈ pth ns :: l)) ↔ ((D m ∨ m = ns) ∨ (m ∈ tr ∧ pth m ∈ l)) := fun m => by
      rw [List.mem_cons]
      constructor
      · rintro (q | ⟨q1, q | q⟩)
        · exact .inl (.inl q)
        · exact .inl (.inr (pth_inj' (ht.ok m q1).n5 (ht.ok ns hns).n5 q))
        · exact .inr ⟨q1, q⟩
      · rintro ((q | rfl) | ⟨q1, q⟩)
        · exact .inl q
        · exact .inr ⟨hns, .inl rfl⟩
        · exact .inr ⟨q1, .inr q⟩
    refine ⟨ih.1.imp (fun _ => Iff.rfl) fun m => ?_, ih.2.1, fun k => (ih.2.2 k).trans ?_⟩
    · exact or_congr Iff.rfl (and_congr Iff.rfl (em m))
    · exact exists_congr fun ms => exists_congr fun x => and_congr (em ms).symm Iff.rfl
theorem sIn_spec (k : Str) : ∀ (zs fd : List Str), fd.Nodup → (∃ r, sIn k fd zs = fd ++ r) ∧ (sIn k fd zs).Nodup ∧ ∀ y, y ∈ sIn k fd zs ↔ y ∈ fd ∨ ∃ z ∈ zs, y = jn k z
  | [], fd, h => ⟨⟨[], by simp [sIn]⟩, h, fun y => by simp [sIn]⟩
  | z :: zs, fd, h => by
    have e : sIn k fd (z :: zs) = sIn k (if jn k z ∈ fd then fd else fd ++ [jn k z]) zs := rfl
    rw [e]
    split
    · rename_i hz
      obtain ⟨h1, h2, h3⟩ := sIn_spec k zs fd h
      refine ⟨h1, h2, fun y => (h3 y).trans ?_⟩
      constructor
      · rintro (q | ⟨w, q, rfl⟩)
        · exact .inl q
        · exact .inr ⟨w, .tail _ q, rfl⟩
      · rintro (q | ⟨w, q, rfl⟩)
        · exact .inl q
        · rcases List.mem_cons.mp q with rfl | q
          · exact .inl hz
          · exact .inr ⟨w, q, rfl⟩
    · rename_i hz
      obtain ⟨⟨r, h1⟩, h2, h3⟩ := sIn_spec k zs (fd ++ [jn k z]) (by
        rw [List.nodup_append]
        refine ⟨h, by simp, ?_⟩
        rintro a ha b hb rfl
        rw [List.mem_singleton.mp hb] at ha
        exact hz ha)
      refine ⟨⟨[jn k z] ++ r, by rw [h1, List.append_assoc]⟩, h2, fun y => (h3 y).trans ?_⟩
      rw [List.mem_append, List.mem_singleton]
      constructor
      · rintro ((q | q) | ⟨w, q, rfl⟩)
        · exact .inl q
        · exact .inr ⟨z, .head _, q⟩
        · exact .inr ⟨w, .tail _ q, rfl⟩
      · rintro (q | ⟨w, q, rfl⟩)
        · exact .inl (.inl q)
        · rcases List.mem_cons.mp q with rfl | q
          · exact .inl (.inr rfl)
          · exact .inr ⟨w, q, rfl⟩
theorem star_run (ht : TI tr) (hl : tr.length ≤ 17) (hnx : NxT tr nx T) (P : List Str → Prop) (Q : List Str → Prop) (fd0 : List Str) (h0 : ∀ ns ∈ tr, Q ns → pth ns ∈ fd0) : ∀ (f at_ : Nat) (bk : Book) (fd : List Str), f + at_ = 100 → at_ ≤ fd.length → Pths tr fd → (∀ k ∈ fd0, k ∈ fd) →
    (∀ ns ∈ tr, pth ns ∈ fd → ∃ i, i ≤ ns.length ∧ Q (ns.take i)) → (∀ ns x, ns ++ [x] ∈ tr → pth ns ∈ fd.take at_ → pth (ns ++ [x]) ∈ fd) → BI (· ∈ tr) (fun m => P m ∨ (T ∧ m ∈ tr ∧ pth m ∈ fd.take at_)) bk →
    ∃ bk' fd', pStar nx f at_ (bk, fd) = some (bk', fd') ∧ Pths tr fd' ∧ (∀ ns ∈ tr, pth ns ∈ fd' ↔ ∃ i, i ≤ ns.length ∧ Q (ns.take i)) ∧ BI (· ∈ tr) (fun m => P m ∨ (T ∧ m ∈ tr ∧ pth m ∈ fd')) bk' := by
  refine fun f => Nat.strongRecOn f fun f ih => ?_
  intro at_ bk fd hf ha hp h0' hq hcl hb
  have hlen := hp.len ht
  by_cases hat : at_ < fd.length
  · obtain ⟨f, rfl⟩ : ∃ f', f = f' + 1 := ⟨f - 1, by omega⟩
    have hx : fd[at_]? = some fd[at_] := List.getElem?_eq_getElem hat
    obtain ⟨ns, hns, ek⟩ := hp.2 _ (List.getElem_mem hat)
    rw [ek] at hx
    have hk := hb.kids (ht.ok ns hns)
    obtain ⟨⟨r, e1⟩, e2, e3⟩ := sIn_spec (pth ns) (Mine.kids bk (pth ns)) fd hp.1
    have hj : ∀ x ∈ Mine.kids bk (pth ns), jn (pth ns) x = pth (ns ++ [x]) := fun x hx => by
      have hm := (hk.2 x).mp hx
      exact jn_pth (ht.ok ns hns).n5 ((ht.ok _ hm).n5.snoc.2)
    have hp' : Pths tr (sIn (pth ns) fd (Mine.kids bk (pth ns))) := ⟨e2, fun k hk' => by
      rcases (e3 k).mp hk' with q | ⟨x, q, rfl⟩
      · exact hp.2 k q
      · exact ⟨ns ++ [x], (hk.2 x).mp q, hj x q⟩⟩
    have htk : (sIn (pth ns) fd (Mine.kids bk (pth ns))).take (at_ + 1) = fd.take at_ ++ [pth ns] := by
      rw [e1, List.take_append_of_le_length (by omega), List.take_add_one, hx]; rfl
    unfold pStar
    simp only [hx]
    rw [if_pos (hp'.okF ht hl)]
    refine ih f (Nat.lt_succ_self f) (at_ + 1) _ _ (by omega) ?_ hp' (fun k hk' => (e3 k).mpr (.inl (h0' k hk'))) (fun ms hms hm => ?_) (fun ms x hms hm => ?_) ?_
    · rw [e1, List.length_append]; omega
    · rcases (e3 _).mp hm with q | ⟨x, q, e⟩
      · exact hq ms hms q
      · rw [hj x q] at e
        have := pth_inj' (ht.ok ms hms).n5 (ht.ok _ ((hk.2 x).mp q)).n5 e
        subst this
        obtain ⟨i, h1, h2⟩ := hq ns hns (by rw [← ek]; exact List.getElem_mem hat)
        exact ⟨i, by rw [List.length_append]; omega, by rw [List.take_append_of_le_length h1]; exact h2⟩
    · rw [htk, List.mem_append, List.mem_singleton] at hm
      rcases hm with hm | hm
      · exact (e3 _).mpr (.inl (hcl ms x hms hm))
      · have := pth_inj' (ht.ok _ (ht.pre ms x hms)).n5 (ht.ok ns hns).n5 hm
        subst this
        have q := (hk.2 x).mpr hms
        exact (e3 _).mpr (.inr ⟨x, q, (hj x q).symm⟩)
    · refine (hnx _ bk ns hns hb).imp (fun _ => Iff.rfl) fun m => ?_
      rw [htk]
      constructor
      · rintro (q | ⟨t, q1, q⟩)
        · exact .inl (.inl q)
        · rcases List.mem_append.mp q with q | q
          · exact .inl (.inr ⟨t, q1, q⟩)
          · exact .inr ⟨t, pth_inj' (ht.ok m q1).n5 (ht.ok ns hns).n5 (List.mem_singleton.mp q)⟩
      · rintro ((q | ⟨t, q1, q⟩) | ⟨t, rfl⟩)
        · exact .inl q
        · exact .inr ⟨t, q1, List.mem_append_left _ q⟩
        · exact .inr ⟨t, hns, List.mem_append_right _ (.head _)⟩
  · have hlast : fd.take at_ = fd := List.take_of_length_le (by omega)
    have hres : pStar nx f at_ (bk, fd) = some (bk, fd) := by
      cases f with
      | zero => unfold pStar; rw [if_neg hat]
      | succ f =>
        unfold pStar
        have : fd[at_]? = none := List.getElem?_eq_none (by omega)
        simp only [this]
    rw [hlast] at hcl hb
    refine ⟨bk, fd, hres, hp, fun ns hns => ⟨hq ns hns, fun ⟨i, h1, h2⟩ => ?_⟩, hb⟩
    have key : ∀ d, i + d ≤ ns.length → pth (ns.take (i + d)) ∈ fd := by
      intro d
      induction d with
      | zero =>
        intro _
        exact h0' _ (h0 _ (ti_take ht (ns.length - i) ns i (by omega) hns) h2)
      | succ d ih =>
        intro hd
        have ih := ih (by omega)
        have hm := ti_take ht (ns.length - (i + d + 1)) ns (i + d + 1) (by omega) hns
        have e : ns.take (i + d + 1) = ns.take (i + d) ++ [ns[i + d]'(by omega)] := by
          rw [List.take_add_one, List.getElem?_eq_getElem (by omega)]; rfl
        show pth (ns.take (i + d + 1)) ∈ fd
        rw [e] at hm ⊢
        exact hcl _ _ hm ih
    have := key (ns.length - i) (by omega)
    rw [show i + (ns.length - i) = ns.length by omega, List.take_of_length_le (Nat.le_refl _)] at this
    exact this
end
end

section
open PySem PySem.W PySem.Spec PySem.Calls PyProof.Rows
set_option Elab.async false
set_option maxRecDepth 100000
set_option maxHeartbeats 0
section
variable {tr : List (List Str)} {nx : Book → Str → Book} {T : Prop}
theorem item_ok (ht : TI tr) (hl : tr.length ≤ 17) (hnx : NxT tr nx T) {P : List Str → Prop} (hPt : ∀ m, P m → m ∈ tr) {ps : List Nat} {p : Nat} (hp9 : p ≤ 9) {bk : Book} {fd : List Str} (hp : Pths tr fd) (hq : ∀ ns ∈ tr, pth ns ∈ fd ↔ fits ps ns = true) (hb : BI (· ∈ tr) P bk) :
    ∃ bk' fd', pItem nx (bk, fd) p = some (bk', fd') ∧ Pths tr fd' ∧ (∀ ns ∈ tr, pth ns ∈ fd' ↔ fits (ps ++ [p]) ns = true) ∧
      BI (· ∈ tr) (fun m => P m ∨ (T ∧ m ∈ tr ∧ (fits ps m || (decide (p = 9) && fits (ps ++ [p]) m)) = true)) bk' := by
  have hbl := bk_len ht hb hPt
  have hok := hp.okF ht hl
  have hg : (decide ((bk, fd).1.length ≤ 50000) && decide (okF (bk, fd).2 = true)) = true := by
    rw [Bool.and_eq_true]
    exact ⟨decide_eq_true (show bk.length ≤ 50000 by omega), decide_eq_true hok⟩
  unfold pItem
  rw [if_pos hg]
  by_cases h9 : p = 9
  · subst h9
    rw [if_pos rfl]
    obtain ⟨bk', fd', e, h1, h2, h3⟩ := star_run (T := T) ht hl hnx P (fun ns => fits ps ns = true) fd (fun ns hns q => (hq ns hns).mpr q) 100 0 bk fd (by omega) (Nat.zero_le _) hp (fun k hk => hk)
      (fun ns hns hm => ⟨ns.length, Nat.le_refl _, by rw [List.take_of_length_le (Nat.le_refl _)]; exact (hq ns hns).mp hm⟩) (fun ns x _ hm => by simp at hm)
      (hb.imp (fun _ => Iff.rfl) fun m => by simp)
    refine ⟨bk', fd', e, h1, fun ns hns => (h2 ns hns).trans (fits_star ns).symm, h3.imp (fun _ => Iff.rfl) fun m => ?_⟩
    refine or_congr Iff.rfl (and_congr Iff.rfl (and_congr_right fun hm => ?_))
    rw [h2 m hm, ← fits_star, decide_eq_true rfl, Bool.true_and, Bool.or_eq_true]
    exact ⟨fun q => q.elim fits_star_self id, .inr⟩
  · rw [if_neg h9]
    have hp8 : p < 9 := by omega
    have hf := part_fold ht hnx (partsL.getD p []) P fd bk [] (fun _ => False) hp.2 hp.1 (fun _ q => q.elim) (hb.imp (fun _ => Iff.rfl) fun m => by simp) List.nodup_nil (fun k => by simp)
    dsimp only
    generalize hr : fd.foldl (cStep nx (partsL.getD p [])) (bk, []) = r at hf
    obtain ⟨bk', out⟩ := r
    obtain ⟨h1, h2, h3⟩ := hf
    have hpo : Pths tr out := ⟨h2, fun k hk => by
      obtain ⟨ns, x, _, q, _, e⟩ := (h3 k).mp hk
      exact ⟨_, q, e⟩⟩
    rw [if_pos (hpo.okF ht hl)]
    refine ⟨bk', out, rfl, hpo, fun ns hns => ?_, h1.imp (fun _ => Iff.rfl) fun m => ?_⟩
    · rw [h3]
      obtain e | ⟨i, x, rfl⟩ := snoc_or ns
      · subst e
        rw [fits_part_nil h9]
        refine ⟨fun ⟨ms, y, _, q, _, e⟩ => ?_, fun q => by cases q⟩
        have := pth_inj' (ht.ok _ hns).n5 (ht.ok _ q).n5 e
        simp at this
      · rw [fits_part h9, Bool.and_eq_true, decide_eq_true_eq]
        have hx := (ht.ok _ hns).n5.snoc.2
        constructor
        · rintro ⟨ms, y, q1, q2, q3, e⟩
          have e2 := List.append_inj' (pth_inj' (ht.ok _ hns).n5 (ht.ok _ q2).n5 e) rfl
          have e3 := (List.cons.inj e2.2).1
          obtain ⟨e4, _⟩ := e2
          subst e4 e3
          rcases q1 with q1 | ⟨q1, q1'⟩
          · exact q1.elim
          · rw [takes_eq hp8 hx] at q3
            exact ⟨(hq _ q1).mp q1', of_decide_eq_true q3⟩
        · rintro ⟨q1, q2⟩
          have hi := ht.pre _ _ hns
          exact ⟨i, x, .inr ⟨hi, (hq i hi).mpr q1⟩, hns, by rw [takes_eq hp8 hx]; exact decide_eq_true q2, rfl⟩
    · refine or_congr Iff.rfl (and_congr Iff.rfl ?_)
      rw [decide_eq_false h9, Bool.false_and, Bool.or_false]
      constructor
      · rintro ⟨q1, q2⟩
        exact .inr ⟨q1, (hq m q1).mpr q2⟩
      · rintro (q | ⟨q1, q2⟩)
        · exact q.elim
        · exact ⟨q1, (hq m q1).mp q2⟩
theorem walk_ok (ht : TI tr) (hl : tr.length ≤ 17) (hnx : NxT tr nx T) {ps : List Nat} (h9 : ∀ p ∈ ps, p ≤ 9) {bk0 : Book} (hb : BI (· ∈ tr) (fun _ => False) bk0) : ∀ i, i ≤ ps.length →
    ∃ bk fd, pWalk nx bk0 (ps.take i) = some (bk, fd) ∧ Pths tr fd ∧ (∀ ns ∈ tr, pth ns ∈ fd ↔ fits (ps.take i) ns = true) ∧ BI (· ∈ tr) (fun m => T ∧ m ∈ tr ∧ ∃ j, j < i ∧ lookAt ps m j = true) bk := by
  intro i
  induction i with
  | zero =>
    intro _
    refine ⟨bk0, [Str.ofString "/"], rfl, ⟨by simp, fun k hk => ⟨[], ht.nil, by rw [List.mem_singleton.mp hk, pth_nil]⟩⟩, fun ns hns => ?_, hb.imp (fun _ => Iff.rfl) fun m => by simp⟩
    rw [List.take_zero, fits_nil, List.mem_singleton, ← pth_nil]
    constructor
    · intro e
      rw [pth_inj' (ht.ok ns hns).n5 (ht.ok _ ht.nil).n5 e]; rfl
    · intro e
      rw [List.isEmpty_iff.mp e]
  | succ i ih =>
    intro hi
    obtain ⟨bk, fd, e, h1, h2, h3⟩ := ih (by omega)
    have hpi : ps[i]? = some (ps.getD i 0) := by rw [List.getD_eq_getElem?_getD, List.getElem?_eq_getElem (by omega)]; rfl
    have htk : ps.take (i + 1) = ps.take i ++ [ps.getD i 0] := by rw [List.take_add_one, hpi]; rfl
    obtain ⟨bk', fd', e', k1, k2, k3⟩ := item_ok ht hl hnx (fun m hm => hm.2.1) (h9 _ (List.mem_of_getElem? hpi)) h1 h2 h3
    refine ⟨bk', fd', ?_, k1, by rw [htk]; exact k2, k3.imp (fun _ => Iff.rfl) fun m => ?_⟩
    · rw [pWalk_step hpi, e]; exact e'
    · have el : lookAt ps m i = (fits (ps.take i) m || (decide (ps.getD i 0 = 9) && fits (ps.take i ++ [ps.getD i 0]) m)) := by unfold lookAt; rw [htk]
      constructor
      · rintro ⟨t, q1, j, hj, q2⟩
        by_cases hji : j = i
        · subst hji
          rw [el] at q2
          exact .inr ⟨t, q1, q2⟩
        · exact .inl ⟨t, q1, j, by omega, q2⟩
      · rintro (⟨t, q1, j, hj, q2⟩ | ⟨t, q1, q2⟩)
        · exact ⟨t, q1, j, by omega, q2⟩
        · exact ⟨t, q1, i, by omega, by rw [el]; exact q2⟩
end
/-! a frozen book stays -/
theorem cfold_id (ps : List (Option Str)) : ∀ (l : List Str) (st : Book × List Str), (l.foldl (cStep (fun bk _ => bk) ps) st).1 = st.1
  | [], _ => rfl
  | k :: l, st => cfold_id ps l _
theorem star_id : ∀ (f at_ : Nat) (st r : Book × List Str), pStar (fun bk _ => bk) f at_ st = some r → r.1 = st.1
  | 0, at_, st, r, h => by
    unfold pStar at h
    split at h
    · cases h
    · rw [← Option.some.inj h]
  | f + 1, at_, st, r, h => by
    unfold pStar at h
    split at h
    · rw [← Option.some.inj h]
    · split at h
      · have := star_id f _ _ _ h
        exact this
      · cases h
theorem item_id {st r : Book × List Str} {p : Nat} (h : pItem (fun bk _ => bk) st p = some r) : r.1 = st.1 := by
  unfold pItem at h
  split at h
  · split at h
    · exact star_id _ _ _ _ h
    · split at h
      · rw [← Option.some.inj h]
        exact cfold_id _ _ _
      · cases h
  · cases h
theorem walk_id {bk : Book} {ps : List Nat} : ∀ (i : Nat) (r : Book × List Str), i ≤ ps.length → pWalk (fun bk _ => bk) bk (ps.take i) = some r → r.1 = bk
  | 0, r, _, h => by
    have : some (bk, [Str.ofString "/"]) = some r := h
    rw [← Option.some.inj this]
  | i + 1, r, hi, h => by
    have hpi : ps[i]? = some (ps.getD i 0) := by rw [List.getD_eq_getElem?_getD, List.getElem?_eq_getElem (by omega)]; rfl
    rw [pWalk_step hpi] at h
    cases e : pWalk (fun bk _ => bk) bk (ps.take i) with
    | none => rw [e] at h; cases h
    | some st =>
      rw [e] at h
      have h1 := walk_id i st (by omega) e
      have h2 := item_id (show pItem (fun bk _ => bk) st (ps.getD i 0) = some r from h)
      rw [h2, h1]
end

section
open PySem PySem.W PySem.Spec PySem.Calls PyProof.Rows
set_option Elab.async false
set_option maxRecDepth 100000
set_option maxHeartbeats 0
theorem okT_iff {x : Str} : OkT x ↔ ∀ c ∈ tl x, c < 0x110000 := by
  unfold OkT PyData.strOk
  rw [Array.all_eq_true']
  constructor
  · intro h c hc
    exact of_decide_eq_true (h c (by simpa using hc))
  · intro h c hc
    exact decide_eq_true (h c (by simpa using hc))
theorem jl_ok : ∀ (zs : List Str), (∀ z ∈ zs, OkT z) → ∀ c ∈ jl zs, c < 0x110000
  | [], _, c, hc => nomatch hc
  | [x], h, c, hc => okT_iff.mp (h x (.head _)) c hc
  | x :: y :: r, h, c, hc => by
    rcases List.mem_append.mp (show c ∈ tl x ++ 47 :: jl (y :: r) from hc) with q | q
    · exact okT_iff.mp (h x (.head _)) c q
    · rcases List.mem_cons.mp q with rfl | q
      · decide
      · exact jl_ok (y :: r) (fun z hz => h z (.tail _ hz)) c q
theorem pth_ok {ns : List Str} (h : NodeOk ns) : OkT (pth ns) := by
  rw [okT_iff, tl_pth]
  intro c hc
  rcases List.mem_cons.mp hc with rfl | hc
  · decide
  · exact jl_ok ns h.ok c hc
theorem nodup_keys : ∀ {bk : Book}, (bk.map (·.1)).Nodup → bk.Nodup
  | [], _ => List.nodup_nil
  | e :: bk, h => by
    rw [List.map_cons, List.nodup_cons] at h
    rw [List.nodup_cons]
    exact ⟨fun hm => h.1 (List.mem_map.mpr ⟨e, hm, rfl⟩), nodup_keys h.2⟩
theorem five_nodup : five.Nodup := by decide +kernel
section
variable {tr : List (List Str)}
theorem pths_sub (ht : TI tr) {l : List (List Str)} (hs : ∀ z ∈ l, z ∈ tr) (nd : l.Nodup) : (l.map pth).Nodup := by
  induction l with
  | nil => simp
  | cons z l ih =>
    rw [List.nodup_cons] at nd
    rw [List.map_cons, List.nodup_cons]
    refine ⟨fun hm => ?_, ih (fun y hy => hs y (.tail _ hy)) nd.2⟩
    obtain ⟨y, hy, e⟩ := List.mem_map.mp hm
    have := pth_inj' (ht.ok y (hs y (.tail _ hy))).n5 (ht.ok z (hs z (.head _))).n5 e
    subst this
    exact nd.1 hy
theorem isKid_iff {ns one : List Str} : isKid ns one = true ↔ ∃ x, one = ns ++ [x] := by
  unfold isKid
  obtain e | ⟨i, x, rfl⟩ := snoc_or one
  · subst e
    simp
  · rw [List.dropLast_concat, Bool.and_eq_true, decide_eq_true_eq]
    constructor
    · rintro ⟨_, rfl⟩
      exact ⟨x, rfl⟩
    · rintro ⟨y, e⟩
      exact ⟨by simp, (List.append_inj' e rfl).1⟩
theorem lastOf_snoc (ns : List Str) (x : Str) : lastOf (ns ++ [x]) = x := by
  unfold lastOf
  rw [List.getLast?_concat]; rfl
theorem mem_below {ns : List Str} {x : Str} : x ∈ pBelow tr ns ↔ ns ++ [x] ∈ tr := by
  unfold pBelow
  rw [List.mem_map]
  constructor
  · rintro ⟨one, h1, rfl⟩
    obtain ⟨h2, h3⟩ := List.mem_filter.mp h1
    obtain ⟨y, rfl⟩ := isKid_iff.mp h3
    rw [lastOf_snoc]
    exact h2
  · intro h
    exact ⟨ns ++ [x], List.mem_filter.mpr ⟨h, isKid_iff.mpr ⟨x, rfl⟩⟩, lastOf_snoc ns x⟩
theorem nodup_below (ht : TI tr) (ns : List Str) : (pBelow tr ns).Nodup := by
  unfold pBelow
  have nd : (tr.filter (isKid ns)).Nodup := List.Sublist.nodup List.filter_sublist ht.nd
  have hk : ∀ one ∈ tr.filter (isKid ns), ∃ x, one = ns ++ [x] := fun one h => isKid_iff.mp (List.mem_filter.mp h).2
  generalize tr.filter (isKid ns) = l at nd hk
  induction l with
  | nil => simp
  | cons z l ih =>
    rw [List.nodup_cons] at nd
    rw [List.map_cons, List.nodup_cons]
    refine ⟨fun hm => ?_, ih nd.2 fun y hy => hk y (.tail _ hy)⟩
    obtain ⟨y, hy, e⟩ := List.mem_map.mp hm
    obtain ⟨a, rfl⟩ := hk z (.head _)
    obtain ⟨b, rfl⟩ := hk y (.tail _ hy)
    rw [lastOf_snoc, lastOf_snoc] at e
    subst e
    exact nd.1 hy
theorem hasKid_iff {ns : List Str} : hasKid tr ns = true ↔ ∃ x, ns ++ [x] ∈ tr := by
  unfold hasKid
  cases e : pBelow tr ns with
  | nil =>
    simp only [List.isEmpty_nil, Bool.not_true, Bool.false_eq_true, false_iff]
    rintro ⟨x, hx⟩
    have := mem_below.mpr hx
    rw [e] at this
    cases this
  | cons x l =>
    simp only [List.isEmpty_cons, Bool.not_false, true_iff]
    exact ⟨x, mem_below.mp (by rw [e]; exact .head _)⟩
theorem mem_srtd (ht : TI tr) {P : List Str → Prop} {bk : Book} (h : BI (· ∈ tr) P bk) (hP : ∀ m, P m → m ∈ tr) (e : Str × List Str) : e ∈ srtd bk ↔ ∃ ns, ns ∈ tr ∧ (hasKid tr ns = true ∨ P ns) ∧ e = rowOf tr ns := by
  have hsrt : ∀ {u ns}, u.Nodup → (∀ x, x ∈ u ↔ ns ++ [x] ∈ tr) → srt u = srt (pBelow tr ns) := fun {u ns} nd hu =>
    srt_congr ((List.perm_ext_iff_of_nodup nd (nodup_below ht ns)).mpr fun x => (hu x).trans mem_below.symm)
  unfold srtd
  rw [List.mem_map]
  constructor
  · rintro ⟨⟨k, u⟩, hu, rfl⟩
    obtain ⟨ns, a, b, c, d, f⟩ := h.ent k u hu
    have hm : ns ∈ tr ∧ (hasKid tr ns = true ∨ P ns) := by
      cases u with
      | nil => exact ⟨hP _ (f rfl), .inr (f rfl)⟩
      | cons x u =>
        have hx := (d x).mp (.head _)
        exact ⟨ht.pre _ _ hx, .inl (hasKid_iff.mpr ⟨x, hx⟩)⟩
    refine ⟨ns, hm.1, hm.2, ?_⟩
    unfold rowOf
    rw [← b, ← hsrt c d]
  · rintro ⟨ns, h1, h2, rfl⟩
    have hv : ∃ v, (pth ns, v) ∈ bk := by
      rcases h2 with h2 | h2
      · obtain ⟨x, hx⟩ := hasKid_iff.mp h2
        exact h.has ns x hx
      · exact h.tch ns h2
    obtain ⟨v, hv⟩ := hv
    refine ⟨(pth ns, v), hv, ?_⟩
    obtain ⟨ms, a, b, c, d, f⟩ := h.ent _ _ hv
    have := pth_inj' (ht.ok ns h1).n5 a.n5 b
    subst this
    unfold rowOf
    rw [← hsrt c d]
theorem ent_len (ht : TI tr) {P : List Str → Prop} {bk : Book} (h : BI (· ∈ tr) P bk) : ∀ e ∈ bk, e.2.length ≤ 5 ∧ ∀ z ∈ e.2, z ∈ five := by
  intro e he
  obtain ⟨ns, a, b, c, d, f⟩ := h.ent e.1 e.2 he
  have h5 : ∀ z ∈ e.2, z ∈ five := fun z hz => (ht.ok _ ((d z).mp hz)).n5.snoc.2
  exact ⟨len_le_of_sub c five_nodup h5, h5⟩
theorem keys_srtd (bk : Book) : (srtd bk).map (·.1) = bk.map (·.1) := by simp [srtd]
theorem srtP_of (ht : TI tr) {P : List Str → Prop} {bk hd : Book} (h : BI (· ∈ tr) P bk) (hP : ∀ m, P m → m ∈ tr) (nd : (hd.map (·.1)).Nodup) (hm : ∀ e, e ∈ hd ↔ ∃ ns, ns ∈ tr ∧ (hasKid tr ns = true ∨ P ns) ∧ e = rowOf tr ns) : srtP (srtd bk) = srtP hd := by
  refine srtP_congr nd ((List.perm_ext_iff_of_nodup (nodup_keys ?_) (nodup_keys nd)).mpr fun e => (mem_srtd ht h hP e).trans (hm e).symm)
  rw [keys_srtd]
  exact h.nd
theorem srt_due (ht : TI tr) {ps : List Nat} {fd : List Str} (hp : Pths tr fd) (hq : ∀ ns ∈ tr, pth ns ∈ fd ↔ fits ps ns = true) : srt fd = srt (pDue ps tr) := by
  refine srt_congr ((List.perm_ext_iff_of_nodup hp.1 ?_).mpr fun k => ?_)
  · exact pths_sub ht (fun z hz => (List.mem_filter.mp hz).1) (List.Sublist.nodup List.filter_sublist ht.nd)
  · unfold pDue
    rw [List.mem_map]
    constructor
    · intro hk
      obtain ⟨ns, hns, rfl⟩ := hp.2 k hk
      exact ⟨ns, List.mem_filter.mpr ⟨hns, (hq ns hns).mp hk⟩, rfl⟩
    · rintro ⟨ns, hns, rfl⟩
      obtain ⟨h1, h2⟩ := List.mem_filter.mp hns
      exact (hq ns h1).mpr h2
theorem mem_held {e : Str × List Str} : e ∈ pHeld tr tr ↔ ∃ ns, ns ∈ tr ∧ hasKid tr ns = true ∧ e = rowOf tr ns := by
  unfold pHeld
  rw [List.mem_map]
  constructor
  · rintro ⟨ns, h, rfl⟩
    obtain ⟨h1, h2⟩ := List.mem_filter.mp h
    exact ⟨ns, h1, h2, rfl⟩
  · rintro ⟨ns, h1, h2, rfl⟩
    exact ⟨ns, List.mem_filter.mpr ⟨h1, h2⟩, rfl⟩
theorem look_iff {ps : List Nat} {ns : List Str} : (!(pLook ps ns).isEmpty) = true ↔ ∃ j, j < ps.length ∧ lookAt ps ns j = true := by
  unfold pLook
  cases e : (List.range ps.length).filter (lookAt ps ns) with
  | nil =>
    simp only [List.isEmpty_nil, Bool.not_true, Bool.false_eq_true, false_iff]
    rintro ⟨j, h1, h2⟩
    have : j ∈ (List.range ps.length).filter (lookAt ps ns) := List.mem_filter.mpr ⟨List.mem_range.mpr h1, h2⟩
    rw [e] at this
    cases this
  | cons j l =>
    simp only [List.isEmpty_cons, Bool.not_false, true_iff]
    have : j ∈ (List.range ps.length).filter (lookAt ps ns) := by rw [e]; exact .head _
    obtain ⟨h1, h2⟩ := List.mem_filter.mp this
    exact ⟨j, List.mem_range.mp h1, h2⟩
theorem mem_bare {ps : List Nat} {e : Str × List Str} : e ∈ pBare tr ps tr ↔ ∃ ns, ns ∈ tr ∧ (hasKid tr ns = false ∧ ∃ j, j < ps.length ∧ lookAt ps ns j = true) ∧ e = rowOf tr ns := by
  unfold pBare
  rw [List.mem_map]
  constructor
  · rintro ⟨ns, h, rfl⟩
    obtain ⟨h1, h2⟩ := List.mem_filter.mp h
    unfold isBare at h2
    rw [Bool.and_eq_true, look_iff] at h2
    exact ⟨ns, h1, ⟨by simpa using h2.1, h2.2⟩, rfl⟩
  · rintro ⟨ns, h1, h2, rfl⟩
    refine ⟨ns, List.mem_filter.mpr ⟨h1, ?_⟩, rfl⟩
    unfold isBare
    rw [Bool.and_eq_true, look_iff]
    exact ⟨by simpa using h2.1, h2.2⟩
theorem keys_hb (ht : TI tr) (ps : List Nat) : ((pHeld tr tr ++ pBare tr ps tr).map (·.1)).Nodup := by
  have e : (pHeld tr tr ++ pBare tr ps tr).map (·.1) = (tr.filter (hasKid tr) ++ tr.filter (isBare tr ps)).map pth := by
    unfold pHeld pBare rowOf
    simp
    rfl
  rw [e]
  refine pths_sub ht (fun z hz => ?_) ?_
  · rcases List.mem_append.mp hz with hz | hz
    · exact (List.mem_filter.mp hz).1
    · exact (List.mem_filter.mp hz).1
  · rw [List.nodup_append]
    refine ⟨List.Sublist.nodup List.filter_sublist ht.nd, List.Sublist.nodup List.filter_sublist ht.nd, ?_⟩
    rintro a ha b hb rfl
    have h1 := (List.mem_filter.mp ha).2
    have h2 := (List.mem_filter.mp hb).2
    unfold isBare at h2
    rw [h1] at h2
    cases h2
theorem ok_row (ht : TI tr) {ns : List Str} (h : ns ∈ tr) : OkT (rowOf tr ns).1 ∧ ∀ z ∈ (rowOf tr ns).2, OkT z :=
  ⟨pth_ok (ht.ok ns h), fun z hz => five_ok z (pBelow_five ht.ok ns z ((srt_perm _).mem_iff.mp hz))⟩
end
theorem plain_law : PlainLaw := by
  intro rows ps hr hok hpl h9
  have ht := ti_rows hok
  have hb := bi_book hok
  have hto := tree_ok rows [[]] 0 hok ⟨by simp, fun z hz => by rw [List.mem_singleton.mp hz]; exact .nil⟩
  have hl : (pTree rows).length ≤ 17 := by
    have := hto.len
    unfold pTree
    omega
  generalize pTree rows = tr at ht hb hl
  generalize hbk : pBook (rows.map rowPath) = bk0 at hb
  have hP0 : ∀ m : List Str, (fun _ => False) m → m ∈ tr := fun _ h => h.elim
  have hndk := keys_hb ht ps
  have hel := ent_len ht hb
  have hbl := bk_len ht hb hP0
  have hheld : ∀ e, e ∈ pHeld tr tr ↔ ∃ ns, ns ∈ tr ∧ (hasKid tr ns = true ∨ (fun _ => False) ns) ∧ e = rowOf tr ns := fun e => mem_held.trans (by simp)
  have hndh : ((pHeld tr tr).map (·.1)).Nodup := by
    rw [List.map_append] at hndk
    exact (List.nodup_append.mp hndk).1
  refine ⟨by rw [List.length_map]; omega, fun p hp => ?_, ?_, fun z hz => ?_, fun e he => ?_, fun e he => ?_, hndk, ?_, ?_, ?_, ?_⟩
  · obtain ⟨r, hr', rfl⟩ := List.mem_map.mp hp
    exact ⟨row_npok (hok r hr'), chain_row (hok r hr')⟩
  · rw [hbk]
    intro e he z hz
    have := five_len ((hel e he).2 z hz)
    omega
  · obtain ⟨ns, hns, rfl⟩ := List.mem_map.mp (show z ∈ (tr.filter (fits ps)).map pth from (srt_perm _).mem_iff.mp hz)
    exact pth_ok (ht.ok ns (List.mem_filter.mp hns).1)
  · obtain ⟨ns, h1, _, rfl⟩ := mem_held.mp he
    exact ok_row ht h1
  · obtain ⟨ns, h1, _, rfl⟩ := mem_bare.mp he
    exact ok_row ht h1
  · rw [List.length_append]
    unfold pHeld pBare
    rw [List.length_map, List.length_map]
    have h1 := List.length_filter_le (hasKid tr) tr
    have h2 := List.length_filter_le (isBare tr ps) tr
    omega
  · obtain ⟨bk, fd, e, h1, h2, h3⟩ := walk_ok ht hl (nxt_id tr) h9 hb ps.length (Nat.le_refl _)
    have e2 := walk_id ps.length _ (Nat.le_refl _) e
    rw [List.take_of_length_le (Nat.le_refl _)] at e h2
    have e2' : bk = bk0 := e2
    subst e2'
    rw [hbk]
    exact ⟨fd, e, by have := h1.len ht; omega, srt_due ht h1 h2⟩
  · rw [hbk]
    exact ⟨hb.nd, by omega, fun e he => by have := (hel e he).1; omega, srtP_of ht hb hP0 hndh hheld⟩
  · obtain ⟨bk, fd, e, h1, h2, h3⟩ := walk_ok ht hl (nxt_touch ht) h9 hb ps.length (Nat.le_refl _)
    rw [List.take_of_length_le (Nat.le_refl _)] at e h2
    have hP : ∀ m, (True ∧ m ∈ tr ∧ ∃ j, j < ps.length ∧ lookAt ps m j = true) → m ∈ tr := fun m h => h.2.1
    have hbl' := bk_len ht h3 hP
    rw [hbk]
    refine ⟨bk, fd, e, by have := h1.len ht; omega, srt_due ht h1 h2, h3.nd, by omega, fun e he => by have := (ent_len ht h3 e he).1; omega, srtP_of ht h3 hP hndk fun e => ?_⟩
    rw [List.mem_append, mem_held, mem_bare]
    constructor
    · rintro (⟨ns, q1, q2, q3⟩ | ⟨ns, q1, q2, q3⟩)
      · exact ⟨ns, q1, .inl q2, q3⟩
      · exact ⟨ns, q1, .inr ⟨trivial, q1, q2.2⟩, q3⟩
    · rintro ⟨ns, q1, q2, q3⟩
      cases hk : hasKid tr ns with
      | true => exact .inl ⟨ns, q1, hk, q3⟩
      | false =>
        rcases q2 with q2 | ⟨_, _, q2⟩
        · rw [hk] at q2; cases q2
        · exact .inr ⟨ns, q1, ⟨hk, q2⟩, q3⟩
end

section
open PySem PySem.W PySem.Spec PySem.Calls PyProof.Rows
set_option maxRecDepth 100000
set_option maxHeartbeats 0
/-! names that the head would give to twins of large objects: taken, so that it does without (the compiled file stays small) -/
noncomputable def hold.tw11313966402537827619 : Unit := ()
noncomputable def hold.tw14136418641908112170 : Unit := ()
noncomputable def hold.tw10160429308511228725 : Unit := ()
noncomputable def hold.tw5153202097396428643 : Unit := ()
noncomputable def hold.tw18029772366998556963 : Unit := ()
noncomputable def hold.tw3290804118320580555 : Unit := ()
noncomputable def hold.tw4465198581760179412 : Unit := ()
noncomputable def hold.tw12866681516794826265 : Unit := ()
noncomputable def hold.tw13446030681833733361 : Unit := ()
noncomputable def hold.tw16261652414840923085 : Unit := ()
noncomputable def hold.tw9514310167901776937 : Unit := ()
noncomputable def hold.tw9850650889226984870 : Unit := ()
noncomputable def hold.tw13504771074362964989 : Unit := ()
noncomputable def hold.tw2273215288976923191 : Unit := ()
noncomputable def hold.tw13049172786404223327 : Unit := ()
noncomputable def hold.tw14706776188300520940 : Unit := ()
noncomputable def hold.tw2537456120744459404 : Unit := ()
noncomputable def hold.tw5322255323289935965 : Unit := ()
noncomputable def hold.tw369264407100488221 : Unit := ()
noncomputable def hold.tw12078129027396527781 : Unit := ()
noncomputable def hold.tw5479475584830294250 : Unit := ()
noncomputable def hold.tw11310426345010913348 : Unit := ()
noncomputable def hold.tw5388470661617537149 : Unit := ()
noncomputable def hold.tw107826746029726550 : Unit := ()
noncomputable def hold.tw9834950224381477352 : Unit := ()
noncomputable def hold.tw5626864082466962383 : Unit := ()
noncomputable def hold.tw17238749582677908161 : Unit := ()
noncomputable def hold.tw6484090383143868055 : Unit := ()
noncomputable def hold.tw14481348959833949307 : Unit := ()
noncomputable def hold.tw14225821402699603777 : Unit := ()
noncomputable def hold.tw3762819131826886194 : Unit := ()
noncomputable def hold.tw1456823336254157700 : Unit := ()
noncomputable def hold.tw2017597808403406424 : Unit := ()
noncomputable def hold.tw1885003098612045780 : Unit := ()
noncomputable def hold.tw17388030481478283280 : Unit := ()
noncomputable def hold.tw6071569509126558030 : Unit := ()
noncomputable def hold.tw7112792166788302912 : Unit := ()
noncomputable def hold.tw16248778041697056230 : Unit := ()
noncomputable def hold.tw8302095610134041685 : Unit := ()
noncomputable def hold.tw10653002321225976066 : Unit := ()
noncomputable def hold.tw13403539828628785895 : Unit := ()
noncomputable def hold.tw2525326792452569664 : Unit := ()
noncomputable def hold.tw12709708060240544911 : Unit := ()
noncomputable def hold.tw10721617047062326709 : Unit := ()
noncomputable def hold.tw15299652763180379970 : Unit := ()
noncomputable def hold.tw10259186508281350011 : Unit := ()
noncomputable def hold.tw15983457954052622638 : Unit := ()
noncomputable def hold.tw3564481345399060810 : Unit := ()
noncomputable def hold.tw536990659440831912 : Unit := ()
noncomputable def hold.tw5412920287711918967 : Unit := ()
noncomputable def hold.tw747116327913000232 : Unit := ()
noncomputable def hold.tw5312768882498548159 : Unit := ()
noncomputable def hold.tw5657474016428230055 : Unit := ()
noncomputable def hold.tw11665678496099771957 : Unit := ()
noncomputable def hold.tw7011263932701355560 : Unit := ()
noncomputable def hold.tw7912971558556061288 : Unit := ()
noncomputable def hold.tw1641580387952264217 : Unit := ()
noncomputable def hold.tw7382111949402845420 : Unit := ()
noncomputable def hold.tw5521568721600408730 : Unit := ()
noncomputable def hold.tw1329813755872911699 : Unit := ()
noncomputable def hold.tw15283028380915970748 : Unit := ()
noncomputable def hold.tw5985261495743940577 : Unit := ()
noncomputable def hold.tw16192253939647299400 : Unit := ()
noncomputable def hold.tw6918540465791430647 : Unit := ()
noncomputable def hold.tw3606123388533236985 : Unit := ()
noncomputable def hold.tw12324989706311011291 : Unit := ()
noncomputable def hold.tw12295677062131573561 : Unit := ()
noncomputable def hold.tw9779062967424419893 : Unit := ()
noncomputable def hold.tw15258790292714916927 : Unit := ()
noncomputable def hold.tw14943135023641681092 : Unit := ()
noncomputable def hold.tw3442562046471862999 : Unit := ()
noncomputable def hold.tw2425720581168043106 : Unit := ()
noncomputable def hold.tw13427626366906019639 : Unit := ()
noncomputable def hold.tw9988371862229674197 : Unit := ()
noncomputable def hold.tw4108698914208135212 : Unit := ()
noncomputable def hold.tw11098522406952332200 : Unit := ()
noncomputable def hold.tw16472616209228830220 : Unit := ()
noncomputable def hold.tw10217173870566613375 : Unit := ()
noncomputable def hold.tw5158477206174760013 : Unit := ()
noncomputable def hold.tw12022354852679842875 : Unit := ()
noncomputable def hold.tw11373487719499905628 : Unit := ()
noncomputable def hold.tw17351993316414295171 : Unit := ()
noncomputable def hold.tw12426307173574817489 : Unit := ()
noncomputable def hold.tw7296812823500536161 : Unit := ()
noncomputable def hold.tw7315718055399414977 : Unit := ()
noncomputable def hold.tw14001872355622043688 : Unit := ()
noncomputable def hold.tw367505537307392249 : Unit := ()
noncomputable def hold.tw7880785776678700394 : Unit := ()
noncomputable def hold.tw5280903082600739217 : Unit := ()
noncomputable def hold.tw8404013400542587812 : Unit := ()
noncomputable def hold.tw13884359947959868384 : Unit := ()
noncomputable def hold.tw13247424753978578730 : Unit := ()
noncomputable def hold.tw725457412556363204 : Unit := ()
noncomputable def hold.tw5539256416569887873 : Unit := ()
noncomputable def hold.tw15754301894805871348 : Unit := ()
noncomputable def hold.tw13578158262095104282 : Unit := ()
noncomputable def hold.tw10035609496932861157 : Unit := ()
noncomputable def hold.tw4854643206874649652 : Unit := ()
noncomputable def hold.tw7139120350598189357 : Unit := ()
noncomputable def hold.tw1474057026671661734 : Unit := ()
noncomputable def hold.tw10496482377792658583 : Unit := ()
noncomputable def hold.tw16196986890269245725 : Unit := ()
noncomputable def hold.tw5678586599223635705 : Unit := ()
noncomputable def hold.tw13219154328996711681 : Unit := ()
noncomputable def hold.tw3897354960734065572 : Unit := ()
noncomputable def hold.tw1596819243801002962 : Unit := ()
noncomputable def hold.tw6310278156892004809 : Unit := ()
noncomputable def hold.tw12304157096625838102 : Unit := ()
noncomputable def hold.tw9993161016798797036 : Unit := ()
noncomputable def hold.tw13785830949329881961 : Unit := ()
noncomputable def hold.tw9275921881171514719 : Unit := ()
noncomputable def hold.tw9317199094707213669 : Unit := ()
noncomputable def hold.tw12709299894263038688 : Unit := ()
noncomputable def hold.tw17225769746861056393 : Unit := ()
noncomputable def hold.tw9296693572956338866 : Unit := ()
noncomputable def hold.tw11650868144150915106 : Unit := ()
noncomputable def hold.tw935045992530274933 : Unit := ()
noncomputable def hold.tw15894039510779192122 : Unit := ()
noncomputable def hold.tw15075344049344936298 : Unit := ()
noncomputable def hold.tw13165027910792030532 : Unit := ()
noncomputable def hold.tw10308171512073851521 : Unit := ()
noncomputable def hold.tw5666096236014022165 : Unit := ()
noncomputable def hold.tw8078582414481879505 : Unit := ()
noncomputable def hold.tw5988583959512473775 : Unit := ()
noncomputable def hold.tw5809832459732969038 : Unit := ()
noncomputable def hold.tw968349290475188169 : Unit := ()
noncomputable def hold.tw17374426124107629352 : Unit := ()
noncomputable def hold.tw3812330137989812732 : Unit := ()
noncomputable def hold.tw4461901594183639536 : Unit := ()
noncomputable def hold.tw6852344693897712449 : Unit := ()
noncomputable def hold.tw17342200986909306793 : Unit := ()
noncomputable def hold.tw18022479617219746077 : Unit := ()
noncomputable def hold.tw1750636494845353527 : Unit := ()
noncomputable def hold.tw17296622908048064184 : Unit := ()
noncomputable def hold.tw2607275872116182454 : Unit := ()
noncomputable def hold.tw15982858132152220265 : Unit := ()
noncomputable def hold.tw6947375541980548379 : Unit := ()
noncomputable def hold.tw4354998864007215284 : Unit := ()
noncomputable def hold.tw5663254659401579094 : Unit := ()
noncomputable def hold.tw288326247851516812 : Unit := ()
noncomputable def hold.tw11733463243784036637 : Unit := ()
noncomputable def hold.tw5171097044272124210 : Unit := ()
noncomputable def hold.tw16024405594405577650 : Unit := ()
noncomputable def hold.tw10526720494015533099 : Unit := ()
noncomputable def hold.tw4369453409963184335 : Unit := ()
noncomputable def hold.tw9013793267910059426 : Unit := ()
noncomputable def hold.tw17862563923410949419 : Unit := ()
noncomputable def hold.tw1559155204805412344 : Unit := ()
noncomputable def hold.tw18296917965364767464 : Unit := ()
noncomputable def hold.tw8460957321811536571 : Unit := ()
noncomputable def hold.tw394106401178249813 : Unit := ()
noncomputable def hold.tw15557286453950731272 : Unit := ()
noncomputable def hold.tw3997244925295405124 : Unit := ()
noncomputable def hold.tw13982028952961050078 : Unit := ()
noncomputable def hold.tw7567770878326274979 : Unit := ()
noncomputable def hold.tw10465754452627505293 : Unit := ()
noncomputable def hold.tw7582635293524660581 : Unit := ()
noncomputable def hold.tw3935834157905250306 : Unit := ()
noncomputable def hold.tw16529895078961245102 : Unit := ()
noncomputable def hold.tw3554643453950093181 : Unit := ()
noncomputable def hold.tw3998797320174230521 : Unit := ()
noncomputable def hold.tw9641252294684580888 : Unit := ()
noncomputable def hold.tw12721358166986775558 : Unit := ()
noncomputable def hold.tw11400227500041041972 : Unit := ()
noncomputable def hold.tw1498906047141827114 : Unit := ()
noncomputable def hold.tw7470738819077068695 : Unit := ()
noncomputable def hold.tw9092490908565235344 : Unit := ()
noncomputable def hold.tw16484978046866655445 : Unit := ()
noncomputable def hold.tw12246946946364335263 : Unit := ()
noncomputable def hold.tw10894609272897114175 : Unit := ()
noncomputable def hold.tw5524453099724298651 : Unit := ()
noncomputable def hold.tw2564222854539435743 : Unit := ()
noncomputable def hold.tw6919011461122482668 : Unit := ()
noncomputable def hold.tw2270333860330760702 : Unit := ()
noncomputable def hold.tw3384978328954740602 : Unit := ()
noncomputable def hold.tw1761422461475589716 : Unit := ()
noncomputable def hold.tw1457360354844159562 : Unit := ()
noncomputable def hold.tw14329136532361350945 : Unit := ()
noncomputable def hold.tw1220055087997338432 : Unit := ()
noncomputable def hold.tw4150984384057789194 : Unit := ()
noncomputable def hold.tw18355084236647482048 : Unit := ()
noncomputable def hold.tw18245049293274397543 : Unit := ()
noncomputable def hold.tw7667027540987661506 : Unit := ()
noncomputable def hold.tw9319301040065717146 : Unit := ()
noncomputable def hold.tw184507587282797358 : Unit := ()
noncomputable def hold.tw15735255865507666328 : Unit := ()
noncomputable def hold.tw13422559024381956108 : Unit := ()
noncomputable def hold.tw15434385853700007826 : Unit := ()
noncomputable def hold.tw12376159331301184307 : Unit := ()
noncomputable def hold.tw9676610858032743491 : Unit := ()
noncomputable def hold.tw13270888491860839785 : Unit := ()
noncomputable def hold.tw10787632023234782459 : Unit := ()
noncomputable def hold.tw9680597138193462753 : Unit := ()
noncomputable def hold.tw6048289343639603392 : Unit := ()
noncomputable def hold.tw10127277711611095362 : Unit := ()
noncomputable def hold.tw12480648617033138366 : Unit := ()
noncomputable def hold.tw17429253698777091873 : Unit := ()
noncomputable def hold.tw2426759089165422516 : Unit := ()
noncomputable def hold.tw12540613734518514315 : Unit := ()
noncomputable def hold.tw13330403137323899426 : Unit := ()
noncomputable def hold.tw15670213389539629998 : Unit := ()
noncomputable def hold.tw6819562659341952318 : Unit := ()
noncomputable def hold.tw5747371974910199008 : Unit := ()
noncomputable def hold.tw14273217197821428564 : Unit := ()
noncomputable def hold.tw5006285617726208810 : Unit := ()
noncomputable def hold.tw4889281411131734719 : Unit := ()
noncomputable def hold.tw668950032922975333 : Unit := ()
noncomputable def hold.tw15586006530425847038 : Unit := ()
noncomputable def hold.tw13676031625649786061 : Unit := ()
noncomputable def hold.tw4151354013267218305 : Unit := ()
noncomputable def hold.tw13570874381829032177 : Unit := ()
noncomputable def hold.tw1006916523149885559 : Unit := ()
noncomputable def hold.tw13027875727295023778 : Unit := ()
noncomputable def hold.tw7104157118244199116 : Unit := ()
noncomputable def hold.tw12680330630040593087 : Unit := ()
noncomputable def hold.tw809208618446344086 : Unit := ()
noncomputable def hold.tw5225648906220786391 : Unit := ()
noncomputable def hold.tw12664437545905630185 : Unit := ()
noncomputable def hold.tw13567934037737314432 : Unit := ()
noncomputable def hold.tw13140471833863424047 : Unit := ()
noncomputable def hold.tw9462499447244490400 : Unit := ()
noncomputable def hold.tw4731736465901523077 : Unit := ()
theorem In_fun {H : Params → Frag} {P : Params} {h : Heap} (X : (H P).In h) (e : ∀ P, H P = KH P) : (KH P).In h := e P ▸ X
set_option Elab.async true in
theorem hold : PySem.Challenge.rw_il0143_01.Holds := by
  w_on; o_law; k_head; (case hw => w_witness2)
  k_go0
  rename_i hL ra w1 r0 hI hr hc1 hc2 hD h₁ tk₁ o4 o3 o2 o1 e4 e3 e2 e1 X0 X' T' K' F' ch1 N' l0
  have XK := In_fun X' (fun P => by kernel_rfl)
  refine law_start (fa := _) (cd := _) ?zA plain_law ⟨XK, ⟨_, _, _, _, _, T'⟩, (N' _ (.tail _ (.tail _ (.tail _ (.tail _ (.head _)))))).2.2, (N' _ (.tail _ (.tail _ (.tail _ (.tail _ (.tail _ (.head _))))))).2.2, ch1, by assumption⟩ F' ?zm N' ?z4 ?z3 ?z2 ?z1 l0 lifted hI ?zn ?zh
  case zA => exact ⟨Nat.le_of_ble_eq_true rfl, Nat.le_of_ble_eq_true rfl, rfl⟩
  case zm => rfl
  case z4 => exact e4
  case z3 => exact e3
  case z2 => exact e2
  case z1 => exact e1
  case zn => omega
  case zh =>
    intro s' hk hgs hos h8 h9
    refine And.intro (And.intro (Or.inl ⟨.bool true, .bool true, [], rfl, ?y1, .bool true, ?y2, ?y3⟩) ⟨hk, hos, hgs.trans (by assumption)⟩) ⟨h8, h9, trivial⟩
    case y1 => intro cls; rfl
    case y2 => kernel_rfl
    case y3 => intro _; exact ⟨List.nodup_nil, fun a ha => by cases ha⟩
end
end Mine
set_option maxRecDepth 100000 in
set_option maxHeartbeats 8000000 in
theorem PySem.Challenge.cw_il0143_01_holds : PySem.Challenge.rw_il0143_01.Holds := by
  exact Mine.hold
