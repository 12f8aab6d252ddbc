import PyProof.Rows.All
import Wide.All
import OpenK.AllK
import Wide.FinOn
import PyProof.FString
import PyProof.CallType
import PyProof.CallStr
import PyProof.DictCompW
import PyProof.EnumMake
import PyProof.ExcArgs
import PyProof.IsiPairs
import PyProof.ZipIter
import PyProof.Rows.ZipGen
import PyProof.WalksEnum
import PyProof.Rows.StrOrd
import PyProof.StrBlock2
import PyProof.SliceMore
import PyProof.Rows.RegUnits
import OpenK.TopRead
import OpenK.KEqL
import KE.KCells
import KE.KLam
import KE.KLcPair
import PySem.Challenge.RW_ij0176_01
set_option Elab.async false
section
open PySem PySem.W PySem.Calls PyProof.Rows
set_option autoImplicit false
set_option maxRecDepth 100000
namespace Mine
noncomputable def KO2 (P : Params) : Obj := { cls := Value.none, data := Data.dict (List.toArray ({ hash := PyData.keyHash P (Str.ofString "\x69mport.loaded._sre"), key := Value.str (Str.ofString "\x69mport.loaded._sre") 183, val := Value.bool Bool.true } :: { hash := PyData.keyHash P (Str.ofString "class._frozen_importlib.BuiltinImporter"), key := Value.str (Str.ofString "class._frozen_importlib.BuiltinImporter") 185, val := Value.ref 14 } :: { hash := PyData.keyHash P (Str.ofString "watched.\x69mport"), key := Value.str (Str.ofString "watched.\x69mport") 206, val := Value.ref 18 } :: { hash := PyData.keyHash P (Str.ofString "class._frozen_importlib.ModuleSpec"), key := Value.str (Str.ofString "class._frozen_importlib.ModuleSpec") 216, val := Value.ref 22 } :: { hash := PyData.keyHash P (Str.ofString "sys.modules.booked-epoch"), key := Value.str (Str.ofString "sys.modules.booked-epoch") 245, val := Value.int 3 0 } :: { hash := PyData.keyHash P (Str.ofString "\x69mport.later-laid._sre"), key := Value.str (Str.ofString "\x69mport.later-laid._sre") 270, val := Value.bool Bool.true } :: { hash := PyData.keyHash P (Str.ofString "watched.library"), key := Value.str (Str.ofString "watched.library") 272, val := Value.ref 27 } :: { hash := PyData.keyHash P (Str.ofString "watched.library-objects"), key := Value.str (Str.ofString "watched.library-objects") 0, val := Value.str (Str.ofString "\x0c") 0 } :: { hash := PyData.keyHash P (Str.ofString "watched.library-deep._sre"), key := Value.str (Str.ofString "watched.library-deep._sre") 273, val := Value.str (Str.ofString "\x04\x00\x00\x0b\x04\x00\x00\x0b\x04\x00\x00\x03\x04\x00\x00\x0b\x08\x04dict\x02") 0 } :: [])) 9 }
noncomputable def KO3 (P : Params) : Obj := { cls := Value.type "dict", data := Data.dict (List.toArray ({ hash := PyData.keyHash P (Str.ofString "__name__"), key := Value.str (Str.ofString "__name__") 165, val := Value.str (Str.ofString "law_ij0176_01") 724 } :: { hash := PyData.keyHash P (Str.ofString "__doc__"), key := Value.str (Str.ofString "__doc__") 166, val := Value.none } :: { hash := PyData.keyHash P (Str.ofString "__package__"), key := Value.str (Str.ofString "__package__") 167, val := Value.none } :: { hash := PyData.keyHash P (Str.ofString "__loader__"), key := Value.str (Str.ofString "__loader__") 168, val := Value.builtin "__main__.__loader__#opaque" } :: { hash := PyData.keyHash P (Str.ofString "__spec__"), key := Value.str (Str.ofString "__spec__") 169, val := Value.none } :: { hash := PyData.keyHash P (Str.ofString "__annotations__"), key := Value.str (Str.ofString "__annotations__") 170, val := Value.ref 6 } :: { hash := PyData.keyHash P (Str.ofString "__builtins__"), key := Value.str (Str.ofString "__builtins__") 171, val := Value.ref 4 } :: { hash := PyData.keyHash P (Str.ofString "__file__"), key := Value.str (Str.ofString "__file__") 173, val := Value.str (Str.ofString "/claim/cut.py") 172 } :: { hash := PyData.keyHash P (Str.ofString "__cached__"), key := Value.str (Str.ofString "__cached__") 174, val := Value.none } :: { hash := PyData.keyHash P (Str.ofString "_sre"), key := Value.str (Str.ofString "_sre") 275, val := Value.ref 12 } :: { hash := PyData.keyHash P (Str.ofString "_twin_re_1"), key := Value.str (Str.ofString "_twin_re_1") 321, val := Value.ref 36 } :: { hash := PyData.keyHash P (Str.ofString "translate"), key := Value.str (Str.ofString "translate") 330, val := Value.ref 43 } :: { hash := PyData.keyHash P (Str.ofString "_special_chars_map"), key := Value.str (Str.ofString "_special_chars_map") 478, val := Value.ref 45 } :: { hash := PyData.keyHash P (Str.ofString "escape"), key := Value.str (Str.ofString "escape") 485, val := Value.ref 55 } :: { hash := PyData.keyHash P (Str.ofString "_translate"), key := Value.str (Str.ofString "_translate") 506, val := Value.ref 62 } :: { hash := PyData.keyHash P (Str.ofString "_join_translated_parts"), key := Value.str (Str.ofString "_join_translated_parts") 519, val := Value.ref 69 } :: { hash := PyData.keyHash P (Str.ofString "LPAR"), key := Value.str (Str.ofString "LPAR") 523, val := Value.int 7 522 } :: { hash := PyData.keyHash P (Str.ofString "RPAR"), key := Value.str (Str.ofString "RPAR") 525, val := Value.int 8 524 } :: { hash := PyData.keyHash P (Str.ofString "LSQB"), key := Value.str (Str.ofString "LSQB") 527, val := Value.int 9 526 } :: { hash := PyData.keyHash P (Str.ofString "RSQB"), key := Value.str (Str.ofString "RSQB") 529, val := Value.int 10 528 } :: { hash := PyData.keyHash P (Str.ofString "COLON"), key := Value.str (Str.ofString "COLON") 531, val := Value.int 11 530 } :: { hash := PyData.keyHash P (Str.ofString "COMMA"), key := Value.str (Str.ofString "COMMA") 533, val := Value.int 12 532 } :: { hash := PyData.keyHash P (Str.ofString "SEMI"), key := Value.str (Str.ofString "SEMI") 535, val := Value.int 13 534 } :: { hash := PyData.keyHash P (Str.ofString "PLUS"), key := Value.str (Str.ofString "PLUS") 537, val := Value.int 14 536 } :: { hash := PyData.keyHash P (Str.ofString "MINUS"), key := Value.str (Str.ofString "MINUS") 539, val := Value.int 15 538 } :: { hash := PyData.keyHash P (Str.ofString "STAR"), key := Value.str (Str.ofString "STAR") 541, val := Value.int 16 540 } :: { hash := PyData.keyHash P (Str.ofString "SLASH"), key := Value.str (Str.ofString "SLASH") 543, val := Value.int 17 542 } :: { hash := PyData.keyHash P (Str.ofString "VBAR"), key := Value.str (Str.ofString "VBAR") 545, val := Value.int 18 544 } :: { hash := PyData.keyHash P (Str.ofString "AMPER"), key := Value.str (Str.ofString "AMPER") 547, val := Value.int 19 546 } :: { hash := PyData.keyHash P (Str.ofString "LESS"), key := Value.str (Str.ofString "LESS") 549, val := Value.int 20 548 } :: { hash := PyData.keyHash P (Str.ofString "GREATER"), key := Value.str (Str.ofString "GREATER") 551, val := Value.int 21 550 } :: { hash := PyData.keyHash P (Str.ofString "EQUAL"), key := Value.str (Str.ofString "EQUAL") 553, val := Value.int 22 552 } :: { hash := PyData.keyHash P (Str.ofString "DOT"), key := Value.str (Str.ofString "DOT") 555, val := Value.int 23 554 } :: { hash := PyData.keyHash P (Str.ofString "PERCENT"), key := Value.str (Str.ofString "PERCENT") 557, val := Value.int 24 556 } :: { hash := PyData.keyHash P (Str.ofString "LBRACE"), key := Value.str (Str.ofString "LBRACE") 559, val := Value.int 25 558 } :: { hash := PyData.keyHash P (Str.ofString "RBRACE"), key := Value.str (Str.ofString "RBRACE") 561, val := Value.int 26 560 } :: { hash := PyData.keyHash P (Str.ofString "EQEQUAL"), key := Value.str (Str.ofString "EQEQUAL") 563, val := Value.int 27 562 } :: { hash := PyData.keyHash P (Str.ofString "NOTEQUAL"), key := Value.str (Str.ofString "NOTEQUAL") 565, val := Value.int 28 564 } :: { hash := PyData.keyHash P (Str.ofString "LESSEQUAL"), key := Value.str (Str.ofString "LESSEQUAL") 567, val := Value.int 29 566 } :: { hash := PyData.keyHash P (Str.ofString "GREATEREQUAL"), key := Value.str (Str.ofString "GREATEREQUAL") 569, val := Value.int 30 568 } :: { hash := PyData.keyHash P (Str.ofString "TILDE"), key := Value.str (Str.ofString "TILDE") 571, val := Value.int 31 570 } :: { hash := PyData.keyHash P (Str.ofString "CIRCUMFLEX"), key := Value.str (Str.ofString "CIRCUMFLEX") 573, val := Value.int 32 572 } :: { hash := PyData.keyHash P (Str.ofString "LEFTSHIFT"), key := Value.str (Str.ofString "LEFTSHIFT") 575, val := Value.int 33 574 } :: { hash := PyData.keyHash P (Str.ofString "RIGHTSHIFT"), key := Value.str (Str.ofString "RIGHTSHIFT") 577, val := Value.int 34 576 } :: { hash := PyData.keyHash P (Str.ofString "DOUBLESTAR"), key := Value.str (Str.ofString "DOUBLESTAR") 579, val := Value.int 35 578 } :: { hash := PyData.keyHash P (Str.ofString "PLUSEQUAL"), key := Value.str (Str.ofString "PLUSEQUAL") 581, val := Value.int 36 580 } :: { hash := PyData.keyHash P (Str.ofString "MINEQUAL"), key := Value.str (Str.ofString "MINEQUAL") 583, val := Value.int 37 582 } :: { hash := PyData.keyHash P (Str.ofString "STAREQUAL"), key := Value.str (Str.ofString "STAREQUAL") 585, val := Value.int 38 584 } :: { hash := PyData.keyHash P (Str.ofString "SLASHEQUAL"), key := Value.str (Str.ofString "SLASHEQUAL") 587, val := Value.int 39 586 } :: { hash := PyData.keyHash P (Str.ofString "PERCENTEQUAL"), key := Value.str (Str.ofString "PERCENTEQUAL") 589, val := Value.int 40 588 } :: { hash := PyData.keyHash P (Str.ofString "AMPEREQUAL"), key := Value.str (Str.ofString "AMPEREQUAL") 591, val := Value.int 41 590 } :: { hash := PyData.keyHash P (Str.ofString "VBAREQUAL"), key := Value.str (Str.ofString "VBAREQUAL") 593, val := Value.int 42 592 } :: { hash := PyData.keyHash P (Str.ofString "CIRCUMFLEXEQUAL"), key := Value.str (Str.ofString "CIRCUMFLEXEQUAL") 595, val := Value.int 43 594 } :: { hash := PyData.keyHash P (Str.ofString "LEFTSHIFTEQUAL"), key := Value.str (Str.ofString "LEFTSHIFTEQUAL") 597, val := Value.int 44 596 } :: { hash := PyData.keyHash P (Str.ofString "RIGHTSHIFTEQUAL"), key := Value.str (Str.ofString "RIGHTSHIFTEQUAL") 599, val := Value.int 45 598 } :: { hash := PyData.keyHash P (Str.ofString "DOUBLESTAREQUAL"), key := Value.str (Str.ofString "DOUBLESTAREQUAL") 601, val := Value.int 46 600 } :: { hash := PyData.keyHash P (Str.ofString "DOUBLESLASH"), key := Value.str (Str.ofString "DOUBLESLASH") 603, val := Value.int 47 602 } :: { hash := PyData.keyHash P (Str.ofString "DOUBLESLASHEQUAL"), key := Value.str (Str.ofString "DOUBLESLASHEQUAL") 605, val := Value.int 48 604 } :: { hash := PyData.keyHash P (Str.ofString "AT"), key := Value.str (Str.ofString "AT") 607, val := Value.int 49 606 } :: { hash := PyData.keyHash P (Str.ofString "ATEQUAL"), key := Value.str (Str.ofString "ATEQUAL") 609, val := Value.int 50 608 } :: { hash := PyData.keyHash P (Str.ofString "RARROW"), key := Value.str (Str.ofString "RARROW") 611, val := Value.int 51 610 } :: { hash := PyData.keyHash P (Str.ofString "ELLIPSIS"), key := Value.str (Str.ofString "ELLIPSIS") 613, val := Value.int 52 612 } :: { hash := PyData.keyHash P (Str.ofString "COLONEQUAL"), key := Value.str (Str.ofString "COLONEQUAL") 615, val := Value.int 53 614 } :: { hash := PyData.keyHash P (Str.ofString "EXCLAMATION"), key := Value.str (Str.ofString "EXCLAMATION") 617, val := Value.int 54 616 } :: { hash := PyData.keyHash P (Str.ofString "NT_OFFSET"), key := Value.str (Str.ofString "NT_OFFSET") 619, val := Value.int 256 618 } :: { hash := PyData.keyHash P (Str.ofString "EXACT_TOKEN_TYPES"), key := Value.str (Str.ofString "EXACT_TOKEN_TYPES") 716, val := Value.ref 70 } :: { hash := PyData.keyHash P (Str.ofString "ISTERMINAL"), key := Value.str (Str.ofString "ISTERMINAL") 723, val := Value.ref 79 } :: { hash := PyData.keyHash P (Str.ofString "_law_operators"), key := Value.str (Str.ofString "_law_operators") 731, val := Value.ref 84 } :: { hash := PyData.keyHash P (Str.ofString "_law_front"), key := Value.str (Str.ofString "_law_front") 741, val := Value.ref 91 } :: { hash := PyData.keyHash P (Str.ofString "_law_takers"), key := Value.str (Str.ofString "_law_takers") 747, val := Value.ref 96 } :: { hash := PyData.keyHash P (Str.ofString "_law_read"), key := Value.str (Str.ofString "_law_read") 759, val := Value.ref 103 } :: { hash := PyData.keyHash P (Str.ofString "_law_fewest"), key := Value.str (Str.ofString "_law_fewest") 765, val := Value.ref 108 } :: { hash := PyData.keyHash P (Str.ofString "_law_apart"), key := Value.str (Str.ofString "_law_apart") 771, val := Value.ref 113 } :: { hash := PyData.keyHash P (Str.ofString "law"), key := Value.str (Str.ofString "law") 777, val := Value.ref 118 } :: [])) 74 }
noncomputable def KO6 (P : Params) : Obj := { cls := Value.type "dict", data := Data.dict #[] }
noncomputable def KO11 (P : Params) : Obj := { cls := Value.type "dict", data := Data.dict (List.toArray ({ hash := PyData.keyHash P (Str.ofString "__name__"), key := Value.str (Str.ofString "__name__") 247, val := Value.str (Str.ofString "_sre") 246 } :: { hash := PyData.keyHash P (Str.ofString "__doc__"), key := Value.str (Str.ofString "__doc__") 248, val := Value.none } :: { hash := PyData.keyHash P (Str.ofString "__package__"), key := Value.str (Str.ofString "__package__") 250, val := Value.str (Str.ofString "") 249 } :: { hash := PyData.keyHash P (Str.ofString "__loader__"), key := Value.str (Str.ofString "__loader__") 251, val := Value.builtin "off-the-table:_sre.__loader__:shared#opaque" } :: { hash := PyData.keyHash P (Str.ofString "__spec__"), key := Value.str (Str.ofString "__spec__") 252, val := Value.builtin "off-the-table:_sre.__spec__:shared#opaque" } :: { hash := PyData.keyHash P (Str.ofString "compile"), key := Value.str (Str.ofString "compile") 253, val := Value.builtin "_sre.compile" } :: { hash := PyData.keyHash P (Str.ofString "template"), key := Value.str (Str.ofString "template") 254, val := Value.builtin "off-the-table:_sre.template:shared#opaque" } :: { hash := PyData.keyHash P (Str.ofString "getcodesize"), key := Value.str (Str.ofString "getcodesize") 255, val := Value.builtin "off-the-table:_sre.getcodesize:shared#opaque" } :: { hash := PyData.keyHash P (Str.ofString "ascii_iscased"), key := Value.str (Str.ofString "ascii_iscased") 256, val := Value.builtin "off-the-table:_sre.ascii_iscased:shared#opaque" } :: { hash := PyData.keyHash P (Str.ofString "unicode_iscased"), key := Value.str (Str.ofString "unicode_iscased") 257, val := Value.builtin "off-the-table:_sre.unicode_iscased:shared#opaque" } :: { hash := PyData.keyHash P (Str.ofString "ascii_tolower"), key := Value.str (Str.ofString "ascii_tolower") 258, val := Value.builtin "off-the-table:_sre.ascii_tolower:shared#opaque" } :: { hash := PyData.keyHash P (Str.ofString "unicode_tolower"), key := Value.str (Str.ofString "unicode_tolower") 259, val := Value.builtin "off-the-table:_sre.unicode_tolower:shared#opaque" } :: { hash := PyData.keyHash P (Str.ofString "MAGIC"), key := Value.str (Str.ofString "MAGIC") 261, val := Value.int 20230612 260 } :: { hash := PyData.keyHash P (Str.ofString "CODESIZE"), key := Value.str (Str.ofString "CODESIZE") 263, val := Value.int 4 262 } :: { hash := PyData.keyHash P (Str.ofString "MAXREPEAT"), key := Value.str (Str.ofString "MAXREPEAT") 265, val := Value.int 4294967295 264 } :: { hash := PyData.keyHash P (Str.ofString "MAXGROUPS"), key := Value.str (Str.ofString "MAXGROUPS") 267, val := Value.int 1073741823 266 } :: { hash := PyData.keyHash P (Str.ofString "copyright"), key := Value.str (Str.ofString "copyright") 269, val := Value.str (Str.ofString " SRE 2.2.2 Copyright (c) 1997-2002 by Secret Labs AB ") 268 } :: [])) 17 }
noncomputable def KO12 (P : Params) : Obj := { cls := Value.type "module", dict := Option.some 11 }
noncomputable def KO35 (P : Params) : Obj := { cls := Value.type "tuple", data := Data.seq (List.toArray (Value.int 14 0 :: Value.int 14 0 :: Value.int 4 0 :: Value.int 1 0 :: Value.int 1 0 :: Value.int 9 0 :: Value.int 0 0 :: Value.int 64 0 :: Value.int 0 0 :: Value.int 1342177280 0 :: Value.int 0 0 :: Value.int 0 0 :: Value.int 0 0 :: Value.int 0 0 :: Value.int 0 0 :: Value.int 17 0 :: Value.int 0 0 :: Value.int 13 0 :: Value.int 11 0 :: Value.int 9 0 :: Value.int 0 0 :: Value.int 64 0 :: Value.int 0 0 :: Value.int 1342177280 0 :: Value.int 0 0 :: Value.int 0 0 :: Value.int 0 0 :: Value.int 0 0 :: Value.int 0 0 :: Value.int 17 0 :: Value.int 1 0 :: Value.int 1 0 :: [])) }
noncomputable def KO36 (P : Params) : Obj := { cls := Value.type "re.Pattern", data := Data.fields #[Value.str (Str.ofString "([&~|])") 285, Value.int 32 320, Value.int 1 0, Value.none, Value.none, Value.ref 35, Value.int 0 0] }
noncomputable def KO37 (P : Params) : Obj := { cls := Value.type "tuple", data := Data.seq #[] }
noncomputable def KO39 (P : Params) : Obj := { cls := Value.type "tuple", data := Data.seq #[Value.str (Str.ofString "pat") 325, Value.str (Str.ofString "STAR") 326, Value.str (Str.ofString "parts") 327] }
noncomputable def KO40 (P : Params) : Obj := { cls := Value.type "tuple", data := Data.seq #[] }
noncomputable def KO42 (P : Params) : Obj := { cls := Value.type "code", data := Data.fields (List.toArray (Value.str (Str.ofString "translate") 322 :: Value.str (Str.ofString "translate") 323 :: Value.str (Str.ofString "/claim/cut.py") 324 :: Value.int 4 0 :: Value.int 1 0 :: Value.int 0 0 :: Value.int 0 0 :: Value.int 3 0 :: Value.ref 37 :: Value.bool Bool.true :: Value.int 276 0 :: Value.ref 38 :: Value.none :: Value.ref 39 :: Value.ref 40 :: Value.ref 41 :: Value.int 328 0 :: Value.int 4 0 :: Value.str (Str.ofString "/claim/cut.py") 329 :: [])) }
noncomputable def KO43 (P : Params) : Obj := (fun n a b d r tp sc ts bi po (_ : PySem.Challenge.pw_ij0176_01.main.body[3]? = some (.FunctionDef n a b d r tp sc ts bi po)) => ({ cls := Value.type "function", data := Data.func { name := Str.ofString "translate", qualname := Str.ofString "translate", params := a, body := .stmts b, scope := sc, globals := 3, closure := [], defaults := Value.none, kwdefaults := Value.none, pyModule := Value.str (Str.ofString "cpy313.fnmatch") 282, code := Value.ref 42 } } : Obj)) _ _ _ _ _ _ _ _ _ _ rfl
noncomputable def KO45 (P : Params) : Obj := { cls := Value.type "dict", data := Data.dict (List.toArray ({ hash := 40, key := Value.int 40 334, val := Value.str (Str.ofString "\\(") 338 } :: { hash := 41, key := Value.int 41 340, val := Value.str (Str.ofString "\\)") 344 } :: { hash := 91, key := Value.int 91 346, val := Value.str (Str.ofString "\\[") 350 } :: { hash := 93, key := Value.int 93 352, val := Value.str (Str.ofString "\\]") 356 } :: { hash := 123, key := Value.int 123 358, val := Value.str (Str.ofString "\\{") 362 } :: { hash := 125, key := Value.int 125 364, val := Value.str (Str.ofString "\\}") 368 } :: { hash := 63, key := Value.int 63 370, val := Value.str (Str.ofString "\\?") 374 } :: { hash := 42, key := Value.int 42 376, val := Value.str (Str.ofString "\\*") 380 } :: { hash := 43, key := Value.int 43 382, val := Value.str (Str.ofString "\\+") 386 } :: { hash := 45, key := Value.int 45 388, val := Value.str (Str.ofString "\\-") 392 } :: { hash := 124, key := Value.int 124 394, val := Value.str (Str.ofString "\\|") 398 } :: { hash := 94, key := Value.int 94 400, val := Value.str (Str.ofString "\\^") 404 } :: { hash := 36, key := Value.int 36 406, val := Value.str (Str.ofString "\\$") 410 } :: { hash := 92, key := Value.int 92 412, val := Value.str (Str.ofString "\\\\") 416 } :: { hash := 46, key := Value.int 46 418, val := Value.str (Str.ofString "\\.") 422 } :: { hash := 38, key := Value.int 38 424, val := Value.str (Str.ofString "\\&") 428 } :: { hash := 126, key := Value.int 126 430, val := Value.str (Str.ofString "\\~") 434 } :: { hash := 35, key := Value.int 35 436, val := Value.str (Str.ofString "\\#") 440 } :: { hash := 32, key := Value.int 32 442, val := Value.str (Str.ofString "\\ ") 446 } :: { hash := 9, key := Value.int 9 448, val := Value.str (Str.ofString "\\\t") 452 } :: { hash := 10, key := Value.int 10 454, val := Value.str (Str.ofString "\\\n") 458 } :: { hash := 13, key := Value.int 13 460, val := Value.str (Str.ofString "\\\x0d") 464 } :: { hash := 11, key := Value.int 11 466, val := Value.str (Str.ofString "\\\x0b") 470 } :: { hash := 12, key := Value.int 12 472, val := Value.str (Str.ofString "\\\x0c") 476 } :: [])) 24 }
noncomputable def KO49 (P : Params) : Obj := { cls := Value.type "tuple", data := Data.seq #[] }
noncomputable def KO51 (P : Params) : Obj := { cls := Value.type "tuple", data := Data.seq #[Value.str (Str.ofString "pattern") 482] }
noncomputable def KO52 (P : Params) : Obj := { cls := Value.type "tuple", data := Data.seq #[] }
noncomputable def KO54 (P : Params) : Obj := { cls := Value.type "code", data := Data.fields (List.toArray (Value.str (Str.ofString "escape") 479 :: Value.str (Str.ofString "escape") 480 :: Value.str (Str.ofString "/claim/cut.py") 481 :: Value.int 10 0 :: Value.int 1 0 :: Value.int 0 0 :: Value.int 0 0 :: Value.int 3 0 :: Value.ref 49 :: Value.bool Bool.true :: Value.int 276 0 :: Value.ref 50 :: Value.none :: Value.ref 51 :: Value.ref 52 :: Value.ref 53 :: Value.int 483 0 :: Value.int 10 0 :: Value.str (Str.ofString "/claim/cut.py") 484 :: [])) }
noncomputable def KO55 (P : Params) : Obj := (fun n a b d r tp sc ts bi po (_ : PySem.Challenge.pw_ij0176_01.main.body[6]? = some (.FunctionDef n a b d r tp sc ts bi po)) => ({ cls := Value.type "function", data := Data.func { name := Str.ofString "escape", qualname := Str.ofString "escape", params := a, body := .stmts b, scope := sc, globals := 3, closure := [], defaults := Value.none, kwdefaults := Value.none, pyModule := Value.str (Str.ofString "re") 331, code := Value.ref 54 } } : Obj)) _ _ _ _ _ _ _ _ _ _ rfl
noncomputable def KO56 (P : Params) : Obj := { cls := Value.type "tuple", data := Data.seq #[] }
noncomputable def KO58 (P : Params) : Obj := { cls := Value.type "tuple", data := Data.seq (List.toArray (Value.str (Str.ofString "pat") 491 :: Value.str (Str.ofString "STAR") 492 :: Value.str (Str.ofString "QUESTION_MARK") 493 :: Value.str (Str.ofString "res") 494 :: Value.str (Str.ofString "add") 495 :: Value.str (Str.ofString "i") 496 :: Value.str (Str.ofString "n") 497 :: Value.str (Str.ofString "c") 498 :: Value.str (Str.ofString "j") 499 :: Value.str (Str.ofString "stuff") 500 :: Value.str (Str.ofString "chunks") 501 :: Value.str (Str.ofString "k") 502 :: Value.str (Str.ofString "chunk") 503 :: [])) }
noncomputable def KO59 (P : Params) : Obj := { cls := Value.type "tuple", data := Data.seq #[] }
noncomputable def KO61 (P : Params) : Obj := { cls := Value.type "code", data := Data.fields (List.toArray (Value.str (Str.ofString "_translate") 488 :: Value.str (Str.ofString "_translate") 489 :: Value.str (Str.ofString "/claim/cut.py") 490 :: Value.int 17 0 :: Value.int 3 0 :: Value.int 0 0 :: Value.int 0 0 :: Value.int 3 0 :: Value.ref 56 :: Value.bool Bool.true :: Value.int 276 0 :: Value.ref 57 :: Value.none :: Value.ref 58 :: Value.ref 59 :: Value.ref 60 :: Value.int 504 0 :: Value.int 17 0 :: Value.str (Str.ofString "/claim/cut.py") 505 :: [])) }
noncomputable def KO62 (P : Params) : Obj := (fun n a b d r tp sc ts bi po (_ : PySem.Challenge.pw_ij0176_01.main.body[8]? = some (.FunctionDef n a b d r tp sc ts bi po)) => ({ cls := Value.type "function", data := Data.func { name := Str.ofString "_translate", qualname := Str.ofString "_translate", params := a, body := .stmts b, scope := sc, globals := 3, closure := [], defaults := Value.none, kwdefaults := Value.none, pyModule := Value.str (Str.ofString "cpy313.fnmatch") 486, code := Value.ref 61 } } : Obj)) _ _ _ _ _ _ _ _ _ _ rfl
noncomputable def KO63 (P : Params) : Obj := { cls := Value.type "tuple", data := Data.seq #[] }
noncomputable def KO65 (P : Params) : Obj := { cls := Value.type "tuple", data := Data.seq #[Value.str (Str.ofString "inp") 510, Value.str (Str.ofString "STAR") 511, Value.str (Str.ofString "res") 512, Value.str (Str.ofString "add") 513, Value.str (Str.ofString "i") 514, Value.str (Str.ofString "n") 515, Value.str (Str.ofString "fixed") 516] }
noncomputable def KO66 (P : Params) : Obj := { cls := Value.type "tuple", data := Data.seq #[] }
noncomputable def KO68 (P : Params) : Obj := { cls := Value.type "code", data := Data.fields (List.toArray (Value.str (Str.ofString "_join_translated_parts") 507 :: Value.str (Str.ofString "_join_translated_parts") 508 :: Value.str (Str.ofString "/claim/cut.py") 509 :: Value.int 79 0 :: Value.int 2 0 :: Value.int 0 0 :: Value.int 0 0 :: Value.int 3 0 :: Value.ref 63 :: Value.bool Bool.true :: Value.int 276 0 :: Value.ref 64 :: Value.none :: Value.ref 65 :: Value.ref 66 :: Value.ref 67 :: Value.int 517 0 :: Value.int 79 0 :: Value.str (Str.ofString "/claim/cut.py") 518 :: [])) }
noncomputable def KO69 (P : Params) : Obj := (fun n a b d r tp sc ts bi po (_ : PySem.Challenge.pw_ij0176_01.main.body[9]? = some (.FunctionDef n a b d r tp sc ts bi po)) => ({ cls := Value.type "function", data := Data.func { name := Str.ofString "_join_translated_parts", qualname := Str.ofString "_join_translated_parts", params := a, body := .stmts b, scope := sc, globals := 3, closure := [], defaults := Value.none, kwdefaults := Value.none, pyModule := Value.str (Str.ofString "cpy313.fnmatch") 486, code := Value.ref 68 } } : Obj)) _ _ _ _ _ _ _ _ _ _ rfl
noncomputable def KO70 (P : Params) : Obj := { cls := Value.type "dict", data := Data.dict (List.toArray ({ hash := PyData.keyHash P (Str.ofString "!"), key := Value.str (Str.ofString "!") 620, val := Value.int 54 616 } :: { hash := PyData.keyHash P (Str.ofString "!="), key := Value.str (Str.ofString "!=") 622, val := Value.int 28 564 } :: { hash := PyData.keyHash P (Str.ofString "%"), key := Value.str (Str.ofString "%") 624, val := Value.int 24 556 } :: { hash := PyData.keyHash P (Str.ofString "%="), key := Value.str (Str.ofString "%=") 626, val := Value.int 40 588 } :: { hash := PyData.keyHash P (Str.ofString "&"), key := Value.str (Str.ofString "&") 628, val := Value.int 19 546 } :: { hash := PyData.keyHash P (Str.ofString "&="), key := Value.str (Str.ofString "&=") 630, val := Value.int 41 590 } :: { hash := PyData.keyHash P (Str.ofString "("), key := Value.str (Str.ofString "(") 632, val := Value.int 7 522 } :: { hash := PyData.keyHash P (Str.ofString ")"), key := Value.str (Str.ofString ")") 634, val := Value.int 8 524 } :: { hash := PyData.keyHash P (Str.ofString "*"), key := Value.str (Str.ofString "*") 636, val := Value.int 16 540 } :: { hash := PyData.keyHash P (Str.ofString "**"), key := Value.str (Str.ofString "**") 638, val := Value.int 35 578 } :: { hash := PyData.keyHash P (Str.ofString "**="), key := Value.str (Str.ofString "**=") 640, val := Value.int 46 600 } :: { hash := PyData.keyHash P (Str.ofString "*="), key := Value.str (Str.ofString "*=") 642, val := Value.int 38 584 } :: { hash := PyData.keyHash P (Str.ofString "+"), key := Value.str (Str.ofString "+") 644, val := Value.int 14 536 } :: { hash := PyData.keyHash P (Str.ofString "+="), key := Value.str (Str.ofString "+=") 646, val := Value.int 36 580 } :: { hash := PyData.keyHash P (Str.ofString ","), key := Value.str (Str.ofString ",") 648, val := Value.int 12 532 } :: { hash := PyData.keyHash P (Str.ofString "-"), key := Value.str (Str.ofString "-") 650, val := Value.int 15 538 } :: { hash := PyData.keyHash P (Str.ofString "-="), key := Value.str (Str.ofString "-=") 652, val := Value.int 37 582 } :: { hash := PyData.keyHash P (Str.ofString "->"), key := Value.str (Str.ofString "->") 654, val := Value.int 51 610 } :: { hash := PyData.keyHash P (Str.ofString "."), key := Value.str (Str.ofString ".") 656, val := Value.int 23 554 } :: { hash := PyData.keyHash P (Str.ofString "..."), key := Value.str (Str.ofString "...") 658, val := Value.int 52 612 } :: { hash := PyData.keyHash P (Str.ofString "/"), key := Value.str (Str.ofString "/") 660, val := Value.int 17 542 } :: { hash := PyData.keyHash P (Str.ofString "//"), key := Value.str (Str.ofString "//") 662, val := Value.int 47 602 } :: { hash := PyData.keyHash P (Str.ofString "//="), key := Value.str (Str.ofString "//=") 664, val := Value.int 48 604 } :: { hash := PyData.keyHash P (Str.ofString "/="), key := Value.str (Str.ofString "/=") 666, val := Value.int 39 586 } :: { hash := PyData.keyHash P (Str.ofString ":"), key := Value.str (Str.ofString ":") 668, val := Value.int 11 530 } :: { hash := PyData.keyHash P (Str.ofString ":="), key := Value.str (Str.ofString ":=") 670, val := Value.int 53 614 } :: { hash := PyData.keyHash P (Str.ofString ";"), key := Value.str (Str.ofString ";") 672, val := Value.int 13 534 } :: { hash := PyData.keyHash P (Str.ofString "<"), key := Value.str (Str.ofString "<") 674, val := Value.int 20 548 } :: { hash := PyData.keyHash P (Str.ofString "<<"), key := Value.str (Str.ofString "<<") 676, val := Value.int 33 574 } :: { hash := PyData.keyHash P (Str.ofString "<<="), key := Value.str (Str.ofString "<<=") 678, val := Value.int 44 596 } :: { hash := PyData.keyHash P (Str.ofString "<="), key := Value.str (Str.ofString "<=") 680, val := Value.int 29 566 } :: { hash := PyData.keyHash P (Str.ofString "="), key := Value.str (Str.ofString "=") 682, val := Value.int 22 552 } :: { hash := PyData.keyHash P (Str.ofString "=="), key := Value.str (Str.ofString "==") 684, val := Value.int 27 562 } :: { hash := PyData.keyHash P (Str.ofString ">"), key := Value.str (Str.ofString ">") 686, val := Value.int 21 550 } :: { hash := PyData.keyHash P (Str.ofString ">="), key := Value.str (Str.ofString ">=") 688, val := Value.int 30 568 } :: { hash := PyData.keyHash P (Str.ofString ">>"), key := Value.str (Str.ofString ">>") 689, val := Value.int 34 576 } :: { hash := PyData.keyHash P (Str.ofString ">>="), key := Value.str (Str.ofString ">>=") 690, val := Value.int 45 598 } :: { hash := PyData.keyHash P (Str.ofString "@"), key := Value.str (Str.ofString "@") 691, val := Value.int 49 606 } :: { hash := PyData.keyHash P (Str.ofString "@="), key := Value.str (Str.ofString "@=") 692, val := Value.int 50 608 } :: { hash := PyData.keyHash P (Str.ofString "["), key := Value.str (Str.ofString "[") 693, val := Value.int 9 526 } :: { hash := PyData.keyHash P (Str.ofString "]"), key := Value.str (Str.ofString "]") 694, val := Value.int 10 528 } :: { hash := PyData.keyHash P (Str.ofString "^"), key := Value.str (Str.ofString "^") 695, val := Value.int 32 572 } :: { hash := PyData.keyHash P (Str.ofString "^="), key := Value.str (Str.ofString "^=") 696, val := Value.int 43 594 } :: { hash := PyData.keyHash P (Str.ofString "{"), key := Value.str (Str.ofString "{") 697, val := Value.int 25 558 } :: { hash := PyData.keyHash P (Str.ofString "|"), key := Value.str (Str.ofString "|") 698, val := Value.int 18 544 } :: { hash := PyData.keyHash P (Str.ofString "|="), key := Value.str (Str.ofString "|=") 699, val := Value.int 42 592 } :: { hash := PyData.keyHash P (Str.ofString "}"), key := Value.str (Str.ofString "}") 700, val := Value.int 26 560 } :: { hash := PyData.keyHash P (Str.ofString "~"), key := Value.str (Str.ofString "~") 701, val := Value.int 31 570 } :: [])) 48 }
noncomputable def KO73 (P : Params) : Obj := { cls := Value.type "tuple", data := Data.seq #[] }
noncomputable def KO75 (P : Params) : Obj := { cls := Value.type "tuple", data := Data.seq #[Value.str (Str.ofString "x") 720] }
noncomputable def KO76 (P : Params) : Obj := { cls := Value.type "tuple", data := Data.seq #[] }
noncomputable def KO78 (P : Params) : Obj := { cls := Value.type "code", data := Data.fields (List.toArray (Value.str (Str.ofString "ISTERMINAL") 717 :: Value.str (Str.ofString "ISTERMINAL") 718 :: Value.str (Str.ofString "/claim/cut.py") 719 :: Value.int 157 0 :: Value.int 1 0 :: Value.int 0 0 :: Value.int 0 0 :: Value.int 3 0 :: Value.ref 73 :: Value.bool Bool.true :: Value.int 276 0 :: Value.ref 74 :: Value.none :: Value.ref 75 :: Value.ref 76 :: Value.ref 77 :: Value.int 721 0 :: Value.int 157 0 :: Value.str (Str.ofString "/claim/cut.py") 722 :: [])) }
noncomputable def KO79 (P : Params) : Obj := (fun n a b d r tp sc ts bi po (_ : PySem.Challenge.pw_ij0176_01.main.body[61]? = some (.FunctionDef n a b d r tp sc ts bi po)) => ({ cls := Value.type "function", data := Data.func { name := Str.ofString "ISTERMINAL", qualname := Str.ofString "ISTERMINAL", params := a, body := .stmts b, scope := sc, globals := 3, closure := [], defaults := Value.none, kwdefaults := Value.none, pyModule := Value.str (Str.ofString "cpy313.token") 520, code := Value.ref 78 } } : Obj)) _ _ _ _ _ _ _ _ _ _ rfl
noncomputable def KO80 (P : Params) : Obj := { cls := Value.type "tuple", data := Data.seq #[] }
noncomputable def KO83 (P : Params) : Obj := { cls := Value.type "code", data := Data.fields (List.toArray (Value.str (Str.ofString "_law_operators") 726 :: Value.str (Str.ofString "_law_operators") 727 :: Value.str (Str.ofString "/claim/cut.py") 728 :: Value.int 160 0 :: Value.int 0 0 :: Value.int 0 0 :: Value.int 0 0 :: Value.int 3 0 :: Value.ref 80 :: Value.bool Bool.true :: Value.int 276 0 :: Value.ref 81 :: Value.none :: Value.none :: Value.none :: Value.ref 82 :: Value.int 729 0 :: Value.int 160 0 :: Value.str (Str.ofString "/claim/cut.py") 730 :: [])) }
noncomputable def KO84 (P : Params) : Obj := (fun n a b d r tp sc ts bi po (_ : PySem.Challenge.pw_ij0176_01.main.body[63]? = some (.FunctionDef n a b d r tp sc ts bi po)) => ({ cls := Value.type "function", data := Data.func { name := Str.ofString "_law_operators", qualname := Str.ofString "_law_operators", params := a, body := .stmts b, scope := sc, globals := 3, closure := [], defaults := Value.none, kwdefaults := Value.none, pyModule := Value.str (Str.ofString "law_ij0176_01") 724, code := Value.ref 83 } } : Obj)) _ _ _ _ _ _ _ _ _ _ rfl
noncomputable def KO85 (P : Params) : Obj := { cls := Value.type "tuple", data := Data.seq #[] }
noncomputable def KO87 (P : Params) : Obj := { cls := Value.type "tuple", data := Data.seq #[Value.str (Str.ofString "written") 735, Value.str (Str.ofString "signs") 736, Value.str (Str.ofString "state") 737, Value.str (Str.ofString "sign") 738] }
noncomputable def KO88 (P : Params) : Obj := { cls := Value.type "tuple", data := Data.seq #[] }
noncomputable def KO90 (P : Params) : Obj := { cls := Value.type "code", data := Data.fields (List.toArray (Value.str (Str.ofString "_law_front") 732 :: Value.str (Str.ofString "_law_front") 733 :: Value.str (Str.ofString "/claim/cut.py") 734 :: Value.int 165 0 :: Value.int 1 0 :: Value.int 0 0 :: Value.int 0 0 :: Value.int 3 0 :: Value.ref 85 :: Value.bool Bool.true :: Value.int 276 0 :: Value.ref 86 :: Value.none :: Value.ref 87 :: Value.ref 88 :: Value.ref 89 :: Value.int 739 0 :: Value.int 165 0 :: Value.str (Str.ofString "/claim/cut.py") 740 :: [])) }
noncomputable def KO91 (P : Params) : Obj := (fun n a b d r tp sc ts bi po (_ : PySem.Challenge.pw_ij0176_01.main.body[64]? = some (.FunctionDef n a b d r tp sc ts bi po)) => ({ cls := Value.type "function", data := Data.func { name := Str.ofString "_law_front", qualname := Str.ofString "_law_front", params := a, body := .stmts b, scope := sc, globals := 3, closure := [], defaults := Value.none, kwdefaults := Value.none, pyModule := Value.str (Str.ofString "law_ij0176_01") 724, code := Value.ref 90 } } : Obj)) _ _ _ _ _ _ _ _ _ _ rfl
noncomputable def KO92 (P : Params) : Obj := { cls := Value.type "tuple", data := Data.seq #[] }
noncomputable def KO95 (P : Params) : Obj := { cls := Value.type "code", data := Data.fields (List.toArray (Value.str (Str.ofString "_law_takers") 742 :: Value.str (Str.ofString "_law_takers") 743 :: Value.str (Str.ofString "/claim/cut.py") 744 :: Value.int 182 0 :: Value.int 2 0 :: Value.int 0 0 :: Value.int 0 0 :: Value.int 3 0 :: Value.ref 92 :: Value.bool Bool.true :: Value.int 276 0 :: Value.ref 93 :: Value.none :: Value.none :: Value.none :: Value.ref 94 :: Value.int 745 0 :: Value.int 182 0 :: Value.str (Str.ofString "/claim/cut.py") 746 :: [])) }
noncomputable def KO96 (P : Params) : Obj := (fun n a b d r tp sc ts bi po (_ : PySem.Challenge.pw_ij0176_01.main.body[65]? = some (.FunctionDef n a b d r tp sc ts bi po)) => ({ cls := Value.type "function", data := Data.func { name := Str.ofString "_law_takers", qualname := Str.ofString "_law_takers", params := a, body := .stmts b, scope := sc, globals := 3, closure := [], defaults := Value.none, kwdefaults := Value.none, pyModule := Value.str (Str.ofString "law_ij0176_01") 724, code := Value.ref 95 } } : Obj)) _ _ _ _ _ _ _ _ _ _ rfl
noncomputable def KO97 (P : Params) : Obj := { cls := Value.type "tuple", data := Data.seq #[] }
noncomputable def KO99 (P : Params) : Obj := { cls := Value.type "tuple", data := Data.seq #[Value.str (Str.ofString "text") 751, Value.str (Str.ofString "known") 752, Value.str (Str.ofString "row") 753, Value.str (Str.ofString "at") 754, Value.str (Str.ofString "size") 755, Value.str (Str.ofString "best") 756] }
noncomputable def KO100 (P : Params) : Obj := { cls := Value.type "tuple", data := Data.seq #[] }
noncomputable def KO102 (P : Params) : Obj := { cls := Value.type "code", data := Data.fields (List.toArray (Value.str (Str.ofString "_law_read") 748 :: Value.str (Str.ofString "_law_read") 749 :: Value.str (Str.ofString "/claim/cut.py") 750 :: Value.int 189 0 :: Value.int 2 0 :: Value.int 0 0 :: Value.int 0 0 :: Value.int 3 0 :: Value.ref 97 :: Value.bool Bool.true :: Value.int 276 0 :: Value.ref 98 :: Value.none :: Value.ref 99 :: Value.ref 100 :: Value.ref 101 :: Value.int 757 0 :: Value.int 189 0 :: Value.str (Str.ofString "/claim/cut.py") 758 :: [])) }
noncomputable def KO103 (P : Params) : Obj := (fun n a b d r tp sc ts bi po (_ : PySem.Challenge.pw_ij0176_01.main.body[66]? = some (.FunctionDef n a b d r tp sc ts bi po)) => ({ cls := Value.type "function", data := Data.func { name := Str.ofString "_law_read", qualname := Str.ofString "_law_read", params := a, body := .stmts b, scope := sc, globals := 3, closure := [], defaults := Value.none, kwdefaults := Value.none, pyModule := Value.str (Str.ofString "law_ij0176_01") 724, code := Value.ref 102 } } : Obj)) _ _ _ _ _ _ _ _ _ _ rfl
noncomputable def KO104 (P : Params) : Obj := { cls := Value.type "tuple", data := Data.seq #[] }
noncomputable def KO107 (P : Params) : Obj := { cls := Value.type "code", data := Data.fields (List.toArray (Value.str (Str.ofString "_law_fewest") 760 :: Value.str (Str.ofString "_law_fewest") 761 :: Value.str (Str.ofString "/claim/cut.py") 762 :: Value.int 200 0 :: Value.int 2 0 :: Value.int 0 0 :: Value.int 0 0 :: Value.int 3 0 :: Value.ref 104 :: Value.bool Bool.true :: Value.int 276 0 :: Value.ref 105 :: Value.none :: Value.none :: Value.none :: Value.ref 106 :: Value.int 763 0 :: Value.int 200 0 :: Value.str (Str.ofString "/claim/cut.py") 764 :: [])) }
noncomputable def KO108 (P : Params) : Obj := (fun n a b d r tp sc ts bi po (_ : PySem.Challenge.pw_ij0176_01.main.body[67]? = some (.FunctionDef n a b d r tp sc ts bi po)) => ({ cls := Value.type "function", data := Data.func { name := Str.ofString "_law_fewest", qualname := Str.ofString "_law_fewest", params := a, body := .stmts b, scope := sc, globals := 3, closure := [], defaults := Value.none, kwdefaults := Value.none, pyModule := Value.str (Str.ofString "law_ij0176_01") 724, code := Value.ref 107 } } : Obj)) _ _ _ _ _ _ _ _ _ _ rfl
noncomputable def KO109 (P : Params) : Obj := { cls := Value.type "tuple", data := Data.seq #[] }
noncomputable def KO112 (P : Params) : Obj := { cls := Value.type "code", data := Data.fields (List.toArray (Value.str (Str.ofString "_law_apart") 766 :: Value.str (Str.ofString "_law_apart") 767 :: Value.str (Str.ofString "/claim/cut.py") 768 :: Value.int 210 0 :: Value.int 2 0 :: Value.int 0 0 :: Value.int 0 0 :: Value.int 3 0 :: Value.ref 109 :: Value.bool Bool.true :: Value.int 276 0 :: Value.ref 110 :: Value.none :: Value.none :: Value.none :: Value.ref 111 :: Value.int 769 0 :: Value.int 210 0 :: Value.str (Str.ofString "/claim/cut.py") 770 :: [])) }
noncomputable def KO113 (P : Params) : Obj := (fun n a b d r tp sc ts bi po (_ : PySem.Challenge.pw_ij0176_01.main.body[68]? = some (.FunctionDef n a b d r tp sc ts bi po)) => ({ cls := Value.type "function", data := Data.func { name := Str.ofString "_law_apart", qualname := Str.ofString "_law_apart", params := a, body := .stmts b, scope := sc, globals := 3, closure := [], defaults := Value.none, kwdefaults := Value.none, pyModule := Value.str (Str.ofString "law_ij0176_01") 724, code := Value.ref 112 } } : Obj)) _ _ _ _ _ _ _ _ _ _ rfl
noncomputable def KO114 (P : Params) : Obj := { cls := Value.type "tuple", data := Data.seq #[] }
noncomputable def KO117 (P : Params) : Obj := { cls := Value.type "code", data := Data.fields (List.toArray (Value.str (Str.ofString "law") 772 :: Value.str (Str.ofString "law") 773 :: Value.str (Str.ofString "/claim/cut.py") 774 :: Value.int 212 0 :: Value.int 1 0 :: Value.int 0 0 :: Value.int 0 0 :: Value.int 3 0 :: Value.ref 114 :: Value.bool Bool.true :: Value.int 276 0 :: Value.ref 115 :: Value.none :: Value.none :: Value.none :: Value.ref 116 :: Value.int 775 0 :: Value.int 212 0 :: Value.str (Str.ofString "/claim/cut.py") 776 :: [])) }
noncomputable def KO118 (P : Params) : Obj := (fun n a b d r tp sc ts bi po (_ : PySem.Challenge.pw_ij0176_01.main.body[69]? = some (.FunctionDef n a b d r tp sc ts bi po)) => ({ cls := Value.type "function", data := Data.func { name := Str.ofString "law", qualname := Str.ofString "law", params := a, body := .stmts b, scope := sc, globals := 3, closure := [], defaults := Value.none, kwdefaults := Value.none, pyModule := Value.str (Str.ofString "law_ij0176_01") 724, code := Value.ref 117 } } : Obj)) _ _ _ _ _ _ _ _ _ _ rfl
noncomputable def KK0 : Params → Frag := fun P => ((nat_lit 2, KO2 P) :: (nat_lit 3, KO3 P) :: (nat_lit 6, KO6 P) :: (nat_lit 11, KO11 P) :: (nat_lit 12, KO12 P) :: (nat_lit 35, KO35 P) :: (nat_lit 36, KO36 P) :: (nat_lit 37, KO37 P) :: (nat_lit 39, KO39 P) :: (nat_lit 40, KO40 P) :: (nat_lit 42, KO42 P) :: (nat_lit 43, KO43 P) :: (nat_lit 45, KO45 P) :: (nat_lit 49, KO49 P) :: (nat_lit 51, KO51 P) :: (nat_lit 52, KO52 P) :: (nat_lit 54, KO54 P) :: (nat_lit 55, KO55 P) :: (nat_lit 56, KO56 P) :: (nat_lit 58, KO58 P) :: (nat_lit 59, KO59 P) :: (nat_lit 61, KO61 P) :: (nat_lit 62, KO62 P) :: (nat_lit 63, KO63 P) :: (nat_lit 65, KO65 P) :: (nat_lit 66, KO66 P) :: (nat_lit 68, KO68 P) :: (nat_lit 69, KO69 P) :: (nat_lit 70, KO70 P) :: (nat_lit 73, KO73 P) :: (nat_lit 75, KO75 P) :: (nat_lit 76, KO76 P) :: (nat_lit 78, KO78 P) :: (nat_lit 79, KO79 P) :: (nat_lit 80, KO80 P) :: (nat_lit 83, KO83 P) :: (nat_lit 84, KO84 P) :: (nat_lit 85, KO85 P) :: (nat_lit 87, KO87 P) :: (nat_lit 88, KO88 P) :: (nat_lit 90, KO90 P) :: (nat_lit 91, KO91 P) :: (nat_lit 92, KO92 P) :: (nat_lit 95, KO95 P) :: (nat_lit 96, KO96 P) :: (nat_lit 97, KO97 P) :: (nat_lit 99, KO99 P) :: (nat_lit 100, KO100 P) :: (nat_lit 102, KO102 P) :: (nat_lit 103, KO103 P) :: (nat_lit 104, KO104 P) :: (nat_lit 107, KO107 P) :: (nat_lit 108, KO108 P) :: (nat_lit 109, KO109 P) :: (nat_lit 112, KO112 P) :: (nat_lit 113, KO113 P) :: (nat_lit 114, KO114 P) :: (nat_lit 117, KO117 P) :: (nat_lit 118, KO118 P) :: [])
end Mine
end

section
open PySem PySem.W PySem.Calls PyProof.Rows
set_option Elab.async false
set_option maxRecDepth 100000
namespace Mine

abbrev NoE : Value → Shared → Prop := fun _ _ => False
abbrev Ledg := List (Addr × Obj)
abbrev Vm := Str → Option Value

/-- the state: the base H stands, the frame L holds m, the ledger led and the suspended frames fs stand -/
structure Sd (H : Heap) (fs : Ledg) (L : Addr) (m : Vm) (h : Heap) (led : Ledg) : Prop where
  fr : Fr H L h m
  nw : News H L h (led ++ fs)
  nd : ((led ++ fs).map (·.1)).Nodup

section
variable {H h h' : Heap} {fs : Ledg} {L : Addr} {m m' : Vm} {led led' : Ledg} {a : Addr} {o o' : Obj}

theorem Sd.get (D : Sd H fs L m h led) (hm : (a, o) ∈ led) : h.get? a = some o := D.nw.get (List.mem_append_left _ hm)
theorem Sd.old (D : Sd H fs L m h led) (e : H.get? a = some o) : h.get? a = some o := D.fr.keep a o e
theorem Sd.lt (D : Sd H fs L m h led) : ∀ p ∈ led ++ fs, p.1 < h.objs.size := fun p hp => Heap.lt_size (D.nw p hp).1

theorem Sd.cons (D : Sd H fs L m h led) (F' : Fr H L h' m') (N' : News H L h' ((h.objs.size, o) :: (led ++ fs))) : Sd H fs L m' h' ((h.objs.size, o) :: led) := by
  refine ⟨F', N', ?_⟩
  show (((h.objs.size, o) :: (led ++ fs)).map (·.1)).Nodup
  rw [List.map_cons, List.nodup_cons]
  refine ⟨fun hm => ?_, D.nd⟩
  obtain ⟨p, hp, e⟩ := List.mem_map.mp hm
  exact absurd (D.lt p hp) (by rw [e]; exact Nat.lt_irrefl _)
theorem Sd.consLt (D : Sd H fs L m h led) (hlt : ∀ p ∈ led ++ fs, p.1 < a) (F' : Fr H L h' m') (N' : News H L h' ((a, o) :: (led ++ fs))) : Sd H fs L m' h' ((a, o) :: led) := by
  refine ⟨F', N', ?_⟩
  show (((a, o) :: (led ++ fs)).map (·.1)).Nodup
  rw [List.map_cons, List.nodup_cons]
  refine ⟨fun hm => ?_, D.nd⟩
  obtain ⟨p, hp, e⟩ := List.mem_map.mp hm
  exact absurd (hlt p hp) (by rw [e]; exact Nat.lt_irrefl _)
theorem Sd.push (D : Sd H fs L m h led) (o : Obj) (hf : o.isFreed = false := by rfl) : Sd H fs L m (h.push o) ((h.objs.size, o) :: led) :=
  D.cons (D.fr.push o) (D.nw.push D.fr o hf)
theorem Sd.same (D : Sd H fs L m h led) (F' : Fr H L h' m') (N' : News H L h' (led ++ fs)) : Sd H fs L m' h' led := ⟨F', N', D.nd⟩

/-- fewer entries, or other order -/
theorem Sd.sub (D : Sd H fs L m h led) (hs : ∀ p ∈ led', p ∈ led) (hn : (led'.map (·.1)).Nodup) : Sd H fs L m h led' := by
  have hs' : ∀ p ∈ led' ++ fs, p ∈ led ++ fs := fun p hp => List.mem_append.mpr ((List.mem_append.mp hp).imp (hs p) id)
  refine ⟨D.fr, fun p hp => D.nw p (hs' p hp), ?_⟩
  have hd := D.nd
  rw [List.map_append, List.nodup_append] at hd ⊢
  refine ⟨hn, hd.2.1, fun x hx y hy => ?_⟩
  obtain ⟨p, hp, rfl⟩ := List.mem_map.mp hx
  exact hd.2.2 _ (List.mem_map_of_mem (hs p hp)) y hy
theorem Sd.ndl (D : Sd H fs L m h led) : (led.map (·.1)).Nodup := by
  have := D.nd
  rw [List.map_append, List.nodup_append] at this
  exact this.1
theorem Sd.subl (D : Sd H fs L m h led) (hs : led'.Sublist led) : Sd H fs L m h led' :=
  D.sub (fun _ hp => hs.subset hp) (D.ndl.sublist (hs.map _))
theorem Sd.perm (D : Sd H fs L m h led) (hs : led'.Perm led) : Sd H fs L m h led' :=
  D.sub (fun _ hp => hs.subset hp) ((hs.map _).nodup_iff.mpr D.ndl)
theorem Sd.pull (D : Sd H fs L m h led) (i : Nat) {x : Addr × Obj} (hi : led[i]? = some x) : Sd H fs L m h (x :: led.eraseIdx i) := by
  refine D.perm ?_
  obtain ⟨hl, he⟩ := List.getElem?_eq_some_iff.mp hi
  have sp : led = led.take i ++ x :: led.drop (i + 1) := by
    rw [← he, ← List.drop_eq_getElem_cons hl, List.take_append_drop]
  have e2 : led.eraseIdx i = led.take i ++ led.drop (i + 1) := List.eraseIdx_eq_take_drop_succ ..
  rw [e2]
  conv => rhs; rw [sp]
  exact List.perm_middle.symm
theorem Sd.drop (D : Sd H fs L m h led) (i : Nat) : Sd H fs L m h (led.eraseIdx i) := D.subl (List.eraseIdx_sublist ..)
theorem Sd.tail {x : Addr × Obj} (D : Sd H fs L m h (x :: led)) : Sd H fs L m h led := D.subl (List.sublist_cons_self ..)

theorem Sd.set (D : Sd H fs L m h led) (i : Nat) (hi : led[i]? = some (a, o)) (hs : Heap.SameBut a h h') (ho : h'.get? a = some o') : Sd H fs L m h' (led.set i (a, o')) := by
  obtain ⟨hl, he⟩ := List.getElem?_eq_some_iff.mp hi
  have sp : led = led.take i ++ (a, o) :: led.drop (i + 1) := by
    rw [← he, ← List.drop_eq_getElem_cons hl, List.take_append_drop]
  have e : led.set i (a, o') = led.take i ++ (a, o') :: led.drop (i + 1) := List.set_eq_take_append_cons_drop.trans (if_pos hl)
  have hmem : (a, o) ∈ led ++ fs := List.mem_append_left _ (List.mem_of_getElem? hi)
  have z := D.nw _ hmem
  have ndo := D.nd
  have mp : (led.set i (a, o')).map (·.1) = led.map (·.1) := by
    rw [e]; conv => rhs; rw [sp]
    simp
  have nd' : ((led.set i (a, o') ++ fs).map (·.1)).Nodup := by
    rw [List.map_append, mp, ← List.map_append]; exact ndo
  have nda := ndo
  rw [List.map_append] at nda
  rw [sp, List.map_append, List.map_cons] at nda
  have nda' := nda
  rw [List.append_assoc, List.nodup_append] at nda'
  have n1 : ∀ p ∈ led.take i, p.1 ≠ a := fun p hp q => nda'.2.2 p.1 (List.mem_map_of_mem hp) a (List.mem_append_left _ (.head _)) q
  have n2' : (a :: ((led.drop (i + 1)).map (·.1) ++ fs.map (·.1))).Nodup := nda'.2.1
  have n2 := (List.nodup_cons.mp n2').1
  have n3 : ∀ p ∈ led.drop (i + 1), p.1 ≠ a := fun p hp q => n2 (by rw [← q]; exact List.mem_append_left _ (List.mem_map_of_mem hp))
  have n4 : ∀ p ∈ fs, p.1 ≠ a := fun p hp q => n2 (by rw [← q]; exact List.mem_append_right _ (List.mem_map_of_mem hp))
  have hne : ∀ p ∈ led ++ fs, p.1 ≠ a → h'.get? p.1 = some p.2 := fun p hp q => (hs.2 p.1 q).trans (D.nw p hp).1
  refine ⟨D.fr.change hs z.2.1 z.2.2, fun p hp => ?_, nd'⟩
  rw [e] at hp
  rcases List.mem_append.mp hp with hp | hp
  · rcases List.mem_append.mp hp with hp | hp
    · have hp' : p ∈ led ++ fs := List.mem_append_left _ (List.mem_of_mem_take hp)
      exact ⟨hne p hp' (n1 p hp), (D.nw p hp').2⟩
    · rcases List.mem_cons.mp hp with rfl | hp
      · exact ⟨ho, z.2⟩
      · have hp' : p ∈ led ++ fs := List.mem_append_left _ (List.mem_of_mem_drop hp)
        exact ⟨hne p hp' (n3 p hp), (D.nw p hp').2⟩
  · have hp' : p ∈ led ++ fs := List.mem_append_right _ hp
    exact ⟨hne p hp' (n4 p hp), (D.nw p hp').2⟩
theorem Sd.upd (D : Sd H fs L m h led) (i : Nat) (hi : led[i]? = some (a, o)) (f : Obj → Obj) (e : f o = o') (hf : o'.isFreed = false) : Sd H fs L m (h.update a f) (led.set i (a, o')) :=
  D.set i hi (Heap.SameBut.update ..) (e ▸ Heap.get?_update_self f (D.get (List.mem_of_getElem? hi)) (by rw [e]; exact hf))

/-- frames: enter (the frame L is suspended), leave -/
theorem Sd.enter (D : Sd H fs L m h led) (hk : ∀ b o, h.get? b = some o → h'.get? b = some o) (hn : h'.Ns h.objs.size m') :
    ∃ oL, Sd H ((L, oL) :: fs) h.objs.size m' h' led ∧ ∀ m₂ L₂ h₂ led₂, Sd H ((L, oL) :: fs) L₂ m₂ h₂ led₂ → Sd H fs L m h₂ led₂ := by
  obtain ⟨oL, es, ep, hL, hd, hkk, hf⟩ := D.fr.ns
  have nL : ∀ p ∈ led ++ fs, p.1 ≠ L := fun p hp => (D.nw p hp).2.1
  have hHL : H.get? L = none := by
    cases q : H.get? L with
    | none => rfl
    | some o => exact absurd (Nat.lt_of_lt_of_le (Heap.lt_size q) D.fr.above) (Nat.lt_irrefl _)
  have ndn : ((led ++ (L, oL) :: fs).map (·.1)).Nodup := by
    have p1 : (led ++ (L, oL) :: fs).Perm ((L, oL) :: (led ++ fs)) := List.perm_middle
    rw [(p1.map _).nodup_iff, List.map_cons, List.nodup_cons]
    refine ⟨fun hm => ?_, D.nd⟩
    obtain ⟨p, hp, e⟩ := List.mem_map.mp hm
    exact nL p hp e
  have hsz : H.objs.size ≤ h.objs.size := by
    exact Nat.le_trans D.fr.above (Nat.le_of_lt (Heap.lt_size hL))
  refine ⟨oL, ⟨⟨hn, fun b o e => hk b o (D.fr.keep b o e), hsz⟩, fun p hp => ?_, ndn⟩, fun m₂ L₂ h₂ led₂ D₂ => ?_⟩
  · rcases List.mem_append.mp hp with hp | hp
    · have z := D.nw p (List.mem_append_left _ hp)
      exact ⟨hk _ _ z.1, Nat.ne_of_lt (Heap.lt_size z.1), z.2.2⟩
    · rcases List.mem_cons.mp hp with rfl | hp
      · exact ⟨hk _ _ hL, Nat.ne_of_lt (Heap.lt_size hL), hHL⟩
      · have z := D.nw p (List.mem_append_right _ hp)
        exact ⟨hk _ _ z.1, Nat.ne_of_lt (Heap.lt_size z.1), z.2.2⟩
  · have gL := (D₂.nw (L, oL) (List.mem_append_right _ (.head _))).1
    have nd₂ := D₂.nd
    rw [((List.perm_middle (a := (L, oL)) (l₁ := led₂) (l₂ := fs)).map (·.1)).nodup_iff, List.map_cons, List.nodup_cons] at nd₂
    refine ⟨⟨⟨oL, es, ep, gL, hd, hkk, hf⟩, D₂.fr.keep, D.fr.above⟩, fun p hp => ?_, nd₂.2⟩
    have z := D₂.nw p (by
      rcases List.mem_append.mp hp with hp | hp
      · exact List.mem_append_left _ hp
      · exact List.mem_append_right _ (.tail _ hp))
    exact ⟨z.1, fun q => nd₂.1 (List.mem_map.mpr ⟨p, hp, q⟩), z.2.2⟩
end
end Mine
end

section
open PySem PySem.W PySem.Calls PyProof.Rows
set_option Elab.async false
set_option maxRecDepth 100000
namespace Mine

section
variable {prog : Program} {w : World} {A : Around} {s : Shared} {env : Env} {H : Heap} {fs : Ledg} {m : Vm} {led : Ledg}

/-! names -/
theorem nm_local {x : Str} {pos : Pos} {v : Value} {Q : Value → Shared → Prop} (D : Sd H fs env.locals m s.heap led) (hv : m x = some v) (h : Q v s)
    (hk : env.scope.kind = .function := by rfl) (hx : env.kindOf x = some .local := by rfl) (hd : (x == ("__debug__" : Str)) = false := by decide) :
    wpAny (model prog w) A (eval (.Name x pos) env) Q NoE s := wpAny_Name (wpAny_loadName_local hk hx D.fr.ns hv h) hd
theorem ld_local {x : Str} {v : Value} {Q : Value → Shared → Prop} (D : Sd H fs env.locals m s.heap led) (hv : m x = some v) (h : Q v s)
    (hk : env.scope.kind = .function := by rfl) (hx : env.kindOf x = some .local := by rfl) :
    wpAny (model prog w) A (loadName env x) Q NoE s := wpAny_loadName_local hk hx D.fr.ns hv h
theorem nm_cell {x : Str} {pos : Pos} {v : Value} {c : Addr} {o : Obj} {Q : Value → Shared → Prop} (D : Sd H fs env.locals m s.heap led) (hc : env.cells.lookup x = some c) (hm : (c, o) ∈ led) (ho : o.data = .cell (some v)) (h : Q v s)
    (hk : env.scope.kind = .function := by rfl) (hx : env.kindOf x = some .cell := by rfl) (hd : (x == ("__debug__" : Str)) = false := by decide) :
    wpAny (model prog w) A (eval (.Name x pos) env) Q NoE s := wpAny_Name (wpAny_loadName_cell hk hx hc ⟨o, D.get hm, ho⟩ h) hd
theorem nm_free {x : Str} {pos : Pos} {v : Value} {c : Addr} {o : Obj} {Q : Value → Shared → Prop} (D : Sd H fs env.locals m s.heap led) (hc : env.cells.lookup x = some c) (hm : (c, o) ∈ led) (ho : o.data = .cell (some v)) (h : Q v s)
    (hk : env.scope.kind = .function := by rfl) (hx : env.kindOf x = some .free := by rfl) (hd : (x == ("__debug__" : Str)) = false := by decide) (hn : (x == ("__classdict__" : Str)) = false := by decide) :
    wpAny (model prog w) A (eval (.Name x pos) env) Q NoE s := wpAny_Name (wpAny_loadName_free hk hx hc ⟨o, D.get hm, ho⟩ h hn) hd
theorem nm_glob {x : Str} {pos : Pos} {v : Value} {K : Frag} {mg mb : Vm} {p : Program} {loose : List Str} {Q : Value → Shared → Prop} (D : Sd H fs env.locals m s.heap led) (X : K.In H) (T : TopRead p loose mg mb H)
    (e : nsIn K mainGlobals x = some (some v)) (h : Q v s)
    (hk : env.scope.kind = .function := by rfl) (hx : env.kindOf x = some .globalImplicit := by rfl) (hg : env.globals = mainGlobals := by rfl) (hd : (x == ("__debug__" : Str)) = false := by decide) :
    wpAny (model prog w) A (eval (.Name x pos) env) Q NoE s :=
  Name_function_global hk hx (loadGlobal_global (hg ▸ T.g.keeps D.fr.keep) (mg_of X T.g e) h) hd
theorem nm_bi {x : Str} {pos : Pos} {v : Value} {K : Frag} {mg mb : Vm} {p : Program} {loose : List Str} {Q : Value → Shared → Prop} (D : Sd H fs env.locals m s.heap led) (X : K.In H) (T : TopRead p loose mg mb H)
    (e : nsIn K mainGlobals x = some none) (hv : bootBuiltins x = some v) (h : Q v s) (hn : x ≠ "__name__" := by decide)
    (hk : env.scope.kind = .function := by rfl) (hx : env.kindOf x = some .globalImplicit := by rfl) (hg : env.globals = mainGlobals := by rfl) (hb : env.builtins = builtinsNs := by rfl) (hd : (x == ("__debug__" : Str)) = false := by decide) :
    wpAny (model prog w) A (eval (.Name x pos) env) Q NoE s :=
  Name_function_global hk hx (loadGlobal_builtin (hg ▸ T.g.keeps D.fr.keep) (mg_none_of X T.g e) (hb ▸ T.b.keeps D.fr.keep) ((T.builtins x hn).trans hv) h) hd

theorem st_local {x : Str} {v : Value} {Q : Unit → Shared → Prop} (D : Sd H fs env.locals m s.heap led)
    (h : ∀ h' tk, Sd H fs env.locals (fun y => if y = x then some v else m y) h' led → Q () { s with heap := h', toks := tk })
    (hk : env.scope.kind = .function := by rfl) (hx : env.kindOf x = some .local := by rfl) : wpAny (model prog w) A (storeName env x v) Q NoE s :=
  wpAny_storeName_local hx D.fr.ns (fun h' hn hs => h h' _ (D.same (D.fr.set hn hs) (D.nw.set hs))) (by rw [hk]; rfl)
theorem st_cell {x : Str} {v : Value} {c : Addr} {i : Nat} {o : Obj} {v₀ : Option Value} {Q : Unit → Shared → Prop} (D : Sd H fs env.locals m s.heap led) (hc : env.cells.lookup x = some c) (hi : led[i]? = some (c, o)) (ho : o.data = .cell v₀)
    (h : ∀ h' o' tk, Sd H fs env.locals m h' (led.set i (c, o')) → o'.data = .cell (some v) → Q () { s with heap := h', toks := tk })
    (hk : env.scope.kind = .function := by rfl) (hx : env.kindOf x = some .cell := by rfl) : wpAny (model prog w) A (storeName env x v) Q NoE s := by
  refine wpAny_storeName_cell hk hx hc ⟨o, D.get (List.mem_of_getElem? hi), ho⟩ fun h' hv hs => ?_
  obtain ⟨o', ho', hd'⟩ := hv
  exact h h' o' s.toks (D.set i hi hs ho') hd'

/-! loops -/
theorem while_sd {test : Expr} {body : List Stmt} {pos : Pos} {Q : Flow → Shared → Prop} (J : Nat → Vm → Ledg → Prop) (k₀ : Nat) (D : Sd H fs env.locals m s.heap led) (h0 : J k₀ m led)
    (turn : ∀ k m h tk led, Sd H fs env.locals m h led → J k m led →
      wpAny (model prog w) A (isTrue test env (eval test env)) (fun b s₂ => if b = true then wpAny (model prog w) A (execs body env) (fun f s₃ => match f with
          | .brk => Q .next s₃
          | .ret v => Q (.ret v) s₃
          | _ => ∃ k' m' h' tk' led', s₃ = { s with heap := h', toks := tk' } ∧ Sd H fs env.locals m' h' led' ∧ J k' m' led' ∧ k' < k) NoE s₂ else Q .next s₂) NoE { s with heap := h, toks := tk }) :
    wpAny (model prog w) A (exec (.While test body [] pos) env) Q NoE s := by
  refine wpAny_While (codeAny_loop rfl (fun n s' => ∃ m h tk led, s' = { s with heap := h, toks := tk } ∧ Sd H fs env.locals m h led ∧ J n m led) (fun n s' hI => ?_) k₀ ⟨m, s.heap, s.toks, led, rfl, D, h0⟩)
  obtain ⟨m, h, tk, led, rfl, D, hJ⟩ := hI
  show wpAny _ A ((whileTurn test body [] env).onRaise (fun x => do noteFrame x env; theTreesLotGoes x)) _ _ _
  refine wpAny_noted ?_
  simp only [whileTurn]
  refine wpAny_bind (wpAny_mono (turn n m h tk led D hJ) (fun b s₂ h₂ => ?_) fun _ _ x => x.elim)
  cases b with
  | false =>
    simp only [Bool.false_eq_true, if_false] at h₂ ⊢
    exact wpAny_bind (wpAny_execs_nil (wpAny_pure h₂))
  | true =>
    simp only [if_true] at h₂ ⊢
    refine wpAny_bind (wpAny_mono h₂ (fun f s₃ h₄ => ?_) fun _ _ x => x.elim)
    cases f with
    | next => obtain ⟨k', m', h', tk', led', e, D', hJ', hk⟩ := h₄; exact wpAny_pure ⟨rfl, k', hk, m', h', tk', led', e, D', hJ'⟩
    | cont => obtain ⟨k', m', h', tk', led', e, D', hJ', hk⟩ := h₄; exact wpAny_pure ⟨rfl, k', hk, m', h', tk', led', e, D', hJ'⟩
    | brk => exact wpAny_pure h₄
    | ret v => exact wpAny_pure h₄

/-- the iterator I stands beside the ledger: it is none of the ledger's objects, and what it walks stays -/
theorem Sd.beside {h : Heap} {L I : Addr} {oI : Obj} (D : Sd H fs L m h ((I, oI) :: led)) {h' : Heap} (hk : ∀ b o, b ∉ [I] → h.get? b = some o → h'.get? b = some o) : Sd H fs L m h' led := by
  have nd := D.nd
  rw [List.cons_append, List.map_cons, List.nodup_cons] at nd
  have zI := D.nw (I, oI) (by simp)
  obtain ⟨oL, es, ep, hL, r⟩ := D.fr.ns
  refine ⟨⟨⟨oL, es, ep, hk L oL (by simp [Ne.symm zI.2.1]) hL, r⟩, fun b o e => hk b o ?_ (D.fr.keep b o e), D.fr.above⟩, fun p hp => ?_, nd.2⟩
  · intro hb; rw [List.mem_singleton] at hb; rw [hb, zI.2.2] at e; cases e
  · have z := D.nw p (by rw [List.cons_append]; exact .tail _ hp)
    refine ⟨hk _ _ (fun hb => nd.1 ?_) z.1, z.2⟩
    rw [List.mem_singleton] at hb
    exact List.mem_map.mpr ⟨p, hp, hb⟩
theorem Sd.besideAt {h : Heap} {L I : Addr} {oI oI' : Obj} (D : Sd H fs L m h ((I, oI) :: led)) {h' : Heap} (hk : ∀ b o, b ∉ [I] → h.get? b = some o → h'.get? b = some o) (hI : h'.get? I = some oI') : Sd H fs L m h' ((I, oI') :: led) := by
  have D' := D.beside hk
  have nd := D.nd
  have zI := D.nw (I, oI) (by simp)
  refine ⟨D'.fr, fun p hp => ?_, ?_⟩
  · rw [List.cons_append] at hp
    rcases List.mem_cons.mp hp with rfl | hp
    · exact ⟨hI, zI.2⟩
    · exact D'.nw p hp
  · simpa using nd
theorem Heap.some_of_lt {h : Heap} {a : Addr} {o : Obj} (e : h.get? a = some o) : ∃ o, h.get? a = some o := ⟨o, e⟩

theorem for_sd {x : Str} {px : Pos} {body : List Stmt} {I : Addr} {oI : Obj} {fp : List Addr} {n : Nat} {P : Nat → Value → Prop} {St : Nat → Heap → Prop} {R : Result → Shared → Prop}
    (W : Walks prog w A I fp [I] n P St) (hat : ∀ i h, St i h → ∃ o, h.get? I = some o) (held : Ledg) (hheld : ∀ b ∈ fp, b ≠ I → ∃ o, (b, o) ∈ held ∨ H.get? b = some o)
    (J : Nat → Vm → Ledg → Prop) (D : Sd H fs env.locals m s.heap ((I, oI) :: led)) (hst : St 0 s.heap) (h0 : J 0 m led) (hJ : ∀ i m led, J i m led → ∀ p ∈ held, p ∈ led)
    (turn : ∀ i v m led h tk oI, i < n → P i v → J i m led → Sd H fs env.locals (fun y => if y = x then some v else m y) h ((I, oI) :: led) →
      wpAny (model prog w) A (execs body env) (fun f s₃ => match f with
          | .brk => R (.ok .next) s₃
          | .ret v => R (.ok (.ret v)) s₃
          | _ => ∃ m' h' tk' led', s₃ = { s with heap := h', toks := tk' } ∧ Sd H fs env.locals m' h' ((I, oI) :: led') ∧ J (i + 1) m' led') NoE { s with heap := h, toks := tk })
    (done : ∀ m led h tk, J n m led → Sd H fs env.locals m h led → R (.ok .next) { s with heap := h, toks := tk })
    (hk : env.scope.kind = .function := by rfl) (hx : env.kindOf x = some .local := by rfl) (ht : ∀ v, letOwnedTupleGo (.Name x px) (.ref I) v = pure () := by intro _; rfl) :
    codeAny (model prog w) A (.forLoop (.Name x px) (.ref I) body [] env) R s := by
  refine codeAny_forLoop (fun k s' => ∃ i m led h tk oI, k = n - i ∧ i ≤ n ∧ s' = { s with heap := h, toks := tk } ∧ Sd H fs env.locals m h ((I, oI) :: led) ∧ St i h ∧ J i m led) (fun k s' hI => ?_) n
    ⟨0, m, led, s.heap, s.toks, oI, rfl, Nat.zero_le _, rfl, D, hst, h0⟩ ht
  obtain ⟨i, m, led, h, tk, oI, rfl, hin, rfl, D, hst, hj⟩ := hI
  by_cases hi : i < n
  · refine W.item i _ _ _ hi hst fun v h₁ tk₁ hP hst₁ hk₁ => ?_
    obtain ⟨oI', gI⟩ := hat _ _ hst₁
    have D₁ := D.besideAt hk₁ gI
    refine wpAny_mono (wpAny_bind (wpAny_standAt (wpAny_bindName (st_local (v := v) D₁ (fun h₂ tk₂ D₂ => ?_) hk hx)))) (fun _ _ x => x) fun _ _ x => x.elim
    refine wpAny_mono (turn i v m led h₂ tk₂ oI' hi hP hj D₂) (fun f s₃ q => ?_) fun _ _ x => x.elim
    have fin : (∃ m' h' tk' led', s₃ = { s with heap := h', toks := tk' } ∧ Sd H fs env.locals m' h' ((I, oI') :: led') ∧ J (i + 1) m' led') →
        ∃ k', k' < n - i ∧ ∃ i m led h tk oI, k' = n - i ∧ i ≤ n ∧ s₃ = { s with heap := h, toks := tk } ∧ Sd H fs env.locals m h ((I, oI) :: led) ∧ St i h ∧ J i m led := by
      rintro ⟨m', h', tk', led', e, D', hj'⟩
      refine ⟨n - (i + 1), by lia, i + 1, m', led', h', tk', oI', rfl, hi, e, D', W.frame _ _ _ hst₁ (fun b hb o e => ?_), hj'⟩
      by_cases hbI : b = I
      · subst hbI
        rw [gI] at e; cases e
        exact D'.get (.head _)
      · obtain ⟨o', ho⟩ := hheld b hb hbI
        rcases ho with ho | ho
        · have e1 := D₁.get (.tail _ (hJ _ _ _ hj _ ho))
          rw [e1] at e; cases e
          exact D'.get (.tail _ (hJ _ _ _ hj' _ ho))
        · have e1 := D₁.old ho
          rw [e1] at e; cases e
          exact D'.old ho
    cases f with
    | next => exact fin q
    | cont => exact fin q
    | brk => exact q
    | ret v => exact q
  · have hin' : i = n := by lia
    subst hin'
    refine W.done _ _ _ hst fun h₁ tk₁ hk₁ => wpAny_execs_nil ?_
    exact done m led h₁ tk₁ hj (D.beside hk₁)
end
end Mine
end

section
open PySem PySem.W PySem.Calls PyProof.Rows
set_option Elab.async false
set_option maxRecDepth 100000
namespace Mine

section
variable {prog : Program} {w : World} {A : Around} {s : Shared} {env : Env} {H : Heap} {fs : Ledg} {L : Addr} {m : Vm} {led : Ledg}

abbrev tupOf (vs : List Value) : Obj := { cls := .type "tuple", data := .seq vs.toArray }

theorem newList_sd {vs : List Value} {Q : Value → Shared → Prop} (D : Sd H fs L m s.heap led)
    (h : ∀ l h' tk, Sd H fs L m h' ((l, listOf vs.toArray 0) :: led) → Q (.ref l) { s with heap := h', toks := tk }) (hsz : vs.length ≤ sizeLine := by size_fits) :
    wpAny (model prog w) A (newList vs) Q NoE s :=
  newList_N (hsz := hsz) D.fr D.nw fun h' F' N' => h _ h' _ (D.cons F' N')
theorem newTuple_sd {vs : List Value} {Q : Value → Shared → Prop} (D : Sd H fs L m s.heap led)
    (h : ∀ l h' tk, Sd H fs L m h' ((l, tupOf vs) :: led) → Q (.ref l) { s with heap := h', toks := tk }) (hsz : vs.length ≤ sizeLine := by size_fits) :
    wpAny (model prog w) A (newTuple vs) Q NoE s :=
  newTuple_N (hsz := hsz) D.fr D.nw fun h' F' N' => h _ h' _ (D.cons F' N')
theorem append_sd {l : Addr} {its : Array Value} {n : Nat} {x : Value} {Q : Value → Shared → Prop} (D : Sd H fs L m s.heap led) (i : Nat) (hi : led[i]? = some (l, listOf its n))
    (h : ∀ h' tk, Sd H fs L m h' (led.set i (l, listOf (its.push x) (n + 1))) → Q .none { s with heap := h', toks := tk }) (hsz : its.size ≤ sizeLine := by size_fits) :
    wpAny (model prog w) A (call (.builtin "list.append") [.ref l, x]) Q NoE s :=
  append_at (hsz := hsz) (D.get (List.mem_of_getElem? hi)) fun h' hs ho' => h h' _ (D.set i hi hs ho')

/-! comprehensions -/
abbrev testsOf (ifs : List Expr) (env : Env) : Sem Bool :=
  forIn ifs true fun c r => if r = true then do let ok ← isTrue c env (eval c env); pure (ForInStep.yield ok) else pure (ForInStep.yield r)

theorem tests_nil {Q : Bool → Shared → Prop} (h : Q true s) : wpAny (model prog w) A (testsOf [] env) Q NoE s := wpAny_tests_nil h
theorem tests_one {c : Expr} {Q : Bool → Shared → Prop} (h : wpAny (model prog w) A (isTrue c env (eval c env)) Q NoE s) : wpAny (model prog w) A (testsOf [c] env) Q NoE s := wpAny_tests_one h

/-- the loop of a list comprehension, in the comprehension's own frame C -/
theorem compLoop_sd {elt iter : Expr} {x : Str} {px : Pos} {ifs : List Expr} {scope : Scope} {pos : Pos} {I acc : Addr} {oI : Obj} {fp : List Addr} {n : Nat} {P : Nat → Value → Prop} {St : Nat → Heap → Prop} {R : Result → Shared → Prop} {k₀ : Nat} {ys₀ : List Value}
    (W : Walks prog w A I fp [I] n P St) (hat : ∀ i h, St i h → ∃ o, h.get? I = some o) (held : Ledg) (hheld : ∀ b ∈ fp, b ≠ I → ∃ o, (b, o) ∈ held ∨ H.get? b = some o) (hn : n ≤ 1000000)
    (J : Nat → List Value → Ledg → Prop) (D : Sd H fs env.locals m s.heap ((I, oI) :: (acc, listOf ys₀.toArray k₀) :: led)) (hst : St 0 s.heap) (h0 : J 0 ys₀ led) (hy0 : ys₀.length ≤ 0) (hJ : ∀ i ys led, J i ys led → ∀ p ∈ held, p ∈ led)
    (turn : ∀ i v ys k (m : Vm) (led : Ledg) (h : Heap) (tk : Nat) (oI : Obj), i < n → P i v → J i ys led → Sd H fs env.locals (fun y => if y = x then some v else m y) h ((I, oI) :: (acc, listOf ys.toArray k) :: led) →
      wpAny (model prog w) A (testsOf ifs env) (fun ok s₃ => if ok = true then
          wpAny (model prog w) A (eval elt env) (fun y s₄ => ∃ m' h' tk' led', s₄ = { s with heap := h', toks := tk' } ∧ Sd H fs env.locals m' h' ((I, oI) :: (acc, listOf ys.toArray k) :: led') ∧ J (i + 1) (ys ++ [y]) led') NoE s₃
        else ∃ m' h' tk' led', s₃ = { s with heap := h', toks := tk' } ∧ Sd H fs env.locals m' h' ((I, oI) :: (acc, listOf ys.toArray k) :: led') ∧ J (i + 1) ys led') NoE { s with heap := h, toks := tk })
    (done : ∀ ys k (m : Vm) (led : Ledg) (h : Heap) (tk : Nat), J n ys led → Sd H fs env.locals m h ((acc, listOf ys.toArray k) :: led) → R (.ok .next) { s with heap := h, toks := tk })
    (hk : env.scope.kind = .function := by rfl) (hx : env.kindOf x = some .local := by rfl) (ht : ∀ v, letOwnedTupleGo (.Name x px) (.ref I) v = pure () := by intro _; rfl) :
    codeAny (model prog w) A (.compLoop (.ListComp elt [⟨.Name x px, iter, ifs, 0⟩] scope pos) 0 (.ref I) (.ref acc) env) R s := by
  refine codeAny_compLoop_tests (fun q s' => ∃ i ys k m led h tk oI, q = n - i ∧ i ≤ n ∧ ys.length ≤ i ∧ s' = { s with heap := h, toks := tk } ∧ Sd H fs env.locals m h ((I, oI) :: (acc, listOf ys.toArray k) :: led) ∧ St i h ∧ J i ys led) (fun q s' hI => ?_) n
    ⟨0, ys₀, k₀, m, led, s.heap, s.toks, oI, rfl, Nat.zero_le _, hy0, rfl, D, hst, h0⟩ ht
  obtain ⟨i, ys, k, m, led, h, tk, oI, rfl, hin, hlen, rfl, D, hst, hj⟩ := hI
  by_cases hi : i < n
  · refine W.item i _ _ _ hi hst fun v h₁ tk₁ hP hst₁ hk₁ => ?_
    obtain ⟨oI', gI⟩ := hat _ _ hst₁
    have D₁ := D.besideAt hk₁ gI
    refine wpAny_mono (wpAny_bind (wpAny_standAt (wpAny_bindName (st_local (v := v) D₁ (fun h₂ tk₂ D₂ => ?_) hk hx)))) (fun _ _ x => x) fun _ _ x => x.elim
    have fin : ∀ ys' k', ys'.length ≤ i + 1 → ∀ s₃ : Shared, (∃ m' h' tk' led', s₃ = { s with heap := h', toks := tk' } ∧ Sd H fs env.locals m' h' ((I, oI') :: (acc, listOf ys'.toArray k') :: led') ∧ J (i + 1) ys' led') →
        ∃ q', q' < n - i ∧ ∃ i ys k m led h tk oI, q' = n - i ∧ i ≤ n ∧ ys.length ≤ i ∧ s₃ = { s with heap := h, toks := tk } ∧ Sd H fs env.locals m h ((I, oI) :: (acc, listOf ys.toArray k) :: led) ∧ St i h ∧ J i ys led := by
      rintro ys' k' hl' s₃ ⟨m', h', tk', led', e, D', hj'⟩
      refine ⟨n - (i + 1), by lia, i + 1, ys', k', m', led', h', tk', oI', rfl, hi, hl', e, D', W.frame _ _ _ hst₁ (fun b hb o e => ?_), hj'⟩
      by_cases hbI : b = I
      · subst hbI
        rw [gI] at e; cases e
        exact D'.get (.head _)
      · obtain ⟨o', ho⟩ := hheld b hb hbI
        rcases ho with ho | ho
        · have e1 := D₁.get (.tail _ (.tail _ (hJ _ _ _ hj _ ho)))
          rw [e1] at e; cases e
          exact D'.get (.tail _ (.tail _ (hJ _ _ _ hj' _ ho)))
        · have e1 := D₁.old ho
          rw [e1] at e; cases e
          exact D'.old ho
    refine wpAny_mono (turn i v ys k m led h₂ tk₂ oI' hi hP hj D₂) (fun ok s₃ q => ?_) fun _ _ x => x.elim
    cases ok with
    | false => exact fin ys k (by lia) s₃ q
    | true =>
      simp only [if_true] at q ⊢
      refine wpAny_mono q (fun y s₄ q => ?_) fun _ _ x => x.elim
      obtain ⟨m', h', tk', led', rfl, D', hj'⟩ := q
      refine wpAny_mono (append_sd D' 1 rfl (fun h'' tk'' D'' => ?_) (by rw [List.size_toArray, sizeLine_eq]; lia)) (fun _ _ x => x) fun _ _ x => x.elim
      refine fin (ys ++ [y]) (k + 1) (by simp; lia) _ ⟨m', h'', tk'', led', rfl, ?_, hj'⟩
      simpa using D''
  · have hin' : i = n := by lia
    subst hin'
    refine W.done _ _ _ hst fun h₁ tk₁ hk₁ => ?_
    exact done ys k m led h₁ tk₁ hj (D.beside hk₁)
end
end Mine
end

section
open PySem PySem.W PySem.Calls PyProof.Rows
set_option Elab.async false
set_option maxRecDepth 100000
namespace Mine

section
variable {H h h' : Heap} {fs : Ledg} {L : Addr} {m m' : Vm} {led led' : Ledg} {a : Addr} {o o' : Obj}

theorem SameBut.other {h h' : Heap} {C : Addr} (hs : Heap.SameBut C h h') : ∀ b o, b ∉ [C] → h.get? b = some o → h'.get? b = some o :=
  fun b _ hb e => (hs.2 b (fun q => hb (by simp [q]))).trans e

/-- enter a frame L₂ = the heap's end; to leave it: the finished frame's object joins the ledger -/
theorem Sd.enter2 (D : Sd H fs L m h led) (hk : ∀ b o, h.get? b = some o → h'.get? b = some o) (hn : h'.Ns h.objs.size m') :
    ∃ oL, Sd H ((L, oL) :: fs) h.objs.size m' h' led ∧ ∀ m₂ L₂ h₂ led₂, Sd H ((L, oL) :: fs) L₂ m₂ h₂ led₂ → ∃ o₂, Sd H fs L m h₂ ((L₂, o₂) :: led₂) ∧ ∀ h₃ : Heap, h₃.get? L₂ = some o₂ → h₃.Ns L₂ m₂ := by
  obtain ⟨oL, D', lv⟩ := D.enter hk hn
  refine ⟨oL, D', fun m₂ L₂ h₂ led₂ D₂ => ?_⟩
  have D₃ := lv _ _ _ _ D₂
  obtain ⟨o₂, es, ep, hL, hd, hkk, hf⟩ := D₂.fr.ns
  have gL := D₂.nw (L, oL) (List.mem_append_right _ (.head _))
  have hH : H.get? L₂ = none := by
    cases q : H.get? L₂ with
    | none => rfl
    | some o => exact absurd (Nat.lt_of_lt_of_le (Heap.lt_size q) D₂.fr.above) (Nat.lt_irrefl _)
  have mem : ∀ p ∈ led₂ ++ fs, p ∈ led₂ ++ (L, oL) :: fs := fun p hp => (List.mem_append.mp hp).elim (List.mem_append_left _) fun q => List.mem_append_right _ (.tail _ q)
  refine ⟨o₂, ⟨D₃.fr, fun p hp => ?_, ?_⟩, fun h₃ e => ⟨o₂, es, ep, e, hd, hkk, hf⟩⟩
  · rw [List.cons_append] at hp
    rcases List.mem_cons.mp hp with rfl | hp
    · exact ⟨hL, Ne.symm gL.2.1, hH⟩
    · exact D₃.nw p hp
  · rw [List.cons_append, List.map_cons, List.nodup_cons]
    refine ⟨fun hm => ?_, D₃.nd⟩
    obtain ⟨p, hp, e⟩ := List.mem_map.mp hm
    exact (D₂.nw p (mem p hp)).2.1 e
end

section
variable {prog : Program} {w : World} {A : Around} {s : Shared} {env : Env} {H : Heap} {fs : Ledg} {m : Vm} {led : Ledg}

/-- what a list comprehension's loop must show, seen from the caller's frame -/
theorem comp_frame {e : Expr} {scope : Scope} {cl : List (Str × Addr)} {it : Value} {newAcc : Sem Value} {oA : Obj} {use : Option (Value → Sem Unit)} {Q : Value → Shared → Prop} (D : Sd H fs env.locals m s.heap led)
    (hacc : ∀ Q', (∀ acc h' tk, Sd H fs env.locals m h' ((acc, oA) :: led) → Q' (.ref acc) { s with heap := h', toks := tk }) → wpAny (model prog w) A newAcc Q' NoE s)
    (hcell : ∀ y ∈ scope.names, y.2 ≠ .cell) (hkind : scope.kind = .function)
    (h : ∀ acc C oL h' tk, Sd H ((env.locals, oL) :: fs) C (fun _ => none) h' ((acc, oA) :: led) →
      (∀ m₂ h₂ led₂, Sd H ((env.locals, oL) :: fs) C m₂ h₂ led₂ → ∃ o₂, Sd H fs env.locals m h₂ ((C, o₂) :: led₂) ∧ ∀ h₃ : Heap, h₃.get? C = some o₂ → h₃.Ns C m₂) →
      codeAny (model prog w) A (.compStart e 0 it (.ref acc) (compEnvC scope cl C env)) (compPost (model prog w) A NoE use Q (.ref acc) C) { s with heap := h', toks := tk }) :
    wpAny (model prog w) A newAcc (fun acc s₃ => wpAny (model prog w) A (newFunctionEnv scope env.globals cl [] env.qual none .none (some env)) (fun cenv s₄ =>
      codeAny (model prog w) A (.compStart e 0 it acc { cenv with scope := relabel scope env }) (compPost (model prog w) A NoE use Q acc cenv.locals) s₄) NoE s₃) NoE s := by
  refine hacc _ fun acc h' tk D' => ?_
  refine wpAny_newFunctionEnv hcell (by intro y hy; simp at hy) (fun h₁ hns₁ hsb₁ => ?_) hkind
  obtain ⟨oL, D'', lv⟩ := D'.enter2 (h' := h₁) (m' := fun _ => none) (fun b o e => hsb₁.extBut b o (Nat.ne_of_lt (Heap.lt_size e)) (Heap.get?_push_of_some _ e)) hns₁
  exact h acc _ oL h₁ _ D'' fun m₂ h₂ led₂ D₂ => lv m₂ _ h₂ led₂ D₂

theorem postEval {Q : Value → Shared → Prop} {acc : Value} {C : Addr} {m₂ : Vm} {h₂ : Heap} {o₂ : Obj} {tk : Nat} (D : Sd H fs env.locals m h₂ ((C, o₂) :: led)) (hn : ∀ h₃ : Heap, h₃.get? C = some o₂ → h₃.Ns C m₂)
    (h : ∀ h' tk, Sd H fs env.locals m h' led → Q acc { s with heap := h', toks := tk }) : compPost (model prog w) A NoE none Q acc C (.ok .next) { s with heap := h₂, toks := tk } :=
  ⟨m₂, hn _ (D.get (.head _)), fun h' hs => h h' tk (D.beside (SameBut.other hs))⟩
theorem postAssign {y : Str} {py : Pos} {Q : Value → Shared → Prop} {acc : Value} {C : Addr} {m₂ : Vm} {h₂ : Heap} {o₂ : Obj} {tk : Nat} (D : Sd H fs env.locals m h₂ ((C, o₂) :: led)) (hn : ∀ h₃ : Heap, h₃.get? C = some o₂ → h₃.Ns C m₂)
    (hk : env.scope.kind = .function) (hx : env.kindOf y = some .local)
    (h : ∀ h' tk, Sd H fs env.locals (fun z => if z = y then some acc else m z) h' led → Q .none { s with heap := h', toks := tk }) :
    compPost (model prog w) A NoE (some (assign (.Name y py) env)) Q acc C (.ok .next) { s with heap := h₂, toks := tk } := by
  show wpAny _ A (assign (.Name y py) env acc) _ _ _
  refine wpAny_assign_Name (st_local D (fun h₃ tk₃ D₃ => ?_) hk hx)
  exact ⟨m₂, hn _ (D₃.get (.head _)), fun h' hs => h h' _ (D₃.beside (SameBut.other hs))⟩

theorem compStart_sd {elt iter : Expr} {x : Str} {px : Pos} {ifs : List Expr} {scope : Scope} {pos : Pos} {I acc : Addr} {fp : List Addr} {n i : Nat} {P : Nat → Value → Prop} {St : Nat → Heap → Prop} {R : Result → Shared → Prop}
    (W : Walks prog w A I fp [I] n P St) (hst : St i s.heap) (h : codeAny (model prog w) A (.compLoop (.ListComp elt [⟨.Name x px, iter, ifs, 0⟩] scope pos) 0 (.ref I) (.ref acc) env) R s) :
    codeAny (model prog w) A (.compStart (.ListComp elt [⟨.Name x px, iter, ifs, 0⟩] scope pos) 0 (.ref I) (.ref acc) env) R s :=
  codeAny_compStart_list h (W.self i _ _ _ hst h)

/-- a list comprehension over what Walks walks, its value used -/
theorem listComp_sd {elt iter : Expr} {x : Str} {px : Pos} {ifs : List Expr} {scope : Scope} {pos : Pos} {cl : List (Str × Addr)} {Q : Value → Shared → Prop}
    (hclos : closureFor scope env = pure cl) (hcell : ∀ y ∈ scope.names, y.2 ≠ .cell) (hkind : scope.kind = .function)
    (hnames : ∀ y ∈ scope.names, y.2 = .local → scope.names.lookup y.1 = some .local) (hx : scope.names.lookup x = some .local)
    (h : wpAny (model prog w) A (eval iter env) (fun xv s₁ => wpAny (model prog w) A (pyIter xv) (fun it s₂ => ∃ h₂ tk₂ m led I oI fp n P St, it = .ref I ∧ s₂ = { s with heap := h₂, toks := tk₂ } ∧ Walks prog w A I fp [I] n P St ∧ n ≤ 1000000 ∧ St 0 h₂ ∧
      Sd H fs env.locals m h₂ ((I, oI) :: led) ∧ (∀ i h, St i h → ∃ o, h.get? I = some o) ∧ ∃ (held : Ledg) (J : Nat → List Value → Ledg → Prop), (∀ b ∈ fp, b ≠ I → ∃ o, (b, o) ∈ held ∨ H.get? b = some o) ∧ J 0 [] led ∧ (∀ i ys led, J i ys led → ∀ p ∈ held, p ∈ led) ∧
      (∀ i v ys k (m₁ : Vm) (led₁ : Ledg) (h₁ : Heap) (tk₁ : Nat) (oI : Obj) (acc C : Addr) (fs₁ : Ledg), i < n → P i v → J i ys led₁ → Sd H fs₁ C (fun y => if y = x then some v else m₁ y) h₁ ((I, oI) :: (acc, listOf ys.toArray k) :: led₁) →
        wpAny (model prog w) A (testsOf ifs (compEnvC scope cl C env)) (fun ok s₃ => if ok = true then
            wpAny (model prog w) A (eval elt (compEnvC scope cl C env)) (fun y s₄ => ∃ m' h' tk' led', s₄ = { s with heap := h', toks := tk' } ∧ Sd H fs₁ C m' h' ((I, oI) :: (acc, listOf ys.toArray k) :: led') ∧ J (i + 1) (ys ++ [y]) led') NoE s₃
          else ∃ m' h' tk' led', s₃ = { s with heap := h', toks := tk' } ∧ Sd H fs₁ C m' h' ((I, oI) :: (acc, listOf ys.toArray k) :: led') ∧ J (i + 1) ys led') NoE { s with heap := h₁, toks := tk₁ }) ∧
      (∀ ys k acc (led₁ : Ledg) (h₁ : Heap) (tk₁ : Nat), J n ys led₁ → Sd H fs env.locals m h₁ ((acc, listOf ys.toArray k) :: led₁) → Q (.ref acc) { s with heap := h₁, toks := tk₁ })) NoE s₁) NoE s)
    (hs : ∀ x, foldedSetIterable iter env x = pure x := by intro _; rfl) :
    wpAny (model prog w) A (eval (.ListComp elt [⟨.Name x px, iter, ifs, 0⟩] scope pos) env) Q NoE s := by
  rw [eval_ListComp]
  refine wpAny_comprehension_free (use := none) rfl hs hclos hkind hnames (wpAny_mono h (fun xv s₁ h₁ => wpAny_mono h₁ (fun it s₂ h₂ => ?_) fun _ _ e => e) fun _ _ e => e)
  obtain ⟨h₂, tk₂, m, led, I, oI, fp, n, P, St, rfl, rfl, W, hn, hst, D, hat, held, J, hheld, h0, hJ, turn, done⟩ := h₂
  refine comp_frame D (fun Q' hq => newList_sd D hq) hcell hkind fun acc C oL h' tk D' lv => ?_
  have D1 := D'.pull 1 rfl
  have hst' : St 0 h' := W.frame _ _ _ hst (fun b hb o e => by
    by_cases hbI : b = I
    · subst hbI
      have e1 := D.get (.head _)
      rw [e1] at e; cases e
      exact D'.get (.tail _ (.head _))
    · obtain ⟨o', ho⟩ := hheld b hb hbI
      rcases ho with ho | ho
      · have e1 := D.get (.tail _ (hJ _ _ _ h0 _ ho))
        rw [e1] at e; cases e
        exact D'.get (.tail _ (.tail _ (hJ _ _ _ h0 _ ho)))
      · have e1 := D.old ho
        rw [e1] at e; cases e
        exact D'.old ho)
  refine compStart_sd (s := { s with heap := h', toks := tk }) W hst' (compLoop_sd (env := compEnvC scope cl C env) (ys₀ := []) (k₀ := 0) W hat held hheld hn J D1 hst' h0 (Nat.le_refl _) hJ
    (fun i v ys k m₁ led₁ h₁ tk₁ oI hi hP hj D₁ => turn i v ys k m₁ led₁ h₁ tk₁ oI acc C _ hi hP hj D₁) (fun ys k m₁ led₁ h₁ tk₁ hj D₁ => ?_) (by simp [compEnvC, relabel, hkind]) (lookup_relabel_local hx))
  obtain ⟨o₂, D₂, hn₂⟩ := lv _ _ _ D₁
  exact postEval (s := s) D₂ hn₂ fun h' tk' D' => done ys k acc led₁ h' tk' hj D'

/-- the same, its value stored under a local name on the same line -/
theorem assignComp_sd {elt iter : Expr} {x y : Str} {px py : Pos} {ifs : List Expr} {scope : Scope} {pos spos : Pos} {cl : List (Str × Addr)} {Q : Flow → Shared → Prop}
    (hsw : swapsWith (.ListComp elt [⟨.Name x px, iter, ifs, 0⟩] scope pos) (some (.Name y py)) spos.line env = pure true)
    (hclos : closureFor scope env = pure cl) (hcell : ∀ y ∈ scope.names, y.2 ≠ .cell) (hkind : scope.kind = .function)
    (hnames : ∀ y ∈ scope.names, y.2 = .local → scope.names.lookup y.1 = some .local) (hx : scope.names.lookup x = some .local) (hk : env.scope.kind = .function) (hy : env.kindOf y = some .local)
    (h : wpAny (model prog w) A (eval iter env) (fun xv s₁ => wpAny (model prog w) A (pyIter xv) (fun it s₂ => ∃ h₂ tk₂ m led I oI fp n P St, it = .ref I ∧ s₂ = { s with heap := h₂, toks := tk₂ } ∧ Walks prog w A I fp [I] n P St ∧ n ≤ 1000000 ∧ St 0 h₂ ∧
      Sd H fs env.locals m h₂ ((I, oI) :: led) ∧ (∀ i h, St i h → ∃ o, h.get? I = some o) ∧ ∃ (held : Ledg) (J : Nat → List Value → Ledg → Prop), (∀ b ∈ fp, b ≠ I → ∃ o, (b, o) ∈ held ∨ H.get? b = some o) ∧ J 0 [] led ∧ (∀ i ys led, J i ys led → ∀ p ∈ held, p ∈ led) ∧
      (∀ i v ys k (m₁ : Vm) (led₁ : Ledg) (h₁ : Heap) (tk₁ : Nat) (oI : Obj) (acc C : Addr) (fs₁ : Ledg), i < n → P i v → J i ys led₁ → Sd H fs₁ C (fun y => if y = x then some v else m₁ y) h₁ ((I, oI) :: (acc, listOf ys.toArray k) :: led₁) →
        wpAny (model prog w) A (testsOf ifs (compEnvC scope cl C env)) (fun ok s₃ => if ok = true then
            wpAny (model prog w) A (eval elt (compEnvC scope cl C env)) (fun y s₄ => ∃ m' h' tk' led', s₄ = { s with heap := h', toks := tk' } ∧ Sd H fs₁ C m' h' ((I, oI) :: (acc, listOf ys.toArray k) :: led') ∧ J (i + 1) (ys ++ [y]) led') NoE s₃
          else ∃ m' h' tk' led', s₃ = { s with heap := h', toks := tk' } ∧ Sd H fs₁ C m' h' ((I, oI) :: (acc, listOf ys.toArray k) :: led') ∧ J (i + 1) ys led') NoE { s with heap := h₁, toks := tk₁ }) ∧
      (∀ ys k acc (led₁ : Ledg) (h₁ : Heap) (tk₁ : Nat), J n ys led₁ → Sd H fs env.locals (fun z => if z = y then some (.ref acc) else m z) h₁ ((acc, listOf ys.toArray k) :: led₁) → Q .next { s with heap := h₁, toks := tk₁ })) NoE s₁) NoE s)
    (hs : ∀ x, foldedSetIterable iter env x = pure x := by intro _; rfl) :
    wpAny (model prog w) A (exec (.Assign [.Name y py] (.ListComp elt [⟨.Name x px, iter, ifs, 0⟩] scope pos) spos) env) Q NoE s := by
  rw [exec_Assign_Name_used _ _ _ _ hsw]
  refine wpAny_bind (wpAny_standAt (wpAny_bind ?_))
  show wpAny _ A (do let _ ← comprehension (.ListComp elt [⟨.Name x px, iter, ifs, 0⟩] scope pos) scope env _ (newList []) false (eval iter env) (some (assign (.Name y py) env))) _ _ s
  refine wpAny_bind (wpAny_mono (wpAny_comprehension_free (use := some (assign (.Name y py) env)) (Q := fun _ s' => Q .next s') rfl hs hclos hkind hnames
    (wpAny_mono h (fun xv s₁ h₁ => wpAny_mono h₁ (fun it s₂ h₂ => ?_) fun _ _ e => e) fun _ _ e => e)) (fun _ s' hq => wpAny_pure (wpAny_pure hq)) fun _ _ e => e)
  obtain ⟨h₂, tk₂, m, led, I, oI, fp, n, P, St, rfl, rfl, W, hn, hst, D, hat, held, J, hheld, h0, hJ, turn, done⟩ := h₂
  refine comp_frame D (fun Q' hq => newList_sd D hq) hcell hkind fun acc C oL h' tk D' lv => ?_
  have D1 := D'.pull 1 rfl
  have hst' : St 0 h' := W.frame _ _ _ hst (fun b hb o e => by
    by_cases hbI : b = I
    · subst hbI
      have e1 := D.get (.head _)
      rw [e1] at e; cases e
      exact D'.get (.tail _ (.head _))
    · obtain ⟨o', ho⟩ := hheld b hb hbI
      rcases ho with ho | ho
      · have e1 := D.get (.tail _ (hJ _ _ _ h0 _ ho))
        rw [e1] at e; cases e
        exact D'.get (.tail _ (.tail _ (hJ _ _ _ h0 _ ho)))
      · have e1 := D.old ho
        rw [e1] at e; cases e
        exact D'.old ho)
  refine compStart_sd (s := { s with heap := h', toks := tk }) W hst' (compLoop_sd (env := compEnvC scope cl C env) (ys₀ := []) (k₀ := 0) W hat held hheld hn J D1 hst' h0 (Nat.le_refl _) hJ
    (fun i v ys k m₁ led₁ h₁ tk₁ oI hi hP hj D₁ => turn i v ys k m₁ led₁ h₁ tk₁ oI acc C _ hi hP hj D₁) (fun ys k m₁ led₁ h₁ tk₁ hj D₁ => ?_) (by simp [compEnvC, relabel, hkind]) (lookup_relabel_local hx))
  obtain ⟨o₂, D₂, hn₂⟩ := lv _ _ _ D₁
  exact postAssign (s := s) D₂ hn₂ hk hy fun h' tk' D' => done ys k acc led₁ h' tk' hj D'
end
end Mine
end

section
open PySem PySem.W PySem.Calls PyProof.Rows PySem.Builtin PySem.Builtin.Str
set_option Elab.async false
set_option autoImplicit false
namespace Mine
abbrev S (l : List Nat) : Str := ⟨l.toArray⟩
noncomputable def cut {α : Type} (l : List α) (lo hi : Option Int) : List α := (l.drop (lo.elim 0 (clipAt l.length))).take (hi.elim l.length (clipAt l.length) - lo.elim 0 (clipAt l.length))

theorem S_len (l : List Nat) : (S l).length = l.length := by simp [Str.length]
theorem S_app (a b : List Nat) : S a ++ S b = S (a ++ b) := by
  apply Str.ext'
  simp [Str.cps_append]
theorem sliceIdx (lo hi : Option Int) (n : Nat) : strSliceIndices lo hi 1 n = sliceRange ((lo.elim 0 (clipAt n) : Nat) : Int) ((hi.elim n (clipAt n) : Nat) : Int) 1 := by
  unfold strSliceIndices
  cases lo <;> cases hi <;> simp [clipAt_cast]
theorem clipAt_le (n : Nat) (i : Int) : clipAt n i ≤ n := by
  have := clipAt_cast n i; lia
theorem slice_S (l : List Nat) (lo hi : Option Int) : Txt.slice (S l) lo hi = S (cut l lo hi) := by
  have e : (strSliceIndices lo hi 1 l.length).filterMap ((S l).cps[·]?) = cut l lo hi := by
    rw [sliceIdx, sliceRange_one, pick_run]
    rfl
  unfold Txt.slice
  rw [S_len]
  split
  · rename_i h
    simp only [beq_self_eq_true, Bool.true_and, beq_iff_eq] at h
    rw [sliceIdx, sliceRange_one] at h
    simp only [List.length_map, List.length_range] at h
    have a1 : hi.elim l.length (clipAt l.length) ≤ l.length := by cases hi <;> simp [clipAt_le]
    have a0 : lo.elim 0 (clipAt l.length) ≤ l.length := by cases lo <;> simp [clipAt_le]
    have a2 : lo.elim 0 (clipAt l.length) = 0 := by lia
    have a3 : hi.elim l.length (clipAt l.length) = l.length := by lia
    unfold cut
    rw [a2, a3]
    simp
  · rw [e]
theorem clipAt_nat (n a : Nat) : clipAt n (a : Int) = min a n := by
  have := clipAt_cast n (a : Int); lia
theorem cut_nat {α : Type} (l : List α) (a b : Nat) (hb : b ≤ l.length) (hab : a ≤ b) : cut l (some (a : Int)) (some (b : Int)) = (l.drop a).take (b - a) := by
  unfold cut
  simp only [Option.elim, clipAt_nat]
  rw [Nat.min_eq_left hb, Nat.min_eq_left (Nat.le_trans hab hb)]
theorem cut_to {α : Type} (l : List α) (b : Nat) : cut l none (some (b : Int)) = l.take b := by
  unfold cut
  simp only [Option.elim, clipAt_nat, List.drop_zero, Nat.sub_zero]
  by_cases h : b ≤ l.length
  · rw [Nat.min_eq_left h]
  · rw [Nat.min_eq_right (by lia), List.take_of_length_le (Nat.le_refl _), List.take_of_length_le (by lia)]
theorem cut_from {α : Type} (l : List α) (a : Nat) : cut l (some (a : Int)) none = l.drop a := by
  unfold cut
  simp only [Option.elim, clipAt_nat]
  by_cases h : a ≤ l.length
  · rw [Nat.min_eq_left h, List.take_of_length_le (by simp)]
  · rw [Nat.min_eq_right (by lia)]; simp; lia
end Mine
end

section
open PySem PySem.W PySem.Calls PyProof.Rows
set_option Elab.async false
set_option maxRecDepth 100000
set_option autoImplicit false
namespace Mine

section
variable {prog : Program} {w : World} {A : Around} {s : Shared} {env : Env} {H : Heap} {fs : Ledg} {L : Addr} {m : Vm} {led : Ledg} {K : Frag}

/-! calls of the text's own defs -/
theorem call_sd {name qual : Str} {params : Arguments} {body : List Stmt} {scope : Scope} {dV kV doc pm cdv ct oc : Value} {an od : Option Addr} {osl : Array (Option Value)} {f : Addr} {vs : List Value} {binds : List (Str × Value)} {Q : Value → Shared → Prop}
    (D : Sd H fs L m s.heap led) (X : K.In H) (hlim : H.NoLimit)
    (ho : K.lookup f = some ⟨oc, od, .func (fnOf name qual params body scope dV kV doc pm an cdv ct), osl⟩) (hcd : codeIn K cdv qual = true) (hroom : A.depth < recursionLimit)
    (hbind : bindArgs (fnOf name qual params body scope dV kV doc pm an cdv ct) ⟨vs, []⟩ = pure binds) (hloc : ∀ y ∈ binds, scope.names.lookup y.1 = some .local) (hcell : ∀ x ∈ scope.names, x.2 ≠ .cell)
    (h : ∀ C oL h' tk, Sd H ((L, oL) :: fs) C (fun y => binds.reverse.lookup y) h' led → (∀ m₂ L₂ h₂ led₂, Sd H ((L, oL) :: fs) L₂ m₂ h₂ led₂ → Sd H fs L m h₂ led₂) →
      wpAny (model prog w) (A.deeper (envOf qual scope C f cdv)) (execs body (envOf qual scope C f cdv)) (fun fl s' => Q (match fl with | .ret v => v | _ => .none) s') NoE { s with heap := h', toks := tk })
    (hco : scope.isCoroutine = false := by rfl) (hgen : scope.isGenerator = false := by rfl) (hk : scope.kind = .function := by rfl) :
    wpAny (model prog w) A (call (.ref f) vs) Q NoE s := by
  have X' := X.keeps D.fr.keep
  refine wpAny_call (codeAny_call_def (fd := fnOf name qual params body scope dV kV doc pm an cdv ct) (body := body) (binds := binds) hroom (X' _ _ ho) rfl (hlim.keeps D.fr.keep) (codeRec_of X' hcd) rfl (BindsTo.of_eq hbind) hcell hloc (fun h₁ hns hk₁ => ?_) hco hgen hk)
  obtain ⟨oL, D', lv⟩ := D.enter (h' := h₁) hk₁ hns
  exact wpAny_mono (h _ oL h₁ _ D' lv) (fun fl s' q => by cases fl <;> exact q) fun _ _ x => x.elim

theorem call_name {x : Str} {f : Addr} {p pos : Pos} {e : Expr} {rest : List Expr} {mg mb : Vm} {pp : Program} {loose : List Str} {Q : Value → Shared → Prop} (D : Sd H fs env.locals m s.heap led) (X : K.In H) (T : TopRead pp loose mg mb H)
    (hx : nsIn K mainGlobals x = some (some (.ref f))) (hkp : keepIn K (.ref f) = true)
    (h : wpAny (model prog w) A (spliced (backTo pos (starEach (e :: rest) env))) (fun vs s₁ => K.In s₁.heap ∧ wpAny (model prog w) A (call (.ref f) vs) Q NoE s₁) NoE s)
    (hk : env.scope.kind = .function := by rfl) (hxk : env.kindOf x = some .globalImplicit := by rfl) (hg : env.globals = mainGlobals := by rfl) (hd : (x == ("__debug__" : Str)) = false := by decide)
    (he : starEach (e :: rest) env = (false, eval e env) :: starEach rest env := by rfl) (hplain : (backTo pos (starEach rest env)).any (·.1) = false := by rfl) :
    wpAny (model prog w) A (eval (.Call (.Name x p) (e :: rest) [] pos) env) Q NoE s :=
  wpAny_Call_Name_kw (nm_glob D X T hx (callWith_K (first := []) X hkp h he hplain) hk hxk hg hd)
theorem call_name0 {x : Str} {f : Addr} {p pos : Pos} {mg mb : Vm} {pp : Program} {loose : List Str} {Q : Value → Shared → Prop} (D : Sd H fs env.locals m s.heap led) (X : K.In H) (T : TopRead pp loose mg mb H)
    (hx : nsIn K mainGlobals x = some (some (.ref f))) (hkp : keepIn K (.ref f) = true)
    (h : wpAny (model prog w) A (call (.ref f) []) Q NoE s)
    (hk : env.scope.kind = .function := by rfl) (hxk : env.kindOf x = some .globalImplicit := by rfl) (hg : env.globals = mainGlobals := by rfl) (hd : (x == ("__debug__" : Str)) = false := by decide) :
    wpAny (model prog w) A (eval (.Call (.Name x p) [] [] pos) env) Q NoE s :=
  wpAny_Call_Name_kw (nm_glob D X T hx (callWith_K0 (first := []) (X.keeps D.fr.keep) hkp h) hk hxk hg hd)
theorem call_bi {x : Str} {id : String} {p pos : Pos} {e : Expr} {rest : List Expr} {mg mb : Vm} {pp : Program} {loose : List Str} {Q : Value → Shared → Prop} (D : Sd H fs env.locals m s.heap led) (X : K.In H) (T : TopRead pp loose mg mb H)
    (hx : nsIn K mainGlobals x = some none) (hv : bootBuiltins x = some (.builtin id))
    (h : wpAny (model prog w) A (spliced (backTo pos (starEach (e :: rest) env))) (fun vs s₁ => wpAny (model prog w) A (call (.builtin id) vs) Q NoE s₁) NoE s) (hn : x ≠ "__name__" := by decide)
    (hk : env.scope.kind = .function := by rfl) (hxk : env.kindOf x = some .globalImplicit := by rfl) (hg : env.globals = mainGlobals := by rfl) (hb : env.builtins = builtinsNs := by rfl) (hd : (x == ("__debug__" : Str)) = false := by decide)
    (he : starEach (e :: rest) env = (false, eval e env) :: starEach rest env := by rfl) (hplain : (backTo pos (starEach rest env)).any (·.1) = false := by rfl) :
    wpAny (model prog w) A (eval (.Call (.Name x p) (e :: rest) [] pos) env) Q NoE s :=
  wpAny_Call_Name_kw (nm_bi D X T hx hv (PyProof.Rows.callWith_builtin1 h he hplain) hn hk hxk hg hb hd)

/-! texts -/
theorem cst_S {x : Str} {l : List Nat} {k : Nat} {pos : Pos} {Q : Value → Shared → Prop} (hx : x = S l) (h : ∀ t tk, Q (.str (S l) t) { s with toks := tk }) : wpAny (model prog w) A (eval (.Constant (.str x) k pos) env) Q NoE s :=
  wpAny_Constant_str (by subst hx; exact h _ _)
theorem cst_int {i : Int} {k : Nat} {pos : Pos} {Q : Value → Shared → Prop} (h : ∀ t tk, Q (.int i t) { s with toks := tk }) : wpAny (model prog w) A (eval (.Constant (.int i) k pos) env) Q NoE s :=
  wpAny_Constant_int (h _ _)
theorem add_S {a b : List Nat} {t u : Tok} {Q : Value → Shared → Prop} (h : ∀ t' tk, Q (.str (S (a ++ b)) t') { s with toks := tk }) (hsz : a.length + b.length ≤ 1000000) : wpAny (model prog w) A (binaryOp .Add (.str (S a) t) (.str (S b) u)) Q NoE s :=
  PyProof.Rows.add_str (fun t' tk => by rw [S_app]; exact h t' tk) (by rw [S_len, S_len, sizeLine_eq]; lia)
theorem eq_S {a b : List Nat} {t u : Tok} {Q : Value → Shared → Prop} (h : Q (.bool (decide (a = b))) s) : wpAny (model prog w) A (compareOp .Eq (.str (S a) t) (.str (S b) u)) Q NoE s :=
  eq_str (by rw [show (S a == S b) = decide (a = b) from by by_cases e : a = b <;> simp [e]]; exact h)
theorem ne_S {a b : List Nat} {t u : Tok} {Q : Value → Shared → Prop} (h : Q (.bool (decide (a ≠ b))) s) : wpAny (model prog w) A (compareOp .NotEq (.str (S a) t) (.str (S b) u)) Q NoE s :=
  ne_str (by rw [show (S a != S b) = decide (a ≠ b) from by by_cases e : a = b <;> simp [e]]; exact h)
theorem in_S {c : Nat} {l : List Nat} {t u : Tok} {Q : Value → Shared → Prop} (h : Q (.bool (decide (c ∈ l))) s) : wpAny (model prog w) A (compareOp .In (.str (S [c]) u) (.str (S l) t)) Q NoE s :=
  in_str (by rw [StrLaws.found_one]; exact h)
theorem notin_S {c : Nat} {l : List Nat} {t u : Tok} {Q : Value → Shared → Prop} (h : Q (.bool (decide (c ∉ l))) s) : wpAny (model prog w) A (compareOp .NotIn (.str (S [c]) u) (.str (S l) t)) Q NoE s :=
  notIn_str (by rw [StrLaws.found_one]; simpa using h)
theorem len_S {l : List Nat} {t : Tok} {Q : Value → Shared → Prop} (h : ∀ t' tk, Q (.int (l.length : Int) t') { s with toks := tk }) (hl : l.length ≤ 1000000) : wpAny (model prog w) A (call (.builtin "len") [.str (S l) t]) Q NoE s :=
  len_str (by rw [S_len]; lia) (by rw [S_len]; exact h _ _)

/-! items and slices -/
theorem tail_str {value slice : Expr} {l : List Nat} {i : Int} {n c : Nat} {t u : Tok} {Q : Value → Shared → Prop} (hi : i = (n : Int)) (hc : l[n]? = some c) (hl : l.length ≤ 1000000) (h : ∀ t' tk, Q (.str (S [c]) t') { s with toks := tk })
    (hs : subscripted slice false (.str (S l) t) (.int i u) = operate [.str (S l) t, .int i u] (getItem (.str (S l) t) (.int i u)) := by rfl) :
    wpAny (model prog w) A (subscriptTail value slice (.str (S l) t) (.int i u)) Q NoE s := by
  subst hi
  obtain ⟨hlt, rfl⟩ := List.getElem?_eq_some_iff.mp hc
  refine tail_any (typeIs_str _ _ _) F.slot_str_getitem.lookup (getItem_str (c := l[n]) ?_ ?_ (h _ _)) hs
  · simp; lia
  · have e : seqIndex? (n : Int) (S l).length = some n := by
      rw [S_len]; unfold seqIndex?; simp; lia
    rw [e]; simp [hlt]
theorem tail_slice {value lo hi : Option Expr} {p : Pos} {base : Expr} {l : List Nat} {sl : Addr} {x y : Option (Int × Tok)} {t : Tok} {Q : Value → Shared → Prop} (hsl : s.heap.IsSlice sl x y none) (hl : l.length ≤ 1000000)
    (h : ∀ t' tk, Q (.str (S (cut l (x.map (·.1)) (y.map (·.1)))) t') { s with toks := tk }) :
    wpAny (model prog w) A (subscriptTail base (.Slice lo hi none p) (.str (S l) t) (.ref sl)) Q NoE s := by
  refine tail_any (typeIs_str _ _ _) F.slot_str_getitem.lookup (wpAny_getItem_str_slice hsl rfl ?_) rfl
  have e := slice_S l (x.map (·.1)) (y.map (·.1))
  have hle := Txt.slice_le (S l) (x.map (·.1)) (y.map (·.1))
  have hz := S_len l
  have hle2 : (Txt.slice (S l) (x.map (·.1)) (y.map (·.1))).length ≤ sizeLine := by rw [sizeLine_eq]; lia
  exact post_val_or_str ⟨hle2, fun t' k => (by have := h t' k; rw [← e] at this; exact this)⟩
end
end Mine
end

section
open PySem PySem.W PySem.Calls PyProof.Rows PySem.Builtin PySem.Builtin.ObjectAttr
set_option Elab.async false
set_option maxRecDepth 100000
set_option autoImplicit false
namespace Mine
namespace BF
theorem slot_ga : Slot "list" "__getattribute__" "list.__getattribute__" :=
  .of (owner := "list") (n := "__getattribute__") (by rw [typeLookup_type, builtinLookup_eq_fast]; kernel_rfl) (by decide +kernel) (by decide +kernel) (by decide +kernel)
    (by first | exact .inl (by decide +kernel) | exact .inr (by decide +kernel)) (by rw [isSubtype_type]; kernel_rfl)
theorem entry_ga : entryFor table "list.__getattribute__" = some Builtin.«object.__getattribute__» :=
  entryFor_alias (id' := "object.__getattribute__") (by kernel_rfl) (by first | rfl | decide +kernel) (by decide +kernel) (by kernel_rfl)
end BF
end Mine
end

section
open PySem PySem.W PySem.Calls PyProof.Rows PySem.Builtin PySem.Builtin.ObjectAttr
set_option Elab.async false
set_option maxRecDepth 100000
set_option autoImplicit false
set_option maxHeartbeats 4000000
namespace Mine
namespace BF
theorem no_ga : typeLookup (.type "list") "__getattr__" = pure none := by rw [typeLookup_type, builtinLookup_eq_fast]; kernel_rfl
theorem args_ga (a b : Value) : argsOk "list.__getattribute__" ⟨[a, b], []⟩ := by unfold argsOk; kernel_rfl
theorem slot_md : Slot "method_descriptor" "__get__" "method_descriptor.__get__" :=
  .of (owner := "method_descriptor") (n := "__get__") (by rw [typeLookup_type, builtinLookup_eq_fast]; kernel_rfl) (by decide +kernel) (by decide +kernel) (by decide +kernel)
    (by first | exact .inl (by decide +kernel) | exact .inr (by decide +kernel)) (by rw [isSubtype_type]; kernel_rfl)
theorem entry_md : entryFor table "method_descriptor.__get__" = some Builtin.«method_descriptor.__get__» := entryFor_of_tree (by kernel_rfl)
theorem args_md (a b c : Value) : argsOk "method_descriptor.__get__" ⟨[a, b, c], []⟩ := by unfold argsOk; kernel_rfl
theorem md_set : typeLookup (.type "method_descriptor") "__set__" = pure none := by rw [typeLookup_type, builtinLookup_eq_fast]; kernel_rfl
theorem md_del : typeLookup (.type "method_descriptor") "__delete__" = pure none := by rw [typeLookup_type, builtinLookup_eq_fast]; kernel_rfl
theorem owner_append : (".".intercalate ("list.append".cutAt '.').dropLast) = "list" := by
  have e0 : "list.append".cutAt '.' = ["list", "append"] := by first | rfl | decide +kernel
  rw [e0]; decide +kernel
theorem sub_append : isSubtype (.type "list") (.type (".".intercalate ("list.append".cutAt '.').dropLast)) = pure true := by rw [owner_append, isSubtype_type]; kernel_rfl
end BF
abbrev boundOf (id : String) (self : Value) : Obj := { cls := .type "builtin_function_or_method", data := .fields #[.builtin id, self] }
section
variable {prog : Program} {w : World} {A : Around} {E : Value → Shared → Prop} {h : Heap} {g : Array GenState} {d : Drawn} {t : Nat} {os : OsState} {a : Addr} {its : Array Value} {n : Nat}
theorem append_entry {tk : Tok} {Q : Fin → Shared → Prop} (hx : h.get? a = some (listOf its n)) (hq : Q (.done (.ret (.ref h.objs.size))) ⟨h.push (boundOf "list.append" (.ref a)), g, d, t, os⟩) :
    wpAny (model prog w) A (Builtin.«object.__getattribute__» ⟨[.ref a, .str "append" tk], []⟩) Q E ⟨h, g, d, t, os⟩ := by
  have hT : (⟨h, g, d, t, os⟩ : Shared).TypeIs (.ref a) "list" := ⟨_, hx, rfl⟩
  have hT5 : (⟨h, g, d, t, os⟩ : Shared).TypeIs (.builtin "list.append") "method_descriptor" := F.type_list_append
  have f4 := F.slot_list_append.lookup
  have f6 := BF.slot_md.lookup
  have f7 := BF.md_set
  have f8 := BF.md_del
  repeat (any_goals (first | assumption | wp_step))
  refine codeAny_call_builtin BF.slot_md.plain BF.entry_md (BF.slot_md.check _ _ _ _ _ _ _ _ hT5 (BF.args_md _ _ _) ?_)
  have f9 := BF.sub_append
  have g1 : Manifest.toldItsClass.contains "list.append" = false := by decide +kernel
  repeat (any_goals (first | assumption | wp_step))
theorem append_attr {expr : Bool} {Q : Value → Shared → Prop} (hx : h.get? a = some (listOf its n)) (hq : Q (.ref h.objs.size) ⟨h.push (boundOf "list.append" (.ref a)), g, d, t + 1, os⟩) :
    wpAny (model prog w) A (getAttr (.ref a) "append" expr) Q E ⟨h, g, d, t, os⟩ := by
  have hT : (⟨h, g, d, t + 1, os⟩ : Shared).TypeIs (.ref a) "list" := ⟨_, hx, rfl⟩
  have f2 := BF.slot_ga.lookup
  have f3 := BF.slot_ga.bind (.ref a)
  have hx0 : (expr && onTheHeap (Value.builtin "list.__getattribute__")) = false := by cases expr <;> rfl
  unfold getAttr
  repeat (any_goals (first | assumption | wp_step))
  refine codeAny_call_builtin BF.slot_ga.plain BF.entry_ga (BF.slot_ga.check _ _ _ _ _ _ _ _ hT (BF.args_ga _ _) (append_entry hx ?_))
  repeat (any_goals (first | assumption | wp_step))
theorem check_bound_append {l : Addr} {v : Value} {s : Shared} {Q : Unit → Shared → Prop} (hl : s.heap.get? l = some (listOf its n)) (h : Q () s) : wpAny (model prog w) A (checkBoundCall "list.append" ⟨[.ref l, v], []⟩) Q E s := by
  have k1 : isSubtype (listOf its n).cls (.type "module") = pure false := by show isSubtype (.type "list") _ = _; rw [isSubtype_type]; kernel_rfl
  have k2 : isSubtype (listOf its n).cls (.type "type") = pure false := by show isSubtype (.type "list") _ = _; rw [isSubtype_type]; kernel_rfl
  have k3 := F.args_list_append_2 (.ref l) v
  obtain ⟨hh, g, d, t, os⟩ := s
  unfold checkBoundCall
  repeat (any_goals (first | assumption | wp_step))
theorem bound_append {u l : Addr} {v : Value} {s : Shared} {Q : Value → Shared → Prop} (hu : s.heap.get? u = some (boundOf "list.append" (.ref l)))  (hl : s.heap.get? l = some (listOf its n))
    (h : ∀ h', Heap.SameBut l s.heap h' → h'.get? l = some (listOf (its.push v) (n + 1)) → Q .none { s with heap := h' }) (hsz : its.size ≤ sizeLine := by size_fits) :
    wpAny (model prog w) A (call (.ref u) [v]) Q E s := by
  refine wpAny_call ?_
  refine codeAny_of_tree ?_
  have k4 : (Code.builtin "list.append" ⟨[.ref l, v], []⟩).quiet = true := Code.quiet_builtin _ (by decide +kernel)
  obtain ⟨hh, g, d, t, os⟩ := s
  show wpAny _ _ (callAny (.ref u) ⟨[v], []⟩) _ _ _
  repeat (any_goals (first | assumption | ((with_reducible show wpAny _ _ (checkBoundCall _ _) _ _ _); refine check_bound_append hl ?_) | wp_step))
  refine ⟨k4, codeAny_builtin F.entry_list_append ?_⟩
  show wpAny _ _ (updateSeq l (·.push v) >>= fun _ => ret .none) _ _ _
  refine wpAny_bind (wpAny_updateSeq hl rfl (wpAny_pure ?_))
  refine h _ (Heap.SameBut.update ..) ?_
  rw [Heap.get?_update_self _ hl rfl]
  simp [Obj.mapSeq]
theorem append_attr_sd {H : Heap} {fs : Ledg} {L : Addr} {m : Vm} {led : Ledg} {s : Shared} {expr : Bool} {Q : Value → Shared → Prop} (D : Sd H fs L m s.heap led) (hm : (a, listOf its n) ∈ led)
    (h : ∀ u h' tk, Sd H fs L m h' ((u, boundOf "list.append" (.ref a)) :: led) → Q (.ref u) { s with heap := h', toks := tk }) : wpAny (model prog w) A (getAttr (.ref a) "append" expr) Q NoE s :=
  append_attr (D.get hm) (h _ _ _ (D.push _))
theorem bound_append_sd {H : Heap} {fs : Ledg} {L : Addr} {m : Vm} {led : Ledg} {s : Shared} {u : Addr} {v : Value} {Q : Value → Shared → Prop} (D : Sd H fs L m s.heap led) (hu : (u, boundOf "list.append" (.ref a)) ∈ led) (i : Nat) (hi : led[i]? = some (a, listOf its n))
    (h : ∀ h' tk, Sd H fs L m h' (led.set i (a, listOf (its.push v) (n + 1))) → Q .none { s with heap := h', toks := tk }) (hsz : its.size ≤ sizeLine := by size_fits) : wpAny (model prog w) A (call (.ref u) [v]) Q NoE s :=
  bound_append (hsz := hsz) (D.get hu) (D.get (List.mem_of_getElem? hi)) fun h' hs ho => h h' _ (D.set i hi hs ho)
theorem callWith_bound1 {H : Heap} {fs : Ledg} {L : Addr} {m : Vm} {led : Ledg} {s : Shared} {env : Env} {u : Addr} {id : String} {self : Value} {pos : Pos} {e : Expr} {Q : Value → Shared → Prop} (D : Sd H fs L m s.heap led) (hu : (u, boundOf id self) ∈ led)
    (h : wpAny (model prog w) A (eval e env) (fun v s₁ => s₁.heap.get? u = some (boundOf id self) ∧ wpAny (model prog w) A (call (.ref u) [v]) Q NoE s₁) NoE s)
    (he : starEach [e] env = [(false, eval e env)] := by rfl) :
    wpAny (model prog w) A (callWith pos (.ref u) [] (backTo pos (starEach [e] env)) []) Q NoE s := by
  have _ := D.get hu
  rw [he]
  refine callWith_of (P := fun h => h.get? u = some (boundOf id self)) (by rfl) (fun h ho => ⟨.machine, .inr (.inl rfl), (Looks.ld (part := none) ho).andThen .now⟩) ?_
  exact evalArgs_plain (Calls.spliced_cons (wpAny_mono h (fun v s₁ h₁ => Calls.spliced_nil h₁) fun _ _ x => x))
end
end Mine
end

section
open PySem PySem.W PySem.Calls PyProof.Rows
set_option Elab.async false
set_option maxRecDepth 100000
set_option autoImplicit false
namespace Mine
noncomputable abbrev PR : Program := PySem.Challenge.rw_ij0176_01.row.prog
noncomputable abbrev KK (w : World) : Frag := Mine.KK0 w.params
namespace KF
variable (w : World)
theorem g_translate : nsIn (KK w) mainGlobals "translate" = some (some (.ref 43)) := by kernel_rfl
theorem g_twin : nsIn (KK w) mainGlobals "_twin_re_1" = some (some (.ref 36)) := by kernel_rfl
theorem g_special : nsIn (KK w) mainGlobals "_special_chars_map" = some (some (.ref 45)) := by kernel_rfl
theorem g_escape : nsIn (KK w) mainGlobals "escape" = some (some (.ref 55)) := by kernel_rfl
theorem g_trans : nsIn (KK w) mainGlobals "_translate" = some (some (.ref 62)) := by kernel_rfl
theorem g_join : nsIn (KK w) mainGlobals "_join_translated_parts" = some (some (.ref 69)) := by kernel_rfl
theorem g_exact : nsIn (KK w) mainGlobals "EXACT_TOKEN_TYPES" = some (some (.ref 70)) := by kernel_rfl
theorem g_isterm : nsIn (KK w) mainGlobals "ISTERMINAL" = some (some (.ref 79)) := by kernel_rfl
theorem g_ops : nsIn (KK w) mainGlobals "_law_operators" = some (some (.ref 84)) := by kernel_rfl
theorem g_front : nsIn (KK w) mainGlobals "_law_front" = some (some (.ref 91)) := by kernel_rfl
theorem g_takers : nsIn (KK w) mainGlobals "_law_takers" = some (some (.ref 96)) := by kernel_rfl
theorem g_read : nsIn (KK w) mainGlobals "_law_read" = some (some (.ref 103)) := by kernel_rfl
theorem g_fewest : nsIn (KK w) mainGlobals "_law_fewest" = some (some (.ref 108)) := by kernel_rfl
theorem g_apart : nsIn (KK w) mainGlobals "_law_apart" = some (some (.ref 113)) := by kernel_rfl
theorem k_fns : ([43, 55, 62, 69, 79, 84, 91, 96, 103, 108, 113] : List Addr).all (fun a => keepIn (KK w) (.ref a)) = true := by kernel_rfl
theorem n_len : nsIn (KK w) mainGlobals "len" = some none := by kernel_rfl
theorem b_len : bootBuiltins "len" = some (.builtin "len") := by first | rfl | kernel_rfl | decide +kernel
end KF
end Mine
end

section
open PySem PySem.W PySem.Calls PyProof.Rows
set_option Elab.async false
set_option maxRecDepth 100000
set_option autoImplicit false
namespace Mine
noncomputable def Lo : List (Str × Value) → Vm → Vm
  | [], u => u
  | (x, v) :: r, u => fun y => if y = x then some v else Lo r u y
noncomputable def Has : List (Str × Value) → Vm → Prop
  | [], _ => True
  | (x, v) :: r, u => u x = some v ∧ Has r u
theorem Lo_eq {u : Vm} : ∀ {l : List (Str × Value)}, Has l u → Lo l u = u
  | [], _ => rfl
  | (x, v) :: r, h => by
    funext y
    show (if y = x then some v else Lo r u y) = u y
    rw [Lo_eq h.2]
    by_cases e : y = x
    · rw [if_pos e, e, h.1]
    · rw [if_neg e]
theorem Sd.lo {H h : Heap} {fs : Ledg} {L : Addr} {u : Vm} {led : Ledg} (D : Sd H fs L u h led) {l : List (Str × Value)} (hl : Has l u) : Sd H fs L (Lo l u) h led := by rw [Lo_eq hl]; exact D

section
variable {prog : Program} {w : World} {A : Around} {s : Shared} {env : Env} {H : Heap} {fs : Ledg} {L : Addr} {m : Vm} {led : Ledg} {K : Frag}
theorem unpack2 {a b : Value} {x y : Str} {t : Addr} {Q : Unit → Shared → Prop} (D : Sd H fs env.locals m s.heap led) (ht : (t, tupOf [a, b]) ∈ led) (hh : A.handled = none)
    (h : ∀ h' tk, Sd H fs env.locals (fun z => if z = x then some a else if z = y then some b else m z) h' led → Q () { s with heap := h', toks := tk })
    (hx : env.kindOf x = some .local := by rfl) (hy : env.kindOf y = some .local := by rfl) (hk : env.scope.kind = .function := by rfl) :
    wpAny (model prog w) A (unpackItems (.ref t) 2 none) (fun items s₂ => wpAny (model prog w) A (assignInOrder ([y, x].map fun n => bindName env n) items.reverse) Q NoE s₂) NoE s := by
  refine unpackItemsN_ D.fr D.nw ⟨_, D.get ht, rfl, ⟨_, rfl⟩⟩ hh rfl fun h' F' N' => ?_
  have D' := D.same F' N'
  refine wpAny_assignInOrder_more (wpAny_bindName (st_local D' (fun h₁ tk₁ D₁ => ?_) hk hy))
  refine wpAny_assignInOrder_more (wpAny_bindName (st_local D₁ (fun h₂ tk₂ D₂ => ?_) hk hx))
  exact wpAny_assignInOrder_none (h _ _ D₂)

theorem pair_sw {a b : Value} {x y : Str} {Q : Shared → Prop} (D : Sd H fs env.locals m s.heap led) (hh : A.handled = none)
    (h : ∀ h' tk, Sd H fs env.locals (fun z => if z = x then some a else if z = y then some b else m z) h' led → Q { s with heap := h', toks := tk })
    (hx : env.kindOf x = some .local := by rfl) (hy : env.kindOf y = some .local := by rfl) (hk : env.scope.kind = .function := by rfl) :
    wpAny (model prog w) A (newTuple [a, b]) (fun v s₁ => wpAny (model prog w) A (unpackItems v [x, y].length none) (fun items s₂ => wpAny (model prog w) A (assignInOrder ([x, y].reverse.map fun n => bindName env n) items.reverse) (fun _ s' => Q s') NoE s₂) NoE s₁) NoE s := by
  refine newTuple_sd D (fun t h1 tk1 D1 => ?_) (by rw [sizeLine_eq]; show 2 ≤ 16777216; decide)
  exact unpack2 (Q := fun _ s' => Q s') D1 (.head _) hh (fun h' tk D' => h h' tk D'.tail) hx hy hk
theorem pair_un {a b : Value} {x y : Str} {px py tp : Pos} {k : Nat} {Q : Shared → Prop} (D : Sd H fs env.locals m s.heap led) (hh : A.handled = none)
    (h : ∀ h' tk, Sd H fs env.locals (fun z => if z = y then some b else if z = x then some a else m z) h' led → Q { s with heap := h', toks := tk })
    (hx : env.kindOf x = some .local := by rfl) (hy : env.kindOf y = some .local := by rfl) (hk : env.scope.kind = .function := by rfl) :
    wpAny (model prog w) A (newTuple [a, b]) (fun v s₁ => wpAny (model prog w) A (assign (.Tuple [.Name x px, .Name y py] k tp) env v) (fun _ s' => Q s') NoE s₁) NoE s := by
  refine newTuple_sd D (fun t h1 tk1 D1 => ?_) (by rw [sizeLine_eq]; show 2 ≤ 16777216; decide)
  refine unpackN_ D1.fr D1.nw ⟨_, D1.get (.head _), rfl, ⟨_, rfl⟩⟩ hh rfl rfl fun h' F' N' => ?_
  have D' := (D1.same F' N').tail
  refine wpAny_assignInOrder_more (wpAny_assign_Name (st_local D' (fun h₁ tk₁ D₁ => ?_) hk hx))
  refine wpAny_assignInOrder_more (wpAny_assign_Name (st_local D₁ (fun h₂ tk₂ D₂ => ?_) hk hy))
  exact wpAny_assignInOrder_none (h _ _ D₂)
end
end Mine
end

section
open PySem PySem.W PySem.Calls PyProof.Rows
set_option Elab.async false
set_option maxRecDepth 100000
set_option autoImplicit false
namespace Mine
theorem iteY {b : Bool} {P R : Prop} (h : b = true) (p : P) : if b = true then P else R := by rw [if_pos h]; exact p
theorem iteN {b : Bool} {P R : Prop} (h : b = false) (r : R) : if b = true then P else R := by rw [if_neg (by rw [h]; decide)]; exact r
section
variable {prog : Program} {w : World} {A : Around} {s : Shared} {env : Env} {H : Heap} {fs : Ledg} {L : Addr} {m : Vm} {led : Ledg} {K : Frag}
theorem add_I {a b : Int} {t u : Tok} {Q : Value → Shared → Prop} (h : ∀ t' tk, Q (.int (a + b) t') { s with toks := tk }) : wpAny (model prog w) A (binaryOp .Add (.int a t) (.int b u)) Q NoE s := PyProof.Rows.add_int (h _ _)
theorem sub_I {a b : Int} {t u : Tok} {Q : Value → Shared → Prop} (h : ∀ t' tk, Q (.int (a - b) t') { s with toks := tk }) : wpAny (model prog w) A (binaryOp .Sub (.int a t) (.int b u)) Q NoE s := PyProof.Rows.sub_int (h _ _)
theorem iadd_I {a b : Int} {t u : Tok} {Q : Value → Shared → Prop} (h : ∀ t' tk, Q (.int (a + b) t') { s with toks := tk }) : wpAny (model prog w) A (inplaceOp .Add (.int a t) (.int b u)) Q NoE s := PyProof.Rows.iadd_int (h _ _)
theorem lt_I {a b : Int} {t u : Tok} {Q : Value → Shared → Prop} (h : Q (.bool (decide (a < b))) s) : wpAny (model prog w) A (compareOp .Lt (.int a t) (.int b u)) Q NoE s := PyProof.Rows.lt_int h
theorem gt_I {a b : Int} {t u : Tok} {Q : Value → Shared → Prop} (h : Q (.bool (decide (b < a))) s) : wpAny (model prog w) A (compareOp .Gt (.int a t) (.int b u)) Q NoE s := PyProof.Rows.gt_int h
theorem le_I {a b : Int} {t u : Tok} {Q : Value → Shared → Prop} (h : Q (.bool (decide (a ≤ b))) s) : wpAny (model prog w) A (compareOp .LtE (.int a t) (.int b u)) Q NoE s := PyProof.Rows.le_int h
theorem ge_I {a b : Int} {t u : Tok} {Q : Value → Shared → Prop} (h : Q (.bool (decide (b ≤ a))) s) : wpAny (model prog w) A (compareOp .GtE (.int a t) (.int b u)) Q NoE s := PyProof.Rows.ge_int h
theorem eq_I {a b : Int} {t u : Tok} {Q : Value → Shared → Prop} (h : Q (.bool (decide (a = b))) s) : wpAny (model prog w) A (compareOp .Eq (.int a t) (.int b u)) Q NoE s :=
  PyProof.Rows.eq_int (by rw [show (a == b) = decide (a = b) from by by_cases e : a = b <;> simp [e]]; exact h)
theorem ne_I {a b : Int} {t u : Tok} {Q : Value → Shared → Prop} (h : Q (.bool (decide (a ≠ b))) s) : wpAny (model prog w) A (compareOp .NotEq (.int a t) (.int b u)) Q NoE s :=
  PyProof.Rows.ne_int (by rw [show (a != b) = decide (a ≠ b) from by by_cases e : a = b <;> simp [e]]; exact h)
theorem len_L {l : Addr} {vs : List Value} {n : Nat} {Q : Value → Shared → Prop} (D : Sd H fs L m s.heap led) (hl : (l, listOf vs.toArray n) ∈ led) (hsz : vs.length ≤ 1000000) (h : ∀ t' tk, Q (.int (vs.length : Int) t') { s with toks := tk }) :
    wpAny (model prog w) A (call (.builtin "len") [.ref l]) Q NoE s :=
  PyProof.Rows.len_list ⟨_, D.get hl, rfl, ⟨_, rfl⟩⟩ (by simp; lia) (by simpa using h _ _)
theorem tail_list {value slice : Expr} {l : Addr} {vs : List Value} {n : Nat} {i : Int} {k : Nat} {u : Tok} {v : Value} {Q : Value → Shared → Prop} (D : Sd H fs L m s.heap led) (hl : (l, listOf vs.toArray n) ∈ led) (hi : i = (k : Int)) (hv : vs[k]? = some v) (hsz : vs.length ≤ 1000000) (h : Q v s)
    (hs : subscripted slice false (.ref l) (.int i u) = operate [.ref l, .int i u] (getItem (.ref l) (.int i u)) := by rfl) :
    wpAny (model prog w) A (subscriptTail value slice (.ref l) (.int i u)) Q NoE s := by
  subst hi
  have hlt := (List.getElem?_eq_some_iff.mp hv).1
  have hL : s.heap.IsList l vs.toArray := ⟨_, D.get hl, rfl, ⟨_, rfl⟩⟩
  exact tail_any hL.typeIs slot_list_getitem.lookup (wpAny_getItem_list hL (by lia) (by lia) (by simpa using hv) h) hs
theorem tail_list_last {value slice : Expr} {l : Addr} {vs : List Value} {n : Nat} {u : Tok} {v : Value} {Q : Value → Shared → Prop} (D : Sd H fs L m s.heap led) (hl : (l, listOf (vs ++ [v]).toArray n) ∈ led) (hsz : vs.length ≤ 1000000) (h : Q v s)
    (hs : subscripted slice false (.ref l) (.int (-1) u) = operate [.ref l, .int (-1) u] (getItem (.ref l) (.int (-1) u)) := by rfl) :
    wpAny (model prog w) A (subscriptTail value slice (.ref l) (.int (-1) u)) Q NoE s := by
  have hL : s.heap.IsList l (vs ++ [v]).toArray := ⟨_, D.get hl, rfl, ⟨_, rfl⟩⟩
  refine tail_any hL.typeIs slot_list_getitem.lookup (wpAny_getItem_list_neg hL (by lia) (by simp; lia) (by lia) ?_ h) hs
  have e : (-1 + (((vs ++ [v]).toArray.size : Nat) : Int)).toNat = vs.length := by simp; lia
  rw [e]; simp
theorem truthy_L {l : Addr} {vs : List Value} {n : Nat} {Q : Bool → Shared → Prop} (D : Sd H fs L m s.heap led) (hl : (l, listOf vs.toArray n) ∈ led) (hsz : vs.length ≤ 1000000) (h : ∀ tk, Q (!vs.isEmpty) { s with toks := tk }) :
    wpAny (model prog w) A (truthy (.ref l)) Q NoE s :=
  wpAny_truthy_list (items := vs.toArray) ⟨_, D.get hl, rfl, ⟨_, rfl⟩⟩ (by simp; lia) (by simpa using h _)
theorem is_other {x : Addr} {v : Value} {ox : Obj} {Q : Value → Shared → Prop} (D : Sd H fs L m s.heap led) (hx : (x, ox) ∈ led) (hv : ∀ a, v ≠ .ref a) (hp : plainIs v (.ref x) = true) (h : Q (.bool true) s) : wpAny (model prog w) A (compareOp .IsNot v (.ref x)) Q NoE s :=
  wpAny_isNot_other hp (hv x) h
end
end Mine
end

section
open PySem PySem.W PySem.Calls PyProof.Rows
set_option Elab.async false
set_option maxRecDepth 100000
set_option autoImplicit false
namespace Mine
abbrev SV (v : Value) (l : List Nat) : Prop := ∃ t, v = .str (S l) t
abbrev SVs := Paired SV
theorem SVs.strs {vs : List Value} {ls : List (List Nat)} (h : SVs vs ls) : StrsAre vs (ls.map S) := by
  induction h with
  | nil => exact .nil
  | cons h _ ih => obtain ⟨t, rfl⟩ := h; exact .cons _ _ ih
theorem SVs.get {vs : List Value} {ls : List (List Nat)} (h : SVs vs ls) {i : Nat} {l : List Nat} (e : ls[i]? = some l) : ∃ t, vs[i]? = some (.str (S l) t) := by
  induction h generalizing i with
  | nil => simp at e
  | @cons v l' vs ls h _ ih =>
    obtain ⟨t, rfl⟩ := h
    cases i with
    | zero => simp at e; subst e; exact ⟨t, rfl⟩
    | succ i => simp at e; obtain ⟨t', e'⟩ := ih e; exact ⟨t', by simpa using e'⟩
theorem SVs.len {vs : List Value} {ls : List (List Nat)} (h : SVs vs ls) : vs.length = ls.length := h.length
theorem SVs.take {vs : List Value} {ls : List (List Nat)} (h : SVs vs ls) : ∀ n, SVs (vs.take n) (ls.take n) := by
  induction h with
  | nil => intro n; simp; exact .nil
  | cons h _ ih => intro n; cases n with
    | zero => exact .nil
    | succ n => exact .cons h (ih n)
theorem S_join : ∀ ls : List (List Nat), Str.join (S []) (ls.map S) = S ls.flatten
  | [] => rfl
  | l :: r => by
    rw [List.map_cons, PyProof.Rows.join_nil_cons, S_join r, S_app]; rfl
theorem lens_S (ls : List (List Nat)) : ((ls.map S).map (·.length)).sum = ls.flatten.length := by
  induction ls with
  | nil => rfl
  | cons l r ih => simp only [List.map_cons, List.sum_cons, S_len, List.flatten_cons, List.length_append]; lia

theorem Sd.kIn {K : Frag} {H h : Heap} {fs : Ledg} {L : Addr} {m : Vm} {led : Ledg} (D : Sd H fs L m h led) (X : K.In H) : K.In h := X.keeps D.fr.keep
section
variable {prog : Program} {w : World} {A : Around} {s : Shared} {env : Env} {H : Heap} {fs : Ledg} {L : Addr} {m : Vm} {led : Ledg} {K : Frag}
theorem join_S {l : Addr} {vs : List Value} {ls : List (List Nat)} {n : Nat} {t : Tok} {Q : Value → Shared → Prop} (D : Sd H fs L m s.heap led) (hl : (l, listOf vs.toArray n) ∈ led) (hv : SVs vs ls) (hsz : ls.flatten.length ≤ 1000000)
    (h : ∀ t' tk, Q (.str (S ls.flatten) t') { s with toks := tk }) : wpAny (model prog w) A (call (.builtin "str.join") [.str (S []) t, .ref l]) Q NoE s := by
  refine join_list (items := vs.toArray) (ys := ls.map S) ⟨_, D.get hl, rfl, ⟨_, rfl⟩⟩ hv.strs ?_ fun t' k => ?_
  · rw [lens_S, S_len]; simp only [List.length_nil, Nat.mul_zero]; lia
  · have e : Txt.join (S []) (ls.map S) = S ls.flatten := by
      rw [← S_join]; exact beq_iff_eq.mp (join_plain_closes _ _)
    rw [e]; exact h t' k
theorem meth1_str {o e : Expr} {name : Str} {id : String} {apos pos : Pos} {Q : Value → Shared → Prop} (slot : Slot "str" name id) (hty : typeOf (.builtin id) = pure (.type "method_descriptor"))
    (h : wpAny (model prog w) A (eval o env) (fun ov s₁ => (∃ x t, ov = .str x t) ∧ wpAny (model prog w) A (eval e env) (fun v s₂ => wpAny (model prog w) A (call (.builtin id) [ov, v]) Q NoE s₂) NoE s₁) NoE s)
    (hbase : attributeBase o name env (eval o env) = eval o env := by rfl) (hline : (apos.endLine == pos.line) = true := by rfl) (he : starEach [e] env = [(false, eval e env)] := by rfl) :
    wpAny (model prog w) A (eval (.Call (.Attribute o name apos) [e] [] pos) env) Q NoE s := by
  refine wpAny_Call_method hbase (by rw [he]; rfl) hline F.plainAttrs_str slot hty (wpAny_mono h (fun ov s₁ h₁ => ?_) fun _ _ x => x)
  obtain ⟨⟨x, t, rfl⟩, h₁⟩ := h₁
  refine ⟨typeIs_str _ _ _, fun a e => (nomatch e), ?_⟩
  refine callWith_method1 (rest := []) ?_ he rfl
  refine spliced_more ?_ he
  exact wpAny_mono h₁ (fun v s₂ h₂ => spliced_none h₂) fun _ _ x => x
theorem meth1_list {o e : Expr} {name : Str} {id : String} {apos pos : Pos} {Q : Value → Shared → Prop} (slot : Slot "list" name id) (hty : typeOf (.builtin id) = pure (.type "method_descriptor"))
    (h : wpAny (model prog w) A (eval o env) (fun ov s₁ => (∃ l its n, ov = .ref l ∧ s₁.heap.get? l = some (listOf its n)) ∧ wpAny (model prog w) A (eval e env) (fun v s₂ => wpAny (model prog w) A (call (.builtin id) [ov, v]) Q NoE s₂) NoE s₁) NoE s)
    (hbase : attributeBase o name env (eval o env) = eval o env := by rfl) (hline : (apos.endLine == pos.line) = true := by rfl) (he : starEach [e] env = [(false, eval e env)] := by rfl) :
    wpAny (model prog w) A (eval (.Call (.Attribute o name apos) [e] [] pos) env) Q NoE s := by
  refine wpAny_Call_method hbase (by rw [he]; rfl) hline F.plainAttrs_list slot hty (wpAny_mono h (fun ov s₁ h₁ => ?_) fun _ _ x => x)
  obtain ⟨⟨l, its, n, rfl, hl⟩, h₁⟩ := h₁
  refine ⟨⟨_, hl, rfl⟩, fun a e => (by cases e; exact ⟨_, hl, rfl⟩), ?_⟩
  refine callWith_method1 (rest := []) ?_ he rfl
  refine spliced_more ?_ he
  exact wpAny_mono h₁ (fun v s₂ h₂ => spliced_none h₂) fun _ _ x => x
/-- a call of a bound append kept under a local name -/
theorem callBound {x : Str} {u : Addr} {id : String} {self : Value} {p pos : Pos} {e : Expr} {Q : Value → Shared → Prop} (D : Sd H fs env.locals m s.heap led) (hv : m x = some (.ref u)) (hu : (u, boundOf id self) ∈ led)
    (h : wpAny (model prog w) A (eval e env) (fun v s₁ => s₁.heap.get? u = some (boundOf id self) ∧ wpAny (model prog w) A (call (.ref u) [v]) Q NoE s₁) NoE s)
    (hk : env.scope.kind = .function := by rfl) (hx : env.kindOf x = some .local := by rfl) (hd : (x == ("__debug__" : Str)) = false := by decide)
    (he : starEach [e] env = [(false, eval e env)] := by rfl) : wpAny (model prog w) A (eval (.Call (.Name x p) [e] [] pos) env) Q NoE s :=
  wpAny_Call_Name_kw (nm_local D hv (callWith_bound1 D hu h he) hk hx hd)
end
end Mine
end

section
open PySem PySem.W PySem.Calls PyProof.Rows
set_option Elab.async false
set_option autoImplicit false
namespace Mine
theorem lit0 : Str.ofString "." = S [46] := by decide +kernel
theorem lit1 : Str.ofString "*" = S [42] := by decide +kernel
theorem lit2 : Str.ofString "?" = S [63] := by decide +kernel
theorem lit3 : Str.ofString "[" = S [91] := by decide +kernel
theorem lit4 : Str.ofString "!" = S [33] := by decide +kernel
theorem lit5 : Str.ofString "]" = S [93] := by decide +kernel
theorem lit6 : Str.ofString "\\[" = S [92, 91] := by decide +kernel
theorem lit7 : Str.ofString "-" = S [45] := by decide +kernel
theorem lit8 : Str.ofString "\\" = S [92] := by decide +kernel
theorem lit9 : Str.ofString "\\\\" = S [92, 92] := by decide +kernel
theorem lit10 : Str.ofString "^" = S [94] := by decide +kernel
theorem lit11 : Str.ofString "" = S [] := by decide +kernel
theorem lit12 : Str.ofString ".*" = S [46, 42] := by decide +kernel
theorem lit13 : Str.ofString "(?s:" = S [40, 63, 115, 58] := by decide +kernel
theorem lit14 : Str.ofString ")\\Z" = S [41, 92, 90] := by decide +kernel
theorem lit15 : Str.ofString ".*)\\Z" = S [46, 42, 41, 92, 90] := by decide +kernel
theorem lit16 : Str.ofString ".^$*+?{}()|" = S [46, 94, 36, 42, 43, 63, 123, 125, 40, 41, 124] := by decide +kernel
theorem lit17 : Str.ofString "]^" = S [93, 94] := by decide +kernel
theorem lit18 : Str.ofString "a" = S [97] := by decide +kernel
theorem lit19 : Str.ofString "*?[" = S [42, 63, 91] := by decide +kernel
theorem lit20 : Str.ofString " " = S [32] := by decide +kernel
theorem lit21 : Str.ofString "[*]" = S [91, 42, 93] := by decide +kernel
theorem lit22 : Str.ofString "(" = S [40] := by decide +kernel
theorem lit23 : Str.ofString ")" = S [41] := by decide +kernel
theorem lit24 : Str.ofString ":" = S [58] := by decide +kernel
theorem lit25 : Str.ofString "," = S [44] := by decide +kernel
theorem lit26 : Str.ofString ";" = S [59] := by decide +kernel
theorem lit27 : Str.ofString "+" = S [43] := by decide +kernel
theorem lit28 : Str.ofString "/" = S [47] := by decide +kernel
theorem lit29 : Str.ofString "|" = S [124] := by decide +kernel
theorem lit30 : Str.ofString "&" = S [38] := by decide +kernel
theorem lit31 : Str.ofString "<" = S [60] := by decide +kernel
theorem lit32 : Str.ofString ">" = S [62] := by decide +kernel
theorem lit33 : Str.ofString "=" = S [61] := by decide +kernel
theorem lit34 : Str.ofString "%" = S [37] := by decide +kernel
theorem lit35 : Str.ofString "{" = S [123] := by decide +kernel
theorem lit36 : Str.ofString "}" = S [125] := by decide +kernel
theorem lit37 : Str.ofString "==" = S [61, 61] := by decide +kernel
theorem lit38 : Str.ofString "!=" = S [33, 61] := by decide +kernel
theorem lit39 : Str.ofString "<=" = S [60, 61] := by decide +kernel
theorem lit40 : Str.ofString ">=" = S [62, 61] := by decide +kernel
theorem lit41 : Str.ofString "~" = S [126] := by decide +kernel
theorem lit42 : Str.ofString "<<" = S [60, 60] := by decide +kernel
theorem lit43 : Str.ofString ">>" = S [62, 62] := by decide +kernel
theorem lit44 : Str.ofString "**" = S [42, 42] := by decide +kernel
theorem lit45 : Str.ofString "+=" = S [43, 61] := by decide +kernel
theorem lit46 : Str.ofString "-=" = S [45, 61] := by decide +kernel
theorem lit47 : Str.ofString "*=" = S [42, 61] := by decide +kernel
theorem lit48 : Str.ofString "/=" = S [47, 61] := by decide +kernel
theorem lit49 : Str.ofString "%=" = S [37, 61] := by decide +kernel
theorem lit50 : Str.ofString "&=" = S [38, 61] := by decide +kernel
theorem lit51 : Str.ofString "|=" = S [124, 61] := by decide +kernel
theorem lit52 : Str.ofString "^=" = S [94, 61] := by decide +kernel
theorem lit53 : Str.ofString "<<=" = S [60, 60, 61] := by decide +kernel
theorem lit54 : Str.ofString ">>=" = S [62, 62, 61] := by decide +kernel
theorem lit55 : Str.ofString "**=" = S [42, 42, 61] := by decide +kernel
theorem lit56 : Str.ofString "//" = S [47, 47] := by decide +kernel
theorem lit57 : Str.ofString "//=" = S [47, 47, 61] := by decide +kernel
theorem lit58 : Str.ofString "@" = S [64] := by decide +kernel
theorem lit59 : Str.ofString "@=" = S [64, 61] := by decide +kernel
theorem lit60 : Str.ofString "->" = S [45, 62] := by decide +kernel
theorem lit61 : Str.ofString "..." = S [46, 46, 46] := by decide +kernel
theorem lit62 : Str.ofString ":=" = S [58, 61] := by decide +kernel
end Mine
end

section
open PySem PySem.W PySem.Calls PyProof.Rows
set_option Elab.async false
set_option maxRecDepth 100000
set_option autoImplicit false
namespace Mine
section
variable {prog : Program} {w : World} {A : Around} {s : Shared} {env : Env} {H : Heap} {fs : Ledg} {L : Addr} {m : Vm} {led : Ledg} {K : Frag}
theorem S_lenle {l : List Nat} (h : l.length ≤ 1000000) : (S l).length ≤ sizeLine := by rw [S_len, sizeLine_eq]; lia
theorem fstr3 {a b x : Str} {la lb l : List Nat} {ka kb : Nat} {pa pb px pf pos : Pos} {t : Tok} {Q : Value → Shared → Prop} (D : Sd H fs env.locals m s.heap led) (hv : m x = some (.str (S l) t)) (ha : a = S la) (hb : b = S lb) (hsz : la.length + l.length + lb.length ≤ 1000000)
    (h : ∀ t tk, Q (.str (S (la ++ l ++ lb)) t) { s with toks := tk })
    (hk : env.scope.kind = .function := by rfl) (hx : env.kindOf x = some .local := by rfl) (hd : (x == ("__debug__" : Str)) = false := by decide) :
    wpAny (model prog w) A (eval (.JoinedStr [.Constant (.str a) ka pa, .FormattedValue (.Name x px) (-1) none pf, .Constant (.str b) kb pb] pos) env) Q NoE s := by
  subst ha; subst hb
  show wpAny _ _ (joinParts Str.empty (evalEach [.Constant (.str (S la)) ka pa, .FormattedValue (.Name x px) (-1) none pf, .Constant (.str (S lb)) kb pb] env)) _ _ _
  have e0 : Str.empty = S [] := rfl
  rw [e0]
  refine joinParts_consE (joinParts_cons (wpAny_Constant_str ?_))
  simp only [S_app, List.nil_append]
  refine ⟨S_lenle (by lia), joinParts_consE (joinParts_cons (wpAny_FormattedValue_plain (nm_local (s := { s with toks := s.toks + 1 }) D hv ?_ hk hx hd)))⟩
  have fin : ∀ (t' : Tok) (tk' : Nat), wpAny (model prog w) A (joinParts (S (la ++ l)) (evalEach [.Constant (.str (S lb)) kb pb] env)) Q NoE { s with toks := tk' } := by
    intro t' tk'
    refine joinParts_consE (joinParts_cons (wpAny_Constant_str ?_))
    simp only [S_app]
    refine ⟨S_lenle (by simp; lia), joinParts_nilE (joinParts_nil (h _ _) (S_lenle (by simp; lia)))⟩
  refine wpAny_formatField_str (hx := S_lenle (by lia)) ?_ ?_
  · simp only [S_app]
    exact ⟨S_lenle (by simp; lia), fin t _⟩
  · simp only [S_app]
    exact ⟨S_lenle (by simp; lia), fin t _⟩
end
end Mine
end

section
open PySem PySem.W PySem.Calls PyProof.Rows PySem.Builtin PySem.Builtin.Str
set_option Elab.async false
set_option maxRecDepth 100000
set_option autoImplicit false
set_option maxHeartbeats 4000000
namespace Mine
theorem Sd.keeps {H h h' : Heap} {fs : Ledg} {L : Addr} {m : Vm} {led : Ledg} (D : Sd H fs L m h led) (hk : ∀ b o, h.get? b = some o → h'.get? b = some o) : Sd H fs L m h' led :=
  ⟨⟨D.fr.ns.keeps hk, fun b o e => hk b o (D.fr.keep b o e), D.fr.above⟩, fun p hp => ⟨hk _ _ (D.nw p hp).1, (D.nw p hp).2⟩, D.nd⟩
namespace BF
theorem keyErr_lookup : isSubtype (.type "KeyError") (.type "LookupError") = pure true := by rw [isSubtype_type]; kernel_rfl
theorem entry_translate : entryFor table "str.translate" = some Builtin.«str.translate» := entryFor_of_tree (by kernel_rfl)
theorem args_translate (a b : Value) : argsOk "str.translate" ⟨[a, b], []⟩ := by unfold argsOk; kernel_rfl
end BF
section
variable {prog : Program} {w : World} {A : Around} {E : Value → Shared → Prop} {s : Shared} {d : Addr} {c : Nat} {t : Tok}
theorem lookup_found {f : Int → Option Value} {y : List Nat} {tv : Tok} {Q : Mapped → Shared → Prop} (hm : s.heap.MapOf (intKind prog w) d f) (hf : f (c : Int) = some (.str (S y) tv))
    (h : ∀ tk, Q (.text (S y)) { s with toks := tk }) : wpAny (model prog w) A (tableLookup (.ref d) c) Q E s := by
  unfold tableLookup
  refine wpAny_bind (wpAny_attempt ?_)
  refine wpAny_bind (wpAny_mkInt ?_)
  refine wpAny_getItem_of (knd := intKind prog w) (intKind_is _ _ _ _) hm hf ?_
  repeat (any_goals (first | assumption | wp_step))
  exact h _
theorem lookup_missing {f : Int → Option Value} {Q : Mapped → Shared → Prop} (hm : s.heap.MapOf (intKind prog w) d f) (hf : f (c : Int) = none) (hd : (d == sysModules) = false) (hh : A.handled = none)
    (h : ∀ h' tk, (∀ b o, s.heap.get? b = some o → h'.get? b = some o) → Q .keep { s with heap := h', toks := tk }) : wpAny (model prog w) A (tableLookup (.ref d) c) Q E s := by
  unfold tableLookup
  refine wpAny_bind (wpAny_attempt ?_)
  refine wpAny_bind (wpAny_mkInt ?_)
  refine wpAny_getItem_missing_of (knd := intKind prog w) (intKind_is _ _ _ _) hd hh hm hf fun h' e x => ?_
  obtain ⟨ob, tt, ho, hc, _⟩ := x.there
  refine wpAny_bind (wpAny_isInstance (T := "KeyError") ⟨ob, ho, hc⟩ BF.keyErr_lookup ?_)
  repeat (any_goals (first | assumption | wp_step))
  exact h _ _ x.keeps
end
end Mine
end

section
open PySem PySem.W PySem.Calls PyProof.Rows PySem.Builtin PySem.Builtin.Str
set_option Elab.async false
set_option maxRecDepth 100000
set_option autoImplicit false
set_option maxHeartbeats 4000000
set_option linter.unusedSimpArgs false
namespace Mine
section
variable {prog : Program} {w : World} {A : Around} {E : Value → Shared → Prop} {s : Shared} {d : Addr} {c : Nat} {t : Tok}
theorem translate_found {f : Int → Option Value} {y : List Nat} {tv : Tok} {Q : Fin → Shared → Prop} (hm : s.heap.MapOf (intKind prog w) d f) (hf : f (c : Int) = some (.str (S y) tv)) (hy : y.length = 2) (hc : c < 128)
    (h : ∀ t' tk, Q (.done (.ret (.str (S y) t'))) { s with toks := tk }) : wpAny (model prog w) A (Builtin.«str.translate» ⟨[.str (S [c]) t, .ref d], []⟩) Q E s := by
  unfold Builtin.«str.translate»
  have e2 : (#[c].all fun x => decide (x < 128)) = true := by simp [hc]
  have e3 : ((S y).length == 1) = false := by rw [S_len, hy]; rfl
  have e5 : tooLong (0 + (S y).length) = false := by rw [S_len, hy]; decide
  have e6 : (List.foldl (fun acc (p : Str) => acc ++ p.cps) #[] [S y].reverse) = y.toArray := by simp
  simp only [strOneArg, selfAndOne, textOf, asStr?]
  repeat (any_goals (first | assumption | ((with_reducible show wpAny _ _ (tableLookup _ _) _ _ _); refine lookup_found hm hf ?_; intro _; (try dsimp only); (try simp only [e3, Bool.false_and, Bool.false_eq_true, if_false])) | wp_step))
  dsimp only
  rw [e5, e6]
  simp only [Bool.false_eq_true, if_false]
  unfold retStr
  repeat (any_goals (first | assumption | wp_step))
  exact h _ _
theorem translate_missing {f : Int → Option Value} {Q : Fin → Shared → Prop} (hm : s.heap.MapOf (intKind prog w) d f) (hf : f (c : Int) = none) (hd : (d == sysModules) = false) (hh : A.handled = none) (hc : c < 128)
    (h : ∀ t' h' tk, (∀ b o, s.heap.get? b = some o → h'.get? b = some o) → Q (.done (.ret (.str (S [c]) t'))) { s with heap := h', toks := tk }) : wpAny (model prog w) A (Builtin.«str.translate» ⟨[.str (S [c]) t, .ref d], []⟩) Q E s := by
  unfold Builtin.«str.translate»
  have e2 : (#[c].all fun x => decide (x < 128)) = true := by simp [hc]
  simp only [strOneArg, selfAndOne, textOf, asStr?]
  repeat (any_goals (first | assumption | ((with_reducible show wpAny _ _ (tableLookup _ _) _ _ _); refine lookup_missing hm hf hd hh ?_; intro h1 tk1 hk1; (try dsimp only)) | wp_step))
  refine Eq.mp (congrArg (fun z => Q (.done (.ret (.str z tk1))) { heap := h1, gens := s.gens, drawn := s.drawn, toks := tk1 + 1, os := s.os }) ?_) (h tk1 h1 (tk1 + 1) hk1)
  simp
end
end Mine
end

section
open PySem PySem.W PySem.Calls PyProof.Rows
set_option Elab.async false
set_option maxRecDepth 100000
set_option autoImplicit false
set_option maxHeartbeats 4000000
namespace Mine
abbrev Kv := List (List Nat × Value)
abbrev kvS (kv : Kv) : List (Str × Value) := kv.map fun p => (S p.1, p.2)
noncomputable def vat (kv : Kv) (k : List Nat) : Option Value := (kv.find? fun p => decide (p.1 = k)).map (·.2)
theorem S_eq {a b : List Nat} : S a = S b ↔ a = b := by simp
theorem vat_S (kv : Kv) (k : List Nat) : valueAt (kvS kv) (S k) = vat kv k := by
  induction kv with
  | nil => rfl
  | cons p r ih =>
    unfold valueAt vat at *
    simp only [kvS, List.map_cons, List.find?_cons] at *
    by_cases e : p.1 = k
    · simp [e]
    · have e' : ¬ S p.1 = S k := by rw [S_eq]; exact e
      simp only [decide_eq_false e, decide_eq_false e']
      exact ih
theorem stored_S (kv : Kv) (k : List Nat) (v : Value) (h : vat kv k = none) : stored (kvS kv) (S k) v = kvS (kv ++ [(k, v)]) := by
  unfold stored
  rw [if_neg]
  · simp
  · simp only [Bool.not_eq_true, List.any_eq_false, List.mem_map, forall_exists_index, and_imp, decide_eq_true_eq]
    rintro x p hp rfl e
    unfold vat at h
    rw [Option.map_eq_none_iff, List.find?_eq_none] at h
    have := h p hp
    rw [S_eq] at e
    simp [e] at this
theorem vat_append_self (kv : Kv) (k : List Nat) (v : Value) (h : vat kv k = none) : vat (kv ++ [(k, v)]) k = some v := by
  unfold vat at *
  rw [List.find?_append]
  rw [Option.map_eq_none_iff] at h
  rw [h]; simp
theorem vat_append_other (kv : Kv) (k k' : List Nat) (v : Value) (h : k ≠ k') : vat (kv ++ [(k, v)]) k' = vat kv k' := by
  unfold vat
  rw [List.find?_append]
  have : List.find? (fun p => decide (p.1 = k')) [(k, v)] = none := by simp [h]
  rw [this]; simp
abbrev DO (prog : Program) (w : World) (kv : Kv) (o : Obj) : Prop := o.IsDictOf (strKind prog w) (kvS kv)

section
variable {prog : Program} {w : World} {A : Around} {s : Shared} {env : Env} {H : Heap} {fs : Ledg} {L : Addr} {m : Vm} {led : Ledg} {d : Addr} {o : Obj} {kv : Kv} {k : List Nat} {t : Tok}
theorem in_D {Q : Value → Shared → Prop} (hd : s.heap.get? d = some o) (ho : DO prog w kv o) (hds : (d == sysModules) = false) (h : ∀ tk, Q (.bool (vat kv k).isSome) { s with toks := tk }) :
    wpAny (model prog w) A (compareOp .In (.str (S k) t) (.ref d)) Q NoE s :=
  wpAny_in_of (strKind_is prog w _ _) hds (Heap.dictOf_iff.mpr ⟨o, hd, ho⟩).mapOf (by rw [vat_S]; exact h _)
theorem notin_D {Q : Value → Shared → Prop} (hd : s.heap.get? d = some o) (ho : DO prog w kv o) (hds : (d == sysModules) = false) (h : ∀ tk, Q (.bool (!(vat kv k).isSome)) { s with toks := tk }) :
    wpAny (model prog w) A (compareOp .NotIn (.str (S k) t) (.ref d)) Q NoE s :=
  wpAny_notIn_of (strKind_is prog w _ _) hds (Heap.dictOf_iff.mpr ⟨o, hd, ho⟩).mapOf (by rw [vat_S]; exact h _)
theorem item_D {v : Value} {Q : Value → Shared → Prop} (hd : s.heap.get? d = some o) (ho : DO prog w kv o) (hv : vat kv k = some v) (h : ∀ tk, Q v { s with toks := tk }) :
    wpAny (model prog w) A (getItem (.ref d) (.str (S k) t)) Q NoE s :=
  wpAny_getItem_of (strKind_is prog w _ _) (Heap.dictOf_iff.mpr ⟨o, hd, ho⟩).mapOf ((vat_S _ _).trans hv) (h _)
theorem tail_D {value slice : Expr} {v : Value} {Q : Value → Shared → Prop} (hd : s.heap.get? d = some o) (ho : DO prog w kv o) (hv : vat kv k = some v) (h : ∀ tk, Q v { s with toks := tk })
    (hs : subscripted slice false (.ref d) (.str (S k) t) = operate [.ref d, .str (S k) t] (getItem (.ref d) (.str (S k) t)) := by with_unfolding_all rfl) :
    wpAny (model prog w) A (subscriptTail value slice (.ref d) (.str (S k) t)) Q NoE s :=
  tail_any (Heap.dictOf_iff.mpr ⟨o, hd, ho⟩).typeIs slot_dict_getitem.lookup (item_D hd ho hv h) hs
theorem set_D {v : Value} {Q : Unit → Shared → Prop} (D : Sd H fs L m s.heap led) (i : Nat) (hi : led[i]? = some (d, o)) (ho : DO prog w kv o) (hv : vat kv k = none) (hz : kv.length ≤ 1000000)
    (h : ∀ h' o' tk, Sd H fs L m h' (led.set i (d, o')) → DO prog w (kv ++ [(k, v)]) o' → Q () { s with heap := h', toks := tk }) :
    wpAny (model prog w) A (setItem (.ref d) (.str (S k) t) v) Q NoE s := by
  refine wpAny_setItem_pairs (strKind_is prog w _ _) (Heap.dictOf_iff.mpr ⟨o, D.get (List.mem_of_getElem? hi), ho⟩) (fun h' hm hs => ?_) (by rw [sizeLine_eq, List.length_map]; lia)
  obtain ⟨o', e', ho'⟩ := Heap.dictOf_iff.mp hm
  rw [stored_S _ _ _ hv] at ho'
  exact h h' o' _ (D.set i hi hs e') ho'
end
section
variable {w : World}
noncomputable def specials : List Nat := [40, 41, 91, 93, 123, 125, 63, 42, 43, 45, 124, 94, 36, 92, 46, 38, 126, 35, 32, 9, 10, 13, 11, 12]
noncomputable def es45 : List DictEntry := specials.zipIdx.map fun p => { hash := (p.1 : Int), key := .int p.1 (334 + 6 * p.2), val := .str (S [92, p.1]) (338 + 6 * p.2) }
noncomputable def esc (c : Nat) : List Nat := if c ∈ specials then [92, c] else [c]
noncomputable def ops70 : List (List Nat × Nat) := [([33], 54), ([33, 61], 28), ([37], 24), ([37, 61], 40), ([38], 19), ([38, 61], 41), ([40], 7), ([41], 8), ([42], 16), ([42, 42], 35), ([42, 42, 61], 46), ([42, 61], 38), ([43], 14), ([43, 61], 36), ([44], 12), ([45], 15), ([45, 61], 37), ([45, 62], 51), ([46], 23), ([46, 46, 46], 52), ([47], 17), ([47, 47], 47), ([47, 47, 61], 48), ([47, 61], 39), ([58], 11), ([58, 61], 53), ([59], 13), ([60], 20), ([60, 60], 33), ([60, 60, 61], 44), ([60, 61], 29), ([61], 22), ([61, 61], 27), ([62], 21), ([62, 61], 30), ([62, 62], 34), ([62, 62, 61], 45), ([64], 49), ([64, 61], 50), ([91], 9), ([93], 10), ([94], 32), ([94, 61], 43), ([123], 25), ([124], 18), ([124, 61], 42), ([125], 26), ([126], 31)]
noncomputable def kv70 : Kv := ops70.map fun p => (p.1, .int (p.2 : Int) (508 + 2 * p.2))
noncomputable def es70 (w : World) : List DictEntry := ops70.zipIdx.map fun p => { hash := hashStr w (S p.1.1), key := .str (S p.1.1) (if p.2 ≤ 34 then 620 + 2 * p.2 else 654 + p.2), val := .int (p.1.2 : Int) (508 + 2 * p.1.2) }
end
namespace KF
theorem k45 (w : World) : (KK w).lookup 45 = some ⟨.type "dict", none, .dict es45.toArray 24, #[]⟩ := by kernel_rfl
theorem k70 (w : World) : (KK w).lookup 70 = some ⟨.type "dict", none, .dict (es70 w).toArray 48, #[]⟩ := by kernel_rfl
end KF
section
variable {prog : Program} {w : World}
theorem keys70 : KeysOf (strKind prog w) (es70 w).toArray := by
  intro e he
  simp only [List.mem_toArray, es70, List.mem_map] at he
  obtain ⟨p, _, rfl⟩ := he
  exact ⟨S p.1.1, strKind_is _ _ _ _, rfl⟩
theorem pairs_of (l : List ((List Nat × Nat) × Nat)) (g : ((List Nat × Nat) × Nat) → Nat) (hh : ((List Nat × Nat) × Nat) → Int) : Pairs (strKind prog w) (l.map fun p => { hash := hh p, key := .str (S p.1.1) (g p), val := .int (p.1.2 : Int) (508 + 2 * p.1.2) }) (l.map fun p => (S p.1.1, .int (p.1.2 : Int) (508 + 2 * p.1.2))) := by
  induction l with
  | nil => exact .nil
  | cons p r ih => exact .cons (strKind_is _ _ _ _) rfl ih
theorem zip_fst {α β : Type} (f : α → β) (l : List α) : ∀ n, (l.zipIdx n).map (fun p => f p.1) = l.map f := by
  induction l with
  | nil => intro n; rfl
  | cons a r ih => intro n; simp [List.zipIdx_cons, ih]
theorem do70 : DO prog w kv70 ⟨.type "dict", none, .dict (es70 w).toArray 48, #[]⟩ := by
  refine ⟨_, _, ⟨rfl, rfl, rfl⟩, rfl, keys70, ?_, ?_⟩
  · have := pairs_of (prog := prog) (w := w) ops70.zipIdx (fun p => if p.2 ≤ 34 then 620 + 2 * p.2 else 654 + p.2) (fun p => hashStr w (S p.1.1))
    have e := zip_fst (fun q : List Nat × Nat => ((S q.1, Value.int (q.2 : Int) (508 + 2 * q.2)) : Str × Value)) ops70 0
    rw [e] at this
    show Pairs _ (es70 w) _
    unfold es70 kv70
    rw [kvS, List.map_map]
    exact this
  · have : (kvS kv70).map (·.1) = ops70.map (fun p => S p.1) := by unfold kv70 kvS; simp [List.map_map, Function.comp_def]
    rw [this]
    decide +kernel
noncomputable def f45 (prog : Program) (w : World) (k : Int) : Option Value := findBy (intKind prog w).is es45.toArray k
theorem m45 {h : Heap} (e : h.get? 45 = some ⟨.type "dict", none, .dict es45.toArray 24, #[]⟩) : h.MapOf (intKind prog w) 45 (f45 prog w) := by
  refine ⟨_, _, _, e, ⟨rfl, rfl, rfl⟩, rfl, ?_, fun _ => rfl⟩
  intro e he
  simp only [List.mem_toArray, es45, List.mem_map] at he
  obtain ⟨p, hp, rfl⟩ := he
  have hs : ∀ c ∈ specials, (c : Int) = hashInt (c : Int) := by decide +kernel
  have : p.1 ∈ specials := by
    have := List.mem_map_of_mem (f := Prod.fst) hp
    simpa using this
  exact ⟨p.1, intKind_is _ _ _ _, hs _ this⟩
theorem f45_in {c : Nat} (h : c ∈ specials) : ∃ t, f45 prog w c = some (.str (S [92, c]) t) := by
  unfold specials at h
  simp only [List.mem_cons, List.not_mem_nil, or_false] at h
  rcases h with rfl | rfl | rfl | rfl | rfl | rfl | rfl | rfl | rfl | rfl | rfl | rfl | rfl | rfl | rfl | rfl | rfl | rfl | rfl | rfl | rfl | rfl | rfl | rfl <;> exact ⟨_, rfl⟩
theorem f45_out {c : Nat} (h : c ∉ specials) : f45 prog w c = none := by
  unfold f45 findBy
  rw [Option.map_eq_none_iff]
  simp only [List.find?_toArray, List.find?_eq_none]
  intro e he hk
  simp only [es45, List.mem_map] at he
  obtain ⟨p, hp, rfl⟩ := he
  have h1 : (p.1 : Int) = c := (intKind prog w).inj _ _ _ (intKind_is _ _ _ _) hk
  have : p.1 ∈ specials := by
    have := List.mem_map_of_mem (f := Prod.fst) hp
    simpa using this
  exact h (by rw [← Int.ofNat_inj.mp h1]; exact this)
end
end Mine
end

section
open PySem PySem.W PySem.Calls PyProof.Rows
set_option autoImplicit false
namespace Mine
noncomputable def qc (c : Nat) : List Nat := if c ∈ [42, 63, 91] then [91, c, 93] else [c]
noncomputable def qs (l : List Nat) : List Nat := l.flatMap qc
noncomputable def part (c : Nat) : List Nat := if c = 91 then [91, 92, 91, 93] else if c ∈ [42, 63, 91] then [91, c, 93] else esc c
theorem qc_len (c : Nat) : (qc c).length ≤ 3 := by unfold qc; split <;> simp
theorem esc_len (c : Nat) : (esc c).length ≤ 2 := by unfold esc; split <;> simp
theorem part_len (c : Nat) : (part c).length ≤ 4 := by
  unfold part
  split
  · simp
  · split
    · simp
    · exact Nat.le_trans (esc_len c) (by lia)
theorem qs_len (l : List Nat) : (qs l).length ≤ 3 * l.length := by
  induction l with
  | nil => simp [qs]
  | cons a r ih => unfold qs at *; rw [List.flatMap_cons, List.length_append, List.length_cons]; have := qc_len a; lia
theorem qs_split (l : List Nat) (i : Nat) (h : i < l.length) : qs l = qs (l.take i) ++ (qc l[i] ++ qs (l.drop (i + 1))) := by
  unfold qs
  conv => lhs; rw [← List.take_append_drop i l, List.drop_eq_getElem_cons h, List.flatMap_append, List.flatMap_cons]
theorem qs_take (l : List Nat) (i : Nat) (h : i < l.length) : qs (l.take (i + 1)) = qs (l.take i) ++ qc l[i] := by
  unfold qs
  rw [show l.take (i + 1) = l.take i ++ [l[i]] from by rw [List.take_add_one, List.getElem?_eq_getElem h]; rfl, List.flatMap_append, List.flatMap_cons, List.flatMap_nil, List.append_nil]
theorem qs_at (l r : List Nat) (i j : Nat) (h : i < l.length) (hj : j < (qc l[i]).length) : (qs l ++ r)[(qs (l.take i)).length + j]? = (qc l[i])[j]? := by
  rw [qs_split l i h, List.append_assoc, List.getElem?_append_right (by lia), List.append_assoc, List.getElem?_append_left (by lia)]
  congr 1; lia
theorem qs_le (l : List Nat) (i : Nat) (h : i < l.length) : (qs (l.take i)).length + (qc l[i]).length ≤ (qs l).length := by
  conv => rhs; rw [qs_split l i h]
  simp only [List.length_append]; lia
end Mine
end

section
open PySem PySem.W PySem.Calls PyProof.Rows PySem.Builtin
set_option autoImplicit false
namespace Mine
theorem clipAt_neg (n k : Nat) (hk : 0 < k) (h : k ≤ n) : clipAt n (-(k : Int)) = n - k := by
  have := clipAt_cast n (-(k : Int)); lia
theorem cut_front {A B C : List Nat} (hA : A.length = 4) (hC : C.length = 5) : cut (A ++ B ++ C) none (some 4) = A := by
  rw [show (4 : Int) = ((4 : Nat) : Int) from rfl, cut_to, ← hA]; simp
theorem cut_back {A B C : List Nat} (hA : A.length = 4) (hC : C.length = 5) : cut (A ++ B ++ C) (some (-5)) none = C := by
  unfold cut
  simp only [Option.elim]
  have hn : (A ++ B ++ C).length = A.length + B.length + 5 := by simp [hC]; lia
  have e := clipAt_neg (A ++ B ++ C).length 5 (by lia) (by lia)
  rw [show (-5 : Int) = -((5 : Nat) : Int) from rfl, e, List.take_of_length_le (by simp), hn]
  rw [show A.length + B.length + 5 - 5 = (A ++ B).length from by simp]
  simp
theorem cut_mid {A B C : List Nat} (hA : A.length = 4) (hC : C.length = 5) : cut (A ++ B ++ C) (some 4) (some (-5)) = B := by
  unfold cut
  simp only [Option.elim]
  have hn : (A ++ B ++ C).length = A.length + B.length + 5 := by simp [hC]; lia
  have e := clipAt_neg (A ++ B ++ C).length 5 (by lia) (by lia)
  have e2 := clipAt_nat (A ++ B ++ C).length 4
  rw [show (-5 : Int) = -((5 : Nat) : Int) from rfl, e, show (4 : Int) = ((4 : Nat) : Int) from rfl, e2, Nat.min_eq_left (by lia), hn, List.append_assoc, ← hA, List.drop_left]
  rw [show A.length + B.length + 5 - 5 - A.length = B.length from by lia]
  simp
theorem cut_last (l : List Nat) : cut l none (some (-1)) = l.dropLast := by
  unfold cut
  simp only [Option.elim, List.drop_zero, Nat.sub_zero]
  have e : clipAt l.length (-1) = l.length - 1 := by
    have := clipAt_cast l.length (-1); lia
  rw [e, List.dropLast_eq_take]
theorem part_lt {c : Nat} (h : c < 128) : ∀ x ∈ part c, x < 128 := by
  unfold part
  split
  · decide
  · split
    · intro x hx; simp only [List.mem_cons, List.not_mem_nil, or_false] at hx; lia
    · unfold esc; split <;> (intro x hx; simp only [List.mem_cons, List.not_mem_nil, or_false] at hx; lia)
theorem parts_lt {l : List Nat} (h : ∀ c ∈ l, c < 128) : ∀ x ∈ (l.map part).flatten, x < 128 := by
  intro x hx
  obtain ⟨y, hy, hx⟩ := List.mem_flatten.mp hx
  obtain ⟨c, hc, rfl⟩ := List.mem_map.mp hy
  exact part_lt (h c hc) x hx
noncomputable def fsp : List Nat := [46, 94, 36, 42, 43, 63, 123, 125, 40, 41, 124]
noncomputable def fstep (p : List Nat × List Nat) (c : Nat) : Option (List Nat × List Nat) :=
  if p.2 = [93] then (if c = 93 then some (p.1, []) else none)
  else if (p.2 = [] ∧ c ∈ [92, 91]) ∨ (p.2 = [91] ∧ c = 92) then some (p.1, p.2 ++ [c])
  else if (p.2 = [] ∧ c ∈ fsp) ∨ (p.2 = [91] ∧ c ∈ [93, 94]) ∨ (p.2 = [92] ∧ c = 97) then none
  else some (p.1 ++ [c], if p.2 ∈ [[], [92]] then [] else [93])
theorem front_part (sg : List Nat) (c : Nat) : (part c).foldlM fstep (sg, []) = some (sg ++ [c], []) := by
  unfold part
  split
  · rename_i h; subst h; rfl
  · split
    · rename_i h1 h2
      simp only [List.mem_cons, List.not_mem_nil, or_false] at h2
      rcases h2 with rfl | rfl | rfl <;> first | rfl | exact absurd rfl h1
    · unfold esc
      split
      · rename_i h
        have h97 : c ≠ 97 := fun e => by subst e; revert h; decide
        simp [fstep, h97, List.foldlM_cons]
      · rename_i h
        have a1 : c ∉ [92, 91] := fun q => h (by revert q; simp only [List.mem_cons, List.not_mem_nil, or_false]; rintro (rfl | rfl) <;> decide)
        have a2 : c ∉ fsp := fun q => h (by revert q; unfold fsp; simp only [List.mem_cons, List.not_mem_nil, or_false]; rintro (rfl | rfl | rfl | rfl | rfl | rfl | rfl | rfl | rfl | rfl | rfl) <;> decide)
        rw [List.foldlM_cons]
        unfold fstep
        rw [if_neg (by simp), if_neg (by rintro (⟨_, q⟩ | ⟨q, _⟩); exact a1 q; cases q), if_neg (by rintro (⟨_, q⟩ | ⟨q, _⟩ | ⟨q, _⟩); exact a2 q; cases q; cases q)]
        rfl
theorem front_all : ∀ (l sg : List Nat), (l.map part).flatten.foldlM fstep (sg, []) = some (sg ++ l, [])
  | [], sg => by simp
  | c :: r, sg => by
    rw [List.map_cons, List.flatten_cons, List.foldlM_append, front_part]
    show (List.map part r).flatten.foldlM fstep (sg ++ [c], []) = _
    rw [front_all r]; simp
noncomputable def fok (st : List Nat) : Prop := st ∈ [[], [91], [91, 92], [92], [93]]
theorem fstep_ok {p q : List Nat × List Nat} {c : Nat} (h : fstep p c = some q) (hp : fok p.2) : fok q.2 ∧ q.1.length ≤ p.1.length + 1 := by
  unfold fstep at h
  split at h
  · split at h
    · cases h; exact ⟨by simp [fok], by simp⟩
    · cases h
  · split at h
    · rename_i h1 h2
      cases h
      refine ⟨?_, by simp⟩
      rcases h2 with ⟨e, hc⟩ | ⟨e, hc⟩
      · simp only [List.mem_cons, List.not_mem_nil, or_false] at hc
        rcases hc with rfl | rfl <;> simp [fok, e]
      · simp [fok, e, hc]
    · split at h
      · cases h
      · cases h
        refine ⟨?_, by simp⟩
        dsimp only
        split <;> simp [fok]
end Mine
end

section
open PySem PySem.W PySem.Calls PyProof.Rows
set_option Elab.async false
set_option maxRecDepth 100000
set_option autoImplicit false
namespace Mine
section
variable {α : Type} {M : Model} {A : Around} {E : Value → Shared → Prop} {s : Shared}
/-- the post as a let: named once, not written out at each step -/
theorem sealQ {t : Sem α} {Q : α → Shared → Prop} (h : let K := Q; wpAny M A t K E s) : wpAny M A t Q E s := h
abbrev nextK (M : Model) (A : Around) (E : Value → Shared → Prop) (rest : List Stmt) (env : Env) (Q : Flow → Shared → Prop) : Flow → Shared → Prop :=
  fun f s' => match f with | .next => wpAny M A (execs rest env) Q E s' | f => Q f s'
theorem ex_cons {st : Stmt} {rest : List Stmt} {env : Env} {Q : Flow → Shared → Prop}
    (h : let K := nextK M A E rest env Q; wpAny M A (exec st env) K E s) :
    wpAny M A (execs (st :: rest) env) Q E s := wpAny_execs_cons h
end
section
variable {prog : Program} {w : World} {A : Around} {s : Shared} {env : Env} {H h : Heap} {fs : Ledg} {L : Addr} {m u : Vm} {led : Ledg}
theorem st_localL {x : Str} {v : Value} {Q : Unit → Shared → Prop} (D : Sd H fs env.locals m s.heap led)
    (h : ∀ h' tk, let m' : Vm := fun y => if y = x then some v else m y; Sd H fs env.locals m' h' led → Q () { s with heap := h', toks := tk })
    (hk : env.scope.kind = .function := by rfl) (hx : env.kindOf x = some .local := by rfl) : wpAny (model prog w) A (storeName env x v) Q NoE s :=
  st_local D h hk hx
theorem sz_lit {n : Nat} (h : Nat.ble n 16777216 = true) : n ≤ sizeLine := by rw [sizeLine_eq]; exact Nat.le_of_ble_eq_true h
theorem newList_sdL {vs : List Value} {Q : Value → Shared → Prop} (D : Sd H fs L m s.heap led)
    (h : ∀ l h' tk, let e : Addr × Obj := (l, listOf vs.toArray 0); Sd H fs L m h' (e :: led) → Q (.ref l) { s with heap := h', toks := tk }) (hsz : vs.length ≤ sizeLine := by exact sz_lit rfl) :
    wpAny (model prog w) A (newList vs) Q NoE s := newList_sd D h hsz
theorem newTuple_sdL {vs : List Value} {Q : Value → Shared → Prop} (D : Sd H fs L m s.heap led)
    (h : ∀ l h' tk, let e : Addr × Obj := (l, tupOf vs); Sd H fs L m h' (e :: led) → Q (.ref l) { s with heap := h', toks := tk }) (hsz : vs.length ≤ sizeLine := by exact sz_lit rfl) :
    wpAny (model prog w) A (newTuple vs) Q NoE s := newTuple_sd D h hsz
theorem append_attr_sdL {a : Addr} {its : Array Value} {n : Nat} {expr : Bool} {Q : Value → Shared → Prop} (D : Sd H fs L m s.heap led) (hm : (a, listOf its n) ∈ led)
    (h : ∀ u h' tk, let e : Addr × Obj := (u, boundOf "list.append" (.ref a)); Sd H fs L m h' (e :: led) → Q (.ref u) { s with heap := h', toks := tk }) : wpAny (model prog w) A (getAttr (.ref a) "append" expr) Q NoE s :=
  append_attr_sd D hm h
theorem bound_append_sdL {a u : Addr} {vs : List Value} {n : Nat} {v : Value} {Q : Value → Shared → Prop} (D : Sd H fs L m s.heap led) (hu : (u, boundOf "list.append" (.ref a)) ∈ led) (i : Nat) (hi : led[i]? = some (a, listOf vs.toArray n))
    (h : ∀ h' tk, let e : Addr × Obj := (a, listOf (vs ++ [v]).toArray (n + 1)); Sd H fs L m h' (led.set i e) → Q .none { s with heap := h', toks := tk }) (hsz : vs.length ≤ 1000000) : wpAny (model prog w) A (call (.ref u) [v]) Q NoE s :=
  bound_append_sd D hu i hi (by simpa using h) (by rw [sizeLine_eq, List.size_toArray]; lia)
theorem pair_swL {a b : Value} {x y : Str} {Q : Shared → Prop} (D : Sd H fs env.locals m s.heap led) (hh : A.handled = none)
    (h : ∀ h' tk, let m' : Vm := fun z => if z = x then some a else if z = y then some b else m z; Sd H fs env.locals m' h' led → Q { s with heap := h', toks := tk })
    (hx : env.kindOf x = some .local := by rfl) (hy : env.kindOf y = some .local := by rfl) (hk : env.scope.kind = .function := by rfl) :
    wpAny (model prog w) A (newTuple [a, b]) (fun v s₁ => wpAny (model prog w) A (unpackItems v [x, y].length none) (fun items s₂ => wpAny (model prog w) A (assignInOrder ([x, y].reverse.map fun n => bindName env n) items.reverse) (fun _ s' => Q s') NoE s₂) NoE s₁) NoE s := pair_sw D hh h hx hy hk
theorem pair_unL {a b : Value} {x y : Str} {px py tp : Pos} {k : Nat} {Q : Shared → Prop} (D : Sd H fs env.locals m s.heap led) (hh : A.handled = none)
    (h : ∀ h' tk, let m' : Vm := fun z => if z = y then some b else if z = x then some a else m z; Sd H fs env.locals m' h' led → Q { s with heap := h', toks := tk })
    (hx : env.kindOf x = some .local := by rfl) (hy : env.kindOf y = some .local := by rfl) (hk : env.scope.kind = .function := by rfl) :
    wpAny (model prog w) A (newTuple [a, b]) (fun v s₁ => wpAny (model prog w) A (assign (.Tuple [.Name x px, .Name y py] k tp) env v) (fun _ s' => Q s') NoE s₁) NoE s := pair_un D hh h hx hy hk
abbrev whileB (Q : Flow → Shared → Prop) (End : Shared → Prop) : Flow → Shared → Prop := fun f s₃ => match f with | .brk => Q .next s₃ | .ret v => Q (.ret v) s₃ | _ => End s₃
abbrev whileT (M : Model) (A : Around) (body : List Stmt) (env : Env) (KB Q : Flow → Shared → Prop) : Bool → Shared → Prop := fun b s₂ => if b = true then wpAny M A (execs body env) KB NoE s₂ else Q .next s₂
inductive WEnd (s : Shared) (H : Heap) (fs : Ledg) (L : Addr) (J : Nat → Vm → Ledg → Prop) (k : Nat) (s₃ : Shared) : Prop
  | mk (k' : Nat) (m' : Vm) (h' : Heap) (tk' : Nat) (led' : Ledg) (e : s₃ = { s with heap := h', toks := tk' }) (D : Sd H fs L m' h' led') (j : J k' m' led') (hk : k' < k)
theorem while_sdL {test : Expr} {body : List Stmt} {pos : Pos} {Q : Flow → Shared → Prop} (J : Nat → Vm → Ledg → Prop) (k₀ : Nat) (D : Sd H fs env.locals m s.heap led) (h0 : J k₀ m led)
    (turn : ∀ k, let KB := whileB Q (WEnd s H fs env.locals J k); let KT := whileT (model prog w) A body env KB Q; ∀ m h tk led, Sd H fs env.locals m h led → J k m led →
      wpAny (model prog w) A (isTrue test env (eval test env)) KT NoE { s with heap := h, toks := tk }) :
    wpAny (model prog w) A (exec (.While test body [] pos) env) Q NoE s := by
  refine while_sd J k₀ D h0 fun k m h tk led D hj => wpAny_mono (turn k m h tk led D hj) (fun b s₂ q => ?_) fun _ _ x => x
  cases b with
  | false => exact q
  | true =>
    refine wpAny_mono q (fun f s₃ q => ?_) fun _ _ x => x
    cases f with
    | next => obtain ⟨k', m', h', tk', led', e, D, j, hk⟩ := q; exact ⟨k', m', h', tk', led', e, D, j, hk⟩
    | cont => obtain ⟨k', m', h', tk', led', e, D, j, hk⟩ := q; exact ⟨k', m', h', tk', led', e, D, j, hk⟩
    | brk => exact q
    | ret v => exact q
abbrev retK (Q : Value → Shared → Prop) : Flow → Shared → Prop := fun fl s' => Q (match fl with | .ret v => v | _ => .none) s'
theorem call_sdL {K : Frag} {name qual : Str} {params : Arguments} {body : List Stmt} {scope : Scope} {dV kV doc pm cdv ct oc : Value} {an od : Option Addr} {osl : Array (Option Value)} {f : Addr} {vs : List Value} {binds : List (Str × Value)} {Q : Value → Shared → Prop}
    (hh : A.handled = none) (D : Sd H fs L m s.heap led) (X : K.In H) (hlim : H.NoLimit)
    (ho : K.lookup f = some ⟨oc, od, .func (fnOf name qual params body scope dV kV doc pm an cdv ct), osl⟩) (hcd : codeIn K cdv qual = true) (hroom : A.depth < recursionLimit)
    (hbind : bindArgs (fnOf name qual params body scope dV kV doc pm an cdv ct) ⟨vs, []⟩ = pure binds) (hloc : ∀ y ∈ binds, scope.names.lookup y.1 = some .local) (hcell : ∀ x ∈ scope.names, x.2 ≠ .cell)
    (h : ∀ C oL h' tk, Sd H ((L, oL) :: fs) C (fun y => binds.reverse.lookup y) h' led → (∀ m₂ L₂ h₂ led₂, Sd H ((L, oL) :: fs) L₂ m₂ h₂ led₂ → Sd H fs L m h₂ led₂) →
      let env := envOf qual scope C f cdv; let KF := retK Q; ∀ A' : Around, A'.handled = none → A'.depth = A.depth + 1 → A'.units = A.units + 3 → wpAny (model prog w) A' (execs body env) KF NoE { s with heap := h', toks := tk })
    (hco : scope.isCoroutine = false := by rfl) (hgen : scope.isGenerator = false := by rfl) (hk : scope.kind = .function := by rfl) :
    wpAny (model prog w) A (call (.ref f) vs) Q NoE s :=
  call_sd D X hlim ho hcd hroom hbind hloc hcell (fun C oL h' tk D lv => h C oL h' tk D lv _ hh rfl rfl) hco hgen hk
theorem Sd.lo0 {P : Prop} (D : Sd H fs L u h led) {l : List (Str × Value)} (hl : Has l u) (k : let m' := Lo l u; Sd H fs L m' h led → P) : P := k (D.lo hl)
theorem Sd.fo0 {P : Prop} (D : Sd H fs L m h led) (k : let m' := m; Sd H fs L m' h led → P) : P := k D
theorem Sd.lo1 {P : Prop} {e1 : Addr × Obj} (D : Sd H fs L u h (e1 :: led)) {l : List (Str × Value)} (hl : Has l u) (k : let m' := Lo l u; let a1 := e1; Sd H fs L m' h (a1 :: led) → P) : P := k (D.lo hl)
theorem Sd.fx1 {P : Prop} {e1 : Addr × Obj} (D : Sd H fs L m h (e1 :: led)) (k : let m' := m; let a1 := e1; Sd H fs L m' h (a1 :: led) → P) : P := k D
theorem Sd.fe1 {P : Prop} {e1 : Addr × Obj} (D : Sd H fs L m h (e1 :: led)) (k : let a1 := e1; Sd H fs L m h (a1 :: led) → P) : P := k D
theorem Sd.lo2 {P : Prop} {e1 e2 : Addr × Obj} (D : Sd H fs L u h (e1 :: e2 :: led)) {l : List (Str × Value)} (hl : Has l u) (k : let m' := Lo l u; let a1 := e1; let a2 := e2; Sd H fs L m' h (a1 :: a2 :: led) → P) : P := k (D.lo hl)
theorem Sd.fx2 {P : Prop} {e1 e2 : Addr × Obj} (D : Sd H fs L m h (e1 :: e2 :: led)) (k : let m' := m; let a1 := e1; let a2 := e2; Sd H fs L m' h (a1 :: a2 :: led) → P) : P := k D
theorem Sd.fe2 {P : Prop} {e1 e2 : Addr × Obj} (D : Sd H fs L m h (e1 :: e2 :: led)) (k : let a1 := e1; let a2 := e2; Sd H fs L m h (a1 :: a2 :: led) → P) : P := k D
theorem Sd.lo3 {P : Prop} {e1 e2 e3 : Addr × Obj} (D : Sd H fs L u h (e1 :: e2 :: e3 :: led)) {l : List (Str × Value)} (hl : Has l u) (k : let m' := Lo l u; let a1 := e1; let a2 := e2; let a3 := e3; Sd H fs L m' h (a1 :: a2 :: a3 :: led) → P) : P := k (D.lo hl)
theorem Sd.fx3 {P : Prop} {e1 e2 e3 : Addr × Obj} (D : Sd H fs L m h (e1 :: e2 :: e3 :: led)) (k : let m' := m; let a1 := e1; let a2 := e2; let a3 := e3; Sd H fs L m' h (a1 :: a2 :: a3 :: led) → P) : P := k D
theorem Sd.fe3 {P : Prop} {e1 e2 e3 : Addr × Obj} (D : Sd H fs L m h (e1 :: e2 :: e3 :: led)) (k : let a1 := e1; let a2 := e2; let a3 := e3; Sd H fs L m h (a1 :: a2 :: a3 :: led) → P) : P := k D
theorem Sd.lo4 {P : Prop} {e1 e2 e3 e4 : Addr × Obj} (D : Sd H fs L u h (e1 :: e2 :: e3 :: e4 :: led)) {l : List (Str × Value)} (hl : Has l u) (k : let m' := Lo l u; let a1 := e1; let a2 := e2; let a3 := e3; let a4 := e4; Sd H fs L m' h (a1 :: a2 :: a3 :: a4 :: led) → P) : P := k (D.lo hl)
theorem Sd.fx4 {P : Prop} {e1 e2 e3 e4 : Addr × Obj} (D : Sd H fs L m h (e1 :: e2 :: e3 :: e4 :: led)) (k : let m' := m; let a1 := e1; let a2 := e2; let a3 := e3; let a4 := e4; Sd H fs L m' h (a1 :: a2 :: a3 :: a4 :: led) → P) : P := k D
theorem Sd.fe4 {P : Prop} {e1 e2 e3 e4 : Addr × Obj} (D : Sd H fs L m h (e1 :: e2 :: e3 :: e4 :: led)) (k : let a1 := e1; let a2 := e2; let a3 := e3; let a4 := e4; Sd H fs L m h (a1 :: a2 :: a3 :: a4 :: led) → P) : P := k D
theorem Sd.lo5 {P : Prop} {e1 e2 e3 e4 e5 : Addr × Obj} (D : Sd H fs L u h (e1 :: e2 :: e3 :: e4 :: e5 :: led)) {l : List (Str × Value)} (hl : Has l u) (k : let m' := Lo l u; let a1 := e1; let a2 := e2; let a3 := e3; let a4 := e4; let a5 := e5; Sd H fs L m' h (a1 :: a2 :: a3 :: a4 :: a5 :: led) → P) : P := k (D.lo hl)
theorem Sd.fx5 {P : Prop} {e1 e2 e3 e4 e5 : Addr × Obj} (D : Sd H fs L m h (e1 :: e2 :: e3 :: e4 :: e5 :: led)) (k : let m' := m; let a1 := e1; let a2 := e2; let a3 := e3; let a4 := e4; let a5 := e5; Sd H fs L m' h (a1 :: a2 :: a3 :: a4 :: a5 :: led) → P) : P := k D
theorem Sd.fe5 {P : Prop} {e1 e2 e3 e4 e5 : Addr × Obj} (D : Sd H fs L m h (e1 :: e2 :: e3 :: e4 :: e5 :: led)) (k : let a1 := e1; let a2 := e2; let a3 := e3; let a4 := e4; let a5 := e5; Sd H fs L m h (a1 :: a2 :: a3 :: a4 :: a5 :: led) → P) : P := k D
theorem Sd.lo6 {P : Prop} {e1 e2 e3 e4 e5 e6 : Addr × Obj} (D : Sd H fs L u h (e1 :: e2 :: e3 :: e4 :: e5 :: e6 :: led)) {l : List (Str × Value)} (hl : Has l u) (k : let m' := Lo l u; let a1 := e1; let a2 := e2; let a3 := e3; let a4 := e4; let a5 := e5; let a6 := e6; Sd H fs L m' h (a1 :: a2 :: a3 :: a4 :: a5 :: a6 :: led) → P) : P := k (D.lo hl)
theorem Sd.fx6 {P : Prop} {e1 e2 e3 e4 e5 e6 : Addr × Obj} (D : Sd H fs L m h (e1 :: e2 :: e3 :: e4 :: e5 :: e6 :: led)) (k : let m' := m; let a1 := e1; let a2 := e2; let a3 := e3; let a4 := e4; let a5 := e5; let a6 := e6; Sd H fs L m' h (a1 :: a2 :: a3 :: a4 :: a5 :: a6 :: led) → P) : P := k D
theorem Sd.fe6 {P : Prop} {e1 e2 e3 e4 e5 e6 : Addr × Obj} (D : Sd H fs L m h (e1 :: e2 :: e3 :: e4 :: e5 :: e6 :: led)) (k : let a1 := e1; let a2 := e2; let a3 := e3; let a4 := e4; let a5 := e5; let a6 := e6; Sd H fs L m h (a1 :: a2 :: a3 :: a4 :: a5 :: a6 :: led) → P) : P := k D
theorem Sd.lo7 {P : Prop} {e1 e2 e3 e4 e5 e6 e7 : Addr × Obj} (D : Sd H fs L u h (e1 :: e2 :: e3 :: e4 :: e5 :: e6 :: e7 :: led)) {l : List (Str × Value)} (hl : Has l u) (k : let m' := Lo l u; let a1 := e1; let a2 := e2; let a3 := e3; let a4 := e4; let a5 := e5; let a6 := e6; let a7 := e7; Sd H fs L m' h (a1 :: a2 :: a3 :: a4 :: a5 :: a6 :: a7 :: led) → P) : P := k (D.lo hl)
theorem Sd.fx7 {P : Prop} {e1 e2 e3 e4 e5 e6 e7 : Addr × Obj} (D : Sd H fs L m h (e1 :: e2 :: e3 :: e4 :: e5 :: e6 :: e7 :: led)) (k : let m' := m; let a1 := e1; let a2 := e2; let a3 := e3; let a4 := e4; let a5 := e5; let a6 := e6; let a7 := e7; Sd H fs L m' h (a1 :: a2 :: a3 :: a4 :: a5 :: a6 :: a7 :: led) → P) : P := k D
theorem Sd.fe7 {P : Prop} {e1 e2 e3 e4 e5 e6 e7 : Addr × Obj} (D : Sd H fs L m h (e1 :: e2 :: e3 :: e4 :: e5 :: e6 :: e7 :: led)) (k : let a1 := e1; let a2 := e2; let a3 := e3; let a4 := e4; let a5 := e5; let a6 := e6; let a7 := e7; Sd H fs L m h (a1 :: a2 :: a3 :: a4 :: a5 :: a6 :: a7 :: led) → P) : P := k D
theorem Sd.lo8 {P : Prop} {e1 e2 e3 e4 e5 e6 e7 e8 : Addr × Obj} (D : Sd H fs L u h (e1 :: e2 :: e3 :: e4 :: e5 :: e6 :: e7 :: e8 :: led)) {l : List (Str × Value)} (hl : Has l u) (k : let m' := Lo l u; let a1 := e1; let a2 := e2; let a3 := e3; let a4 := e4; let a5 := e5; let a6 := e6; let a7 := e7; let a8 := e8; Sd H fs L m' h (a1 :: a2 :: a3 :: a4 :: a5 :: a6 :: a7 :: a8 :: led) → P) : P := k (D.lo hl)
theorem Sd.fx8 {P : Prop} {e1 e2 e3 e4 e5 e6 e7 e8 : Addr × Obj} (D : Sd H fs L m h (e1 :: e2 :: e3 :: e4 :: e5 :: e6 :: e7 :: e8 :: led)) (k : let m' := m; let a1 := e1; let a2 := e2; let a3 := e3; let a4 := e4; let a5 := e5; let a6 := e6; let a7 := e7; let a8 := e8; Sd H fs L m' h (a1 :: a2 :: a3 :: a4 :: a5 :: a6 :: a7 :: a8 :: led) → P) : P := k D
theorem Sd.fe8 {P : Prop} {e1 e2 e3 e4 e5 e6 e7 e8 : Addr × Obj} (D : Sd H fs L m h (e1 :: e2 :: e3 :: e4 :: e5 :: e6 :: e7 :: e8 :: led)) (k : let a1 := e1; let a2 := e2; let a3 := e3; let a4 := e4; let a5 := e5; let a6 := e6; let a7 := e7; let a8 := e8; Sd H fs L m h (a1 :: a2 :: a3 :: a4 :: a5 :: a6 :: a7 :: a8 :: led) → P) : P := k D
theorem Sd.lo9 {P : Prop} {e1 e2 e3 e4 e5 e6 e7 e8 e9 : Addr × Obj} (D : Sd H fs L u h (e1 :: e2 :: e3 :: e4 :: e5 :: e6 :: e7 :: e8 :: e9 :: led)) {l : List (Str × Value)} (hl : Has l u) (k : let m' := Lo l u; let a1 := e1; let a2 := e2; let a3 := e3; let a4 := e4; let a5 := e5; let a6 := e6; let a7 := e7; let a8 := e8; let a9 := e9; Sd H fs L m' h (a1 :: a2 :: a3 :: a4 :: a5 :: a6 :: a7 :: a8 :: a9 :: led) → P) : P := k (D.lo hl)
theorem Sd.fx9 {P : Prop} {e1 e2 e3 e4 e5 e6 e7 e8 e9 : Addr × Obj} (D : Sd H fs L m h (e1 :: e2 :: e3 :: e4 :: e5 :: e6 :: e7 :: e8 :: e9 :: led)) (k : let m' := m; let a1 := e1; let a2 := e2; let a3 := e3; let a4 := e4; let a5 := e5; let a6 := e6; let a7 := e7; let a8 := e8; let a9 := e9; Sd H fs L m' h (a1 :: a2 :: a3 :: a4 :: a5 :: a6 :: a7 :: a8 :: a9 :: led) → P) : P := k D
theorem Sd.fe9 {P : Prop} {e1 e2 e3 e4 e5 e6 e7 e8 e9 : Addr × Obj} (D : Sd H fs L m h (e1 :: e2 :: e3 :: e4 :: e5 :: e6 :: e7 :: e8 :: e9 :: led)) (k : let a1 := e1; let a2 := e2; let a3 := e3; let a4 := e4; let a5 := e5; let a6 := e6; let a7 := e7; let a8 := e8; let a9 := e9; Sd H fs L m h (a1 :: a2 :: a3 :: a4 :: a5 :: a6 :: a7 :: a8 :: a9 :: led) → P) : P := k D
theorem Sd.lo10 {P : Prop} {e1 e2 e3 e4 e5 e6 e7 e8 e9 e10 : Addr × Obj} (D : Sd H fs L u h (e1 :: e2 :: e3 :: e4 :: e5 :: e6 :: e7 :: e8 :: e9 :: e10 :: led)) {l : List (Str × Value)} (hl : Has l u) (k : let m' := Lo l u; let a1 := e1; let a2 := e2; let a3 := e3; let a4 := e4; let a5 := e5; let a6 := e6; let a7 := e7; let a8 := e8; let a9 := e9; let a10 := e10; Sd H fs L m' h (a1 :: a2 :: a3 :: a4 :: a5 :: a6 :: a7 :: a8 :: a9 :: a10 :: led) → P) : P := k (D.lo hl)
theorem Sd.fx10 {P : Prop} {e1 e2 e3 e4 e5 e6 e7 e8 e9 e10 : Addr × Obj} (D : Sd H fs L m h (e1 :: e2 :: e3 :: e4 :: e5 :: e6 :: e7 :: e8 :: e9 :: e10 :: led)) (k : let m' := m; let a1 := e1; let a2 := e2; let a3 := e3; let a4 := e4; let a5 := e5; let a6 := e6; let a7 := e7; let a8 := e8; let a9 := e9; let a10 := e10; Sd H fs L m' h (a1 :: a2 :: a3 :: a4 :: a5 :: a6 :: a7 :: a8 :: a9 :: a10 :: led) → P) : P := k D
theorem Sd.fe10 {P : Prop} {e1 e2 e3 e4 e5 e6 e7 e8 e9 e10 : Addr × Obj} (D : Sd H fs L m h (e1 :: e2 :: e3 :: e4 :: e5 :: e6 :: e7 :: e8 :: e9 :: e10 :: led)) (k : let a1 := e1; let a2 := e2; let a3 := e3; let a4 := e4; let a5 := e5; let a6 := e6; let a7 := e7; let a8 := e8; let a9 := e9; let a10 := e10; Sd H fs L m h (a1 :: a2 :: a3 :: a4 :: a5 :: a6 :: a7 :: a8 :: a9 :: a10 :: led) → P) : P := k D
theorem Sd.lo11 {P : Prop} {e1 e2 e3 e4 e5 e6 e7 e8 e9 e10 e11 : Addr × Obj} (D : Sd H fs L u h (e1 :: e2 :: e3 :: e4 :: e5 :: e6 :: e7 :: e8 :: e9 :: e10 :: e11 :: led)) {l : List (Str × Value)} (hl : Has l u) (k : let m' := Lo l u; let a1 := e1; let a2 := e2; let a3 := e3; let a4 := e4; let a5 := e5; let a6 := e6; let a7 := e7; let a8 := e8; let a9 := e9; let a10 := e10; let a11 := e11; Sd H fs L m' h (a1 :: a2 :: a3 :: a4 :: a5 :: a6 :: a7 :: a8 :: a9 :: a10 :: a11 :: led) → P) : P := k (D.lo hl)
theorem Sd.fx11 {P : Prop} {e1 e2 e3 e4 e5 e6 e7 e8 e9 e10 e11 : Addr × Obj} (D : Sd H fs L m h (e1 :: e2 :: e3 :: e4 :: e5 :: e6 :: e7 :: e8 :: e9 :: e10 :: e11 :: led)) (k : let m' := m; let a1 := e1; let a2 := e2; let a3 := e3; let a4 := e4; let a5 := e5; let a6 := e6; let a7 := e7; let a8 := e8; let a9 := e9; let a10 := e10; let a11 := e11; Sd H fs L m' h (a1 :: a2 :: a3 :: a4 :: a5 :: a6 :: a7 :: a8 :: a9 :: a10 :: a11 :: led) → P) : P := k D
theorem Sd.fe11 {P : Prop} {e1 e2 e3 e4 e5 e6 e7 e8 e9 e10 e11 : Addr × Obj} (D : Sd H fs L m h (e1 :: e2 :: e3 :: e4 :: e5 :: e6 :: e7 :: e8 :: e9 :: e10 :: e11 :: led)) (k : let a1 := e1; let a2 := e2; let a3 := e3; let a4 := e4; let a5 := e5; let a6 := e6; let a7 := e7; let a8 := e8; let a9 := e9; let a10 := e10; let a11 := e11; Sd H fs L m h (a1 :: a2 :: a3 :: a4 :: a5 :: a6 :: a7 :: a8 :: a9 :: a10 :: a11 :: led) → P) : P := k D
theorem Sd.lo12 {P : Prop} {e1 e2 e3 e4 e5 e6 e7 e8 e9 e10 e11 e12 : Addr × Obj} (D : Sd H fs L u h (e1 :: e2 :: e3 :: e4 :: e5 :: e6 :: e7 :: e8 :: e9 :: e10 :: e11 :: e12 :: led)) {l : List (Str × Value)} (hl : Has l u) (k : let m' := Lo l u; let a1 := e1; let a2 := e2; let a3 := e3; let a4 := e4; let a5 := e5; let a6 := e6; let a7 := e7; let a8 := e8; let a9 := e9; let a10 := e10; let a11 := e11; let a12 := e12; Sd H fs L m' h (a1 :: a2 :: a3 :: a4 :: a5 :: a6 :: a7 :: a8 :: a9 :: a10 :: a11 :: a12 :: led) → P) : P := k (D.lo hl)
theorem Sd.fx12 {P : Prop} {e1 e2 e3 e4 e5 e6 e7 e8 e9 e10 e11 e12 : Addr × Obj} (D : Sd H fs L m h (e1 :: e2 :: e3 :: e4 :: e5 :: e6 :: e7 :: e8 :: e9 :: e10 :: e11 :: e12 :: led)) (k : let m' := m; let a1 := e1; let a2 := e2; let a3 := e3; let a4 := e4; let a5 := e5; let a6 := e6; let a7 := e7; let a8 := e8; let a9 := e9; let a10 := e10; let a11 := e11; let a12 := e12; Sd H fs L m' h (a1 :: a2 :: a3 :: a4 :: a5 :: a6 :: a7 :: a8 :: a9 :: a10 :: a11 :: a12 :: led) → P) : P := k D
theorem Sd.fe12 {P : Prop} {e1 e2 e3 e4 e5 e6 e7 e8 e9 e10 e11 e12 : Addr × Obj} (D : Sd H fs L m h (e1 :: e2 :: e3 :: e4 :: e5 :: e6 :: e7 :: e8 :: e9 :: e10 :: e11 :: e12 :: led)) (k : let a1 := e1; let a2 := e2; let a3 := e3; let a4 := e4; let a5 := e5; let a6 := e6; let a7 := e7; let a8 := e8; let a9 := e9; let a10 := e10; let a11 := e11; let a12 := e12; Sd H fs L m h (a1 :: a2 :: a3 :: a4 :: a5 :: a6 :: a7 :: a8 :: a9 :: a10 :: a11 :: a12 :: led) → P) : P := k D
theorem Sd.lo13 {P : Prop} {e1 e2 e3 e4 e5 e6 e7 e8 e9 e10 e11 e12 e13 : Addr × Obj} (D : Sd H fs L u h (e1 :: e2 :: e3 :: e4 :: e5 :: e6 :: e7 :: e8 :: e9 :: e10 :: e11 :: e12 :: e13 :: led)) {l : List (Str × Value)} (hl : Has l u) (k : let m' := Lo l u; let a1 := e1; let a2 := e2; let a3 := e3; let a4 := e4; let a5 := e5; let a6 := e6; let a7 := e7; let a8 := e8; let a9 := e9; let a10 := e10; let a11 := e11; let a12 := e12; let a13 := e13; Sd H fs L m' h (a1 :: a2 :: a3 :: a4 :: a5 :: a6 :: a7 :: a8 :: a9 :: a10 :: a11 :: a12 :: a13 :: led) → P) : P := k (D.lo hl)
theorem Sd.fx13 {P : Prop} {e1 e2 e3 e4 e5 e6 e7 e8 e9 e10 e11 e12 e13 : Addr × Obj} (D : Sd H fs L m h (e1 :: e2 :: e3 :: e4 :: e5 :: e6 :: e7 :: e8 :: e9 :: e10 :: e11 :: e12 :: e13 :: led)) (k : let m' := m; let a1 := e1; let a2 := e2; let a3 := e3; let a4 := e4; let a5 := e5; let a6 := e6; let a7 := e7; let a8 := e8; let a9 := e9; let a10 := e10; let a11 := e11; let a12 := e12; let a13 := e13; Sd H fs L m' h (a1 :: a2 :: a3 :: a4 :: a5 :: a6 :: a7 :: a8 :: a9 :: a10 :: a11 :: a12 :: a13 :: led) → P) : P := k D
theorem Sd.fe13 {P : Prop} {e1 e2 e3 e4 e5 e6 e7 e8 e9 e10 e11 e12 e13 : Addr × Obj} (D : Sd H fs L m h (e1 :: e2 :: e3 :: e4 :: e5 :: e6 :: e7 :: e8 :: e9 :: e10 :: e11 :: e12 :: e13 :: led)) (k : let a1 := e1; let a2 := e2; let a3 := e3; let a4 := e4; let a5 := e5; let a6 := e6; let a7 := e7; let a8 := e8; let a9 := e9; let a10 := e10; let a11 := e11; let a12 := e12; let a13 := e13; Sd H fs L m h (a1 :: a2 :: a3 :: a4 :: a5 :: a6 :: a7 :: a8 :: a9 :: a10 :: a11 :: a12 :: a13 :: led) → P) : P := k D
end
end Mine
end

section
open PySem PySem.W PySem.Calls PyProof.Rows Mine
set_option compiler.extract_closed false
local macro_rules | `(tactic| walk_at "mem") => `(tactic| first | assumption | exact List.Mem.head _ | (refine List.Mem.tail _ ?_; walk_at "mem") | (exact List.mem_append_left _ (by assumption)) | (refine List.mem_append_right _ ?_; walk_at "mem"))
local macro_rules | `(tactic| walk_at "sz") => `(tactic| first | lia | (simp only [List.length_append, List.length_cons, List.length_nil, List.length_take, List.length_drop] at *; lia) | (simp; done) | (simp; lia))
local macro_rules | `(tactic| walk_at "yes") => `(tactic| first | rfl | assumption | decide | exact decide_eq_true (by assumption) | exact decide_eq_false (by assumption) | (simp only [decide_eq_true_eq, Bool.not_eq_true', Bool.not_eq_false', decide_eq_false_iff_not]; lia) | (simp; done) | (simp; lia) | (simp_all; done))
local macro_rules | `(tactic| walk_at "enter") => `(tactic| ((case ho => k_is); (case hcd => k_is); (case hroom => walk_at "dp"); (case hbind => exact rfl); (case hloc => exact locs rfl); (case hcell => decide); (case hco => exact rfl); (case hgen => exact rfl); (case hk => exact rfl)))
local macro_rules | `(tactic| walk_at "enterC") => `(tactic| ((case ho => k_is); (case hcd => k_is); (case hroom => walk_at "dp"); (case hbind => exact rfl); (case hloc => walk_at "cellK"); (case hcell => decide); (case hco => exact rfl); (case hgen => exact rfl); (case hk => exact rfl)))
local macro_rules | `(tactic| walk_at "cellK") => `(tactic| (intro n x hx; simp only [List.mem_cons, List.not_mem_nil, or_false] at hx; (repeat' (first | (subst hx; first | exact .inl rfl | exact .inr ⟨rfl, rfl⟩) | (rcases hx with hx | hx)))))
local macro_rules | `(tactic| walk_at "dp") => `(tactic| first | lia | (simp only [depth_deeper] at *; lia))
local macro_rules | `(tactic| walk_at "cut") => `(tactic| first | assumption | ((rename cut _ _ _ = _ => hcutx); exact hcutx) | exact cut_to _ _ | exact cut_from _ _)
local macro_rules | `(tactic| walk_at "un") => `(tactic| first | lia | (simp only [units_deeper] at *; lia))
local macro_rules | `(tactic| walk_at "hh") => `(tactic| first | assumption | (with_reducible_and_instances assumption) | (show Around.handled _ = none; (rename Around.handled _ = none => hhx); exact hhx))
local macro_rules | `(tactic| walk_at "dv") => `(tactic| exact rfl)
local macro_rules | `(tactic| walk_at "part") => `(tactic| first | exact .none | exact .int _ _)
local macro_rules | `(tactic| walk_at "ap") => `(tactic| (intro h' tk' e' D'; dsimp only [List.set_cons_succ, List.set_cons_zero] at D'))
local macro_rules | `(tactic| walk_at "cl") => `(tactic| (intro _ _ _ D' _; (try dsimp only [List.set_cons_succ, List.set_cons_zero] at D')))

theorem Mine.fillit : (PySem.Challenge.rw_ij0176_01.name = PySem.Challenge.rw_ij0176_01.name) ∧ (Mine.KK0 = Mine.KK0) := by
  k_fill
  exact ⟨rfl, rfl⟩

open PySem PySem.W PySem.Calls PyProof.Rows
set_option Elab.async false
set_option maxRecDepth 100000
set_option autoImplicit false
set_option maxHeartbeats 4000000
namespace Mine
section
variable {prog : Program} {w : World} {A : Around} {s : Shared} {H : Heap} {fs : Ledg} {L : Addr} {m : Vm} {led : Ledg}
theorem translate_sd {c : Nat} {t : Tok} {Q : Value → Shared → Prop} (X : (Mine.KK0 w.params).In H) (hh : A.handled = none) (D : Sd H fs L m s.heap led) (hc : c < 128)
    (h : ∀ t' h' tk, Sd H fs L m h' led → Q (.str (S (esc c)) t') { s with heap := h', toks := tk }) : wpAny (model prog w) A (call (.builtin "str.translate") [.str (S [c]) t, .ref 45]) Q NoE s := by
  have hg : s.heap.get? 45 = some ⟨.type "dict", none, .dict es45.toArray 24, #[]⟩ := (D.kIn X) _ _ (KF.k45 w)
  refine wpAny_call (codeAny_call_builtin F.slot_str_translate.plain BF.entry_translate (F.slot_str_translate.check _ _ _ _ _ _ _ _ (typeIs_str _ _ _) (BF.args_translate _ _) ?_))
  by_cases hm : c ∈ specials
  · obtain ⟨tv, e⟩ := f45_in (prog := prog) (w := w) hm
    refine translate_found (m45 hg) e rfl hc fun t' tk => ?_
    have := h t' s.heap tk D
    rw [esc, if_pos hm] at this
    exact this
  · refine translate_missing (m45 hg) (f45_out hm) (by decide) hh hc fun t' h' tk hk => ?_
    have := h t' h' tk (D.keeps hk)
    rw [esc, if_neg hm] at this
    exact this
end
section
variable {w : World} {A : Around} {s : Shared} {H : Heap} {fs : Ledg} {L : Addr} {m mg mb : Vm} {led : Ledg} {pp : Program} {loose : List Str}
theorem ct_escape {c : Nat} {t : Tok} {Q : Value → Shared → Prop} (X : (Mine.KK0 w.params).In H) (T : TopRead pp loose mg mb H) (hh : A.handled = none) (hd : A.depth + 2 < recursionLimit) (D : Sd H fs L m s.heap led) (hc : c < 128)
    (h : ∀ t h' tk, Sd H fs L m h' led → Q (.str (S (esc c)) t) { s with heap := h', toks := tk }) :
    wpAny (model PR w) A (call (.ref 55) [.str (S [c]) t]) Q NoE s := by
  refine' call_sdL (hh := hh) (K := Mine.KK0 w.params) (binds := [("pattern", .str (S [c]) t)]) D X T.nolimit ?ho ?hcd ?hroom ?hbind ?hloc ?hcell ?_ ?hco ?hgen ?hk
  walk_at "enter"
  intro C oL h1 tk1 D1 lv
  intro env kR A1 hA1 hA2 hA3
  (with_reducible show wpAny _ _ (execs _ _) _ _ _); (try clear kS); with_reducible refine ex_cons ?_; intro kS
  try dsimp only
  refine @wpAny_If _ _ _ _ _ _ _ _ _ _ ?_
  try dsimp only
  refine @isTrue_plain _ _ _ _ _ _ _ _ ?_ (by rfl)
  try dsimp only
  refine @call_bi _ _ _ _ _ _ _ _ _ _ _ _ _ _ _ _ _ _ _ _ _ (by assumption) (by assumption) (by assumption) (by k_is) (by boot_by_name) ?_ (by decide) (by rfl) (by rfl) (by rfl) (by rfl) (by decide) (by rfl) (by rfl)
  try dsimp only
  refine @spliced_more _ _ _ _ _ _ _ _ _ ?_ (by rfl)
  try dsimp only
  refine @nm_local _ _ _ _ _ _ _ _ _ _ _ _ _ (by assumption) (by walk_at "dv") ?_ (by rfl) (by rfl) (by decide)
  try dsimp only
  refine @spliced_more _ _ _ _ _ _ _ _ _ ?_ (by rfl)
  try dsimp only
  refine @nm_bi _ _ _ _ _ _ _ _ _ _ _ _ _ _ _ _ _ _ (by assumption) (by assumption) (by assumption) (by k_is) (by boot_by_name) ?_ (by decide) (by rfl) (by rfl) (by rfl) (by rfl) (by decide)
  try dsimp only
  refine @spliced_none _ _ _ _ _ _ _ ?_
  try dsimp only
  refine @IsiPair.str_str _ _ _ _ _ _ _ _ ?_
  try dsimp only
  refine @wpAny_truthy_bool _ _ _ _ _ _ ?_
  try dsimp only
  (with_reducible show (if _ = true then _ else _)); refine @iteY _ _ _ (by walk_at "yes") ?_
  try dsimp only
  (with_reducible show wpAny _ _ (execs _ _) _ _ _); (try clear kS); with_reducible refine ex_cons ?_; intro kS
  try dsimp only
  refine @wpAny_Return_some _ _ _ _ _ _ _ _ ?_
  try dsimp only
  refine @meth1_str _ _ _ _ _ _ _ _ _ _ _ _ F.slot_str_translate F.type_str_translate ?_ (by rfl) (by rfl) (by rfl)
  try dsimp only
  refine @nm_local _ _ _ _ _ _ _ _ _ _ _ _ _ (by assumption) (by walk_at "dv") ?_ (by rfl) (by rfl) (by decide)
  try dsimp only
  refine ⟨⟨_, _, rfl⟩, ?_⟩
  try dsimp only
  refine @nm_glob _ _ _ _ _ _ _ _ _ _ _ _ _ _ _ _ _ _ (by assumption) (by assumption) (by assumption) (by k_is) ?_ (by rfl) (by rfl) (by rfl) (by decide)
  try dsimp only
  refine @translate_sd _ _ _ _ _ _ _ _ _ _ _ _ (by assumption) (by walk_at "hh") (by assumption) (by assumption) ?_; intro _ _ _ _
  try dsimp only
  exact h _ _ _ (lv _ _ _ _ (by assumption))
end
end Mine

section
open PySem PySem.W PySem.Calls PyProof.Rows PySem.Builtin PySem.Builtin.Re
set_option Elab.async false
set_option maxRecDepth 100000
set_option autoImplicit false
set_option maxHeartbeats 4000000
namespace Mine
noncomputable def code32 : Array Nat := #[14, 14, 4, 1, 1, 9, 0, 64, 0, 1342177280, 0, 0, 0, 0, 0, 17, 0, 13, 11, 9, 0, 64, 0, 1342177280, 0, 0, 0, 0, 0, 17, 1, 1]
namespace BF
theorem plain_re : PlainAttrs "re.Pattern" :=
  ⟨⟨"object.__getattribute__", by rw [typeLookup_type, builtinLookup_eq_fast]; kernel_rfl, by decide +kernel⟩, by rw [typeLookup_type, builtinLookup_eq_fast]; kernel_rfl⟩
theorem slot_sub : Slot "re.Pattern" "sub" "re.Pattern.sub" :=
  .of (owner := "re.Pattern") (n := "sub") (by rw [typeLookup_type, builtinLookup_eq_fast]; kernel_rfl) (by decide +kernel) (by decide +kernel) (by decide +kernel)
    (by first | exact .inl (by decide +kernel) | exact .inr (by decide +kernel)) (by rw [isSubtype_type]; kernel_rfl)
theorem type_sub : typeOf (.builtin "re.Pattern.sub") = pure (.type "method_descriptor") := by show builtinType _ = _; rw [builtinType_eq_fast]; kernel_rfl
theorem entry_sub : entryFor table "re.Pattern.sub" = some Builtin.«re.Pattern.sub» := entryFor_of_tree (by kernel_rfl)
theorem entry_loop : entryFor table "re.Pattern.sub.loop" = some Builtin.«re.Pattern.sub.loop» := entryFor_of_tree (by kernel_rfl)
theorem args_sub (a b c : Value) : argsOk "re.Pattern.sub" ⟨[a, b, c], []⟩ := by unfold argsOk; kernel_rfl
theorem fn_call : typeLookup (.type "function") "__call__" = pure (some (.builtin "function.__call__")) := by rw [typeLookup_type, builtinLookup_eq_fast]; kernel_rfl
theorem str_bytearray : isSubtype (.type "str") (.type "bytearray") = pure false := by rw [isSubtype_type]; kernel_rfl
end BF
section
variable {prog : Program} {w : World} {A : Around} {E : Value → Shared → Prop} {s : Shared}
theorem drive_done {n : Nat} {m : Sre.M} {Q : Sre.M → Shared → Prop} (hm : (m.runFor reTurnSteps).outcome.isSome = true) (h : Q (m.runFor reTurnSteps) s) : wpAny (model prog w) A (reDrive (n + 1) m) Q E s := by
  unfold reDrive
  rw [if_pos hm]
  exact wpAny_pure h
theorem names_loop (m : Sre.M) (l : List Nat) {Q : PUnit → Shared → Prop} (h : Q ⟨⟩ s) :
    wpAny (model prog w) A (forIn l PUnit.unit fun i _ => if m.seen.has i = true then do rule (Sre.names.getD i ""); pure (ForInStep.yield PUnit.unit) else pure (ForInStep.yield PUnit.unit)) Q E s := by
  induction l with
  | nil => exact wpAny_pure h
  | cons a r ih =>
    rw [List.forIn_cons]
    refine wpAny_bind ?_
    split
    · exact wpAny_bind (wpAny_rule (wpAny_pure ih))
    · exact wpAny_pure ih
theorem run_none {x : Nat} (hx : x ∈ [42, 63, 91]) {Q : Option Sre.M → Shared → Prop} (h : Q none s) : wpAny (model prog w) A (reRunToEnd (Sre.forSearch code32 #[x] 1 0 1 false)) Q E s := by
  have h1 : ((Sre.forSearch code32 #[x] 1 0 1 false).runFor reTurnSteps).outcome.isSome = true := by
    simp only [List.mem_cons, List.not_mem_nil, or_false] at hx
    rcases hx with rfl | rfl | rfl <;> decide +kernel
  have h2 : ((Sre.forSearch code32 #[x] 1 0 1 false).runFor reTurnSteps).outcome = some .failed := by
    simp only [List.mem_cons, List.not_mem_nil, or_false] at hx
    rcases hx with rfl | rfl | rfl <;> kernel_rfl
  generalize Sre.forSearch code32 #[x] 1 0 1 false = m at h1 h2 ⊢
  unfold reRunToEnd
  refine wpAny_bind ?_
  rw [show (2 ^ 64 : Nat) = 18446744073709551615 + 1 from by decide]
  refine drive_done h1 ?_
  generalize m.runFor reTurnSteps = m' at h2 ⊢
  refine wpAny_bind (names_loop _ _ ?_)
  rw [h2]
  exact wpAny_pure h
end
end Mine
end

section
open PySem PySem.W PySem.Calls PyProof.Rows PySem.Builtin PySem.Builtin.Re
set_option Elab.async false
set_option maxRecDepth 100000
set_option autoImplicit false
set_option maxHeartbeats 4000000
namespace Mine
noncomputable def code32v : Array Value := code32.map fun n => .int (Int.ofNat n) 0
noncomputable def pat36 (t t2 : Tok) : Obj := ⟨.type "re.Pattern", none, .fields #[.str (Str.ofString "([&~|])") t, .int 32 t2, .int 1 0, .none, .none, .ref 35, .int 0 0], #[]⟩
noncomputable def tup35 : Obj := ⟨.type "tuple", none, .seq code32v 0, #[]⟩
section
variable {prog : Program} {w : World} {A : Around} {E : Value → Shared → Prop} {s : Shared}
theorem whole {x : Nat} {t t1 t2 : Tok} {Q : ReTarget → Shared → Prop} (h36 : s.heap.get? 36 = some (pat36 t1 t2)) (h35 : s.heap.get? 35 = some tup35)
    (h : Q { pattern := .ref 36, string := .str (S [x]) t, code := code32, text := #[x], kind := 0, groups := 1, pos := 0, lim := 1 } s) :
    wpAny (model prog w) A (reWholeTarget (.ref 36) (.str (S [x]) t)) Q E s := by
  unfold reWholeTarget fieldsOf reTextOf reNoCollectionInside reRawItems asStr?
  repeat (any_goals (first | assumption | wp_step))
  have e : Array.map (fun x => x.toNat) (Array.map reRawOf ((some code32v).getD #[])) = code32 := by decide +kernel
  rw [e]
  exact h
theorem sub_outer {x : Nat} {t t1 t2 : Tok} {f : Addr} {o : Obj} (hx : x ∈ [42, 63, 91]) (hf : s.heap.get? f = some o) (hfc : o.cls = .type "function") (hfd : o.dict = none) (h36 : s.heap.get? 36 = some (pat36 t1 t2)) (h35 : s.heap.get? 35 = some tup35)  {Q : Fin → Shared → Prop}
   (h : ∀ tk, Q (.again (.builtin "re.Pattern.sub.loop" ⟨[.ref 36, .str (S [x]) t, .ref f, rawInt 1, rawInt 0, rawInt 0, rawInt 0, rawInt 0, .bool false, .ref s.heap.objs.size, .bool false], []⟩)) { s with heap := s.heap.push (listOf #[] 0), toks := tk }) :
   wpAny (model prog w) A (Builtin.«re.Pattern.sub» ⟨[.ref 36, .ref f, .str (S [x]) t], []⟩) Q E s := by
  have hT : s.TypeIs (.ref f) "function" := ⟨o, hf, hfc⟩
  have hT2 : s.TypeIs (.str (S [x]) t) "str" := rfl
  have f1 := BF.fn_call
  have f2 := BF.str_bytearray
  unfold Builtin.«re.Pattern.sub» reSubstitute
  repeat (any_goals (first | assumption | ((with_reducible show wpAny _ _ (reWholeTarget _ _) _ _ _); refine whole h36 h35 ?_) | wp_step))
  exact h _
theorem join_one {x : Nat} {l : Addr} {u v : Tok} {b e : Array Nat} {n : Nat} {Q : Value → Shared → Prop} (hb : b = #[]) (he : e = #[x]) (hl : s.heap.get? l = some (listOf #[.str ⟨e⟩ v] n))
    (h : ∀ t' tk, Q (.str (S [x]) t') { s with toks := tk }) : wpAny (model prog w) A (call (.builtin "str.join") [.str ⟨b⟩ u, .ref l]) Q E s := by
  subst hb he
  have e1 : Txt.join (S []) ([[x]].map S) = S [x] := by
    exact (beq_iff_eq.mp (join_plain_closes _ _)).trans (S_join [[x]])
  refine join_list (items := #[.str (S [x]) v]) (ys := [[x]].map S) ⟨_, hl, rfl, ⟨_, rfl⟩⟩ (SVs.strs (.cons ⟨_, rfl⟩ .nil)) (by simp [S_len]) fun t' k => ?_
  exact e1 ▸ h t' k
theorem sub_loop {x : Nat} {t t1 t2 : Tok} {f l : Addr} (hx : x ∈ [42, 63, 91]) (h36 : s.heap.get? 36 = some (pat36 t1 t2)) (h35 : s.heap.get? 35 = some tup35) (hl : s.heap.get? l = some (listOf #[] 0)) {Q : Fin → Shared → Prop}
   (h : ∀ h' t' tk, Heap.SameBut l s.heap h' → Q (.done (.ret (.str (S [x]) t'))) { s with heap := h', toks := tk }) :
   wpAny (model prog w) A (Builtin.«re.Pattern.sub.loop» ⟨[.ref 36, .str (S [x]) t, .ref f, rawInt 1, rawInt 0, rawInt 0, rawInt 0, rawInt 0, .bool false, .ref l, .bool false], []⟩) Q E s := by
  unfold Builtin.«re.Pattern.sub.loop» reNextFound
  repeat (any_goals (first | assumption | ((with_reducible show wpAny _ _ (reWholeTarget _ _) _ _ _); refine whole h36 h35 ?_) | ((with_reducible show wpAny _ _ (reRunToEnd _) _ _ _); refine run_none hx ?_) | ((fail_if_success (with_reducible show wpAny _ _ (call _ _) _ _ _)); wp_step)))
  dsimp only
  refine join_one (x := x) (e := #[x].extract 0 1) (n := 1) (v := s.toks) (by simp) (by simp) ((Heap.get?_update_self _ hl rfl).trans rfl) ?_
  intro t' tk
  simp only [Bool.false_eq_true, if_false]
  exact wpAny_pure (h _ _ _ (Heap.SameBut.update ..))
theorem call_sub {x : Nat} {t t1 t2 : Tok} {f : Addr} {o : Obj} (hx : x ∈ [42, 63, 91]) (hf : s.heap.get? f = some o) (hfc : o.cls = .type "function") (hfd : o.dict = none) (h36 : s.heap.get? 36 = some (pat36 t1 t2)) (h35 : s.heap.get? 35 = some tup35) {Q : Value → Shared → Prop}
   (h : ∀ h' t' tk, (∀ b o, s.heap.get? b = some o → h'.get? b = some o) → Q (.str (S [x]) t') { s with heap := h', toks := tk }) :
   wpAny (model prog w) A (call (.builtin "re.Pattern.sub") [.ref 36, .ref f, .str (S [x]) t]) Q E s := by
  refine wpAny_call (codeAny_call_builtin BF.slot_sub.plain BF.entry_sub (BF.slot_sub.check _ _ _ _ _ _ _ _ ⟨_, h36, rfl⟩ (BF.args_sub _ _ _) (sub_outer hx hf hfc hfd h36 h35 fun tk => ?_)))
  have kq : ∀ v, (Code.builtin "re.Pattern.sub.loop" ⟨[.ref 36, .str (S [x]) t, .ref f, rawInt 1, rawInt 0, rawInt 0, rawInt 0, rawInt 0, .bool false, .ref v, .bool false], []⟩).quiet = true := fun _ => Code.quiet_builtin _ (by decide +kernel)
  refine ⟨kq _, codeAny_builtin BF.entry_loop ?_⟩
  refine sub_loop hx (Heap.get?_push_of_some _ h36) (Heap.get?_push_of_some _ h35) (Heap.get?_push_size _ rfl) fun h' t' tk' hs => ?_
  refine h h' t' tk' fun b o' e => ?_
  refine (hs.2 b (Nat.ne_of_lt (Heap.lt_size e))).trans (Heap.get?_push_of_some _ e)
end
namespace KF
theorem k36 (w : World) : (KK w).lookup 36 = some (pat36 285 320) := by kernel_rfl
theorem k35 (w : World) : (KK w).lookup 35 = some tup35 := by kernel_rfl
end KF
end Mine
end

section
open PySem PySem.W PySem.Calls PyProof.Rows
set_option Elab.async false
set_option maxRecDepth 100000
set_option autoImplicit false
set_option maxHeartbeats 4000000
namespace Mine
section
variable {prog : Program} {w : World} {A : Around} {s : Shared} {H : Heap} {fs : Ledg} {L a : Addr} {m mg mb : Vm} {led : Ledg} {p : Program} {loose : List Str} {mean : ExcName → Option Value} {cn : Str} {cs : Scope}
  {params : Arguments} {body : Expr} {scope : Scope} {pos : Pos} {ps : Array Value}
theorem lam_sd {Q : Value → Shared → Prop} (D : Sd H fs L m s.heap ((57, tabObj ps) :: led)) (T : Top p loose mean mg mb H) (C : CodeHd H 61 57) (ht : TriplesOk ps.toList)
    (hdef : defaultsOf params (envX cn cs L a (.ref 61) []) = ([], [])) (hcl : closureFor scope (envX cn cs L a (.ref 61) []) = pure [])
    (h : ∀ f ob h' tk ps', Sd H fs L m h' ((f, ob) :: (57, tabObj ps') :: led) → TriplesOk ps'.toList → ob.cls = .type "function" → ob.dict = none → Q (.ref f) { s with heap := h', toks := tk }) :
    wpAny (model prog w) A (eval (.Lambda params body scope pos) (envX cn cs L a (.ref 61) [])) Q NoE s := by
  refine kla_eval hdef ?_
  have hne : ∀ q ∈ led ++ fs, q.1 ≠ 57 := fun q hq e => by
    have nd := D.nd
    rw [List.cons_append, List.map_cons, List.nodup_cons] at nd
    exact nd.1 (List.mem_map.mpr ⟨q, hq, e⟩)
  have hP := D.get (.head _)
  cases hf : codeAmong pos ps.toList with
  | none =>
    refine kla_nest D.fr D.nw T C rfl (UpdF.head hne) ht hf hcl fun f c' oc vs t ctv h' tk F' N' hd hv hlt hlt2 => ?_
    have N2 : News H L h' ((f, _) :: ((57, tabObj _) :: (led ++ fs))) := fun q hq => N' q (by
      rcases List.mem_cons.mp hq with rfl | hq
      · exact .head _
      · exact .tail _ (.tail _ hq))
    have D2 : Sd H fs L m h' ((57, tabObj (ps ++ #[rawInt pos.line, rawInt pos.col, .ref c'])) :: led) := ⟨F', fun q hq => N' q (.tail _ (.tail _ hq)), D.nd⟩
    have hall : ∀ q ∈ ((57, tabObj (ps ++ #[rawInt pos.line, rawInt pos.col, Value.ref c'])) :: led) ++ fs, q.1 < f := by
      intro q hq
      rcases List.mem_cons.mp hq with rfl | hq
      · exact Nat.lt_trans (hlt (57, tabObj ps) (.head _)) hlt2
      · exact Nat.lt_trans (hlt q (.tail _ hq)) hlt2
    refine h f _ h' tk _ (D2.consLt hall F' N2) ?_ rfl rfl
    have e : (ps ++ #[rawInt pos.line, rawInt pos.col, Value.ref c']).toList = ps.toList ++ [rawInt pos.line, rawInt pos.col, Value.ref c'] := by simp
    rw [e]; exact TriplesOk_snoc _ _ _ _ ht
  | some cv =>
    have hgs := T.g.keeps D.fr.keep
    obtain ⟨bm, ob, b1, b2, b3, b4, b5, b6⟩ := T.bmain
    have hbP : bm ≠ 57 := fun q => by
      have e := D.fr.keep _ _ b3
      rw [q, hP] at e; cases e; cases b4
    have hbG : bm ≠ mainGlobals := fun q => by
      obtain ⟨o, es, ep, e, hd, _⟩ := T.g
      rw [q, e] at b3; cases b3; rw [hd] at b6; cases b6
    refine kla_makeFunctionHit (mg := mg) hcl rfl hgs rfl (C.keeps D.fr.keep) hP ht hf ⟨bm, ob, b1, b2, hbG, hbP, D.fr.keep _ _ b3, b4, b5, b6⟩ fun ctv h' tk hk hsz => ?_
    exact h _ _ _ tk ps ((D.keeps hk).push _) ht rfl rfl
end
end Mine
end

section
open PySem PySem.W PySem.Calls PyProof.Rows PySem.Builtin PySem.Builtin.Str
set_option Elab.async false
set_option maxRecDepth 100000
set_option autoImplicit false
set_option maxHeartbeats 4000000
namespace Mine
section
variable {prog : Program} {w : World} {A : Around} {s : Shared} {env : Env} {H : Heap} {fs : Ledg} {L : Addr} {m : Vm} {led : Ledg} {K : Frag}
theorem truthy_S {l : List Nat} {t : Tok} {Q : Bool → Shared → Prop} (hl : l.length ≤ 1000000) (h : ∀ tk, Q (!l.isEmpty) { s with toks := tk }) : wpAny (model prog w) A (truthy (.str (S l) t)) Q NoE s := by
  refine PySem.P.truthy_str (by rw [S_len]; lia) ?_
  have e' : (((S l).length : Int) != 0) = !l.isEmpty := by
    rw [S_len]
    cases l with
    | nil => rfl
    | cons a r => simp; lia
  rw [e']
  exact h _
theorem any_S (l : List (List Nat)) (k : List Nat) : ((l.map S).any (· == S k)) = decide (k ∈ l) := by
  rw [Bool.eq_iff_iff]
  simp only [List.any_map, List.any_eq_true, Function.comp, beq_iff_eq, decide_eq_true_eq, S_eq]
  exact ⟨fun ⟨x, hx, e⟩ => e ▸ hx, fun h => ⟨k, h, rfl⟩⟩
theorem in_T {tp : Addr} {vs : List Value} {ls : List (List Nat)} {k : List Nat} {t : Tok} {Q : Value → Shared → Prop} (D : Sd H fs L m s.heap led) (hm : (tp, tupOf vs) ∈ led) (hv : SVs vs ls) (h : Q (.bool (decide (k ∈ ls))) s) :
    wpAny (model prog w) A (compareOp .In (.str (S k) t) (.ref tp)) Q NoE s :=
  in_tuple_strs (items := vs.toArray) (ys := ls.map S) ⟨_, D.get hm, rfl, ⟨_, rfl⟩⟩ (by simpa using hv.strs) (by rw [any_S]; exact h)
theorem in_Ls {l : Addr} {vs : List Value} {ls : List (List Nat)} {k : List Nat} {n : Nat} {t : Tok} {Q : Value → Shared → Prop} (D : Sd H fs L m s.heap led) (hm : (l, listOf vs.toArray n) ∈ led) (hv : SVs vs ls) (h : Q (.bool (decide (k ∈ ls))) s) :
    wpAny (model prog w) A (compareOp .In (.str (S k) t) (.ref l)) Q NoE s :=
  in_list_strs (ys := ls.map S) ⟨_, D.get hm, rfl, ⟨_, rfl⟩⟩ hv.strs (by rw [any_S]; exact h)
/-- nothing to replace -/
theorem replace_none {x : Nat} {z : List Nat} {t u v : Tok} {Q : Value → Shared → Prop} (hx : x ∈ [42, 63, 91]) (h : ∀ t', Q (.str (S [x]) t') s) :
    wpAny (model prog w) A (call (.builtin "str.replace") [.str (S [x]) t, .str (S [92]) u, .str (S z) v]) Q NoE s := by
  have e : (occurrences (S [x]) (S [92]) 0 (S [x]).length ((S [x]).length + 1)).isEmpty = true := by
    simp only [List.mem_cons, List.not_mem_nil, or_false] at hx
    rcases hx with rfl | rfl | rfl <;> decide +kernel
  refine call_gives F.slot_str_replace (typeIs_str _ _ _) F.entry_str_replace (F.args_str_replace_3 _ _ _) (gives_str_replace (S [x]) (S [92]) (S z) t u v fun hf => ?_) ?_
  · rw [e] at hf; simp at hf
  · rw [e]; simp only [Bool.true_or, if_true]; exact h t
theorem meth2_str {o e f : Expr} {name : Str} {id : String} {apos pos : Pos} {Q : Value → Shared → Prop} (slot : Slot "str" name id) (hty : typeOf (.builtin id) = pure (.type "method_descriptor"))
    (h : wpAny (model prog w) A (eval o env) (fun ov s₁ => (∃ x t, ov = .str x t) ∧ wpAny (model prog w) A (eval e env) (fun v s₂ => wpAny (model prog w) A (eval f env) (fun v2 s₃ => wpAny (model prog w) A (call (.builtin id) [ov, v, v2]) Q NoE s₃) NoE s₂) NoE s₁) NoE s)
    (hbase : attributeBase o name env (eval o env) = eval o env := by rfl) (hline : (apos.endLine == pos.line) = true := by rfl) (he : starEach [e, f] env = (false, eval e env) :: starEach [f] env := by rfl) (he2 : starEach [f] env = [(false, eval f env)] := by rfl) :
    wpAny (model prog w) A (eval (.Call (.Attribute o name apos) [e, f] [] pos) env) Q NoE s := by
  refine wpAny_Call_method hbase (by rw [he, he2]; rfl) hline F.plainAttrs_str slot hty (wpAny_mono h (fun ov s₁ h₁ => ?_) fun _ _ x => x)
  obtain ⟨⟨x, t, rfl⟩, h₁⟩ := h₁
  refine ⟨typeIs_str _ _ _, fun a e => (nomatch e), ?_⟩
  refine callWith_method1 (rest := [f]) ?_ he (by rw [he2]; rfl)
  refine spliced_more ?_ he
  refine wpAny_mono h₁ (fun v s₂ h₂ => spliced_more (rest := []) ?_ he2) fun _ _ x => x
  exact wpAny_mono h₂ (fun v s₂ h₂ => spliced_none h₂) fun _ _ x => x
end
end Mine
end

section
open PySem PySem.W PySem.Calls PyProof.Rows
set_option Elab.async false
set_option maxRecDepth 100000
set_option autoImplicit false
set_option maxHeartbeats 4000000
namespace Mine
section
variable {prog : Program} {w : World} {A : Around} {s : Shared} {H : Heap} {fs : Ledg} {L a : Addr} {m mg mb : Vm} {led : Ledg} {p : Program} {loose : List Str} {mean : ExcName → Option Value} {cn : Str} {cs : Scope}
  {params : Arguments} {body : Expr} {scope : Scope} {lpos pos apos px py : Pos} {ps : Array Value}
theorem tail_slice' {lo hi : Option Expr} {p : Pos} {base : Expr} {l r : List Nat} {sl : Addr} {x y : Option (Int × Tok)} {t : Tok} {Q : Value → Shared → Prop} (hsl : s.heap.IsSlice sl x y none) (hl : l.length ≤ 1000000) (hr : cut l (x.map (·.1)) (y.map (·.1)) = r)
    (h : ∀ t' tk, Q (.str (S r) t') { s with toks := tk }) :
    wpAny (model prog w) A (subscriptTail base (.Slice lo hi none p) (.str (S l) t) (.ref sl)) Q NoE s := tail_slice (value := lo) hsl hl (by rw [hr]; exact h)
abbrev slObj (a b : Value) : Obj := { cls := .type "slice", data := .fields #[a, b, .none] }
theorem slice2 {h : Heap} {lo hi : Option Expr} {p : Pos} {base : Expr} {l r : List Nat} {a b : Int} {t ta tb tk0 : Tok} {Q : Value → Shared → Prop} (D : Sd H fs L m h led) (hl : l.length ≤ 1000000) (hr : cut l (some a) (some b) = r)
    (k : ∀ h' t' tk, Sd H fs L m h' led → Q (.str (S r) t') { s with heap := h', toks := tk }) :
    wpAny (model prog w) A (subscriptTail base (.Slice lo hi none p) (.str (S l) t) (.ref h.objs.size)) Q NoE { s with heap := h.push (slObj (.int a ta) (.int b tb)), toks := tk0 } :=
  tail_slice' (s := { s with heap := h.push (slObj (.int a ta) (.int b tb)), toks := tk0 }) (x := some (a, ta)) (y := some (b, tb)) ⟨_, Heap.get?_push_size _ rfl, rfl, rfl⟩ hl hr fun t' tk => k _ t' tk (D.push _).tail
theorem sliceTo {h : Heap} {lo hi : Option Expr} {p : Pos} {base : Expr} {l r : List Nat} {b : Int} {t tb tk0 : Tok} {Q : Value → Shared → Prop} (D : Sd H fs L m h led) (hl : l.length ≤ 1000000) (hr : cut l none (some b) = r)
    (k : ∀ h' t' tk, Sd H fs L m h' led → Q (.str (S r) t') { s with heap := h', toks := tk }) :
    wpAny (model prog w) A (subscriptTail base (.Slice lo hi none p) (.str (S l) t) (.ref h.objs.size)) Q NoE { s with heap := h.push (slObj .none (.int b tb)), toks := tk0 } :=
  tail_slice' (s := { s with heap := h.push (slObj .none (.int b tb)), toks := tk0 }) (x := none) (y := some (b, tb)) ⟨_, Heap.get?_push_size _ rfl, rfl, rfl⟩ hl hr fun t' tk => k _ t' tk (D.push _).tail
theorem sliceFrom {h : Heap} {lo hi : Option Expr} {p : Pos} {base : Expr} {l r : List Nat} {a : Int} {t ta tk0 : Tok} {Q : Value → Shared → Prop} (D : Sd H fs L m h led) (hl : l.length ≤ 1000000) (hr : cut l (some a) none = r)
    (k : ∀ h' t' tk, Sd H fs L m h' led → Q (.str (S r) t') { s with heap := h', toks := tk }) :
    wpAny (model prog w) A (subscriptTail base (.Slice lo hi none p) (.str (S l) t) (.ref h.objs.size)) Q NoE { s with heap := h.push (slObj (.int a ta) .none), toks := tk0 } :=
  tail_slice' (s := { s with heap := h.push (slObj (.int a ta) .none), toks := tk0 }) (x := some (a, ta)) (y := none) ⟨_, Heap.get?_push_size _ rfl, rfl, rfl⟩ hl hr fun t' tk => k _ t' tk (D.push _).tail
theorem sub_sd {x : Nat} {y : Str} {t : Tok} {Q : Value → Shared → Prop} (X : (KK w).In H) (T : Top p loose mean mg mb H) (C : CodeHd H 61 57) (D : Sd H fs L m s.heap ((57, tabObj ps) :: led)) (ht : TriplesOk ps.toList)
    (hy : m y = some (.str (S [x]) t)) (hx : x ∈ [42, 63, 91])
    (h : ∀ t' h' tk ps', Sd H fs L m h' ((57, tabObj ps') :: led) → TriplesOk ps'.toList → Q (.str (S [x]) t') { s with heap := h', toks := tk })
    (hdef : defaultsOf params (envX cn cs L a (.ref 61) []) = ([], [])) (hcl : closureFor scope (envX cn cs L a (.ref 61) []) = pure [])
    (hg : (envX cn cs L a (.ref 61) []).kindOf "_twin_re_1" = some .globalImplicit) (hly : (envX cn cs L a (.ref 61) []).kindOf y = some .local) (hk : cs.kind = .function) (hdy : (y == ("__debug__" : Str)) = false) (hline : (apos.endLine == pos.line) = true)
    (he : starEach [.Lambda params body scope lpos, .Name y py] (envX cn cs L a (.ref 61) []) = (false, eval (.Lambda params body scope lpos) (envX cn cs L a (.ref 61) [])) :: starEach [.Name y py] (envX cn cs L a (.ref 61) []) := by rfl)
    (he2 : starEach [.Name y py] (envX cn cs L a (.ref 61) []) = [(false, eval (.Name y py) (envX cn cs L a (.ref 61) []))] := by rfl) :
    wpAny (model prog w) A (eval (.Call (.Attribute (.Name "_twin_re_1" px) "sub" apos) [.Lambda params body scope lpos, .Name y py] [] pos) (envX cn cs L a (.ref 61) [])) Q NoE s := by
  have h36 : ∀ h', (KK w).In h' → h'.get? 36 = some (pat36 285 320) := fun h' Y => Y _ _ (KF.k36 w)
  have h35 : ∀ h', (KK w).In h' → h'.get? 35 = some tup35 := fun h' Y => Y _ _ (KF.k35 w)
  refine wpAny_Call_method rfl (by rw [he, he2]; rfl) hline BF.plain_re BF.slot_sub BF.type_sub (nm_glob (K := KK w) D X (topRead_of T) (KF.g_twin w) ?_ hk hg)
  refine ⟨⟨_, h36 _ (D.kIn X), rfl⟩, fun b e => ⟨_, by cases e; exact h36 _ (D.kIn X), rfl⟩, ?_⟩
  refine callWith_method1 (rest := [.Name y py]) ?_ he (by rw [he2]; rfl)
  refine spliced_more ?_ he
  refine lam_sd D T C ht hdef hcl fun f ob h' tk ps' D' ht' hc1 hc2 => ?_
  refine spliced_more (rest := []) ?_ he2
  refine nm_local (env := envX cn cs L a (.ref 61) []) D' hy ?_ hk hly hdy
  refine spliced_none ?_
  refine call_sub hx (D'.get (.head _)) hc1 hc2 (h36 _ (D'.kIn X)) (h35 _ (D'.kIn X)) fun h2 t2 tk2 hk2 => ?_
  exact h _ _ _ _ (D'.tail.keeps hk2) ht'
end
end Mine
end

section
open PySem PySem.W PySem.Calls PyProof.Rows
set_option Elab.async false
set_option maxRecDepth 100000
set_option autoImplicit false
set_option maxHeartbeats 4000000
namespace Mine
section
variable {prog : Program} {w : World} {A : Around} {s : Shared} {env : Env} {H : Heap} {fs : Ledg} {m : Vm} {led : Ledg}
theorem ascii_S {l : List Nat} (hl : ∀ c ∈ l, c < 128) : ((S l).cps.all fun c => decide (c < 128)) = true := by
  simp only [Array.all_eq_true', List.mem_toArray, decide_eq_true_eq]
  exact hl
theorem for_S {x : Str} {px : Pos} {body : List Stmt} {l : List Nat} {t : Tok} {R : Result → Shared → Prop} (hh : A.handled = none) (hl : ∀ c ∈ l, c < 128) (D : Sd H fs env.locals m s.heap led) (J : Nat → Vm → Ledg → Prop) (h0 : J 0 m led)
    (turn : ∀ I oI i c u m led h tk, l[i]? = some c → J i m led → Sd H fs env.locals (fun y => if y = x then some (.str (S [c]) u) else m y) h ((I, oI) :: led) →
      wpAny (model prog w) A (execs body env) (fun f s₃ => match f with
          | .brk => R (.ok .next) s₃
          | .ret v => R (.ok (.ret v)) s₃
          | _ => ∃ m' h' tk' led', s₃ = { s with heap := h', toks := tk' } ∧ Sd H fs env.locals m' h' ((I, oI) :: led') ∧ J (i + 1) m' led') NoE { s with heap := h, toks := tk })
    (done : ∀ m led h tk, J l.length m led → Sd H fs env.locals m h led → R (.ok .next) { s with heap := h, toks := tk })
    (hk : env.scope.kind = .function := by rfl) (hx : env.kindOf x = some .local := by rfl) (ht : ∀ I v, letOwnedTupleGo (.Name x px) (.ref I) v = pure () := by intro _ _; rfl) :
    wpAny (model prog w) A (pyIter (.str (S l) t)) (fun it s₂ => codeAny (model prog w) A (.forLoop (.Name x px) it body [] env) R s₂) NoE s := by
  refine wpAny_pyIter_ascii (ascii_S hl) ?_
  refine for_sd (I := s.heap.objs.size) (n := (S l).cps.size) (P := SignAt (S l)) (St := fun i h => h.IsStrIter s.heap.objs.size "str_ascii_iterator" (S l) t i) (fp := [s.heap.objs.size]) (led := led) (oI := { cls := .type "str_ascii_iterator", data := .fields #[.str (S l) t, .int 0 0] })
    (Walks.strAscii hh _ _ _) (fun i h ⟨o, e, _⟩ => ⟨o, e⟩) [] (fun b hb hne => absurd (List.mem_singleton.mp hb) hne) J (D.push _) ⟨_, Heap.get?_push_size _ rfl, rfl, rfl⟩ h0 (fun _ _ _ _ _ hp => by cases hp) (fun i v m led h tk oI hi hP hj D' => ?_) (fun m led h tk hj D' => ?_) hk hx (ht _)
  · obtain ⟨c, u, e1, rfl⟩ := hP
    refine turn _ oI i c u m led h tk ?_ hj D'
    simpa using e1
  · exact done m led h tk (by simpa using hj) D'
theorem for_L {x : Str} {px : Pos} {body : List Stmt} {l : Addr} {vs : List Value} {n : Nat} {R : Result → Shared → Prop} (hh : A.handled = none) (D : Sd H fs env.locals m s.heap led) (J : Nat → Vm → Ledg → Prop) (h0 : J 0 m led)
    (hJ : ∀ i m led, J i m led → (l, listOf vs.toArray n) ∈ led)
    (turn : ∀ I oI i v m led h tk, vs[i]? = some v → J i m led → Sd H fs env.locals (fun y => if y = x then some v else m y) h ((I, oI) :: led) →
      wpAny (model prog w) A (execs body env) (fun f s₃ => match f with
          | .brk => R (.ok .next) s₃
          | .ret v => R (.ok (.ret v)) s₃
          | _ => ∃ m' h' tk' led', s₃ = { s with heap := h', toks := tk' } ∧ Sd H fs env.locals m' h' ((I, oI) :: led') ∧ J (i + 1) m' led') NoE { s with heap := h, toks := tk })
    (done : ∀ m led h tk, J vs.length m led → Sd H fs env.locals m h led → R (.ok .next) { s with heap := h, toks := tk })
    (hk : env.scope.kind = .function := by rfl) (hx : env.kindOf x = some .local := by rfl) (ht : ∀ I v, letOwnedTupleGo (.Name x px) (.ref I) v = pure () := by intro _ _; rfl) :
    wpAny (model prog w) A (pyIter (.ref l)) (fun it s₂ => codeAny (model prog w) A (.forLoop (.Name x px) it body [] env) R s₂) NoE s := by
  have hl := D.get (hJ _ _ _ h0)
  have hL : s.heap.IsList l vs.toArray := ⟨_, hl, rfl, ⟨_, rfl⟩⟩
  have hne : l ≠ s.heap.objs.size := Nat.ne_of_lt (Heap.lt_size hl)
  refine wpAny_pyIter_list hL ?_
  refine for_sd (I := s.heap.objs.size) (n := vs.toArray.size) (P := fun i v => vs.toArray[i]? = some v) (fp := [s.heap.objs.size, l]) (led := led) (oI := { cls := .type "list_iterator", data := .fields #[.ref l, .int 0 0] })
    (Walks.list hh _ _ hne _) (fun i h ⟨⟨o, e, _⟩, _⟩ => ⟨o, e⟩) [(l, listOf vs.toArray n)] (fun b hb hnb => ?_) J (D.push _) ⟨⟨_, Heap.get?_push_size _ rfl, rfl, rfl⟩, ⟨_, Heap.get?_push_of_some _ hl, rfl, ⟨_, rfl⟩⟩⟩ h0 (fun i m led hj p hp => by rw [List.mem_singleton.mp hp]; exact hJ _ _ _ hj) (fun i v m led h tk oI hi hP hj D' => ?_) (fun m led h tk hj D' => ?_) hk hx (ht _)
  · rcases List.mem_cons.mp hb with e | hb
    · exact absurd e hnb
    · rw [List.mem_singleton.mp hb]; exact ⟨_, .inl (.head _)⟩
  · exact turn _ oI i v m led h tk (by simpa using hP) hj D'
  · exact done m led h tk (by simpa using hj) D'
end
end Mine
end

section
open PySem PySem.W PySem.Calls PyProof.Rows
set_option Elab.async false
set_option maxRecDepth 100000
set_option autoImplicit false
set_option maxHeartbeats 4000000
namespace Mine
theorem CellsAre.addrs {cm : Vm} {cs : List (Str × Addr)} {cells : Ledg} (x : CellsAre cm cs cells) : cells.map (·.1) = cs.map (·.2) := by
  induction x with
  | nil => rfl
  | cons _ _ ih => simp [ih]
section
variable {prog : Program} {w : World} {A : Around} {s : Shared} {H : Heap} {fs : Ledg} {L : Addr} {m : Vm} {led : Ledg} {K : Frag}
theorem call_sdC {name qual : Str} {params : Arguments} {body : List Stmt} {scope : Scope} {dV kV doc pm cdv ct oc : Value} {an od : Option Addr} {osl : Array (Option Value)} {f : Addr} {vs : List Value} {binds : List (Str × Value)} {Q : Value → Shared → Prop}
    (D : Sd H fs L m s.heap led) (X : K.In H) (hlim : H.NoLimit)
    (ho : K.lookup f = some ⟨oc, od, .func (fnOf name qual params body scope dV kV doc pm an cdv ct), osl⟩) (hcd : codeIn K cdv qual = true) (hroom : A.depth < recursionLimit)
    (hbind : bindArgs (fnOf name qual params body scope dV kV doc pm an cdv ct) ⟨vs, []⟩ = pure binds)
    (hkind : ∀ n, ∀ x ∈ binds, scope.names.lookup x.1 = some .local ∨ (scope.names.lookup x.1 = some .cell ∧ ((cellsFrom n scope.names []).lookup x.1).isSome = true))
    (hnd : ((cellsFrom 0 scope.names []).map (·.1)).Nodup)
    (h : ∀ C oL h' tk cells, CellsAre (bindC (envOfC qual scope C f cdv).kindOf binds fun _ => none) (cellsFrom (C + 1) scope.names []) cells →
      Sd H ((L, oL) :: fs) C (bindL (envOfC qual scope C f cdv).kindOf binds fun _ => none) h' (cells ++ led) → (∀ m₂ L₂ h₂ led₂, Sd H ((L, oL) :: fs) L₂ m₂ h₂ led₂ → Sd H fs L m h₂ led₂) →
      wpAny (model prog w) (A.deeper (envOfC qual scope C f cdv)) (execs body (envOfC qual scope C f cdv)) (fun fl s' => Q (match fl with | .ret v => v | _ => .none) s') NoE { s with heap := h', toks := tk })
    (hco : scope.isCoroutine = false := by rfl) (hgen : scope.isGenerator = false := by rfl) (hk : scope.kind = .function := by rfl) :
    wpAny (model prog w) A (call (.ref f) vs) Q NoE s := by
  have X' := X.keeps D.fr.keep
  refine wpAny_call (codeAny_call_cells (fd := fnOf name qual params body scope dV kV doc pm an cdv ct) (body := body) (binds := binds) hroom (X' _ _ ho) rfl (hlim.keeps D.fr.keep) (codeRec_of X' hcd) rfl hbind rfl (hkind _) (fun s₁ x => ?_) hco hgen hk)
  obtain ⟨h₁, tk, rfl, _⟩ := x.done
  have hk₁ := x.toInCall.keep
  obtain ⟨oL, D', lv⟩ := D.enter (h' := h₁) hk₁ x.toInCall.ns
  obtain ⟨cells, NC, Y⟩ := Cl.news (h₀ := s.heap) (Nat.le_refl _) fun n c hm => ⟨x.cell n c (lookup_of_mem_nodup (cellsFrom_names scope.names 0 (s.heap.objs.size + 1) [] [] rfl ▸ hnd) hm), x.above n c hm⟩
  have hap : (cells.map (·.1)).Nodup := by
    rw [CellsAre.addrs Y, List.nodup_iff_pairwise_ne, List.pairwise_map]
    exact x.apart
  have hHs : ∀ b, s.heap.get? b = none → H.get? b = none := fun b e => by
    cases q : H.get? b with
    | none => rfl
    | some o => rw [D.fr.keep b o q] at e; cases e
  have live : ∀ p ∈ led ++ (L, oL) :: fs, ∃ o, s.heap.get? p.1 = some o := by
    intro p hp
    rcases List.mem_append.mp hp with hp | hp
    · exact ⟨_, (D.nw p (List.mem_append_left _ hp)).1⟩
    · rcases List.mem_cons.mp hp with rfl | hp
      · obtain ⟨o, _, _, hL, _⟩ := D.fr.ns; exact ⟨o, hL⟩
      · exact ⟨_, (D.nw p (List.mem_append_right _ hp)).1⟩
  have DC : Sd H ((L, oL) :: fs) s.heap.objs.size (bindL (envOfC qual scope s.heap.objs.size f cdv).kindOf binds fun _ => none) h₁ (cells ++ led) := by
    refine ⟨D'.fr, fun p hp => ?_, ?_⟩
    · rw [List.append_assoc] at hp
      rcases List.mem_append.mp hp with hp | hp
      · exact ⟨(NC p hp).1, (NC p hp).2.1, hHs _ (NC p hp).2.2⟩
      · exact D'.nw p hp
    · rw [List.append_assoc, List.map_append, List.nodup_append]
      refine ⟨hap, D'.nd, fun a ha b hb e => ?_⟩
      obtain ⟨p, hp, rfl⟩ := List.mem_map.mp ha
      obtain ⟨q, hq, rfl⟩ := List.mem_map.mp hb
      obtain ⟨o, ho⟩ := live q hq
      have := (NC p hp).2.2
      rw [e, ho] at this; cases this
  exact wpAny_mono (h _ oL h₁ tk cells Y DC lv) (fun fl s' q => by cases fl <;> exact q) fun _ _ x => x.elim
end
end Mine
end

section
open PySem PySem.W PySem.Calls PyProof.Rows
set_option Elab.async false
set_option maxRecDepth 100000
set_option autoImplicit false
set_option maxHeartbeats 4000000
namespace Mine
noncomputable def IterOK (prog : Program) (w : World) (A : Around) (H : Heap) (held : Ledg) (xv : Value) (s : Shared) (n : Nat) (P : Nat → Value → Prop) : Prop :=
  ∀ Q : Value → Shared → Prop, (∀ (oI : Obj) (fp : List Addr) (St : Nat → Heap → Prop), oI.isFreed = false → Walks prog w A s.heap.objs.size fp [s.heap.objs.size] n P St → (∀ i h, St i h → ∃ o, h.get? s.heap.objs.size = some o) →
    St 0 (s.heap.push oI) → (∀ b ∈ fp, b ≠ s.heap.objs.size → ∃ o, (b, o) ∈ held ∨ H.get? b = some o) → Q (.ref s.heap.objs.size) { s with heap := s.heap.push oI }) → wpAny (model prog w) A (pyIter xv) Q NoE s
section
variable {prog : Program} {w : World} {A : Around} {s : Shared} {env : Env} {H : Heap} {fs : Ledg} {m : Vm} {led : Ledg} {L : Addr}
theorem it_S {l : List Nat} {t : Tok} (hh : A.handled = none) (hl : ∀ c ∈ l, c < 128) : IterOK prog w A H [] (.str (S l) t) s l.length (fun i v => ∃ c u, l[i]? = some c ∧ v = .str (S [c]) u) := by
  intro Q h
  refine wpAny_pyIter_ascii (ascii_S hl) (h _ [s.heap.objs.size] (fun i h => h.IsStrIter s.heap.objs.size "str_ascii_iterator" (S l) t i) rfl ?_ (fun i h ⟨o, e, _⟩ => ⟨o, e⟩) ⟨_, Heap.get?_push_size _ rfl, rfl, rfl⟩ fun b hb hne => absurd (List.mem_singleton.mp hb) hne)
  have W := Walks.strAscii (prog := prog) (w := w) hh s.heap.objs.size (S l) t
  have e : (S l).cps.size = l.length := by simp
  rw [e] at W
  refine W.weaken fun i v ⟨c, u, e1, e2⟩ => ⟨c, u, by simpa using e1, e2⟩
theorem it_L {l : Addr} {vs : List Value} {n : Nat} (hh : A.handled = none) (hl : s.heap.get? l = some (listOf vs.toArray n)) : IterOK prog w A H [(l, listOf vs.toArray n)] (.ref l) s vs.length (fun i v => vs[i]? = some v) := by
  intro Q h
  have hL : s.heap.IsList l vs.toArray := ⟨_, hl, rfl, ⟨_, rfl⟩⟩
  have hne : l ≠ s.heap.objs.size := Nat.ne_of_lt (Heap.lt_size hl)
  refine wpAny_pyIter_list hL (h _ [s.heap.objs.size, l] (fun i h => h.IsListIter s.heap.objs.size l i ∧ h.IsList l vs.toArray) rfl ?_ (fun i h ⟨⟨o, e, _⟩, _⟩ => ⟨o, e⟩) ⟨⟨_, Heap.get?_push_size _ rfl, rfl, rfl⟩, ⟨_, Heap.get?_push_of_some _ hl, rfl, ⟨_, rfl⟩⟩⟩ fun b hb hnb => ?_)
  · have W := Walks.list (prog := prog) (w := w) hh s.heap.objs.size l hne vs.toArray
    have e : vs.toArray.size = vs.length := by simp
    rw [e] at W
    exact W.weaken fun i v e1 => by simpa using e1
  · rcases List.mem_cons.mp hb with e | hb
    · exact absurd e hnb
    · rw [List.mem_singleton.mp hb]; exact ⟨_, .inl (.head _)⟩
theorem it_D {d : Addr} {o : Obj} {kv : Kv} {held : Ledg} (hh : A.handled = none) (hd : s.heap.get? d = some o) (ho : DO prog w kv o) (hds : (d == sysModules) = false) (hH : (d, o) ∈ held ∨ H.get? d = some o) :
    IterOK prog w A H held (.ref d) s kv.length (fun i v => ∃ k x t, kv[i]? = some (k, x) ∧ v = .str (S k) t) := by
  intro Q h
  obtain ⟨es, ep, hx, hdat, hk, hp, hn⟩ := ho
  have hA : s.heap.DictAt (strKind prog w) d (kvS kv) ep := ⟨o, es, hd, hx, hdat, hk, hp, hn⟩
  have hne : d ≠ s.heap.objs.size := Nat.ne_of_lt (Heap.lt_size hd)
  have e : (kvS kv).length = kv.length := by simp
  refine wpAny_pyIter_dict hds hA (h _ [s.heap.objs.size, d] (fun i h => h.IsKeyIter s.heap.objs.size d i (kvS kv).length ep ∧ h.DictAt (strKind prog w) d (kvS kv) ep) rfl ?_ (fun i h ⟨⟨o, e, _⟩, _⟩ => ⟨o, e⟩) ⟨⟨_, Heap.get?_push_size _ rfl, rfl, rfl⟩, ⟨o, es, Heap.get?_push_of_some _ hd, hx, hdat, hk, hp, hn⟩⟩ fun b hb hnb => ?_)
  · have W := Walks.dictKeys (prog := prog) (w := w) (knd := strKind prog w) hh s.heap.objs.size d hne (kvS kv) ep
    rw [e] at W ⊢
    refine W.weaken fun i v ⟨k, x, e1, e2⟩ => ?_
    rw [kvS, List.getElem?_map] at e1
    cases q : kv[i]? with
    | none => rw [q] at e1; cases e1
    | some p =>
      rw [q] at e1
      cases e1
      obtain ⟨t, rfl⟩ := Value.isStrOf_shape e2
      exact ⟨p.1, p.2, t, rfl, rfl⟩
  · rcases List.mem_cons.mp hb with e | hb
    · exact absurd e hnb
    · rw [List.mem_singleton.mp hb]; exact ⟨o, hH⟩
theorem lc_any {elt : Expr} {x : Str} {ifs : List Expr} {scope : Scope} {cl : List (Str × Addr)} {h1 : Heap} {tk1 n : Nat} {held : Ledg} {P : Nat → Value → Prop} {xv : Value} {FinP : Vm → Nat → (Nat → List Value → Ledg → Prop) → Prop}
    (hO : IterOK prog w A H held xv { s with heap := h1, toks := tk1 } n P) (hn : n ≤ 1000000) (D : Sd H fs env.locals m h1 led) (J : Nat → List Value → Ledg → Prop) (h0 : J 0 [] led) (hJ : ∀ i ys led, J i ys led → ∀ p ∈ held, p ∈ led)
    (turn : ∀ I i v ys k (m₁ : Vm) (led₁ : Ledg) (h₁ : Heap) (tk₁ : Nat) (oI : Obj) (acc C : Addr) (fs₁ : Ledg), i < n → P i v → J i ys led₁ → Sd H fs₁ C (fun y => if y = x then some v else m₁ y) h₁ ((I, oI) :: (acc, listOf ys.toArray k) :: led₁) →
        wpAny (model prog w) A (testsOf ifs (compEnvC scope cl C env)) (fun ok s₃ => if ok = true then
            wpAny (model prog w) A (eval elt (compEnvC scope cl C env)) (fun y s₄ => ∃ m' h' tk' led', s₄ = { s with heap := h', toks := tk' } ∧ Sd H fs₁ C m' h' ((I, oI) :: (acc, listOf ys.toArray k) :: led') ∧ J (i + 1) (ys ++ [y]) led') NoE s₃
          else ∃ m' h' tk' led', s₃ = { s with heap := h', toks := tk' } ∧ Sd H fs₁ C m' h' ((I, oI) :: (acc, listOf ys.toArray k) :: led') ∧ J (i + 1) ys led') NoE { s with heap := h₁, toks := tk₁ })
    (done : FinP m n J) :
    wpAny (model prog w) A (pyIter xv) (fun it s₂ => ∃ h₂ tk₂ m led I oI fp n P St, it = .ref I ∧ s₂ = { s with heap := h₂, toks := tk₂ } ∧ Walks prog w A I fp [I] n P St ∧ n ≤ 1000000 ∧ St 0 h₂ ∧
      Sd H fs env.locals m h₂ ((I, oI) :: led) ∧ (∀ i h, St i h → ∃ o, h.get? I = some o) ∧ ∃ (held : Ledg) (J : Nat → List Value → Ledg → Prop), (∀ b ∈ fp, b ≠ I → ∃ o, (b, o) ∈ held ∨ H.get? b = some o) ∧ J 0 [] led ∧ (∀ i ys led, J i ys led → ∀ p ∈ held, p ∈ led) ∧
      (∀ i v ys k (m₁ : Vm) (led₁ : Ledg) (h₁ : Heap) (tk₁ : Nat) (oI : Obj) (acc C : Addr) (fs₁ : Ledg), i < n → P i v → J i ys led₁ → Sd H fs₁ C (fun y => if y = x then some v else m₁ y) h₁ ((I, oI) :: (acc, listOf ys.toArray k) :: led₁) →
        wpAny (model prog w) A (testsOf ifs (compEnvC scope cl C env)) (fun ok s₃ => if ok = true then
            wpAny (model prog w) A (eval elt (compEnvC scope cl C env)) (fun y s₄ => ∃ m' h' tk' led', s₄ = { s with heap := h', toks := tk' } ∧ Sd H fs₁ C m' h' ((I, oI) :: (acc, listOf ys.toArray k) :: led') ∧ J (i + 1) (ys ++ [y]) led') NoE s₃
          else ∃ m' h' tk' led', s₃ = { s with heap := h', toks := tk' } ∧ Sd H fs₁ C m' h' ((I, oI) :: (acc, listOf ys.toArray k) :: led') ∧ J (i + 1) ys led') NoE { s with heap := h₁, toks := tk₁ }) ∧
      FinP m n J) NoE { s with heap := h1, toks := tk1 } := by
  refine hO _ fun oI fp St hf W hat hst hheld => ?_
  exact ⟨_, _, m, led, _, oI, fp, n, P, St, rfl, rfl, W, hn, hst, D.push _ hf, hat, held, J, hheld, h0, hJ, fun i v ys k m₁ led₁ h₁ tk₁ oI acc C fs₁ => turn _ i v ys k m₁ led₁ h₁ tk₁ oI acc C fs₁, done⟩
end
end Mine
end

section
open PySem PySem.W PySem.Calls PyProof.Rows
set_option Elab.async false
set_option maxRecDepth 100000
set_option autoImplicit false
set_option maxHeartbeats 4000000
namespace Mine
section
variable {prog : Program} {w : World} {A : Around} {s : Shared} {env : Env} {H : Heap} {fs : Ledg} {m₀ : Vm} {led₀ : Ledg}
theorem listComp_sd2 {elt iter : Expr} {x : Str} {px : Pos} {ifs : List Expr} {scope : Scope} {pos : Pos} {cl : List (Str × Addr)} {Q : Value → Shared → Prop}
    (_D : Sd H fs env.locals m₀ s.heap led₀)
    (hclos : closureFor scope env = pure cl) (hcell : ∀ y ∈ scope.names, y.2 ≠ .cell) (hkind : scope.kind = .function)
    (hnames : ∀ y ∈ scope.names, y.2 = .local → scope.names.lookup y.1 = some .local) (hx : scope.names.lookup x = some .local)
    (h : wpAny (model prog w) A (eval iter env) (fun xv s₁ => wpAny (model prog w) A (pyIter xv) (fun it s₂ => ∃ h₂ tk₂ m led I oI fp n P St, it = .ref I ∧ s₂ = { s with heap := h₂, toks := tk₂ } ∧ Walks prog w A I fp [I] n P St ∧ n ≤ 1000000 ∧ St 0 h₂ ∧
      Sd H fs env.locals m h₂ ((I, oI) :: led) ∧ (∀ i h, St i h → ∃ o, h.get? I = some o) ∧ ∃ (held : Ledg) (J : Nat → List Value → Ledg → Prop), (∀ b ∈ fp, b ≠ I → ∃ o, (b, o) ∈ held ∨ H.get? b = some o) ∧ J 0 [] led ∧ (∀ i ys led, J i ys led → ∀ p ∈ held, p ∈ led) ∧
      (∀ i v ys k (m₁ : Vm) (led₁ : Ledg) (h₁ : Heap) (tk₁ : Nat) (oI : Obj) (acc C : Addr) (fs₁ : Ledg), i < n → P i v → J i ys led₁ → Sd H fs₁ C (fun y => if y = x then some v else m₁ y) h₁ ((I, oI) :: (acc, listOf ys.toArray k) :: led₁) →
        wpAny (model prog w) A (testsOf ifs (compEnvC scope cl C env)) (fun ok s₃ => if ok = true then
            wpAny (model prog w) A (eval elt (compEnvC scope cl C env)) (fun y s₄ => ∃ m' h' tk' led', s₄ = { s with heap := h', toks := tk' } ∧ Sd H fs₁ C m' h' ((I, oI) :: (acc, listOf ys.toArray k) :: led') ∧ J (i + 1) (ys ++ [y]) led') NoE s₃
          else ∃ m' h' tk' led', s₃ = { s with heap := h', toks := tk' } ∧ Sd H fs₁ C m' h' ((I, oI) :: (acc, listOf ys.toArray k) :: led') ∧ J (i + 1) ys led') NoE { s with heap := h₁, toks := tk₁ }) ∧
      (∀ ys k acc (led₁ : Ledg) (h₁ : Heap) (tk₁ : Nat), J n ys led₁ → Sd H fs env.locals m h₁ ((acc, listOf ys.toArray k) :: led₁) → Q (.ref acc) { s with heap := h₁, toks := tk₁ })) NoE s₁) NoE s)
    (hs : ∀ x, foldedSetIterable iter env x = pure x := by intro _; rfl) :
    wpAny (model prog w) A (eval (.ListComp elt [⟨.Name x px, iter, ifs, 0⟩] scope pos) env) Q NoE s :=
  listComp_sd (H := H) (fs := fs) hclos hcell hkind hnames hx h hs
theorem assignComp_sd2 {elt iter : Expr} {x y : Str} {px py : Pos} {ifs : List Expr} {scope : Scope} {pos spos : Pos} {cl : List (Str × Addr)} {Q : Flow → Shared → Prop}
    (_D : Sd H fs env.locals m₀ s.heap led₀)
    (hsw : swapsWith (.ListComp elt [⟨.Name x px, iter, ifs, 0⟩] scope pos) (some (.Name y py)) spos.line env = pure true)
    (hclos : closureFor scope env = pure cl) (hcell : ∀ y ∈ scope.names, y.2 ≠ .cell) (hkind : scope.kind = .function)
    (hnames : ∀ y ∈ scope.names, y.2 = .local → scope.names.lookup y.1 = some .local) (hx : scope.names.lookup x = some .local) (hk : env.scope.kind = .function) (hy : env.kindOf y = some .local)
    (h : wpAny (model prog w) A (eval iter env) (fun xv s₁ => wpAny (model prog w) A (pyIter xv) (fun it s₂ => ∃ h₂ tk₂ m led I oI fp n P St, it = .ref I ∧ s₂ = { s with heap := h₂, toks := tk₂ } ∧ Walks prog w A I fp [I] n P St ∧ n ≤ 1000000 ∧ St 0 h₂ ∧
      Sd H fs env.locals m h₂ ((I, oI) :: led) ∧ (∀ i h, St i h → ∃ o, h.get? I = some o) ∧ ∃ (held : Ledg) (J : Nat → List Value → Ledg → Prop), (∀ b ∈ fp, b ≠ I → ∃ o, (b, o) ∈ held ∨ H.get? b = some o) ∧ J 0 [] led ∧ (∀ i ys led, J i ys led → ∀ p ∈ held, p ∈ led) ∧
      (∀ i v ys k (m₁ : Vm) (led₁ : Ledg) (h₁ : Heap) (tk₁ : Nat) (oI : Obj) (acc C : Addr) (fs₁ : Ledg), i < n → P i v → J i ys led₁ → Sd H fs₁ C (fun y => if y = x then some v else m₁ y) h₁ ((I, oI) :: (acc, listOf ys.toArray k) :: led₁) →
        wpAny (model prog w) A (testsOf ifs (compEnvC scope cl C env)) (fun ok s₃ => if ok = true then
            wpAny (model prog w) A (eval elt (compEnvC scope cl C env)) (fun y s₄ => ∃ m' h' tk' led', s₄ = { s with heap := h', toks := tk' } ∧ Sd H fs₁ C m' h' ((I, oI) :: (acc, listOf ys.toArray k) :: led') ∧ J (i + 1) (ys ++ [y]) led') NoE s₃
          else ∃ m' h' tk' led', s₃ = { s with heap := h', toks := tk' } ∧ Sd H fs₁ C m' h' ((I, oI) :: (acc, listOf ys.toArray k) :: led') ∧ J (i + 1) ys led') NoE { s with heap := h₁, toks := tk₁ }) ∧
      (∀ ys k acc (led₁ : Ledg) (h₁ : Heap) (tk₁ : Nat), J n ys led₁ → Sd H fs env.locals (fun z => if z = y then some (.ref acc) else m z) h₁ ((acc, listOf ys.toArray k) :: led₁) → Q .next { s with heap := h₁, toks := tk₁ })) NoE s₁) NoE s)
    (hs : ∀ x, foldedSetIterable iter env x = pure x := by intro _; rfl) :
    wpAny (model prog w) A (exec (.Assign [.Name y py] (.ListComp elt [⟨.Name x px, iter, ifs, 0⟩] scope pos) spos) env) Q NoE s :=
  assignComp_sd (H := H) (fs := fs) hsw hclos hcell hkind hnames hx hk hy h hs
end
end Mine
end

section
open PySem PySem.W PySem.Calls PyProof.Rows PySem.Builtin
set_option Elab.async false
set_option maxRecDepth 100000
set_option autoImplicit false
set_option maxHeartbeats 4000000
namespace Mine
namespace BF
theorem mro_object : mroOf (.type "object") = pure [.type "object"] := by rw [mroOf_type]; kernel_rfl
theorem made_object : Bind.madeBy (.type "object") = pure (some "object.__new__") := by kernel_rfl
theorem slot_object_init : Slot "object" "__init__" "object.__init__" :=
  .of (owner := "object") (n := "__init__") (by rw [typeLookup_type, builtinLookup_eq_fast]; kernel_rfl) (by decide +kernel) (by decide +kernel) (by decide +kernel)
    (by first | exact .inl (by decide +kernel) | exact .inr (by decide +kernel)) (by rw [isSubtype_type]; kernel_rfl)
theorem called_object : TypeCalled "object" "object.__new__" "object.__init__" :=
  ⟨by decide +kernel, by decide +kernel, ⟨_, _, mro_object⟩, made_object, by decide +kernel, by rw [isSubtype_type]; kernel_rfl, slot_object_init⟩
theorem typeCall_object : checkTypeCall "object" ⟨[], []⟩ = pure () := by kernel_rfl
theorem newCall_object : checkBuiltinCall "object.__new__" ⟨[.type "object"], []⟩ = pure () := by kernel_rfl
theorem entry_object_new : entryFor table "object.__new__" = some Builtin.«object.__new__» := entryFor_of_tree (by kernel_rfl)
theorem args_object_init (a : Value) : argsOk "object.__init__" ⟨[a], []⟩ := by unfold argsOk; kernel_rfl
end BF
section
variable {prog : Program} {w : World} {A : Around} {E : Value → Shared → Prop} {s : Shared}
theorem object_new {R : PySem.Fin → Shared → Prop} {E : Value → Shared → Prop} (h : R (.done (.ret (.ref s.heap.objs.size))) { s with heap := s.heap.push { cls := .type "object" } }) :
    wpAny (model prog w) A (Builtin.«object.__new__» ⟨[.type "object"], []⟩) R E s := by
  have h1 : ((Manifest.find? "object").elim false (·.mro.any fun t => (Manifest.find? t).elim false (·.noNew))) = false := by decide +kernel
  have h2 : diesByItsTypesDel "object" = false := by decide +kernel
  have h3 := BF.made_object
  unfold Builtin.«object.__new__»
  repeat (any_goals (first | assumption | wp_step))
theorem call_object {Q : Value → Shared → Prop} (h : Q (.ref s.heap.objs.size) { s with heap := s.heap.push { cls := .type "object" } }) : wpAny (model prog w) A (call (.type "object") []) Q E s := by
  refine callType_meets (S := fun A R s => R (.ok (.ret (.ref s.heap.objs.size))) { s with heap := s.heap.push { cls := .type "object" } }) (Q₁ := fun obj s₁ => s₁.TypeIs obj "object" ∧ Q obj s₁) BF.called_object BF.typeCall_object BF.newCall_object BF.entry_object_new F.entry_object_init
    (fun prog w A R s hs => object_new hs) ⟨⟨_, Heap.get?_push_size _ rfl, rfl⟩, h⟩ fun obj s₁ hq => ⟨hq.1, BF.args_object_init _, fun _ R s => R (.ok (.ret .none)) s, fun prog w A R s hs => ?_, rfl, hq.2⟩
  exact wpAny_pure hs
theorem object_sd {H : Heap} {fs : Ledg} {L : Addr} {m : Vm} {led : Ledg} {Q : Value → Shared → Prop} (D : Sd H fs L m s.heap led) (h : ∀ a h' tk, Sd H fs L m h' ((a, { cls := .type "object" }) :: led) → Q (.ref a) { s with heap := h', toks := tk }) :
    wpAny (model prog w) A (call (.type "object") []) Q NoE s := call_object (h _ _ _ (D.push _))
theorem call_type0 {env : Env} {H : Heap} {fs : Ledg} {m : Vm} {led : Ledg} {K : Frag} {mg mb : Vm} {pp : Program} {loose : List Str} {x : Str} {T : String} {p pos : Pos} {Q : Value → Shared → Prop} (D : Sd H fs env.locals m s.heap led) (X : K.In H) (TR : TopRead pp loose mg mb H)
    (hx : nsIn K mainGlobals x = some none) (hv : bootBuiltins x = some (.type T)) (h : wpAny (model prog w) A (call (.type T) []) Q NoE s) (hn : x ≠ "__name__" := by decide)
    (hk : env.scope.kind = .function := by rfl) (hxk : env.kindOf x = some .globalImplicit := by rfl) (hg : env.globals = mainGlobals := by rfl) (hb : env.builtins = builtinsNs := by rfl) (hd : (x == ("__debug__" : Str)) = false := by decide) :
    wpAny (model prog w) A (eval (.Call (.Name x p) [] [] pos) env) Q NoE s :=
  wpAny_Call_Name_kw (nm_bi D X TR hx hv (callWith_type0 h) hn hk hxk hg hb hd)
end
end Mine
end

section
open PySem PySem.W PySem.Calls PyProof.Rows
set_option Elab.async false
set_option maxRecDepth 100000
set_option autoImplicit false
set_option maxHeartbeats 4000000
namespace Mine
section
variable {prog : Program} {w : World} {A : Around} {s : Shared} {env : Env} {H : Heap} {fs : Ledg} {m : Vm} {led : Ledg} {L : Addr}
theorem tail_tup {value slice : Expr} {tp : Addr} {vs : List Value} {i : Int} {k : Nat} {u : Tok} {v : Value} {Q : Value → Shared → Prop} (D : Sd H fs L m s.heap led) (hl : (tp, tupOf vs) ∈ led) (hi : i = (k : Int)) (hv : vs[k]? = some v) (hsz : vs.length ≤ 1000000) (h : Q v s)
    (hs : subscripted slice false (.ref tp) (.int i u) = operate [.ref tp, .int i u] (getItem (.ref tp) (.int i u)) := by rfl) :
    wpAny (model prog w) A (subscriptTail value slice (.ref tp) (.int i u)) Q NoE s := by
  subst hi
  have hlt := (List.getElem?_eq_some_iff.mp hv).1
  have hT : IsTup s.heap tp vs.toArray := ⟨_, D.get hl, rfl, ⟨_, rfl⟩⟩
  have hty : s.TypeIs (.ref tp) "tuple" := ⟨_, D.get hl, rfl⟩
  have hx : vs.toArray[k]? = some v := by simpa using hv
  refine tail_any hty PyProof.Rows.slot_tuple_getitem.lookup (getItem_tuple (j := k) hT (by lia) (by lia) ?_ hx h) hs
  unfold seqIndex?; simp; lia
theorem isNot_None_S {l : List Nat} {t : Tok} {Q : Value → Shared → Prop} (h : Q (.bool true) s) : wpAny (model prog w) A (compareOp .IsNot (.str (S l) t) .none) Q NoE s :=
  wpAny_isNot_other rfl (fun e => nomatch e) h
/-- an object in the middle of the ledger brought to the front -/
theorem Sd.front {h : Heap} {pre post : Ledg} {x : Addr × Obj} (D : Sd H fs L m h (pre ++ x :: post)) : Sd H fs L m h (x :: (pre ++ post)) := D.perm List.perm_middle.symm
theorem Sd.back {h : Heap} {pre post : Ledg} {x : Addr × Obj} (D : Sd H fs L m h (x :: (pre ++ post))) : Sd H fs L m h (pre ++ x :: post) := D.perm List.perm_middle
theorem Sd.rest {h : Heap} {pre post : Ledg} (D : Sd H fs L m h (pre ++ post)) : Sd H fs L m h post := D.subl (List.sublist_append_right ..)
theorem Sd.low {h : Heap} {b : Addr} {o ob : Obj} {d : Addr} (D : Sd H fs L m h led) (hd : (d, o) ∈ led) (hb : H.get? b = some ob) : d ≠ b := by
  intro e
  have := (D.nw _ (List.mem_append_left _ hd)).2.2
  rw [e, hb] at this; cases this
end
section
variable {prog : Program} {w : World} {A : Around} {s : Shared} {env : Env} {H : Heap} {fs : Ledg} {m : Vm} {led : Ledg} {L : Addr}
theorem set_D2 {d : Addr} {o : Obj} {kv : Kv} {k : List Nat} {t : Tok} {pre post : Ledg} {v : Value} {Q : Unit → Shared → Prop} (D : Sd H fs L m s.heap (pre ++ (d, o) :: post)) (ho : DO prog w kv o) (hv : vat kv k = none) (hz : kv.length ≤ 1000000)
    (h : ∀ h' o' tk, Sd H fs L m h' (pre ++ (d, o') :: post) → DO prog w (kv ++ [(k, v)]) o' → vat (kv ++ [(k, v)]) k = some v → Q () { s with heap := h', toks := tk }) :
    wpAny (model prog w) A (setItem (.ref d) (.str (S k) t) v) Q NoE s := by
  refine set_D D.front 0 rfl ho hv hz fun h' o' tk D' ho' => h h' o' tk (Sd.back D') ho' (vat_append_self _ _ _ hv)
theorem Sd.move2 {h : Heap} {pre post : Ledg} {x y : Addr × Obj} (D : Sd H fs L m h (x :: y :: (pre ++ post))) : Sd H fs L m h (pre ++ x :: y :: post) :=
  D.perm (by
    have p1 : (pre ++ x :: y :: post).Perm (x :: (pre ++ y :: post)) := List.perm_middle
    have p2 : (pre ++ y :: post).Perm (y :: (pre ++ post)) := List.perm_middle
    exact p1.trans (p2.cons _))
end
/-- what the second word of the law tells of the texts -/
noncomputable def tk (hd : List Nat) : List (List Nat) := (ops70.map (·.1)).filter fun t => decide (t.take hd.length = hd)
noncomputable def KInv (kv : Kv) (kl : Ledg) : Prop := ∀ k v, vat kv k = some v → ∃ tp t l vs n, v = .ref tp ∧ (tp, tupOf [.str (S k) t, .ref l]) ∈ kl ∧ (l, listOf vs.toArray n) ∈ kl ∧ SVs vs (tk k)
theorem KInv.mono {kv : Kv} {kl kl' : Ledg} (h : KInv kv kl) (hs : ∀ p ∈ kl, p ∈ kl') : KInv kv kl' := fun k v e => by
  obtain ⟨tp, t, l, vs, n, h1, h2, h3, h4⟩ := h k v e
  exact ⟨tp, t, l, vs, n, h1, hs _ h2, hs _ h3, h4⟩
theorem KInv.nil : KInv [] [] := fun k v e => by cases e
theorem KInv.add {kv : Kv} {kl : Ledg} (h : KInv kv kl) {hd : List Nat} {tp l : Addr} {t : Tok} {vs : List Value} {n : Nat} (hn : vat kv hd = none) (h1 : (tp, tupOf [.str (S hd) t, .ref l]) ∈ kl) (h2 : (l, listOf vs.toArray n) ∈ kl) (h3 : SVs vs (tk hd)) :
    KInv (kv ++ [(hd, .ref tp)]) kl := fun k v e => by
  by_cases q : hd = k
  · subst q
    rw [vat_append_self _ _ _ hn] at e
    cases e
    exact ⟨tp, t, l, vs, n, rfl, h1, h2, h3⟩
  · rw [vat_append_other _ _ _ _ q] at e
    exact h k v e
theorem vat_append_mono {kv kv' : Kv} {k : List Nat} (h : (vat kv k).isSome = true) : (vat (kv ++ kv') k).isSome = true := by
  unfold vat at *
  rw [List.find?_append]
  cases e : List.find? (fun p => decide (p.1 = k)) kv with
  | none => rw [e] at h; cases h
  | some p => simp
theorem tk_step (hd : List Nat) : (tk hd.dropLast).filter (fun t => decide (t.take hd.length = hd)) = tk hd := by
  unfold tk
  rw [List.filter_filter]
  refine List.filter_congr fun t _ => ?_
  by_cases h : t.take hd.length = hd
  · have : t.take hd.dropLast.length = hd.dropLast := by
      rw [List.dropLast_eq_take, List.length_take, Nat.min_eq_left (by lia)]
      have e : t.take (hd.length - 1) = (t.take hd.length).take (hd.length - 1) := by rw [List.take_take, Nat.min_eq_left (by lia)]
      rw [e, h]
    simp only [decide_eq_true h, decide_eq_true this, Bool.and_self]
  · simp [h]
end Mine
end

section
open PySem PySem.W PySem.Calls PyProof.Rows
set_option autoImplicit false
namespace Mine
noncomputable def keys : List (List Nat) := ops70.map (·.1)
noncomputable def codeOf (x : List Nat) : Nat := ((ops70.find? fun p => decide (p.1 = x)).map (·.2)).getD 0
theorem vat70 {x : List Nat} (h : x ∈ keys) : ∃ t, vat kv70 x = some (.int (codeOf x : Nat) t) := by
  have e : vat kv70 x = (ops70.find? fun p => decide (p.1 = x)).map fun p => .int (p.2 : Int) (508 + 2 * p.2) := by
    unfold vat kv70
    rw [List.find?_map, Option.map_map]
    rfl
  unfold codeOf
  cases q : ops70.find? fun p => decide (p.1 = x) with
  | none =>
    exfalso
    obtain ⟨p, hp, rfl⟩ := List.mem_map.mp h
    have := List.find?_eq_none.mp q p hp
    simp at this
  | some p => rw [e, q]; exact ⟨_, rfl⟩
noncomputable def scan (t : List Nat) : Nat → Nat → Nat → Nat
  | 0, _, b => b
  | f + 1, s, b => if tk (t.take s) ≠ [] then scan t f (s + 1) (if t.take s ∈ tk (t.take s) then s else b) else b
noncomputable def bestOf (t : List Nat) : Nat := scan t t.length 1 0
noncomputable def word (t : List Nat) : Nat := if 0 < bestOf t then codeOf (t.take (bestOf t)) else 256 + t.headD 0
noncomputable def rd : Nat → List Nat → List Nat
  | 0, _ => []
  | _, [] => []
  | f + 1, c :: r => word (c :: r) :: rd f ((c :: r).drop (max 1 (bestOf (c :: r))))
noncomputable def R (t : List Nat) : List Nat := rd t.length t
theorem rd_fuel : ∀ (f g : Nat) (t : List Nat), t.length ≤ f → t.length ≤ g → rd f t = rd g t
  | 0, 0, _, _, _ => rfl
  | 0, g + 1, [], _, _ => rfl
  | 0, g + 1, c :: r, h, _ => by simp at h
  | f + 1, 0, [], _, _ => rfl
  | f + 1, 0, c :: r, _, h => by simp at h
  | f + 1, g + 1, [], _, _ => rfl
  | f + 1, g + 1, c :: r, hf, hg => by
    unfold rd
    rw [rd_fuel f g]
    · rw [List.length_drop]; have := Nat.le_max_left 1 (bestOf (c :: r)); simp only [List.length_cons] at *; lia
    · rw [List.length_drop]; have := Nat.le_max_left 1 (bestOf (c :: r)); simp only [List.length_cons] at *; lia
theorem R_nil : R [] = [] := rfl
theorem R_step (t : List Nat) (h : t ≠ []) : R t = word t :: R (t.drop (max 1 (bestOf t))) := by
  cases t with
  | nil => exact absurd rfl h
  | cons c r =>
    unfold R
    show word (c :: r) :: rd r.length ((c :: r).drop (max 1 (bestOf (c :: r)))) = word (c :: r) :: rd ((c :: r).drop (max 1 (bestOf (c :: r)))).length ((c :: r).drop (max 1 (bestOf (c :: r))))
    congr 1
    apply rd_fuel
    · rw [List.length_drop]; have := Nat.le_max_left 1 (bestOf (c :: r)); simp only [List.length_cons] at *; lia
    · exact Nat.le_refl _
theorem keys_ok : ∀ l ∈ keys, (PyData.str (S l)).canLay0 = true := by decide +kernel
theorem tk_ok (hd : List Nat) : ∀ l ∈ tk hd, (PyData.str (S l)).canLay0 = true := fun l h => keys_ok l (List.mem_filter.mp h).1
end Mine
end

section
open PySem PySem.W PySem.Calls PyProof.Rows
set_option Elab.async false
set_option maxRecDepth 100000
set_option autoImplicit false
set_option maxHeartbeats 4000000
namespace Mine
noncomputable def zs (ns : List Nat) : List Int := ns.map fun (n : Nat) => (n : Int)
abbrev IVs (vs : List Value) (ns : List Nat) : Prop := IntsAre vs (zs ns)
theorem IntsAre.snoc' {vs : List Value} {ns : List Int} (h : IntsAre vs ns) (k : Int) (t : Tok) : IntsAre (vs ++ [.int k t]) (ns ++ [k]) := by
  induction h with
  | nil => exact .cons _ _ .nil
  | cons a b _ ih => exact .cons _ _ ih
theorem IVs.snoc {vs : List Value} {ns : List Nat} (h : IVs vs ns) (k : Nat) (t : Tok) : IVs (vs ++ [.int (k : Int) t]) (ns ++ [k]) := by
  have := IntsAre.snoc' h (k : Int) t
  show IntsAre _ (zs (ns ++ [k]))
  unfold zs at *
  rw [List.map_append]; exact this
theorem zs_eq {a b : List Nat} : (zs a = zs b) = (a = b) := by
  unfold zs
  rw [eq_iff_iff]
  constructor
  · intro h
    exact List.map_inj_right (fun x y h => Int.ofNat_inj.mp h) |>.mp h
  · rintro rfl; rfl
theorem IVs.len {vs : List Value} {ns : List Nat} (h : IVs vs ns) : vs.length = ns.length := by
  have : ∀ {vs : List Value} {ns : List Int}, IntsAre vs ns → vs.length = ns.length := by
    intro vs ns h
    induction h with
    | nil => rfl
    | cons _ _ _ ih => simp [ih]
  rw [this h]; simp [zs]
theorem readsAll_S {h : Heap} {vs : List Value} {ls : List (List Nat)} (hv : SVs vs ls) : ReadsAll h vs (ls.map fun l => PyData.str (S l)) [] := by
  induction hv with
  | nil => exact .nil
  | @cons v l vs ls hh _ ih =>
    obtain ⟨t, rfl⟩ := hh
    have := ReadsAll.cons (Reads.str (h := h) (S l) t) ih
    simpa using this
theorem canLay_S : ∀ ls : List (List Nat), (∀ l ∈ ls, (PyData.str (S l)).canLay0 = true) → PyData.canLayAll0 (ls.map fun l => PyData.str (S l)) = true
  | [], _ => by simp [PyData.canLayAll0]
  | l :: r, h => by
    rw [List.map_cons]
    simp only [PyData.canLayAll0, h l (.head _), canLay_S r fun x hx => h x (.tail _ hx), Bool.and_self]
section
variable {prog : Program} {w : World} {A : Around} {s : Shared} {env : Env} {H : Heap} {fs : Ledg} {m : Vm} {led : Ledg} {L : Addr}
theorem eq_IV {a b : Addr} {vs us : List Value} {n k : Nat} {xs ys : List Nat} {Q : Value → Shared → Prop} (D : Sd H fs L m s.heap led) (ha : (a, listOf vs.toArray n) ∈ led) (hb : (b, listOf us.toArray k) ∈ led) (h1 : IVs vs xs) (h2 : IVs us ys) (hu : A.units + 64 < cLine)
    (h : Q (.bool (decide (xs = ys))) s) : wpAny (model prog w) A (compareOp .Eq (.ref a) (.ref b)) Q NoE s :=
  eq_intsK ⟨_, D.get ha, rfl, ⟨_, rfl⟩⟩ h1 ⟨_, D.get hb, rfl, ⟨_, rfl⟩⟩ h2 hu (by simp only [zs_eq]; exact h)
theorem ne_IV {a b : Addr} {vs us : List Value} {n k : Nat} {xs ys : List Nat} {Q : Value → Shared → Prop} (D : Sd H fs L m s.heap led) (ha : (a, listOf vs.toArray n) ∈ led) (hb : (b, listOf us.toArray k) ∈ led) (h1 : IVs vs xs) (h2 : IVs us ys) (hu : A.units + 64 < cLine)
    (h : Q (.bool (!decide (xs = ys))) s) : wpAny (model prog w) A (compareOp .NotEq (.ref a) (.ref b)) Q NoE s :=
  ne_intsK ⟨_, D.get ha, rfl, ⟨_, rfl⟩⟩ h1 ⟨_, D.get hb, rfl, ⟨_, rfl⟩⟩ h2 hu (by simp only [zs_eq]; exact h)
theorem ne_nilS {a b : Addr} {vs : List Value} {n k : Nat} {ls : List (List Nat)} {Q : Value → Shared → Prop} (D : Sd H fs L m s.heap led) (ha : (a, listOf vs.toArray n) ∈ led) (hb : (b, listOf [].toArray k) ∈ led) (h1 : SVs vs ls) (hc : ∀ l ∈ ls, (PyData.str (S l)).canLay0 = true) (hu : A.units + 64 < cLine)
    (h : Q (.bool (!ls.isEmpty)) s) : wpAny (model prog w) A (compareOp .NotEq (.ref a) (.ref b)) Q NoE s := by
  refine PySem.SeqAt.compareNe_reads (Reads.list (D.get ha) rfl rfl (by simpa using readsAll_S h1)) (Reads.list (xs := []) (D.get hb) rfl rfl (by simpa using ReadsAll.nil)) (by simp only [PyData.canLay0]; exact canLay_S ls hc) (by simp [PyData.canLay0, PyData.canLayAll0]) ?_ ?_
  · have : min (PyData.depth (.list (ls.map fun l => PyData.str (S l)))) (PyData.depth (.list [])) ≤ 1 := Nat.le_trans (Nat.min_le_right _ _) (by simp [PyData.depth, PyData.depthAll])
    lia
  · cases ls <;> simpa [PyData.eqv, PyData.eqvAll] using h
theorem ord_S {c : Nat} {t : Tok} {Q : Value → Shared → Prop} (h : ∀ t' tk, Q (.int (c : Int) t') { s with toks := tk }) : wpAny (model prog w) A (call (.builtin "ord") [.str (S [c]) t]) Q NoE s :=
  P.ord_of_char (h _ _)
theorem max_two {b : Nat} {t u : Tok} {Q : Value → Shared → Prop} (hh : A.handled = none) (D : Sd H fs L m s.heap led)
    (h : ∀ t' h' tk, Sd H fs L m h' led → Q (.int ((max 1 b : Nat) : Int) t') { s with heap := h', toks := tk }) : wpAny (model prog w) A (call (.builtin "max") [.int 1 t, .int (b : Int) u]) Q NoE s := by
  refine max_two_ints hh fun h' tk hk => ?_
  by_cases q : (b : Int) > 1
  · rw [if_pos q]
    have e : ((max 1 b : Nat) : Int) = (b : Int) := by lia
    have := h u h' tk (D.keeps hk)
    rw [e] at this; exact this
  · rw [if_neg q]
    have e : ((max 1 b : Nat) : Int) = 1 := by lia
    have := h t h' tk (D.keeps hk)
    rw [e] at this; exact this
theorem list_append {l : Addr} {its : Array Value} {n : Nat} {x : Value} {Q : Value → Shared → Prop} (D : Sd H fs L m s.heap led) (i : Nat) (hi : led[i]? = some (l, listOf its n))
    (h : ∀ h' tk, Sd H fs L m h' (led.set i (l, listOf (its.push x) (n + 1))) → Q .none { s with heap := h', toks := tk }) (hsz : its.size ≤ sizeLine := by size_fits) : wpAny (model prog w) A (call (.builtin "list.append") [.ref l, x]) Q NoE s :=
  append_sd (hsz := hsz) D i hi h
end
end Mine
end

section
open PySem PySem.W PySem.Calls PyProof.Rows
set_option Elab.async false
set_option maxRecDepth 100000
set_option autoImplicit false
set_option maxHeartbeats 4000000
namespace Mine
section
variable {prog : Program} {w : World} {A : Around} {s : Shared} {env : Env} {H : Heap} {fs : Ledg} {m : Vm} {led : Ledg} {L : Addr}
theorem add_LL {a b : Addr} {vs us : List Value} {n k : Nat} {Q : Value → Shared → Prop} (D : Sd H fs L m s.heap led) (ha : (a, listOf vs.toArray n) ∈ led) (hb : (b, listOf us.toArray k) ∈ led)
    (h : ∀ l h' tk, Sd H fs L m h' ((l, listOf (vs ++ us).toArray 0) :: led) → Q (.ref l) { s with heap := h', toks := tk }) (hsz : vs.length + us.length ≤ 1000000) :
    wpAny (model prog w) A (binaryOp .Add (.ref a) (.ref b)) Q NoE s :=
  add_lists D.fr D.nw ⟨_, D.get ha, rfl, ⟨_, rfl⟩⟩ ⟨_, D.get hb, rfl, ⟨_, rfl⟩⟩ (fun h' F' N' => h _ h' _ (D.cons F' N')) (by rw [sizeLine_eq]; lia)
abbrev rangeObj (a b : Int) (t u v : Tok) : Obj := { cls := .type "range", data := .fields #[.int a t, .int b u, .int 1 v] }
theorem range2_sd {a b : Int} {t u : Tok} {Q : Value → Shared → Prop} (D : Sd H fs L m s.heap led) (h : ∀ r v h' tk, Sd H fs L m h' ((r, rangeObj a b t u v) :: led) → Q (.ref r) { s with heap := h', toks := tk }) :
    wpAny (model prog w) A (call (.type "range") [.int a t, .int b u]) Q NoE s := call_range_2 (h _ _ _ _ (D.push _))
theorem it_R {r : Addr} {a b : Int} {t u v : Tok} {n : Nat} (hh : A.handled = none) (hr : s.heap.get? r = some (rangeObj a b t u v)) (hn : b - a = (n : Int)) (ha : -(2 ^ 62) ≤ a) (ha' : a < 2 ^ 62) (hb : -(2 ^ 62) ≤ b) (hb' : b < 2 ^ 62) :
    IterOK prog w A H [] (.ref r) s n (fun i x => ∃ t, x = .int (a + i * 1) t) := by
  intro Q h
  have e : Builtin.Range.rangeSize a b 1 = (n : Int) := by rw [rangeSize_one]; split <;> lia
  refine wpAny_pyIter_range (a := a) (b := b) (c := 1) (t := t) (u := u) (v := v) hr (small_one ha ha' hb hb') (h _ [s.heap.objs.size] (fun i h => IsRangeIter h s.heap.objs.size (a + (i : Nat) * 1) ((n : Int) - (i : Nat)) 1) rfl (Walks.range hh _ a 1 n) (fun i h q => ⟨_, q⟩) ?_ fun b hb hne => absurd (List.mem_singleton.mp hb) hne)
  rw [e]
  have : IsRangeIter (s.heap.push { cls := .type "range_iterator", data := .fields #[rawInt a, rawInt (n : Int), rawInt 1] }) s.heap.objs.size a n 1 := Heap.get?_push_size _ rfl
  simpa using this
theorem it_T {tp : Addr} {vs : List Value} (hh : A.handled = none) (hl : s.heap.get? tp = some (tupOf vs)) : IterOK prog w A H [(tp, tupOf vs)] (.ref tp) s vs.length (fun i v => vs[i]? = some v) := by
  intro Q h
  have hL : s.heap.IsTuple tp vs.toArray := ⟨_, hl, rfl, ⟨_, rfl⟩⟩
  have hne : tp ≠ s.heap.objs.size := Nat.ne_of_lt (Heap.lt_size hl)
  refine wpAny_pyIter_tuple hL (h _ [s.heap.objs.size, tp] (fun i h => h.IsTupleIter s.heap.objs.size tp i ∧ h.IsTuple tp vs.toArray) rfl ?_ (fun i h ⟨⟨o, e, _⟩, _⟩ => ⟨o, e⟩) ⟨⟨_, Heap.get?_push_size _ rfl, rfl, rfl⟩, ⟨_, Heap.get?_push_of_some _ hl, rfl, ⟨_, rfl⟩⟩⟩ fun b hb hnb => ?_)
  · have W := Walks.tuple (prog := prog) (w := w) hh s.heap.objs.size tp hne vs.toArray
    have e : vs.toArray.size = vs.length := by simp
    rw [e] at W
    exact W.weaken fun i v e1 => by simpa using e1
  · rcases List.mem_cons.mp hb with e | hb
    · exact absurd e hnb
    · rw [List.mem_singleton.mp hb]; exact ⟨_, .inl (.head _)⟩
/-- a loop over any iterator, its target a local name -/
theorem for_any {x : Str} {px : Pos} {body : List Stmt} {n : Nat} {held : Ledg} {P : Nat → Value → Prop} {xv : Value} {R : Result → Shared → Prop} (hO : IterOK prog w A H held xv s n P) (D : Sd H fs env.locals m s.heap led)
    (J : Nat → Vm → Ledg → Prop) (h0 : J 0 m led) (hJ : ∀ i m led, J i m led → ∀ p ∈ held, p ∈ led)
    (turn : ∀ I oI i v m led h tk, i < n → P i v → J i m led → Sd H fs env.locals (fun y => if y = x then some v else m y) h ((I, oI) :: led) →
      wpAny (model prog w) A (execs body env) (fun f s₃ => match f with
          | .brk => R (.ok .next) s₃
          | .ret v => R (.ok (.ret v)) s₃
          | _ => ∃ m' h' tk' led', s₃ = { s with heap := h', toks := tk' } ∧ Sd H fs env.locals m' h' ((I, oI) :: led') ∧ J (i + 1) m' led') NoE { s with heap := h, toks := tk })
    (done : ∀ m led h tk, J n m led → Sd H fs env.locals m h led → R (.ok .next) { s with heap := h, toks := tk })
    (hk : env.scope.kind = .function := by rfl) (hx : env.kindOf x = some .local := by rfl) (ht : ∀ I v, letOwnedTupleGo (.Name x px) (.ref I) v = pure () := by intro _ _; rfl) :
    wpAny (model prog w) A (pyIter xv) (fun it s₂ => codeAny (model prog w) A (.forLoop (.Name x px) it body [] env) R s₂) NoE s := by
  refine hO _ fun oI fp St hf W hat hst hheld => ?_
  exact for_sd W hat held hheld J (D.push _ hf) hst h0 hJ (fun i v m led h tk oI hi hP hj D' => turn _ oI i v m led h tk hi hP hj D') done hk hx (ht _)
/-- the same, its target a cell (at the head of the ledger) -/
theorem for_cell {x : Str} {px : Pos} {body : List Stmt} {n : Nat} {held : Ledg} {P : Nat → Value → Prop} {xv : Value} {R : Result → Shared → Prop} {c : Addr} {oc : Obj} {v0 : Option Value} (hO : IterOK prog w A H held xv s n P) (D : Sd H fs env.locals m s.heap ((c, oc) :: led))
    (hcx : env.cells.lookup x = some c) (hoc : oc.data = .cell v0)
    (J : Nat → Vm → Ledg → Prop) (h0 : J 0 m led) (hJ : ∀ i m led, J i m led → ∀ p ∈ held, p ∈ led)
    (turn : ∀ I oI oc i v m led h tk, i < n → P i v → J i m led → oc.data = .cell (some v) → Sd H fs env.locals m h ((I, oI) :: (c, oc) :: led) →
      wpAny (model prog w) A (execs body env) (fun f s₃ => match f with
          | .brk => R (.ok .next) s₃
          | .ret v => R (.ok (.ret v)) s₃
          | _ => ∃ m' h' tk' led' oc' v', s₃ = { s with heap := h', toks := tk' } ∧ Sd H fs env.locals m' h' ((I, oI) :: (c, oc') :: led') ∧ oc'.data = .cell v' ∧ J (i + 1) m' led') NoE { s with heap := h, toks := tk })
    (done : ∀ m led oc h tk, J n m led → Sd H fs env.locals m h ((c, oc) :: led) → R (.ok .next) { s with heap := h, toks := tk })
    (hk : env.scope.kind = .function := by rfl) (hx : env.kindOf x = some .cell := by rfl) (ht : ∀ I v, letOwnedTupleGo (.Name x px) (.ref I) v = pure () := by intro _ _; rfl) :
    wpAny (model prog w) A (pyIter xv) (fun it s₂ => codeAny (model prog w) A (.forLoop (.Name x px) it body [] env) R s₂) NoE s := by
  refine hO _ fun oI fp St hf W hat hst hheld => ?_
  have D0 := D.push oI hf
  generalize s.heap.objs.size = I at *
  refine codeAny_forLoop (fun k s' => ∃ i m led oc v0 h tk oI, k = n - i ∧ i ≤ n ∧ s' = { s with heap := h, toks := tk } ∧ Sd H fs env.locals m h ((I, oI) :: (c, oc) :: led) ∧ oc.data = .cell v0 ∧ St i h ∧ J i m led) (fun k s' hI => ?_) n
    ⟨0, m, led, oc, v0, _, s.toks, oI, rfl, Nat.zero_le _, rfl, D0, hoc, hst, h0⟩ (ht _)
  obtain ⟨i, m, led, oc, v0, h, tk, oI, rfl, hin, rfl, D, hoc, hst, hj⟩ := hI
  by_cases hi : i < n
  · refine W.item i _ _ _ hi hst fun v h₁ tk₁ hP hst₁ hk₁ => ?_
    obtain ⟨oI', gI⟩ := hat _ _ hst₁
    have D₁ := D.besideAt hk₁ gI
    refine wpAny_mono (wpAny_bind (wpAny_standAt (wpAny_bindName (st_cell (v := v) (i := 1) D₁ hcx rfl hoc (fun h₂ oc₂ tk₂ D₂ hoc₂ => ?_) hk hx)))) (fun _ _ x => x) fun _ _ x => x.elim
    refine wpAny_mono (turn I oI' oc₂ i v m led h₂ tk₂ hi hP hj hoc₂ D₂) (fun f s₃ q => ?_) fun _ _ x => x.elim
    have fin : (∃ m' h' tk' led' oc' v', s₃ = { s with heap := h', toks := tk' } ∧ Sd H fs env.locals m' h' ((I, oI') :: (c, oc') :: led') ∧ oc'.data = .cell v' ∧ J (i + 1) m' led') →
        ∃ k', k' < n - i ∧ ∃ i m led oc v0 h tk oI, k' = n - i ∧ i ≤ n ∧ s₃ = { s with heap := h, toks := tk } ∧ Sd H fs env.locals m h ((I, oI) :: (c, oc) :: led) ∧ oc.data = .cell v0 ∧ St i h ∧ J i m led := by
      rintro ⟨m', h', tk', led', oc', v', e, D', hoc', hj'⟩
      refine ⟨n - (i + 1), by lia, i + 1, m', led', oc', v', h', tk', oI', rfl, hi, e, D', hoc', W.frame _ _ _ hst₁ (fun b hb o e => ?_), hj'⟩
      by_cases hbI : b = I
      · subst hbI
        rw [gI] at e; cases e
        exact D'.get (.head _)
      · obtain ⟨o', ho⟩ := hheld b hb hbI
        rcases ho with ho | ho
        · have e1 := D₁.get (.tail _ (.tail _ (hJ _ _ _ hj _ ho)))
          rw [e1] at e; cases e
          exact D'.get (.tail _ (.tail _ (hJ _ _ _ hj' _ ho)))
        · have e1 := D₁.old ho
          rw [e1] at e; cases e
          exact D'.old ho
    cases f with
    | next => exact fin q
    | cont => exact fin q
    | brk => exact q
    | ret v => exact q
  · have hin' : i = n := by lia
    subst hin'
    refine W.done _ _ _ hst fun h₁ tk₁ hk₁ => wpAny_execs_nil ?_
    exact done m led oc h₁ tk₁ hj (D.beside hk₁)
end
end Mine
end

section
open PySem PySem.W PySem.Calls PyProof.Rows
set_option autoImplicit false
namespace Mine
noncomputable def wstep (rest : List Nat) (k : Nat) (due : List (List Nat)) (size : Nat) : Option (List Nat) := if size ≤ k ∧ rest.take size ∈ keys then some (codeOf (rest.take size) :: due.getD (k - size) []) else none
noncomputable def wayList (rest : List Nat) (k : Nat) (due : List (List Nat)) : List (List Nat) := [3, 2, 1].filterMap (wstep rest k due)
noncomputable def ways (rest : List Nat) (k : Nat) (due : List (List Nat)) : List (List Nat) := if wayList rest k due = [] then [(256 + rest.headD 0) :: due.getD (k - 1) []] else wayList rest k due
noncomputable def leastOf : List (List Nat) → Nat
  | [] => 0
  | w :: r => r.foldl (fun a x => min a x.length) w.length
noncomputable def pick (ws : List (List Nat)) : List Nat := (ws.filter fun w => decide (w.length = leastOf ws)).headD []
noncomputable def dp (text : List Nat) : Nat → List (List Nat)
  | 0 => [[]]
  | k + 1 => dp text k ++ [pick (ways (text.drop (text.length - (k + 1))) (k + 1) (dp text k))]
noncomputable def F (text : List Nat) : List Nat := (dp text text.length).getLastD []
theorem dp_len (text : List Nat) : ∀ k, (dp text k).length = k + 1
  | 0 => rfl
  | k + 1 => by unfold dp; rw [List.length_append, dp_len text k]; rfl
theorem fold_min (r : List (List Nat)) : ∀ a : Nat, (r.foldl (fun a x => min a x.length) a ≤ a) ∧ (∀ x ∈ r, r.foldl (fun a x => min a x.length) a ≤ x.length) ∧ (r.foldl (fun a x => min a x.length) a = a ∨ ∃ x ∈ r, r.foldl (fun a x => min a x.length) a = x.length) := by
  induction r with
  | nil => intro a; exact ⟨Nat.le_refl _, (fun x hx => by cases hx), .inl rfl⟩
  | cons y r ih =>
    intro a
    obtain ⟨h1, h2, h3⟩ := ih (min a y.length)
    simp only [List.foldl_cons]
    refine ⟨Nat.le_trans h1 (Nat.min_le_left _ _), fun x hx => ?_, ?_⟩
    · rcases List.mem_cons.mp hx with rfl | hx
      · exact Nat.le_trans h1 (Nat.min_le_right _ _)
      · exact h2 x hx
    · rcases h3 with h3 | ⟨x, hx, h3⟩
      · rw [h3]
        rcases Nat.le_total a y.length with q | q
        · rw [Nat.min_eq_left q]; exact .inl rfl
        · rw [Nat.min_eq_right q]; exact .inr ⟨y, .head _, rfl⟩
      · exact .inr ⟨x, .tail _ hx, h3⟩
theorem least_spec {ws : List (List Nat)} (h : ws ≠ []) : (∃ x ∈ ws, leastOf ws = x.length) ∧ ∀ x ∈ ws, leastOf ws ≤ x.length := by
  cases ws with
  | nil => exact absurd rfl h
  | cons w r =>
    obtain ⟨h1, h2, h3⟩ := fold_min r w.length
    refine ⟨?_, fun x hx => ?_⟩
    · rcases h3 with h3 | ⟨x, hx, h3⟩
      · exact ⟨w, .head _, h3⟩
      · exact ⟨x, .tail _ hx, h3⟩
    · rcases List.mem_cons.mp hx with rfl | hx
      · exact h1
      · exact h2 x hx
theorem least_uniq {ws : List (List Nat)} (h : ws ≠ []) {M : Nat} (h1 : ∃ x ∈ ws, M = x.length) (h2 : ∀ x ∈ ws, M ≤ x.length) : M = leastOf ws := by
  obtain ⟨⟨x, hx, e⟩, h3⟩ := least_spec h
  obtain ⟨y, hy, e'⟩ := h1
  have a := h2 x hx
  have b := h3 y hy
  lia
theorem ways_ne (rest : List Nat) (k : Nat) (due : List (List Nat)) : ways rest k due ≠ [] := by
  unfold ways; split
  · simp
  · assumption
theorem pick_mem {ws : List (List Nat)} (h : ws ≠ []) : pick ws ∈ ws ∧ (pick ws).length = leastOf ws := by
  obtain ⟨⟨x, hx, e⟩, _⟩ := least_spec h
  unfold pick
  have hm : x ∈ ws.filter fun w => decide (w.length = leastOf ws) := List.mem_filter.mpr ⟨hx, by simp [e]⟩
  cases q : ws.filter fun w => decide (w.length = leastOf ws) with
  | nil => rw [q] at hm; cases hm
  | cons y r =>
    have : y ∈ ws.filter fun w => decide (w.length = leastOf ws) := by rw [q]; exact .head _
    obtain ⟨h1, h2⟩ := List.mem_filter.mp this
    exact ⟨h1, of_decide_eq_true h2⟩
theorem getD_len {due : List (List Nat)} {j : Nat} (h : ∀ i (ns : List Nat), due[i]? = some ns → ns.length ≤ i) : (due.getD j []).length ≤ j := by
  rw [List.getD_eq_getElem?_getD]
  cases q : due[j]? with
  | none => simp
  | some ns => exact h j ns q
theorem ways_len {rest : List Nat} {k : Nat} {due : List (List Nat)} (hk : 1 ≤ k) (h : ∀ i (ns : List Nat), due[i]? = some ns → ns.length ≤ i) : ∀ x ∈ ways rest k due, x.length ≤ k := by
  intro x hx
  unfold ways at hx
  split at hx
  · rw [List.mem_singleton.mp hx, List.length_cons]
    have := getD_len (j := k - 1) h
    lia
  · unfold wayList at hx
    obtain ⟨sz, hsz, e⟩ := List.mem_filterMap.mp hx
    unfold wstep at e
    split at e
    · rename_i q
      cases e
      have := getD_len (j := k - sz) h
      have h1 : 1 ≤ sz := by simp only [List.mem_cons, List.not_mem_nil, or_false] at hsz; lia
      rw [List.length_cons]; lia
    · cases e
theorem dp_bound (text : List Nat) : ∀ k i (ns : List Nat), (dp text k)[i]? = some ns → ns.length ≤ i
  | 0, i, ns, h => by
    have : dp text 0 = [[]] := rfl
    rw [this] at h
    cases i with
    | zero => simp at h; subst h; simp
    | succ i => simp at h
  | k + 1, i, ns, h => by
    have e : dp text (k + 1) = dp text k ++ [pick (ways (text.drop (text.length - (k + 1))) (k + 1) (dp text k))] := rfl
    rw [e] at h
    by_cases q : i < (dp text k).length
    · rw [List.getElem?_append_left q] at h
      exact dp_bound text k i ns h
    · rw [List.getElem?_append_right (by lia)] at h
      have hi : i - (dp text k).length = 0 := by
        by_cases z : i - (dp text k).length = 0
        · exact z
        · rw [List.getElem?_eq_none (by simp; lia)] at h; cases h
      rw [hi] at h
      cases h
      have := ways_len (rest := text.drop (text.length - (k + 1))) (k := k + 1) (by lia) (dp_bound text k) _ (pick_mem (ways_ne _ _ _)).1
      rw [dp_len] at hi q
      lia
noncomputable def OwnInv (kvo : Kv) : Prop := ∀ x, (x ∈ keys → ∃ t, vat kvo x = some (.int (codeOf x : Nat) t)) ∧ (x ∉ keys → vat kvo x = none)
noncomputable def LLs (kl : Ledg) : List Value → List (List Nat) → Prop := Paired fun v ns => ∃ a vs n, v = .ref a ∧ (a, listOf vs.toArray n) ∈ kl ∧ IVs vs ns
theorem LLs.mono {kl kl' : Ledg} {vs : List Value} {nss : List (List Nat)} (h : LLs kl vs nss) (hs : ∀ p ∈ kl, p ∈ kl') : LLs kl' vs nss := by
  induction h with
  | nil => exact .nil
  | cons h _ ih => obtain ⟨a, vs, n, h1, h2, h3⟩ := h; exact .cons ⟨a, vs, n, h1, hs _ h2, h3⟩ ih
theorem LLs.get {kl : Ledg} {vs : List Value} {nss : List (List Nat)} (h : LLs kl vs nss) {i : Nat} {ns : List Nat} (e : nss[i]? = some ns) : ∃ a us n, vs[i]? = some (.ref a) ∧ (a, listOf us.toArray n) ∈ kl ∧ IVs us ns := by
  induction h generalizing i with
  | nil => simp at e
  | cons h _ ih =>
    cases i with
    | zero => simp at e; subst e; obtain ⟨a, us, n, rfl, h2, h3⟩ := h; exact ⟨a, us, n, rfl, h2, h3⟩
    | succ i => simp at e; obtain ⟨a, us, n, h1, h2, h3⟩ := ih e; exact ⟨a, us, n, by simpa using h1, h2, h3⟩
theorem LLs.len {kl : Ledg} {vs : List Value} {nss : List (List Nat)} (h : LLs kl vs nss) : vs.length = nss.length := h.length
theorem LLs.snoc {kl : Ledg} {vs : List Value} {nss : List (List Nat)} (h : LLs kl vs nss) {a : Addr} {us : List Value} {n : Nat} {ns : List Nat} (h1 : (a, listOf us.toArray n) ∈ kl) (h2 : IVs us ns) : LLs kl (vs ++ [.ref a]) (nss ++ [ns]) := by
  induction h with
  | nil => exact .cons ⟨a, us, n, rfl, h1, h2⟩ .nil
  | cons h _ ih => exact .cons h ih
end Mine
end

section
open PySem PySem.W PySem.Calls PyProof.Rows
set_option Elab.async false
set_option maxRecDepth 100000
set_option autoImplicit false
set_option maxHeartbeats 4000000
namespace Mine
section
variable {prog : Program} {w : World} {A : Around} {s : Shared} {env : Env} {H : Heap} {fs : Ledg} {m : Vm} {led : Ledg} {L : Addr} {K : Frag}
theorem call_ty {x : Str} {T : String} {p pos : Pos} {e : Expr} {rest : List Expr} {mg mb : Vm} {pp : Program} {loose : List Str} {Q : Value → Shared → Prop} (D : Sd H fs env.locals m s.heap led) (X : K.In H) (TR : TopRead pp loose mg mb H)
    (hx : nsIn K mainGlobals x = some none) (hv : bootBuiltins x = some (.type T))
    (h : wpAny (model prog w) A (spliced (backTo pos (starEach (e :: rest) env))) (fun vs s₁ => wpAny (model prog w) A (call (.type T) vs) Q NoE s₁) NoE s) (hn : x ≠ "__name__" := by decide)
    (hk : env.scope.kind = .function := by rfl) (hxk : env.kindOf x = some .globalImplicit := by rfl) (hg : env.globals = mainGlobals := by rfl) (hb : env.builtins = builtinsNs := by rfl) (hd : (x == ("__debug__" : Str)) = false := by decide)
    (he : starEach (e :: rest) env = (false, eval e env) :: starEach rest env := by rfl) (hplain : (backTo pos (starEach rest env)).any (·.1) = false := by rfl) :
    wpAny (model prog w) A (eval (.Call (.Name x p) (e :: rest) [] pos) env) Q NoE s :=
  wpAny_Call_Name_kw (nm_bi D X TR hx hv (PyProof.Rows.callWith_type1 h he hplain) hn hk hxk hg hb hd)
theorem min_sd {l : Addr} {vs : List Value} {n : Nat} {ns : List Nat} {Q : Value → Shared → Prop} (hh : A.handled = none) (D : Sd H fs L m s.heap led) (hm : (l, listOf vs.toArray n) ∈ led) (hv : IVs vs ns) (hne : ns ≠ [])
    (h : ∀ M t h' tk, Sd H fs L m h' led → M ∈ ns → (∀ x ∈ ns, M ≤ x) → Q (.int ((M : Nat) : Int) t) { s with heap := h', toks := tk }) : wpAny (model prog w) A (call (.builtin "min") [.ref l]) Q NoE s := by
  obtain ⟨xs, e⟩ := hv.allInts.items
  have hnums : xs.toList.map (·.1) = zs ns := by
    rw [← nums_intItems, ← e]; exact hv.numsOf
  have hsz : xs.size = ns.length := by
    have := congrArg List.length hnums
    simpa [zs] using this
  have hpos : 0 < ns.length := by cases ns with
    | nil => exact absurd rfl hne
    | cons _ _ => simp
  have hL : s.heap.IsList l (intItems xs) := e ▸ ⟨_, D.get hm, rfl, ⟨_, rfl⟩⟩
  refine min_intList hh hL (by lia) fun v h' tk hv' hk => ?_
  obtain ⟨t, rfl⟩ := intItems_at hv'
  obtain ⟨h1, h2⟩ := argBest_lt (numAt xs) (xs.size - 1)
  generalize argBest (fun i j => decide (numAt xs i < numAt xs j)) (xs.size - 1) = j at *
  have hget : ∀ j, j < ns.length → numAt xs j = ((ns[j]?.getD 0 : Nat) : Int) := by
    intro j hj
    rw [numAt_eq, hnums]
    unfold zs
    rw [List.getD_eq_getElem?_getD, List.getElem?_map, List.getElem?_eq_getElem hj]; rfl
  have hj : j < ns.length := by lia
  rw [hget j hj]
  refine h _ t h' tk (D.keeps hk) ?_ fun x hx => ?_
  · rw [List.getElem?_eq_getElem hj]; exact List.getElem_mem hj
  · obtain ⟨i, hi, rfl⟩ := List.getElem_of_mem hx
    have := h2 i (by lia)
    rw [hget j hj, hget i hi] at this
    rw [List.getElem?_eq_getElem hi] at this
    exact Int.ofNat_le.mp this
theorem sum_sd {l : Addr} {vs : List Value} {n : Nat} {ns : List Int} {Q : Value → Shared → Prop} (hh : A.handled = none) (D : Sd H fs L m s.heap led) (hm : (l, listOf vs.toArray n) ∈ led) (hv : IntsAre vs ns)
    (h : ∀ t h' tk, Sd H fs L m h' led → Q (.int ns.sum t) { s with heap := h', toks := tk }) : wpAny (model prog w) A (call (.builtin "sum") [.ref l]) Q NoE s := by
  obtain ⟨xs, e⟩ := hv.allInts.items
  have hnums : xs.toList.map (·.1) = ns := by
    rw [← nums_intItems, ← e]; exact hv.numsOf
  have hL : s.heap.IsList l (intItems xs) := e ▸ ⟨_, D.get hm, rfl, ⟨_, rfl⟩⟩
  refine sum_intListG hh hL fun h' tk t' hk => ?_
  have := h t' h' tk (D.keeps hk)
  rw [preSum_eq, List.take_of_length_le (by simp), hnums]
  exact this
theorem eq_nil {a b : Addr} {vs : List Value} {n k : Nat} {Q : Value → Shared → Prop} (D : Sd H fs L m s.heap led) (ha : (a, listOf vs.toArray n) ∈ led) (hb : (b, listOf [].toArray k) ∈ led) (hu : A.units + 64 < cLine)
    (h : Q (.bool vs.isEmpty) s) : wpAny (model prog w) A (compareOp .Eq (.ref a) (.ref b)) Q NoE s := by
  have h1 : s.heap.IsList a vs.toArray := ⟨_, D.get ha, rfl, ⟨_, rfl⟩⟩
  have h2 : s.heap.IsList b ([] : List Value).toArray := ⟨_, D.get hb, rfl, ⟨_, rfl⟩⟩
  cases vs with
  | nil => exact eq_intsK (ns := []) (ms := []) h1 .nil h2 .nil hu h
  | cons v r => exact PySem.SeqAt.eq_list_lengthsAt h1 h2 (by simp) (by lia) h
theorem Sd.pick {h : Heap} {pre kl led : Ledg} {x : Addr × Obj} (D : Sd H fs L m h (pre ++ (kl ++ led))) (hm : x ∈ kl) : Sd H fs L m h (x :: led) := by
  refine D.sub (fun p hp => ?_) ?_
  · rcases List.mem_cons.mp hp with rfl | hp
    · exact List.mem_append_right _ (List.mem_append_left _ hm)
    · exact List.mem_append_right _ (List.mem_append_right _ hp)
  · have nd := D.ndl
    rw [List.map_append, List.nodup_append] at nd
    have nd2 := nd.2.1
    rw [List.map_append, List.nodup_append] at nd2
    rw [List.map_cons, List.nodup_cons]
    refine ⟨fun q => ?_, nd2.2.1⟩
    exact nd2.2.2 _ (List.mem_map_of_mem hm) _ q rfl
end
end Mine
end

section
open PySem PySem.W PySem.Calls PyProof.Rows
set_option Elab.async false
set_option maxRecDepth 100000
set_option autoImplicit false
set_option maxHeartbeats 4000000
namespace Mine
section
variable {prog : Program} {w : World} {A : Around} {s : Shared} {env : Env} {H h h' : Heap} {fs : Ledg} {m : Vm} {led its : Ledg} {L : Addr}
theorem Sd.many (D : Sd H fs L m h (led ++ its)) (hk : ∀ b o, b ∉ its.map (·.1) → h.get? b = some o → h'.get? b = some o) (hi : ∀ b ∈ its.map (·.1), ∃ o, h'.get? b = some o) :
    ∃ its', its'.map (·.1) = its.map (·.1) ∧ Sd H fs L m h' (led ++ its') := by
  have nd := D.nd
  have hH : ∀ b ∈ its.map (·.1), H.get? b = none ∧ b ≠ L := fun b hb => by
    obtain ⟨p, hp, rfl⟩ := List.mem_map.mp hb
    have := D.nw p (List.mem_append_left _ (List.mem_append_right _ hp))
    exact ⟨this.2.2, this.2.1⟩
  refine ⟨its.map fun p => (p.1, (h'.get? p.1).getD p.2), by simp [List.map_map, Function.comp_def], ?_⟩
  have hm : ((led ++ its.map fun p => (p.1, (h'.get? p.1).getD p.2)) ++ fs).map (·.1) = ((led ++ its) ++ fs).map (·.1) := by simp [List.map_map, Function.comp_def]
  refine ⟨⟨D.fr.ns.at' fun o e => hk L o (fun q => (hH L q).2 rfl) e, fun b o e => hk b o (fun q => by rw [(hH b q).1] at e; cases e) (D.fr.keep b o e), D.fr.above⟩, fun p hp => ?_, by rw [hm]; exact nd⟩
  rw [List.map_append, List.map_append, List.nodup_append, List.nodup_append] at nd
  obtain ⟨⟨n1, n2, n3⟩, n4, n5⟩ := nd
  rcases List.mem_append.mp hp with hp | hp
  · rcases List.mem_append.mp hp with hp | hp
    · have z := D.nw p (List.mem_append_left _ (List.mem_append_left _ hp))
      exact ⟨hk _ _ (fun q => n3 _ (List.mem_map_of_mem hp) _ q rfl) z.1, z.2⟩
    · obtain ⟨q, hq, rfl⟩ := List.mem_map.mp hp
      have z := D.nw q (List.mem_append_left _ (List.mem_append_right _ hq))
      obtain ⟨o, ho⟩ := hi q.1 (List.mem_map_of_mem hq)
      exact ⟨by rw [ho]; rfl, z.2⟩
  · have z := D.nw p (List.mem_append_right _ hp)
    refine ⟨hk _ _ (fun q => n5 p.1 ?_ p.1 (List.mem_map_of_mem hp) rfl) z.1, z.2⟩
    rw [List.mem_append]; exact .inr q
end
end Mine
end

section
open PySem PySem.W PySem.Calls PyProof.Rows
set_option Elab.async false
set_option maxRecDepth 100000
set_option autoImplicit false
set_option maxHeartbeats 4000000
namespace Mine
section
variable {prog : Program} {w : World} {A : Around} {s : Shared} {env : Env} {H h : Heap} {fs : Ledg} {m : Vm} {led its : Ledg} {L : Addr}
theorem mv_nil {Q : Unit → Shared → Prop} {t : Tok} {h : Heap} (hq : Q () { s with heap := h, toks := t }) : Q () { s with heap := h, toks := t } := hq
/-- one step of an iterator that yields pairs: the item, the release of the pair, the two names -/
theorem pair_step {x y : Str} {px py tp : Pos} {x1 : Nat} {e : Addr} {fp wr : List Addr} {n i : Nat} {Pt : Nat → Array Value → Prop} {St : Nat → Heap → Prop} {Mid : Nat → Addr → Heap → Prop} {Q : Unit → Shared → Prop} {E : Value → Shared → Prop} {R : Option Value → Shared → Prop}
    (hh : A.handled = none) (W : WalksT prog w A e fp wr n Pt St Mid) (hwr : its.map (·.1) = wr) (hat : ∀ i h, St i h → ∀ b ∈ wr, ∃ o, h.get? b = some o) (hi : i < n) (hst : St i s.heap) (D : Sd H fs env.locals m s.heap (led ++ its)) (hCf : env.locals ∉ fp)
    (hP : ∀ i vals, Pt i vals → ∃ a b, vals = #[a, b])
    (hgo : ∀ a b its' h' tk, Pt i #[a, b] → its'.map (·.1) = wr → St (i + 1) h' → Sd H fs env.locals (fun z => if z = y then some b else if z = x then some a else m z) h' (led ++ its') → Q () { s with heap := h', toks := tk })
    (hR : ∀ v s₁, wpAny (model prog w) A (letOwnedTupleGo (.Tuple [.Name x px, .Name y py] x1 tp) (.ref e) v) (fun _ s₁' => wpAny (model prog w) A (assign (.Tuple [.Name x px, .Name y py] x1 tp) env v) Q E s₁') E s₁ → R (some v) s₁)
    (hk : env.scope.kind = .function) (hx : env.kindOf x = some .local) (hy : env.kindOf y = some .local) : wpAny (model prog w) A (pyNext (.ref e)) R E s := by
  refine W.item i s R E hi hst fun T vals h₁ tk₁ hPt hsz hT hM hk₁ => hR _ _ ?_
  obtain ⟨a, b, rfl⟩ := hP _ _ hPt
  refine W.go _ _ _ i T _ _ _ hM fun h₂ hst₂ hk₂ => ?_
  dsimp only at hk₂ ⊢
  have hT2 : IsTup h₂ T #[a, b] := by
    obtain ⟨o, ho, hc, n', hd⟩ := hT
    exact ⟨o, hk₂ T o (W.apart _ _ _ hM) ho, hc, n', hd⟩
  have hkk : ∀ b o, b ∉ its.map (·.1) → s.heap.get? b = some o → h₂.get? b = some o := fun b o hb e => hk₂ b o (hwr ▸ hb) (hk₁ b o (hwr ▸ hb) e)
  obtain ⟨its', e1, D2⟩ := D.many hkk (fun b hb => hat _ _ hst₂ b (hwr ▸ hb))
  refine assign_Tuple_tuple hh hT2 rfl rfl fun h₃ hx₃ => ?_
  have hk₃ : ∀ b o, h₂.get? b = some o → h₃.get? b = some o := fun b o q => hx₃ b o (Nat.ne_of_lt (Heap.lt_size q)) q
  have D3 := D2.keeps hk₃
  have hst₃ : St (i + 1) h₃ := W.frame _ _ _ hst₂ fun b _ o q => hk₃ b o q
  have hns : (env.scope.kind == .class || (env.scope.kind == .module && env.locals != env.globals)) = false := by rw [hk]; rfl
  refine assignInOrder_cons (wpAny_assign_Name (wpAny_storeName_local hx D3.fr.ns (fun h₄ hn₄ hs₄ => ?_) hns))
  have D4 : Sd H fs env.locals _ h₄ (led ++ its') := D3.same (D3.fr.set hn₄ hs₄) (D3.nw.set hs₄)
  have hst₄ : St (i + 1) h₄ := W.frame _ _ _ hst₃ fun b hb o q => hs₄.extBut b o (fun z => hCf (z ▸ hb)) q
  refine assignInOrder_cons (wpAny_assign_Name (wpAny_storeName_local hy D4.fr.ns (fun h₅ hn₅ hs₅ => ?_) hns))
  have D5 : Sd H fs env.locals _ h₅ (led ++ its') := D4.same (D4.fr.set hn₅ hs₅) (D4.nw.set hs₅)
  have hst₅ : St (i + 1) h₅ := W.frame _ _ _ hst₄ fun b hb o q => hs₅.extBut b o (fun z => hCf (z ▸ hb)) q
  refine assignInOrder_nil ?_
  exact hgo a b its' h₅ _ hPt (e1.trans hwr) hst₅ D5
end
end Mine
end

section
open PySem PySem.W PySem.Calls PyProof.Rows
set_option Elab.async false
set_option maxRecDepth 100000
set_option autoImplicit false
set_option maxHeartbeats 4000000
namespace Mine
section
variable {prog : Program} {w : World} {A : Around} {s : Shared} {env : Env} {H : Heap} {fs : Ledg} {m : Vm} {led its : Ledg}
/-- the iterator's own objects and what it looks at stand from one heap to another -/
theorem stand {h h' : Heap} {fs' : Ledg} {L L' : Addr} {m m' : Vm} {led led' its held : Ledg} {fp wr : List Addr} (hwr : its.map (·.1) = wr) (hheld : ∀ b ∈ fp, b ∉ wr → ∃ o, (b, o) ∈ held ∨ H.get? b = some o)
    (D : Sd H fs L m h (led ++ its)) (hl : ∀ p ∈ held, p ∈ led) (D' : Sd H fs' L' m' h' (led' ++ its)) (hl' : ∀ p ∈ held, p ∈ led') : ∀ b ∈ fp, ∀ o, h.get? b = some o → h'.get? b = some o := by
  intro b hb o e
  by_cases q : b ∈ wr
  · rw [← hwr] at q
    obtain ⟨p, hp, rfl⟩ := List.mem_map.mp q
    have e1 := D.get (List.mem_append_right _ hp)
    rw [e1] at e; cases e
    exact D'.get (List.mem_append_right _ hp)
  · obtain ⟨o', ho | ho⟩ := hheld b hb q
    · have e1 := D.get (List.mem_append_left _ (hl _ ho))
      rw [e1] at e; cases e
      exact D'.get (List.mem_append_left _ (hl' _ ho))
    · have e1 := D.old ho
      rw [e1] at e; cases e
      exact D'.old ho
theorem Sd.drops {L : Addr} {h h' : Heap} (D : Sd H fs L m h (led ++ its)) (hk : ∀ b o, b ∉ its.map (·.1) → h.get? b = some o → h'.get? b = some o) : Sd H fs L m h' led := by
  have nd := D.nd
  rw [List.map_append, List.map_append, List.nodup_append, List.nodup_append] at nd
  obtain ⟨⟨n1, n2, n3⟩, n4, n5⟩ := nd
  have hH : ∀ b ∈ its.map (·.1), H.get? b = none ∧ b ≠ L := fun b hb => by
    obtain ⟨p, hp, rfl⟩ := List.mem_map.mp hb
    have := D.nw p (List.mem_append_left _ (List.mem_append_right _ hp))
    exact ⟨this.2.2, this.2.1⟩
  refine ⟨⟨D.fr.ns.at' fun o e => hk L o (fun q => (hH L q).2 rfl) e, fun b o e => hk b o (fun q => by rw [(hH b q).1] at e; cases e) (D.fr.keep b o e), D.fr.above⟩, fun p hp => ?_, ?_⟩
  · rcases List.mem_append.mp hp with hp | hp
    · have z := D.nw p (List.mem_append_left _ (List.mem_append_left _ hp))
      exact ⟨hk _ _ (fun q => n3 _ (List.mem_map_of_mem hp) _ q rfl) z.1, z.2⟩
    · have z := D.nw p (List.mem_append_right _ hp)
      exact ⟨hk _ _ (fun q => n5 p.1 (List.mem_append.mpr (.inr q)) p.1 (List.mem_map_of_mem hp) rfl) z.1, z.2⟩
  · rw [List.map_append, List.nodup_append]
    exact ⟨n1, n4, fun a ha b hb => n5 a (List.mem_append.mpr (.inl ha)) b hb⟩
theorem frame_off {fp wr : List Addr} {held : Ledg} {L : Addr} {h : Heap} (D : Sd H fs L m h (led ++ its)) (hwr : its.map (·.1) = wr) (hheld : ∀ b ∈ fp, b ∉ wr → ∃ o, (b, o) ∈ held ∨ H.get? b = some o) (hl : ∀ p ∈ held, p ∈ led) : L ∉ fp := by
  intro hb
  by_cases q : L ∈ wr
  · rw [← hwr] at q
    obtain ⟨p, hp, e⟩ := List.mem_map.mp q
    exact (D.nw p (List.mem_append_left _ (List.mem_append_right _ hp))).2.1 e
  · obtain ⟨o', ho | ho⟩ := hheld _ hb q
    · exact (D.nw (L, o') (List.mem_append_left _ (List.mem_append_left _ (hl _ ho)))).2.1 rfl
    · exact absurd (Heap.lt_size ho) (Nat.not_lt.mpr D.fr.above)
theorem for_T {x y : Str} {px py tp : Pos} {x1 : Nat} {body : List Stmt} {e : Addr} {fp wr : List Addr} {n : Nat} {held : Ledg} {Pt : Nat → Array Value → Prop} {St : Nat → Heap → Prop} {Mid : Nat → Addr → Heap → Prop} {R : Result → Shared → Prop}
    (hh : A.handled = none) (W : WalksT prog w A e fp wr n Pt St Mid) (hwr : its.map (·.1) = wr) (hat : ∀ i h, St i h → ∀ b ∈ wr, ∃ o, h.get? b = some o) (hst : St 0 s.heap) (D : Sd H fs env.locals m s.heap (led ++ its))
    (hP : ∀ i vals, Pt i vals → ∃ a b, vals = #[a, b]) (hheld : ∀ b ∈ fp, b ∉ wr → ∃ o, (b, o) ∈ held ∨ H.get? b = some o) (J : Nat → Vm → Ledg → Prop) (h0 : J 0 m led) (hJ : ∀ i m led, J i m led → ∀ p ∈ held, p ∈ led)
    (turn : ∀ i a b its m led h tk, i < n → Pt i #[a, b] → J i m led → Sd H fs env.locals (fun z => if z = y then some b else if z = x then some a else m z) h (led ++ its) →
      wpAny (model prog w) A (execs body env) (fun f s₃ => match f with
          | .brk => R (.ok .next) s₃
          | .ret v => R (.ok (.ret v)) s₃
          | _ => ∃ m' h' tk' led', s₃ = { s with heap := h', toks := tk' } ∧ Sd H fs env.locals m' h' (led' ++ its) ∧ J (i + 1) m' led') NoE { s with heap := h, toks := tk })
    (done : ∀ m led h tk, J n m led → Sd H fs env.locals m h led → R (.ok .next) { s with heap := h, toks := tk })
    (hk : env.scope.kind = .function := by rfl) (hx : env.kindOf x = some .local := by rfl) (hy : env.kindOf y = some .local := by rfl) :
    wpAny (model prog w) A (pyIter (.ref e)) (fun it s₂ => codeAny (model prog w) A (.forLoop (.Tuple [.Name x px, .Name y py] x1 tp) it body [] env) R s₂) NoE s := by
  refine W.self 0 s _ _ hst ?_
  refine codeAny_forLoop_any (fun q s' => ∃ i its m led h tk, q = n - i ∧ i ≤ n ∧ s' = { s with heap := h, toks := tk } ∧ its.map (·.1) = wr ∧ Sd H fs env.locals m h (led ++ its) ∧ St i h ∧ J i m led) (fun q s' hI => ?_) n
    ⟨0, its, m, led, s.heap, s.toks, rfl, Nat.zero_le _, rfl, hwr, D, hst, h0⟩
  obtain ⟨i, its, m, led, h, tk, rfl, hin, rfl, hwr, D, hst, hj⟩ := hI
  by_cases hi : i < n
  · refine pair_step (x := x) (y := y) (px := px) (py := py) (tp := tp) (x1 := x1) (s := { s with heap := h, toks := tk }) hh W hwr hat hi hst D (frame_off D hwr hheld (hJ _ _ _ hj)) hP (fun a b its' h' tk' hPt hwr' hst' D' => ?_) (fun v s₁ q => q) hk hx hy
    refine wpAny_mono (turn i a b its' m led h' tk' hi hPt hj D') (fun f s₃ q => ?_) fun _ _ x => x.elim
    have fin : (∃ m' h' tk' led', s₃ = { s with heap := h', toks := tk' } ∧ Sd H fs env.locals m' h' (led' ++ its') ∧ J (i + 1) m' led') →
        ∃ q', q' < n - i ∧ ∃ i its m led h tk, q' = n - i ∧ i ≤ n ∧ s₃ = { s with heap := h, toks := tk } ∧ its.map (·.1) = wr ∧ Sd H fs env.locals m h (led ++ its) ∧ St i h ∧ J i m led := by
      rintro ⟨m', h₃, tk₃, led', e', D₃, hj'⟩
      exact ⟨n - (i + 1), by lia, i + 1, its', m', led', h₃, tk₃, rfl, hi, e', hwr', D₃, W.frame _ _ _ hst' (stand hwr' hheld D' (hJ _ _ _ hj) D₃ (hJ _ _ _ hj')), hj'⟩
    cases f with
    | next => exact fin q
    | cont => exact fin q
    | brk => exact q
    | ret v => exact q
  · have hin' : i = n := by lia
    subst hin'
    refine W.done { s with heap := h, toks := tk } _ _ hst fun h₁ tk₁ hk₁ => wpAny_execs_nil ?_
    exact done m led h₁ tk₁ hj (D.drops fun b o hb q => hk₁ b o (hwr ▸ hb) q)
end
end Mine
end

section
open PySem PySem.W PySem.Calls PyProof.Rows
set_option Elab.async false
set_option maxRecDepth 100000
set_option autoImplicit false
set_option maxHeartbeats 4000000
namespace Mine
section
variable {prog : Program} {w : World} {A : Around} {s : Shared} {env : Env} {H : Heap} {fs : Ledg} {m : Vm} {led its : Ledg}
theorem compLoopT {elt iter : Expr} {x y : Str} {px py tp : Pos} {x1 : Nat} {scope : Scope} {pos : Pos} {e acc : Addr} {fp wr : List Addr} {n k₀ : Nat} {held : Ledg} {Pt : Nat → Array Value → Prop} {St : Nat → Heap → Prop} {Mid : Nat → Addr → Heap → Prop} {R : Result → Shared → Prop}
    (hh : A.handled = none) (W : WalksT prog w A e fp wr n Pt St Mid) (hwr : its.map (·.1) = wr) (hat : ∀ i h, St i h → ∀ b ∈ wr, ∃ o, h.get? b = some o) (hst : St 0 s.heap) (D : Sd H fs env.locals m s.heap ((acc, listOf [].toArray k₀) :: (led ++ its)))
    (hP : ∀ i vals, Pt i vals → ∃ a b, vals = #[a, b]) (hheld : ∀ b ∈ fp, b ∉ wr → ∃ o, (b, o) ∈ held ∨ H.get? b = some o) (hn : n ≤ 1000000) (J : Nat → List Value → Ledg → Prop) (h0 : J 0 [] led) (hJ : ∀ i ys led, J i ys led → ∀ p ∈ held, p ∈ led)
    (turn : ∀ i a b its ys k (m : Vm) (led : Ledg) (h : Heap) (tk : Nat), i < n → Pt i #[a, b] → J i ys led → Sd H fs env.locals (fun z => if z = y then some b else if z = x then some a else m z) h ((acc, listOf ys.toArray k) :: (led ++ its)) →
      wpAny (model prog w) A (eval elt env) (fun v s₃ => ∃ m' h' tk' led', s₃ = { s with heap := h', toks := tk' } ∧ Sd H fs env.locals m' h' ((acc, listOf ys.toArray k) :: (led' ++ its)) ∧ J (i + 1) (ys ++ [v]) led') NoE { s with heap := h, toks := tk })
    (done : ∀ ys k (m : Vm) (led : Ledg) (h : Heap) (tk : Nat), J n ys led → Sd H fs env.locals m h ((acc, listOf ys.toArray k) :: led) → R (.ok .next) { s with heap := h, toks := tk })
    (hk : env.scope.kind = .function := by rfl) (hx : env.kindOf x = some .local := by rfl) (hy : env.kindOf y = some .local := by rfl) :
    codeAny (model prog w) A (.compLoop (.ListComp elt [⟨.Tuple [.Name x px, .Name y py] x1 tp, iter, [], 0⟩] scope pos) 0 (.ref e) (.ref acc) env) R s := by
  refine PyProof.Rows.LCp.codeAny_compLoop_pair (fun q s' => ∃ i its ys k m led h tk, q = n - i ∧ i ≤ n ∧ ys.length ≤ i ∧ s' = { s with heap := h, toks := tk } ∧ its.map (·.1) = wr ∧ Sd H fs env.locals m h ((acc, listOf ys.toArray k) :: (led ++ its)) ∧ St i h ∧ J i ys led) (fun q s' hI => ?_) n
    ⟨0, its, [], k₀, m, led, s.heap, s.toks, rfl, Nat.zero_le _, Nat.le_refl _, rfl, hwr, D, hst, h0⟩
  obtain ⟨i, its, ys, k, m, led, h, tk, rfl, hin, hyl, rfl, hwr, D, hst, hj⟩ := hI
  have D' : Sd H fs env.locals m h (((acc, listOf ys.toArray k) :: led) ++ its) := D
  have hl' : ∀ p ∈ held, p ∈ (acc, listOf ys.toArray k) :: led := fun p hp => .tail _ (hJ _ _ _ hj p hp)
  by_cases hi : i < n
  · refine pair_step (x := x) (y := y) (px := px) (py := py) (tp := tp) (x1 := x1) (s := { s with heap := h, toks := tk }) hh W hwr hat hi hst D' (frame_off D' hwr hheld hl') hP (fun a b its' h' tk' hPt hwr' hst' D'' => ?_) (fun v s₁ q => q) hk hx hy
    refine wpAny_mono (turn i a b its' ys k m led h' tk' hi hPt hj D'') (fun v s₃ q => ?_) fun _ _ x => x.elim
    obtain ⟨m', h₃, tk₃, led', rfl, D₃, hj'⟩ := q
    refine wpAny_mono (append_sd (s := { s with heap := h₃, toks := tk₃ }) (hsz := by rw [sizeLine_eq]; simp; lia) D₃ 0 rfl fun h₄ tk₄ D₄ => ?_) (fun _ s₅ q => q) fun _ _ x => x.elim
    have D₅ : Sd H fs env.locals m' h₄ (((acc, listOf (ys ++ [v]).toArray (k + 1)) :: led') ++ its') := by
      have := D₄
      simp only [List.set_cons_zero, List.push_toArray] at this
      exact this
    have hl₅ : ∀ p ∈ held, p ∈ (acc, listOf (ys ++ [v]).toArray (k + 1)) :: led' := fun p hp => .tail _ (hJ _ _ _ hj' p hp)
    exact ⟨n - (i + 1), by lia, i + 1, its', ys ++ [v], k + 1, m', led', h₄, tk₄, rfl, hi, by simp; lia, rfl, hwr', D₅, W.frame _ _ _ hst' (stand hwr' hheld D'' hl' D₅ hl₅), hj'⟩
  · have hin' : i = n := by lia
    subst hin'
    refine W.done { s with heap := h, toks := tk } _ _ hst fun h₁ tk₁ hk₁ => ?_
    exact done ys k m led h₁ tk₁ hj (D'.drops fun b o hb q => hk₁ b o (hwr ▸ hb) q)
theorem listCompT {elt iter : Expr} {x y : Str} {px py tp : Pos} {x1 : Nat} {scope : Scope} {pos : Pos} {cl : List (Str × Addr)} {Q : Value → Shared → Prop} {m₀ : Vm} {led₀ : Ledg}
    (_D : Sd H fs env.locals m₀ s.heap led₀) (hh : A.handled = none)
    (hclos : closureFor scope env = pure cl) (hcell : ∀ y ∈ scope.names, y.2 ≠ .cell) (hkind : scope.kind = .function)
    (hnames : ∀ y ∈ scope.names, y.2 = .local → scope.names.lookup y.1 = some .local) (hx : scope.names.lookup x = some .local) (hy : scope.names.lookup y = some .local)
    (h : wpAny (model prog w) A (eval iter env) (fun xv s₁ => ∃ (h₁ : Heap) (tk₁ : Nat) (m : Vm) (led its : Ledg) (e : Addr) (fp wr : List Addr) (n : Nat) (Pt : Nat → Array Value → Prop) (St : Nat → Heap → Prop) (Mid : Nat → Addr → Heap → Prop) (held : Ledg), xv = .ref e ∧ s₁ = { s with heap := h₁, toks := tk₁ } ∧ WalksT prog w A e fp wr n Pt St Mid ∧ its.map (·.1) = wr ∧ (∀ i h, St i h → ∀ b ∈ wr, ∃ o, h.get? b = some o) ∧ St 0 h₁ ∧
      Sd H fs env.locals m h₁ (led ++ its) ∧ (∀ i vals, Pt i vals → ∃ a b, vals = #[a, b]) ∧ (∀ b ∈ fp, b ∉ wr → ∃ o, (b, o) ∈ held ∨ H.get? b = some o) ∧ n ≤ 1000000 ∧ ∃ J : Nat → List Value → Ledg → Prop, J 0 [] led ∧ (∀ i ys led, J i ys led → ∀ p ∈ held, p ∈ led) ∧
      (∀ i a b its ys k (m₁ : Vm) (led₁ : Ledg) (h₁ : Heap) (tk₁ : Nat) (acc C : Addr) (fs₁ : Ledg), i < n → Pt i #[a, b] → J i ys led₁ → Sd H fs₁ C (fun z => if z = y then some b else if z = x then some a else m₁ z) h₁ ((acc, listOf ys.toArray k) :: (led₁ ++ its)) →
        wpAny (model prog w) A (eval elt (compEnvC scope cl C env)) (fun v s₃ => ∃ m' h' tk' led', s₃ = { s with heap := h', toks := tk' } ∧ Sd H fs₁ C m' h' ((acc, listOf ys.toArray k) :: (led' ++ its)) ∧ J (i + 1) (ys ++ [v]) led') NoE { s with heap := h₁, toks := tk₁ }) ∧
      (∀ ys k acc (led₁ : Ledg) (h₁ : Heap) (tk₁ : Nat), J n ys led₁ → Sd H fs env.locals m h₁ ((acc, listOf ys.toArray k) :: led₁) → Q (.ref acc) { s with heap := h₁, toks := tk₁ })) NoE s)
    (hs : ∀ x, foldedSetIterable iter env x = pure x := by intro _; rfl) :
    wpAny (model prog w) A (eval (.ListComp elt [⟨.Tuple [.Name x px, .Name y py] x1 tp, iter, [], 0⟩] scope pos) env) Q NoE s := by
  rw [eval_ListComp]
  refine wpAny_comprehension_free (use := none) rfl hs hclos hkind hnames (wpAny_mono h (fun xv s₁ h₁ => ?_) fun _ _ e => e)
  obtain ⟨h₁, tk₁, m, led, its, e, fp, wr, n, Pt, St, Mid, held, rfl, rfl, W, hwr, hat, hst, D, hP, hheld, hn, J, h0, hJ, turn, done⟩ := h₁
  refine W.self 0 _ _ _ hst ?_
  refine comp_frame D (fun Q' hq => newList_sd D hq) hcell hkind fun acc C oL h' tk D' lv => ?_
  have hst' : St 0 h' := W.frame _ _ _ hst (stand (led := led) (led' := (acc, _) :: led) hwr hheld D (hJ _ _ _ h0) D' (fun p hp => .tail _ (hJ _ _ _ h0 p hp)))
  refine codeAny_compStart_list (s := { s with heap := h', toks := tk }) ?_ (W.self 0 { s with heap := h', toks := tk } _ _ hst' ?_)
  all_goals
    refine compLoopT (env := compEnvC scope cl C env) (s := { s with heap := h', toks := tk }) (k₀ := 0) hh W hwr hat hst' D' hP hheld hn J h0 hJ
      (fun i a b its ys k m₁ led₁ h₁ tk₁ hi hPt hj D₁ => turn i a b its ys k m₁ led₁ h₁ tk₁ acc C _ hi hPt hj D₁) (fun ys k m₁ led₁ h₁ tk₁ hj D₁ => ?_) (by simp [compEnvC, relabel, hkind]) (lookup_relabel_local hx) (lookup_relabel_local hy)
    obtain ⟨o₂, D₂, hn₂⟩ := lv _ _ _ D₁
    exact postEval (s := s) D₂ hn₂ fun h' tk' D' => done ys k acc led₁ h' tk' hj D'
end
end Mine
end

section
open PySem PySem.W PySem.Calls PyProof.Rows
set_option Elab.async false
set_option maxRecDepth 100000
set_option autoImplicit false
set_option maxHeartbeats 4000000
namespace Mine
structure PairIt (prog : Program) (w : World) (A : Around) (H : Heap) (held : Ledg) (n : Nat) (Pt : Nat → Array Value → Prop) (e : Addr) (its : Ledg) (h : Heap) : Prop where
  ex : ∃ fp wr St Mid, WalksT prog w A e fp wr n Pt St Mid ∧ its.map (·.1) = wr ∧ (∀ i h, St i h → ∀ b ∈ wr, ∃ o, h.get? b = some o) ∧ St 0 h ∧ (∀ i vals, Pt i vals → ∃ a b, vals = #[a, b]) ∧ (∀ b ∈ fp, b ∉ wr → ∃ o, (b, o) ∈ held ∨ H.get? b = some o)
section
variable {prog : Program} {w : World} {A : Around} {s : Shared} {env : Env} {H h : Heap} {fs : Ledg} {m : Vm} {led its : Ledg} {L : Addr}
theorem Sd.add {a : Addr} {o : Obj} (D : Sd H fs L m h led) (hlt : ∀ p ∈ led ++ fs, p.1 < a) (ho : h.get? a = some o) (hL : a ≠ L) (hH : H.objs.size ≤ a) : Sd H fs L m h ((a, o) :: led) :=
  D.consLt hlt D.fr fun p hp => by
    rcases List.mem_cons.mp hp with rfl | hp
    · exact ⟨ho, hL, Heap.get?_none_of_le hH⟩
    · exact D.nw p hp
theorem enum_sd {l : Addr} {vs : List Value} {k : Nat} {Q : Value → Shared → Prop} (hh : A.handled = none) (D : Sd H fs L m s.heap led) (hl : (l, listOf vs.toArray k) ∈ led)
    (h : ∀ e its h' tk, Sd H fs L m h' (led ++ its) → PairIt prog w A H [(l, listOf vs.toArray k)] vs.length (fun i vals => ∃ t x, vs[i]? = some x ∧ vals = #[.int i t, x]) e its h' → Q (.ref e) { s with heap := h', toks := tk }) :
    wpAny (model prog w) A (call (.type "enumerate") [.ref l]) Q NoE s := by
  have hg := D.get hl
  have hlt : l < s.heap.objs.size := Heap.lt_size hg
  refine call_enumerate_list (items := vs.toArray) ⟨_, hg, rfl, ⟨_, rfl⟩⟩ fun h' he hit hsz hk => ?_
  have hLs : L < s.heap.objs.size := D.fr.ns.lt
  have hHs : H.objs.size ≤ s.heap.objs.size := Nat.le_trans D.fr.above (Nat.le_of_lt hLs)
  have hL1 : ∀ k, s.heap.objs.size + k ≠ L := fun k => Nat.ne_of_gt (Nat.lt_of_lt_of_le hLs (Nat.le_add_right _ k))
  have hH1 : ∀ k, H.objs.size ≤ s.heap.objs.size + k := fun k => Nat.le_trans hHs (Nat.le_add_right _ k)
  have D1 := D.keeps hk
  obtain ⟨oit, hoit, hoit2⟩ := id hit
  have D2 := D1.add (a := s.heap.objs.size) (fun p hp => D.lt p hp) hoit (Nat.ne_of_gt hLs) hHs
  have D3 := D2.add (a := s.heap.objs.size + 1) (fun p hp => by
    rcases List.mem_cons.mp hp with rfl | hp
    · exact Nat.lt_succ_self _
    · exact Nat.lt_succ_of_lt (D.lt p hp)) he (hL1 1) (hH1 1)
  have D4 : Sd H fs L m h' (led ++ [(s.heap.objs.size + 1, _), (s.heap.objs.size, oit)]) := D3.perm (List.perm_append_comm (l₂ := [(s.heap.objs.size + 1, _), (s.heap.objs.size, oit)]))
  have W := WalksT.enumerate (prog := prog) (w := w) hh (s.heap.objs.size + 1) s.heap.objs.size l (Nat.succ_ne_self _) (Nat.ne_of_lt (Nat.lt_succ_of_lt hlt)) (Nat.ne_of_lt hlt) vs.toArray
  have e : vs.toArray.size = vs.length := by simp
  rw [e] at W
  simp only [List.getElem?_toArray] at W
  refine h _ _ h' _ D4 ⟨_, _, _, _, W, rfl, fun i h hst b hb => ?_, ⟨⟨_, he⟩, hit, ⟨_, hk _ _ hg, rfl, ⟨_, rfl⟩⟩⟩, fun i vals hv => ?_, fun b hb hnb => ?_⟩
  · obtain ⟨⟨old, a1⟩, ⟨o2, a2, _⟩, _⟩ := hst
    rcases List.mem_cons.mp hb with rfl | hb
    · exact ⟨_, a1⟩
    · rw [List.mem_singleton.mp hb]; exact ⟨_, a2⟩
  · obtain ⟨t, x, _, rfl⟩ := hv; exact ⟨_, _, rfl⟩
  · simp only [List.mem_cons, List.not_mem_nil, or_false] at hb
    rcases hb with rfl | rfl | rfl
    · exact absurd (List.Mem.head _) hnb
    · exact absurd (List.Mem.tail _ (List.Mem.head _)) hnb
    · exact ⟨_, .inl (.head _)⟩
theorem zip_sd {l1 l2 : Addr} {vs us : List Value} {k1 k2 : Nat} {Q : Value → Shared → Prop} (hh : A.handled = none) (D : Sd H fs L m s.heap led) (hl1 : (l1, listOf vs.toArray k1) ∈ led) (hl2 : (l2, listOf us.toArray k2) ∈ led)
    (h : ∀ e T oT its h' tk, Sd H fs L m h' (((T, oT) :: led) ++ its) → PairIt prog w A H [(T, oT), (l1, listOf vs.toArray k1), (l2, listOf us.toArray k2)] (min vs.length us.length) (fun i vals => ∃ x y, vs[i]? = some x ∧ us[i]? = some y ∧ vals = #[x, y]) e its h' → Q (.ref e) { s with heap := h', toks := tk }) :
    wpAny (model prog w) A (call (.type "zip") [.ref l1, .ref l2]) Q NoE s := by
  have g1 := D.get hl1
  have g2 := D.get hl2
  have n1 : l1 < s.heap.objs.size := Heap.lt_size g1
  have n2 : l2 < s.heap.objs.size := Heap.lt_size g2
  refine call_zip_2 (xs := vs.toArray) (ys := us.toArray) ⟨_, g1, rfl, ⟨_, rfl⟩⟩ ⟨_, g2, rfl, ⟨_, rfl⟩⟩ fun h' hz hTI hTO hi1 hi2 hsz hk => ?_
  have hLs : L < s.heap.objs.size := D.fr.ns.lt
  have hHs : H.objs.size ≤ s.heap.objs.size := Nat.le_trans D.fr.above (Nat.le_of_lt hLs)
  have hL1 : ∀ k, s.heap.objs.size + k ≠ L := fun k => Nat.ne_of_gt (Nat.lt_of_lt_of_le hLs (Nat.le_add_right _ k))
  have hH1 : ∀ k, H.objs.size ≤ s.heap.objs.size + k := fun k => Nat.le_trans hHs (Nat.le_add_right _ k)
  have D1 := D.keeps hk
  obtain ⟨o1, ho1, ho1'⟩ := id hi1
  obtain ⟨o2, ho2, ho2'⟩ := id hi2
  have up : ∀ (l : Ledg) (c a : Addr), (∀ p ∈ l, p.1 < a) → a < c → ∀ p ∈ l, p.1 < c := fun l c a q z p hp => Nat.lt_trans (q p hp) z
  have b0 : ∀ p ∈ led ++ fs, p.1 < s.heap.objs.size := fun p hp => D.lt p hp
  have D2 := D1.add (a := s.heap.objs.size) b0 ho1 (Nat.ne_of_gt hLs) hHs
  have b1 : ∀ p ∈ ((s.heap.objs.size, o1) :: led) ++ fs, p.1 < s.heap.objs.size + 1 := fun p hp => by
    rcases List.mem_cons.mp hp with rfl | hp
    · exact Nat.lt_succ_self _
    · exact Nat.lt_succ_of_lt (b0 p hp)
  have D3 := D2.add (a := s.heap.objs.size + 1) b1 ho2 (hL1 1) (hH1 1)
  have b2 : ∀ p ∈ ((s.heap.objs.size + 1, o2) :: (s.heap.objs.size, o1) :: led) ++ fs, p.1 < s.heap.objs.size + 2 := fun p hp => by
    rcases List.mem_cons.mp hp with e | hp
    · rw [e]; exact Nat.lt_succ_self _
    · exact Nat.lt_succ_of_lt (b1 p hp)
  have D4 := D3.add (a := s.heap.objs.size + 2) b2 hTI (hL1 2) (hH1 2)
  generalize hT : ({ cls := .type "tuple", data := .seq #[.ref s.heap.objs.size, .ref (s.heap.objs.size + 1)] } : Obj) = oT at D4
  have b3 : ∀ p ∈ ((s.heap.objs.size + 2, oT) :: (s.heap.objs.size + 1, o2) :: (s.heap.objs.size, o1) :: led) ++ fs, p.1 < s.heap.objs.size + 3 := fun p hp => by
    rcases List.mem_cons.mp hp with e | hp
    · rw [e]; exact Nat.lt_succ_self _
    · exact Nat.lt_succ_of_lt (b2 p hp)
  have D5 := D4.add (a := s.heap.objs.size + 3) b3 hTO (hL1 3) (hH1 3)
  generalize hO : ({ cls := .type "tuple", data := .seq #[.none, .none] } : Obj) = oO at D5
  have b4 : ∀ p ∈ ((s.heap.objs.size + 3, oO) :: (s.heap.objs.size + 2, oT) :: (s.heap.objs.size + 1, o2) :: (s.heap.objs.size, o1) :: led) ++ fs, p.1 < s.heap.objs.size + 4 := fun p hp => by
    rcases List.mem_cons.mp hp with e | hp
    · rw [e]; exact Nat.lt_succ_self _
    · exact Nat.lt_succ_of_lt (b3 p hp)
  have D6 := D5.add (a := s.heap.objs.size + 4) b4 hz (hL1 4) (hH1 4)
  generalize hZ : ({ cls := .type "zip", data := .fields #[.none, .bool false, .bool false, .ref (s.heap.objs.size + 2), .ref (s.heap.objs.size + 3)] } : Obj) = oZ at D6
  have D7 : Sd H fs L m h' (((s.heap.objs.size + 2, oT) :: led) ++ [(s.heap.objs.size + 4, oZ), (s.heap.objs.size + 3, oO), (s.heap.objs.size, o1), (s.heap.objs.size + 1, o2)]) := by
    refine D6.perm ?_
    refine (List.Perm.cons _ List.perm_append_comm).trans ?_
    have p1 : ∀ (a b c d e : Addr × Obj) (l : Ledg), (c :: ([a, b, d, e] ++ l)).Perm (a :: b :: c :: e :: d :: l) := fun a b c d e l => by
      have q1 : ([a, b] ++ c :: (d :: e :: l)).Perm (c :: ([a, b] ++ (d :: e :: l))) := List.perm_middle
      have q2 : (d :: e :: l).Perm (e :: d :: l) := List.Perm.swap e d l
      exact q1.symm.trans ((q2.cons c).cons b |>.cons a)
    exact p1 _ _ _ _ _ _
  have W := WalksT.zip2 (prog := prog) (w := w) hh _ _ _ _ _ _ _ (zipApart_new n1 n2) vs.toArray us.toArray
  have e1 : vs.toArray.size = vs.length := by simp
  have e2 : us.toArray.size = us.length := by simp
  rw [e1, e2] at W
  simp only [List.getElem?_toArray] at W
  refine h _ _ oT _ h' _ D7 ⟨_, _, _, _, W, rfl, fun i h hst b hb => ?_, ⟨hz, hTI, ⟨_, _, hTO⟩, hi1, hi2, ⟨_, hk _ _ g1, rfl, ⟨_, rfl⟩⟩, ⟨_, hk _ _ g2, rfl, ⟨_, rfl⟩⟩⟩, fun i vals hv => ?_, fun b hb hnb => ?_⟩
  · obtain ⟨a1, a2, ⟨_, _, a3⟩, ⟨_, a4, _⟩, ⟨_, a5, _⟩, _⟩ := hst
    simp only [List.mem_cons, List.not_mem_nil, or_false] at hb
    rcases hb with rfl | rfl | rfl | rfl
    · exact ⟨_, a1⟩
    · exact ⟨_, a3⟩
    · exact ⟨_, a4⟩
    · exact ⟨_, a5⟩
  · obtain ⟨x, y, _, _, rfl⟩ := hv; exact ⟨_, _, rfl⟩
  · simp only [List.mem_cons, List.not_mem_nil, or_false] at hb
    rcases hb with rfl | rfl | rfl | rfl | rfl | rfl | rfl
    · exact absurd (List.Mem.head _) hnb
    · exact ⟨_, .inl (.head _)⟩
    · exact absurd (List.Mem.tail _ (List.Mem.head _)) hnb
    · exact absurd (List.Mem.tail _ (List.Mem.tail _ (List.Mem.head _))) hnb
    · exact absurd (List.Mem.tail _ (List.Mem.tail _ (List.Mem.tail _ (List.Mem.head _)))) hnb
    · exact ⟨_, .inl (.tail _ (.head _))⟩
    · exact ⟨_, .inl (.tail _ (.tail _ (.head _)))⟩
end
end Mine
end

section
open PySem PySem.W PySem.Calls PyProof.Rows
set_option Elab.async false
set_option maxRecDepth 100000
set_option autoImplicit false
set_option maxHeartbeats 4000000
namespace Mine
section
variable {prog : Program} {w : World} {A : Around} {s : Shared} {env : Env} {H : Heap} {fs : Ledg} {m : Vm} {led its : Ledg}
theorem codeAny_compLoop_pairD {kx vx iter target : Expr} {scope : Scope} {pos : Pos} {it : Value} {d : Addr} {env : Env} {R : Result → Shared → Prop} (I : Nat → Shared → Prop)
    (turn : ∀ n s, I n s → wpAny (model prog w) A (pyNext it) (fun r s₁ => match r with
      | none => R (.ok .next) s₁
      | some v => wpAny (model prog w) A (letOwnedTupleGo target it v) (fun _ s₁' => wpAny (model prog w) A (assign target env v) (fun _ s₂ =>
          wpAny (model prog w) A (eval kx env) (fun kv s₄ => wpAny (model prog w) A (eval vx env) (fun vv s₅ =>
              wpAny (model prog w) A (dictSet d kv vv) (fun _ s₆ => ∃ m, m < n ∧ I m s₆) (notedBy (model prog w) A env fun e s' => R (.error e) s') s₅) (notedBy (model prog w) A env fun e s' => R (.error e) s') s₄) (notedBy (model prog w) A env fun e s' => R (.error e) s') s₂)
          (notedBy (model prog w) A env fun e s' => R (.error e) s') s₁') (notedBy (model prog w) A env fun e s' => R (.error e) s') s₁) (notedBy (model prog w) A env fun e s' => R (.error e) s') s)
    (n : Nat) (h : I n s) : codeAny (model prog w) A (.compLoop (.DictComp kx vx [⟨target, iter, [], 0⟩] scope pos) 0 it (.ref d) env) R s := by
  refine codeAny_loop rfl I (fun n s hI => ?_) n h
  show wpAny _ A ((compTurn (.DictComp kx vx [⟨target, iter, [], 0⟩] scope pos) 0 it (.ref d) env).onRaise (fun x => do noteFrame x env; theTreesLotGoes x)) _ _ s
  refine wpAny_noted ?_
  rw [compTurn_dict]
  refine wpAny_bind (wpAny_standAt (wpAny_bind (wpAny_mono (turn n s hI) (fun r s₁ h₁ => ?_) fun _ _ h' => h')))
  cases r with
  | none => exact wpAny_pure h₁
  | some v =>
    refine wpAny_bind (wpAny_mono h₁ (fun _ s₁' h₁' => ?_) fun _ _ h' => h')
    refine wpAny_bind (wpAny_mono h₁' (fun _ s₂ h₂ => wpAny_bind (wpAny_mono (wpAny_tests_nil (Q := fun ok s₃ => ok = true ∧ s₃ = s₂) ⟨rfl, rfl⟩) (fun ok s₃ h₃ => ?_) fun _ _ h' => h')) fun _ _ h' => h')
    obtain ⟨rfl, rfl⟩ := h₃
    exact wpAny_bind (wpAny_bind (wpAny_mono h₂ (fun kv s₄ h₄ => wpAny_bind (wpAny_holding (wpAny_mono h₄ (fun vv s₅ h₅ => wpAny_bind (wpAny_standAt (wpAny_holding (wpAny_mono h₅ (fun _ s₆ h₆ => wpAny_pure ⟨rfl, h₆⟩) fun _ _ h' => h')))) fun _ _ h' => h'))) fun _ _ h' => h'))
theorem dictLoopT {kx vx iter : Expr} {x y : Str} {px py tp : Pos} {x1 : Nat} {scope : Scope} {pos : Pos} {e d : Addr} {o₀ : Obj} {fp wr : List Addr} {n : Nat} {held : Ledg} {Pt : Nat → Array Value → Prop} {St : Nat → Heap → Prop} {Mid : Nat → Addr → Heap → Prop} {R : Result → Shared → Prop}
    (hh : A.handled = none) (W : WalksT prog w A e fp wr n Pt St Mid) (hwr : its.map (·.1) = wr) (hat : ∀ i h, St i h → ∀ b ∈ wr, ∃ o, h.get? b = some o) (hst : St 0 s.heap) (D : Sd H fs env.locals m s.heap ((d, o₀) :: (led ++ its))) (ho : DO prog w [] o₀)
    (hP : ∀ i vals, Pt i vals → ∃ a b, vals = #[a, b]) (hheld : ∀ b ∈ fp, b ∉ wr → ∃ o, (b, o) ∈ held ∨ H.get? b = some o) (hn : n ≤ 1000000) (J : Nat → Kv → Ledg → Prop) (h0 : J 0 [] led) (hJ : ∀ i kv led, J i kv led → ∀ p ∈ held, p ∈ led)
    (turn : ∀ i a b its kv o (m : Vm) (led : Ledg) (h : Heap) (tk : Nat), i < n → Pt i #[a, b] → J i kv led → DO prog w kv o → Sd H fs env.locals (fun z => if z = y then some b else if z = x then some a else m z) h ((d, o) :: (led ++ its)) →
      wpAny (model prog w) A (eval kx env) (fun kv1 s₃ => wpAny (model prog w) A (eval vx env) (fun v s₄ => ∃ k t m' h' tk' led', kv1 = .str (S k) t ∧ vat kv k = none ∧ s₄ = { s with heap := h', toks := tk' } ∧ Sd H fs env.locals m' h' ((d, o) :: (led' ++ its)) ∧ J (i + 1) (kv ++ [(k, v)]) led') NoE s₃) NoE { s with heap := h, toks := tk })
    (done : ∀ kv o (m : Vm) (led : Ledg) (h : Heap) (tk : Nat), J n kv led → DO prog w kv o → Sd H fs env.locals m h ((d, o) :: led) → R (.ok .next) { s with heap := h, toks := tk })
    (hk : env.scope.kind = .function := by rfl) (hx : env.kindOf x = some .local := by rfl) (hy : env.kindOf y = some .local := by rfl) :
    codeAny (model prog w) A (.compLoop (.DictComp kx vx [⟨.Tuple [.Name x px, .Name y py] x1 tp, iter, [], 0⟩] scope pos) 0 (.ref e) (.ref d) env) R s := by
  refine codeAny_compLoop_pairD (fun q s' => ∃ i its kv o m led h tk, q = n - i ∧ i ≤ n ∧ kv.length ≤ i ∧ s' = { s with heap := h, toks := tk } ∧ its.map (·.1) = wr ∧ Sd H fs env.locals m h ((d, o) :: (led ++ its)) ∧ DO prog w kv o ∧ St i h ∧ J i kv led) (fun q s' hI => ?_) n
    ⟨0, its, [], o₀, m, led, s.heap, s.toks, rfl, Nat.zero_le _, Nat.le_refl _, rfl, hwr, D, ho, hst, h0⟩
  obtain ⟨i, its, kv, o, m, led, h, tk, rfl, hin, hyl, rfl, hwr, D, ho, hst, hj⟩ := hI
  have D' : Sd H fs env.locals m h (((d, o) :: led) ++ its) := D
  have hl' : ∀ p ∈ held, p ∈ (d, o) :: led := fun p hp => .tail _ (hJ _ _ _ hj p hp)
  by_cases hi : i < n
  · refine pair_step (x := x) (y := y) (px := px) (py := py) (tp := tp) (x1 := x1) (s := { s with heap := h, toks := tk }) hh W hwr hat hi hst D' (frame_off D' hwr hheld hl') hP (fun a b its' h' tk' hPt hwr' hst' D'' => ?_) (fun v s₁ q => q) hk hx hy
    refine wpAny_mono (turn i a b its' kv o m led h' tk' hi hPt hj ho D'') (fun kv1 s₃ q => ?_) fun _ _ x => x.elim
    refine wpAny_mono q (fun v s₄ q => ?_) fun _ _ x => x.elim
    obtain ⟨k, t, m', h₃, tk₃, led', rfl, hnone, rfl, D₃, hj'⟩ := q
    refine wpAny_dictSet_pairs (hsz := by rw [sizeLine_eq, List.length_map]; lia) (strKind_is prog w (S k) t) (Heap.dictOf_iff.mpr ⟨o, D₃.get (.head _), ho⟩) fun h₄ hm₄ hs₄ => ?_
    obtain ⟨o', e', ho'⟩ := Heap.dictOf_iff.mp hm₄
    rw [stored_S _ _ _ hnone] at ho'
    have D₄ : Sd H fs env.locals m' h₄ (((d, o') :: led') ++ its') := D₃.set 0 rfl hs₄ e'
    have hl₄ : ∀ p ∈ held, p ∈ (d, o') :: led' := fun p hp => .tail _ (hJ _ _ _ hj' p hp)
    exact ⟨n - (i + 1), by lia, i + 1, its', kv ++ [(k, v)], o', m', led', h₄, _, rfl, hi, by simp; lia, rfl, hwr', D₄, ho', W.frame _ _ _ hst' (stand hwr' hheld D'' hl' D₄ hl₄), hj'⟩
  · have hin' : i = n := by lia
    subst hin'
    refine W.done { s with heap := h, toks := tk } _ _ hst fun h₁ tk₁ hk₁ => ?_
    exact done kv o m led h₁ tk₁ hj ho (D'.drops fun b o hb q => hk₁ b o (hwr ▸ hb) q)
end
end Mine
end

section
open PySem PySem.W PySem.Calls PyProof.Rows
set_option Elab.async false
set_option maxRecDepth 100000
set_option autoImplicit false
set_option maxHeartbeats 4000000
namespace Mine
abbrev dict0 : Obj := { cls := .type "dict", dict := none, data := .dict #[] }
section
variable {prog : Program} {w : World} {A : Around} {s : Shared} {env : Env} {H : Heap} {fs : Ledg} {m : Vm} {led its : Ledg} {L : Addr}
theorem dict0_of {K : Type} [DecidableEq K] (knd : KeyKind prog w K) : dict0.IsDictOf knd [] :=
  ⟨_, _, ⟨rfl, rfl, rfl⟩, rfl, fun e he => by simp at he, .nil, List.nodup_nil⟩
theorem newDict_sdP {Q : Value → Shared → Prop} (hlim : H.NoLimit) (D : Sd H fs L m s.heap led) (h : ∀ d h' tk, Sd H fs L m h' ((d, dict0) :: led) → (d == sysModules) = false → Q (.ref d) { s with heap := h', toks := tk }) : wpAny (model prog w) A newDict Q NoE s :=
  wpAny_newObj_type (h _ _ _ (D.push dict0) (D.fr.notModules (modules_low hlim)))
theorem comp_frameP {PA : Addr → Prop} {e : Expr} {scope : Scope} {cl : List (Str × Addr)} {it : Value} {newAcc : Sem Value} {oA : Obj} {use : Option (Value → Sem Unit)} {Q : Value → Shared → Prop} (D : Sd H fs env.locals m s.heap led)
    (hacc : ∀ Q', (∀ acc h' tk, Sd H fs env.locals m h' ((acc, oA) :: led) → PA acc → Q' (.ref acc) { s with heap := h', toks := tk }) → wpAny (model prog w) A newAcc Q' NoE s)
    (hcell : ∀ y ∈ scope.names, y.2 ≠ .cell) (hkind : scope.kind = .function)
    (h : ∀ acc C oL h' tk, PA acc → Sd H ((env.locals, oL) :: fs) C (fun _ => none) h' ((acc, oA) :: led) →
      (∀ m₂ h₂ led₂, Sd H ((env.locals, oL) :: fs) C m₂ h₂ led₂ → ∃ o₂, Sd H fs env.locals m h₂ ((C, o₂) :: led₂) ∧ ∀ h₃ : Heap, h₃.get? C = some o₂ → h₃.Ns C m₂) →
      codeAny (model prog w) A (.compStart e 0 it (.ref acc) (compEnvC scope cl C env)) (compPost (model prog w) A NoE use Q (.ref acc) C) { s with heap := h', toks := tk }) :
    wpAny (model prog w) A newAcc (fun acc s₃ => wpAny (model prog w) A (newFunctionEnv scope env.globals cl [] env.qual none .none (some env)) (fun cenv s₄ =>
      codeAny (model prog w) A (.compStart e 0 it acc { cenv with scope := relabel scope env }) (compPost (model prog w) A NoE use Q acc cenv.locals) s₄) NoE s₃) NoE s := by
  refine hacc _ fun acc h' tk D' hpa => ?_
  refine wpAny_newFunctionEnv hcell (by intro y hy; simp at hy) (fun h₁ hns₁ hsb₁ => ?_) hkind
  obtain ⟨oL, D'', lv⟩ := D'.enter2 (h' := h₁) (m' := fun _ => none) (fun b o e => hsb₁.extBut b o (Nat.ne_of_lt (Heap.lt_size e)) (Heap.get?_push_of_some _ e)) hns₁
  exact h acc _ oL h₁ _ hpa D'' fun m₂ h₂ led₂ D₂ => lv m₂ _ h₂ led₂ D₂
theorem newDict_sd {Q : Value → Shared → Prop} (D : Sd H fs L m s.heap led) (h : ∀ d h' tk, Sd H fs L m h' ((d, dict0) :: led) → Q (.ref d) { s with heap := h', toks := tk }) : wpAny (model prog w) A newDict Q NoE s :=
  wpAny_newObj_type (h _ _ _ (D.push dict0))
theorem dictCompT {kx vx iter : Expr} {x y : Str} {px py tp : Pos} {x1 : Nat} {scope : Scope} {pos : Pos} {cl : List (Str × Addr)} {Q : Value → Shared → Prop} {m₀ : Vm} {led₀ : Ledg}
    (_D : Sd H fs env.locals m₀ s.heap led₀) (hlim : H.NoLimit) (hh : A.handled = none)
    (hclos : closureFor scope env = pure cl) (hcell : ∀ y ∈ scope.names, y.2 ≠ .cell) (hkind : scope.kind = .function)
    (hnames : ∀ y ∈ scope.names, y.2 = .local → scope.names.lookup y.1 = some .local) (hx : scope.names.lookup x = some .local) (hy : scope.names.lookup y = some .local)
    (h : wpAny (model prog w) A (eval iter env) (fun xv s₁ => ∃ (h₁ : Heap) (tk₁ : Nat) (m : Vm) (led its : Ledg) (e : Addr) (fp wr : List Addr) (n : Nat) (Pt : Nat → Array Value → Prop) (St : Nat → Heap → Prop) (Mid : Nat → Addr → Heap → Prop) (held : Ledg), xv = .ref e ∧ s₁ = { s with heap := h₁, toks := tk₁ } ∧ WalksT prog w A e fp wr n Pt St Mid ∧ its.map (·.1) = wr ∧ (∀ i h, St i h → ∀ b ∈ wr, ∃ o, h.get? b = some o) ∧ St 0 h₁ ∧
      Sd H fs env.locals m h₁ (led ++ its) ∧ (∀ i vals, Pt i vals → ∃ a b, vals = #[a, b]) ∧ (∀ b ∈ fp, b ∉ wr → ∃ o, (b, o) ∈ held ∨ H.get? b = some o) ∧ n ≤ 1000000 ∧ ∃ J : Nat → Kv → Ledg → Prop, J 0 [] led ∧ (∀ i ys led, J i ys led → ∀ p ∈ held, p ∈ led) ∧
      (∀ i a b its kv o (m₁ : Vm) (led₁ : Ledg) (h₁ : Heap) (tk₁ : Nat) (d C : Addr) (fs₁ : Ledg), i < n → Pt i #[a, b] → J i kv led₁ → DO prog w kv o → Sd H fs₁ C (fun z => if z = y then some b else if z = x then some a else m₁ z) h₁ ((d, o) :: (led₁ ++ its)) →
        wpAny (model prog w) A (eval kx (compEnvC scope cl C env)) (fun kv1 s₃ => wpAny (model prog w) A (eval vx (compEnvC scope cl C env)) (fun v s₄ => ∃ k t m' h' tk' led', kv1 = .str (S k) t ∧ vat kv k = none ∧ s₄ = { s with heap := h', toks := tk' } ∧ Sd H fs₁ C m' h' ((d, o) :: (led' ++ its)) ∧ J (i + 1) (kv ++ [(k, v)]) led') NoE s₃) NoE { s with heap := h₁, toks := tk₁ }) ∧
      (∀ kv o d (led₁ : Ledg) (h₁ : Heap) (tk₁ : Nat), (d == sysModules) = false → J n kv led₁ → DO prog w kv o → Sd H fs env.locals m h₁ ((d, o) :: led₁) → Q (.ref d) { s with heap := h₁, toks := tk₁ })) NoE s)
    (hs : ∀ x, foldedSetIterable iter env x = pure x := by intro _; rfl) :
    wpAny (model prog w) A (eval (.DictComp kx vx [⟨.Tuple [.Name x px, .Name y py] x1 tp, iter, [], 0⟩] scope pos) env) Q NoE s := by
  rw [arm_eval_DictComp]
  refine wpAny_comprehension_free (use := none) rfl hs hclos hkind hnames (wpAny_mono h (fun xv s₁ h₁ => ?_) fun _ _ e => e)
  obtain ⟨h₁, tk₁, m, led, its, e, fp, wr, n, Pt, St, Mid, held, rfl, rfl, W, hwr, hat, hst, D, hP, hheld, hn, J, h0, hJ, turn, done⟩ := h₁
  refine W.self 0 _ _ _ hst ?_
  refine comp_frameP (PA := fun d => (d == sysModules) = false) D (fun Q' hq => newDict_sdP hlim D hq) hcell hkind fun acc C oL h' tk hpa D' lv => ?_
  have hst' : St 0 h' := W.frame _ _ _ hst (stand (led := led) (led' := (acc, _) :: led) hwr hheld D (hJ _ _ _ h0) D' (fun p hp => .tail _ (hJ _ _ _ h0 p hp)))
  refine codeAny_compStart_dict (s := { s with heap := h', toks := tk }) ?_ (W.self 0 { s with heap := h', toks := tk } _ _ hst' ?_)
  all_goals
    refine dictLoopT (env := compEnvC scope cl C env) (s := { s with heap := h', toks := tk }) hh W hwr hat hst' D' (dict0_of _) hP hheld hn J h0 hJ
      (fun i a b its kv o m₁ led₁ h₁ tk₁ hi hPt hj ho D₁ => turn i a b its kv o m₁ led₁ h₁ tk₁ acc C _ hi hPt hj ho D₁) (fun kv o m₁ led₁ h₁ tk₁ hj ho D₁ => ?_) (by simp [compEnvC, relabel, hkind]) (lookup_relabel_local hx) (lookup_relabel_local hy)
    obtain ⟨o₂, D₂, hn₂⟩ := lv _ _ _ D₁
    exact postEval (s := s) D₂ hn₂ fun h' tk' D' => done kv o acc led₁ h' tk' hpa hj ho D'
/-- a dict comprehension over one name, any kind of key -/
theorem dictLoop1 {K : Type} [DecidableEq K] {knd : KeyKind prog w K} {kx vx iter : Expr} {x : Str} {px : Pos} {scope : Scope} {pos : Pos} {I d : Addr} {oI o₀ : Obj} {fp : List Addr} {n : Nat} {P : Nat → Value → Prop} {St : Nat → Heap → Prop} {R : Result → Shared → Prop}
    (W : Walks prog w A I fp [I] n P St) (hat : ∀ i h, St i h → ∃ o, h.get? I = some o) (held : Ledg) (hheld : ∀ b ∈ fp, b ≠ I → ∃ o, (b, o) ∈ held ∨ H.get? b = some o) (hn : n ≤ 1000000)
    (J : Nat → List (K × Value) → Ledg → Prop) (D : Sd H fs env.locals m s.heap ((I, oI) :: (d, o₀) :: led)) (ho : o₀.IsDictOf knd []) (hst : St 0 s.heap) (h0 : J 0 [] led) (hJ : ∀ i ys led, J i ys led → ∀ p ∈ held, p ∈ led)
    (turn : ∀ i v kvs o (m : Vm) (led : Ledg) (h : Heap) (tk : Nat) (oI : Obj), i < n → P i v → J i kvs led → o.IsDictOf knd kvs → Sd H fs env.locals (fun y => if y = x then some v else m y) h ((I, oI) :: (d, o) :: led) →
      wpAny (model prog w) A (eval kx env) (fun kv1 s₃ => wpAny (model prog w) A (eval vx env) (fun y s₄ => ∃ k m' h' tk' led', knd.is k kv1 = true ∧ s₄ = { s with heap := h', toks := tk' } ∧ Sd H fs env.locals m' h' ((I, oI) :: (d, o) :: led') ∧ (stored kvs k y).length ≤ i + 1 ∧ J (i + 1) (stored kvs k y) led') NoE s₃) NoE { s with heap := h, toks := tk })
    (done : ∀ kvs o (m : Vm) (led : Ledg) (h : Heap) (tk : Nat), J n kvs led → o.IsDictOf knd kvs → Sd H fs env.locals m h ((d, o) :: led) → R (.ok .next) { s with heap := h, toks := tk })
    (hk : env.scope.kind = .function := by rfl) (hx : env.kindOf x = some .local := by rfl) (ht : ∀ v, letOwnedTupleGo (.Name x px) (.ref I) v = pure () := by intro _; rfl) :
    codeAny (model prog w) A (.compLoop (.DictComp kx vx [⟨.Name x px, iter, [], 0⟩] scope pos) 0 (.ref I) (.ref d) env) R s := by
  refine codeAny_compLoop_testsD (fun q s' => ∃ i kvs o m led h tk oI, q = n - i ∧ i ≤ n ∧ kvs.length ≤ i ∧ s' = { s with heap := h, toks := tk } ∧ Sd H fs env.locals m h ((I, oI) :: (d, o) :: led) ∧ o.IsDictOf knd kvs ∧ St i h ∧ J i kvs led) (fun q s' hI => ?_) n
    ⟨0, [], o₀, m, led, s.heap, s.toks, oI, rfl, Nat.zero_le _, Nat.le_refl _, rfl, D, ho, hst, h0⟩ ht
  obtain ⟨i, kvs, o, m, led, h, tk, oI, rfl, hin, hlen, rfl, D, ho, hst, hj⟩ := hI
  by_cases hi : i < n
  · refine W.item i _ _ _ hi hst fun v h₁ tk₁ hP hst₁ hk₁ => ?_
    obtain ⟨oI', gI⟩ := hat _ _ hst₁
    have D₁ := D.besideAt hk₁ gI
    refine wpAny_mono (wpAny_assign_Name (st_local (v := v) D₁ (fun h₂ tk₂ D₂ => ?_) hk hx)) (fun _ _ x => x) fun _ _ x => x.elim
    refine wpAny_tests_nil ?_
    simp only [if_true]
    refine wpAny_mono (turn i v kvs o m led h₂ tk₂ oI' hi hP hj ho D₂) (fun kv1 s₃ q => ?_) fun _ _ x => x.elim
    refine wpAny_mono q (fun y s₄ q => ?_) fun _ _ x => x.elim
    obtain ⟨k, m', h₃, tk₃, led', hkk, rfl, D₃, hl₃, hj'⟩ := q
    refine wpAny_dictSet_pairs (hsz := by rw [sizeLine_eq]; lia) hkk (Heap.dictOf_iff.mpr ⟨o, D₃.get (.tail _ (.head _)), ho⟩) fun h₄ hm₄ hs₄ => ?_
    obtain ⟨o', e', ho'⟩ := Heap.dictOf_iff.mp hm₄
    have D₄ : Sd H fs env.locals m' h₄ ((I, oI') :: (d, o') :: led') := D₃.set 1 rfl hs₄ e'
    refine ⟨n - (i + 1), by lia, i + 1, stored kvs k y, o', m', led', h₄, _, oI', rfl, hi, hl₃, rfl, D₄, ho', W.frame _ _ _ hst₁ (fun b hb o e => ?_), hj'⟩
    by_cases hbI : b = I
    · subst hbI
      rw [gI] at e; cases e
      exact D₄.get (.head _)
    · obtain ⟨o', ho⟩ := hheld b hb hbI
      rcases ho with ho | ho
      · have e1 := D₁.get (.tail _ (.tail _ (hJ _ _ _ hj _ ho)))
        rw [e1] at e; cases e
        exact D₄.get (.tail _ (.tail _ (hJ _ _ _ hj' _ ho)))
      · have e1 := D₁.old ho
        rw [e1] at e; cases e
        exact D₄.old ho
  · have hin' : i = n := by lia
    subst hin'
    refine W.done _ _ _ hst fun h₁ tk₁ hk₁ => ?_
    exact done kvs o m led h₁ tk₁ hj ho (D.beside hk₁)
theorem dictComp1 {K : Type} [DecidableEq K] (knd : KeyKind prog w K) {kx vx iter : Expr} {x : Str} {px : Pos} {scope : Scope} {pos : Pos} {cl : List (Str × Addr)} {Q : Value → Shared → Prop} {m₀ : Vm} {led₀ : Ledg}
    (_D : Sd H fs env.locals m₀ s.heap led₀)
    (hclos : closureFor scope env = pure cl) (hcell : ∀ y ∈ scope.names, y.2 ≠ .cell) (hkind : scope.kind = .function)
    (hnames : ∀ y ∈ scope.names, y.2 = .local → scope.names.lookup y.1 = some .local) (hx : scope.names.lookup x = some .local)
    (h : wpAny (model prog w) A (eval iter env) (fun xv s₁ => ∃ (h₁ : Heap) (tk₁ : Nat) (m : Vm) (led held : Ledg) (n : Nat) (P : Nat → Value → Prop), s₁ = { s with heap := h₁, toks := tk₁ } ∧ IterOK prog w A H held xv s₁ n P ∧ Sd H fs env.locals m h₁ led ∧ n ≤ 1000000 ∧
      ∃ J : Nat → List (K × Value) → Ledg → Prop, J 0 [] led ∧ (∀ i ys led, J i ys led → ∀ p ∈ held, p ∈ led) ∧
      (∀ i v kvs o (m₁ : Vm) (led₁ : Ledg) (h₁ : Heap) (tk₁ : Nat) (I : Addr) (oI : Obj) (d C : Addr) (fs₁ : Ledg), i < n → P i v → J i kvs led₁ → o.IsDictOf knd kvs → Sd H fs₁ C (fun y => if y = x then some v else m₁ y) h₁ ((I, oI) :: (d, o) :: led₁) →
        wpAny (model prog w) A (eval kx (compEnvC scope cl C env)) (fun kv1 s₃ => wpAny (model prog w) A (eval vx (compEnvC scope cl C env)) (fun y s₄ => ∃ k m' h' tk' led', knd.is k kv1 = true ∧ s₄ = { s with heap := h', toks := tk' } ∧ Sd H fs₁ C m' h' ((I, oI) :: (d, o) :: led') ∧ (stored kvs k y).length ≤ i + 1 ∧ J (i + 1) (stored kvs k y) led') NoE s₃) NoE { s with heap := h₁, toks := tk₁ }) ∧
      (∀ kvs o d (led₁ : Ledg) (h₁ : Heap) (tk₁ : Nat), J n kvs led₁ → o.IsDictOf knd kvs → Sd H fs env.locals m h₁ ((d, o) :: led₁) → Q (.ref d) { s with heap := h₁, toks := tk₁ })) NoE s)
    (hs : ∀ x, foldedSetIterable iter env x = pure x := by intro _; rfl) :
    wpAny (model prog w) A (eval (.DictComp kx vx [⟨.Name x px, iter, [], 0⟩] scope pos) env) Q NoE s := by
  rw [arm_eval_DictComp]
  refine wpAny_comprehension_free (use := none) rfl hs hclos hkind hnames (wpAny_mono h (fun xv s₁ h₁ => ?_) fun _ _ e => e)
  obtain ⟨h₁, tk₁, m, led, held, n, P, rfl, hO, D, hn, J, h0, hJ, turn, done⟩ := h₁
  refine hO _ fun oI fp St hf W hat hst hheld => ?_
  have D0 := D.push oI hf
  generalize ({ s with heap := h₁, toks := tk₁ } : Shared).heap.objs.size = I at *
  refine comp_frame (s := { s with heap := _, toks := tk₁ }) D0 (fun Q' hq => newDict_sd (s := { s with heap := _, toks := tk₁ }) D0 hq) hcell hkind fun acc C oL h' tk D' lv => ?_
  have D1 := D'.pull 1 rfl
  have hst' : St 0 h' := W.frame _ _ _ hst (fun b hb o e => by
    by_cases hbI : b = I
    · subst hbI
      have e1 := D0.get (.head _)
      rw [e1] at e; cases e
      exact D'.get (.tail _ (.head _))
    · obtain ⟨o', ho⟩ := hheld b hb hbI
      rcases ho with ho | ho
      · have e1 := D0.get (.tail _ (hJ _ _ _ h0 _ ho))
        rw [e1] at e; cases e
        exact D'.get (.tail _ (.tail _ (hJ _ _ _ h0 _ ho)))
      · have e1 := D0.old ho
        rw [e1] at e; cases e
        exact D'.old ho)
  refine codeAny_compStart_dict (s := { s with heap := h', toks := tk }) ?_ (W.self 0 { s with heap := h', toks := tk } _ _ hst' ?_)
  all_goals
    refine dictLoop1 (env := compEnvC scope cl C env) (s := { s with heap := h', toks := tk }) (knd := knd) W hat held hheld hn J D1 (dict0_of _) hst' h0 hJ
      (fun i v kvs o m₁ led₁ h₁ tk₁ oI hi hP hj ho D₁ => turn i v kvs o m₁ led₁ h₁ tk₁ I oI acc C _ hi hP hj ho D₁) (fun kvs o m₁ led₁ h₁ tk₁ hj ho D₁ => ?_) (by simp [compEnvC, relabel, hkind]) (lookup_relabel_local hx)
    obtain ⟨o₂, D₂, hn₂⟩ := lv _ _ _ D₁
    exact postEval (s := s) D₂ hn₂ fun h' tk' D' => done kvs o acc led₁ h' tk' hj ho D'
end
end Mine
end

section
open PySem PySem.W PySem.Calls PyProof.Rows
set_option Elab.async false
set_option maxRecDepth 100000
set_option autoImplicit false
namespace Mine
section
variable {prog : Program} {w : World} {A : Around} {s : Shared} {env : Env} {H h : Heap} {fs : Ledg} {L : Addr} {m u : Vm} {led : Ledg}
theorem list_appendL {l : Addr} {vs : List Value} {n : Nat} {x : Value} {Q : Value → Shared → Prop} (D : Sd H fs L m s.heap led) (i : Nat) (hi : led[i]? = some (l, listOf vs.toArray n))
    (h : ∀ h' tk, let e : Addr × Obj := (l, listOf (vs ++ [x]).toArray (n + 1)); Sd H fs L m h' (led.set i e) → Q .none { s with heap := h', toks := tk }) (hsz : vs.length ≤ 1000000) :
    wpAny (model prog w) A (call (.builtin "list.append") [.ref l, x]) Q NoE s :=
  list_append D i hi (by simpa using h) (by rw [sizeLine_eq, List.size_toArray]; lia)
abbrev forB (R : Result → Shared → Prop) (End : Shared → Prop) : Flow → Shared → Prop := fun f s₃ => match f with | .brk => R (.ok .next) s₃ | .ret v => R (.ok (.ret v)) s₃ | _ => End s₃
inductive FEnd (s : Shared) (H : Heap) (fs : Ledg) (L : Addr) (J : Nat → Vm → Ledg → Prop) (I : Addr) (oI : Obj) (i : Nat) (s₃ : Shared) : Prop
  | mk (m' : Vm) (h' : Heap) (tk' : Nat) (led' : Ledg) (e : s₃ = { s with heap := h', toks := tk' }) (D : Sd H fs L m' h' ((I, oI) :: led')) (j : J (i + 1) m' led')
inductive CEnd (s : Shared) (H : Heap) (fs : Ledg) (L : Addr) (J : Nat → Vm → Ledg → Prop) (I : Addr) (oI : Obj) (c : Addr) (i : Nat) (s₃ : Shared) : Prop
  | mk (m' : Vm) (h' : Heap) (tk' : Nat) (led' : Ledg) (oc' : Obj) (v' : Option Value) (e : s₃ = { s with heap := h', toks := tk' }) (D : Sd H fs L m' h' ((I, oI) :: (c, oc') :: led')) (ho : oc'.data = .cell v') (j : J (i + 1) m' led')
inductive TEnd (s : Shared) (H : Heap) (fs : Ledg) (L : Addr) (J : Nat → Vm → Ledg → Prop) (its : Ledg) (i : Nat) (s₃ : Shared) : Prop
  | mk (m' : Vm) (h' : Heap) (tk' : Nat) (led' : Ledg) (e : s₃ = { s with heap := h', toks := tk' }) (D : Sd H fs L m' h' (led' ++ its)) (j : J (i + 1) m' led')
theorem for_SL {x : Str} {px : Pos} {body : List Stmt} {l : List Nat} {t : Tok} {R : Result → Shared → Prop} (hh : A.handled = none) (hl : ∀ c ∈ l, c < 128) (D : Sd H fs env.locals m s.heap led) (J : Nat → Vm → Ledg → Prop) (h0 : J 0 m led)
    (turn : ∀ I oI i, let KB := forB R (FEnd s H fs env.locals J I oI i); ∀ c u m led h tk, l[i]? = some c → J i m led → Sd H fs env.locals (fun y => if y = x then some (.str (S [c]) u) else m y) h ((I, oI) :: led) →
      wpAny (model prog w) A (execs body env) KB NoE { s with heap := h, toks := tk })
    (done : ∀ m led h tk, J l.length m led → Sd H fs env.locals m h led → R (.ok .next) { s with heap := h, toks := tk })
    (hk : env.scope.kind = .function := by rfl) (hx : env.kindOf x = some .local := by rfl) (ht : ∀ I v, letOwnedTupleGo (.Name x px) (.ref I) v = pure () := by intro _ _; rfl) :
    wpAny (model prog w) A (pyIter (.str (S l) t)) (fun it s₂ => codeAny (model prog w) A (.forLoop (.Name x px) it body [] env) R s₂) NoE s := by
  refine for_S hh hl D J h0 (fun I oI i c u m led h tk e j D => wpAny_mono (turn I oI i c u m led h tk e j D) (fun f s₃ q => ?_) fun _ _ x => x) done hk hx ht
  cases f with
  | next => obtain ⟨m', h', tk', led', e, D, j⟩ := q; exact ⟨m', h', tk', led', e, D, j⟩
  | cont => obtain ⟨m', h', tk', led', e, D, j⟩ := q; exact ⟨m', h', tk', led', e, D, j⟩
  | brk => exact q
  | ret v => exact q
theorem for_LL {x : Str} {px : Pos} {body : List Stmt} {l : Addr} {vs : List Value} {n : Nat} {R : Result → Shared → Prop} (hh : A.handled = none) (D : Sd H fs env.locals m s.heap led) (J : Nat → Vm → Ledg → Prop) (h0 : J 0 m led)
    (hJ : ∀ i m led, J i m led → (l, listOf vs.toArray n) ∈ led)
    (turn : ∀ I oI i, let KB := forB R (FEnd s H fs env.locals J I oI i); ∀ v m led h tk, vs[i]? = some v → J i m led → Sd H fs env.locals (fun y => if y = x then some v else m y) h ((I, oI) :: led) →
      wpAny (model prog w) A (execs body env) KB NoE { s with heap := h, toks := tk })
    (done : ∀ m led h tk, J vs.length m led → Sd H fs env.locals m h led → R (.ok .next) { s with heap := h, toks := tk })
    (hk : env.scope.kind = .function := by rfl) (hx : env.kindOf x = some .local := by rfl) (ht : ∀ I v, letOwnedTupleGo (.Name x px) (.ref I) v = pure () := by intro _ _; rfl) :
    wpAny (model prog w) A (pyIter (.ref l)) (fun it s₂ => codeAny (model prog w) A (.forLoop (.Name x px) it body [] env) R s₂) NoE s := by
  refine for_L hh D J h0 hJ (fun I oI i v m led h tk e j D => wpAny_mono (turn I oI i v m led h tk e j D) (fun f s₃ q => ?_) fun _ _ x => x) done hk hx ht
  cases f with
  | next => obtain ⟨m', h', tk', led', e, D, j⟩ := q; exact ⟨m', h', tk', led', e, D, j⟩
  | cont => obtain ⟨m', h', tk', led', e, D, j⟩ := q; exact ⟨m', h', tk', led', e, D, j⟩
  | brk => exact q
  | ret v => exact q
theorem for_anyL {x : Str} {px : Pos} {body : List Stmt} {n : Nat} {held : Ledg} {P : Nat → Value → Prop} {xv : Value} {R : Result → Shared → Prop} (hO : IterOK prog w A H held xv s n P) (D : Sd H fs env.locals m s.heap led)
    (J : Nat → Vm → Ledg → Prop) (h0 : J 0 m led) (hJ : ∀ i m led, J i m led → ∀ p ∈ held, p ∈ led)
    (turn : ∀ I oI i, let KB := forB R (FEnd s H fs env.locals J I oI i); ∀ v m led h tk, i < n → P i v → J i m led → Sd H fs env.locals (fun y => if y = x then some v else m y) h ((I, oI) :: led) →
      wpAny (model prog w) A (execs body env) KB NoE { s with heap := h, toks := tk })
    (done : ∀ m led h tk, J n m led → Sd H fs env.locals m h led → R (.ok .next) { s with heap := h, toks := tk })
    (hk : env.scope.kind = .function := by rfl) (hx : env.kindOf x = some .local := by rfl) (ht : ∀ I v, letOwnedTupleGo (.Name x px) (.ref I) v = pure () := by intro _ _; rfl) :
    wpAny (model prog w) A (pyIter xv) (fun it s₂ => codeAny (model prog w) A (.forLoop (.Name x px) it body [] env) R s₂) NoE s := by
  refine for_any hO D J h0 hJ (fun I oI i v m led h tk e p j D => wpAny_mono (turn I oI i v m led h tk e p j D) (fun f s₃ q => ?_) fun _ _ x => x) done hk hx ht
  cases f with
  | next => obtain ⟨m', h', tk', led', e, D, j⟩ := q; exact ⟨m', h', tk', led', e, D, j⟩
  | cont => obtain ⟨m', h', tk', led', e, D, j⟩ := q; exact ⟨m', h', tk', led', e, D, j⟩
  | brk => exact q
  | ret v => exact q
theorem for_cellL {x : Str} {px : Pos} {body : List Stmt} {n : Nat} {held : Ledg} {P : Nat → Value → Prop} {xv : Value} {R : Result → Shared → Prop} {c : Addr} {oc : Obj} {v0 : Option Value} (hO : IterOK prog w A H held xv s n P) (D : Sd H fs env.locals m s.heap ((c, oc) :: led))
    (hcx : env.cells.lookup x = some c) (hoc : oc.data = .cell v0)
    (J : Nat → Vm → Ledg → Prop) (h0 : J 0 m led) (hJ : ∀ i m led, J i m led → ∀ p ∈ held, p ∈ led)
    (turn : ∀ I oI i, let KB := forB R (CEnd s H fs env.locals J I oI c i); ∀ oc v m led h tk, i < n → P i v → J i m led → oc.data = .cell (some v) → Sd H fs env.locals m h ((I, oI) :: (c, oc) :: led) →
      wpAny (model prog w) A (execs body env) KB NoE { s with heap := h, toks := tk })
    (done : ∀ m led oc h tk, J n m led → Sd H fs env.locals m h ((c, oc) :: led) → R (.ok .next) { s with heap := h, toks := tk })
    (hk : env.scope.kind = .function := by rfl) (hx : env.kindOf x = some .cell := by rfl) (ht : ∀ I v, letOwnedTupleGo (.Name x px) (.ref I) v = pure () := by intro _ _; rfl) :
    wpAny (model prog w) A (pyIter xv) (fun it s₂ => codeAny (model prog w) A (.forLoop (.Name x px) it body [] env) R s₂) NoE s := by
  refine for_cell hO D hcx hoc J h0 hJ (fun I oI oc i v m led h tk e p j ho D => wpAny_mono (turn I oI i oc v m led h tk e p j ho D) (fun f s₃ q => ?_) fun _ _ x => x) done hk hx ht
  cases f with
  | next => obtain ⟨m', h', tk', led', oc', v', e, D, ho, j⟩ := q; exact ⟨m', h', tk', led', oc', v', e, D, ho, j⟩
  | cont => obtain ⟨m', h', tk', led', oc', v', e, D, ho, j⟩ := q; exact ⟨m', h', tk', led', oc', v', e, D, ho, j⟩
  | brk => exact q
  | ret v => exact q
theorem for_TL {its : Ledg} {x y : Str} {px py tp : Pos} {x1 : Nat} {body : List Stmt} {e : Addr} {fp wr : List Addr} {n : Nat} {held : Ledg} {Pt : Nat → Array Value → Prop} {St : Nat → Heap → Prop} {Mid : Nat → Addr → Heap → Prop} {R : Result → Shared → Prop}
    (hh : A.handled = none) (W : WalksT prog w A e fp wr n Pt St Mid) (hwr : its.map (·.1) = wr) (hat : ∀ i h, St i h → ∀ b ∈ wr, ∃ o, h.get? b = some o) (hst : St 0 s.heap) (D : Sd H fs env.locals m s.heap (led ++ its))
    (hP : ∀ i vals, Pt i vals → ∃ a b, vals = #[a, b]) (hheld : ∀ b ∈ fp, b ∉ wr → ∃ o, (b, o) ∈ held ∨ H.get? b = some o) (J : Nat → Vm → Ledg → Prop) (h0 : J 0 m led) (hJ : ∀ i m led, J i m led → ∀ p ∈ held, p ∈ led)
    (turn : ∀ i its, let KB := forB R (TEnd s H fs env.locals J its i); ∀ a b m led h tk, i < n → Pt i #[a, b] → J i m led → Sd H fs env.locals (fun z => if z = y then some b else if z = x then some a else m z) h (led ++ its) →
      wpAny (model prog w) A (execs body env) KB NoE { s with heap := h, toks := tk })
    (done : ∀ m led h tk, J n m led → Sd H fs env.locals m h led → R (.ok .next) { s with heap := h, toks := tk })
    (hk : env.scope.kind = .function := by rfl) (hx : env.kindOf x = some .local := by rfl) (hy : env.kindOf y = some .local := by rfl) :
    wpAny (model prog w) A (pyIter (.ref e)) (fun it s₂ => codeAny (model prog w) A (.forLoop (.Tuple [.Name x px, .Name y py] x1 tp) it body [] env) R s₂) NoE s := by
  refine for_T hh W hwr hat hst D hP hheld J h0 hJ (fun i a b its m led h tk e p j D => wpAny_mono (turn i its a b m led h tk e p j D) (fun f s₃ q => ?_) fun _ _ x => x) done hk hx hy
  cases f with
  | next => obtain ⟨m', h', tk', led', e, D, j⟩ := q; exact ⟨m', h', tk', led', e, D, j⟩
  | cont => obtain ⟨m', h', tk', led', e, D, j⟩ := q; exact ⟨m', h', tk', led', e, D, j⟩
  | brk => exact q
  | ret v => exact q
inductive LEnd (s : Shared) (H : Heap) (fs : Ledg) (C : Addr) (J : Nat → List Value → Ledg → Prop) (I : Addr) (oI : Obj) (acc : Addr) (ys : List Value) (k i : Nat) (ys' : List Value) (s₃ : Shared) : Prop
  | mk (m' : Vm) (h' : Heap) (tk' : Nat) (led' : Ledg) (e : s₃ = { s with heap := h', toks := tk' }) (D : Sd H fs C m' h' ((I, oI) :: (acc, listOf ys.toArray k) :: led')) (j : J (i + 1) ys' led')
noncomputable def lcPost (prog : Program) (w : World) (A : Around) (H : Heap) (fs : Ledg) (env : Env) (elt : Expr) (x : Str) (ifs : List Expr) (scope : Scope) (cl : List (Str × Addr)) (s : Shared) (FinP : Vm → Nat → (Nat → List Value → Ledg → Prop) → Prop) (xv : Value) (s₁ : Shared) : Prop :=
  wpAny (model prog w) A (pyIter xv) (fun it s₂ => ∃ h₂ tk₂ m led I oI fp n P St, it = .ref I ∧ s₂ = { s with heap := h₂, toks := tk₂ } ∧ Walks prog w A I fp [I] n P St ∧ n ≤ 1000000 ∧ St 0 h₂ ∧
      Sd H fs env.locals m h₂ ((I, oI) :: led) ∧ (∀ i h, St i h → ∃ o, h.get? I = some o) ∧ ∃ (held : Ledg) (J : Nat → List Value → Ledg → Prop), (∀ b ∈ fp, b ≠ I → ∃ o, (b, o) ∈ held ∨ H.get? b = some o) ∧ J 0 [] led ∧ (∀ i ys led, J i ys led → ∀ p ∈ held, p ∈ led) ∧
      (∀ i v ys k (m₁ : Vm) (led₁ : Ledg) (h₁ : Heap) (tk₁ : Nat) (oI : Obj) (acc C : Addr) (fs₁ : Ledg), i < n → P i v → J i ys led₁ → Sd H fs₁ C (fun y => if y = x then some v else m₁ y) h₁ ((I, oI) :: (acc, listOf ys.toArray k) :: led₁) →
        wpAny (model prog w) A (testsOf ifs (compEnvC scope cl C env)) (fun ok s₃ => if ok = true then
            wpAny (model prog w) A (eval elt (compEnvC scope cl C env)) (fun y s₄ => ∃ m' h' tk' led', s₄ = { s with heap := h', toks := tk' } ∧ Sd H fs₁ C m' h' ((I, oI) :: (acc, listOf ys.toArray k) :: led') ∧ J (i + 1) (ys ++ [y]) led') NoE s₃
          else ∃ m' h' tk' led', s₃ = { s with heap := h', toks := tk' } ∧ Sd H fs₁ C m' h' ((I, oI) :: (acc, listOf ys.toArray k) :: led') ∧ J (i + 1) ys led') NoE { s with heap := h₁, toks := tk₁ }) ∧
      FinP m n J) NoE s₁
noncomputable def lcFin (H : Heap) (fs : Ledg) (L : Addr) (s : Shared) (Q : Value → Shared → Prop) : Vm → Nat → (Nat → List Value → Ledg → Prop) → Prop := fun m n J =>
  ∀ ys k acc (led₁ : Ledg) (h₁ : Heap) (tk₁ : Nat), J n ys led₁ → Sd H fs L m h₁ ((acc, listOf ys.toArray k) :: led₁) → Q (.ref acc) { s with heap := h₁, toks := tk₁ }
noncomputable def acFin (H : Heap) (fs : Ledg) (L : Addr) (y : Str) (s : Shared) (Q : Flow → Shared → Prop) : Vm → Nat → (Nat → List Value → Ledg → Prop) → Prop := fun m n J =>
  ∀ ys k acc (led₁ : Ledg) (h₁ : Heap) (tk₁ : Nat), J n ys led₁ → Sd H fs L (fun z => if z = y then some (.ref acc) else m z) h₁ ((acc, listOf ys.toArray k) :: led₁) → Q .next { s with heap := h₁, toks := tk₁ }
abbrev lcT (M : Model) (A : Around) (elt : Expr) (env : Env) (KE : Value → Shared → Prop) (KN : Shared → Prop) : Bool → Shared → Prop := fun ok s₃ => if ok = true then wpAny M A (eval elt env) KE NoE s₃ else KN s₃
abbrev lcE (End : List Value → Shared → Prop) (ys : List Value) : Value → Shared → Prop := fun y s₄ => End (ys ++ [y]) s₄
theorem lc_anyL {elt : Expr} {x : Str} {ifs : List Expr} {scope : Scope} {cl : List (Str × Addr)} {h1 : Heap} {tk1 n : Nat} {held : Ledg} {P : Nat → Value → Prop} {xv : Value} {FinP : Vm → Nat → (Nat → List Value → Ledg → Prop) → Prop}
    (hO : IterOK prog w A H held xv { s with heap := h1, toks := tk1 } n P) (hn : n ≤ 1000000) (D : Sd H fs env.locals m h1 led) (J : Nat → List Value → Ledg → Prop) (h0 : J 0 [] led) (hJ : ∀ i ys led, J i ys led → ∀ p ∈ held, p ∈ led)
    (turn : ∀ I i ys k (oI : Obj) (acc C : Addr) (fs₁ : Ledg), let env1 := compEnvC scope cl C env; let KE := lcE (LEnd s H fs₁ C J I oI acc ys k i) ys; let KT := lcT (model prog w) A elt env1 KE (LEnd s H fs₁ C J I oI acc ys k i ys);
      ∀ v (m₁ : Vm) (led₁ : Ledg) (h₁ : Heap) (tk₁ : Nat), i < n → P i v → J i ys led₁ → Sd H fs₁ C (fun y => if y = x then some v else m₁ y) h₁ ((I, oI) :: (acc, listOf ys.toArray k) :: led₁) →
        wpAny (model prog w) A (testsOf ifs env1) KT NoE { s with heap := h₁, toks := tk₁ })
    (done : FinP m n J) : lcPost prog w A H fs env elt x ifs scope cl s FinP xv { s with heap := h1, toks := tk1 } := by
  refine lc_any hO hn D J h0 hJ (fun I i v ys k m₁ led₁ h₁ tk₁ oI acc C fs₁ hi hp hj D => wpAny_mono (turn I i ys k oI acc C fs₁ v m₁ led₁ h₁ tk₁ hi hp hj D) (fun b s₂ q => ?_) fun _ _ x => x) done
  cases b with
  | false => obtain ⟨m', h', tk', led', e, D, j⟩ := q; exact ⟨m', h', tk', led', e, D, j⟩
  | true => exact wpAny_mono q (fun y s₃ q => by obtain ⟨m', h', tk', led', e, D, j⟩ := q; exact ⟨m', h', tk', led', e, D, j⟩) fun _ _ x => x
theorem listComp_sdL {m₀ : Vm} {led₀ : Ledg} {elt iter : Expr} {x : Str} {px : Pos} {ifs : List Expr} {scope : Scope} {pos : Pos} {cl : List (Str × Addr)} {Q : Value → Shared → Prop}
    (D : Sd H fs env.locals m₀ s.heap led₀)
    (hclos : closureFor scope env = pure cl) (hcell : ∀ y ∈ scope.names, y.2 ≠ .cell) (hkind : scope.kind = .function)
    (hnames : ∀ y ∈ scope.names, y.2 = .local → scope.names.lookup y.1 = some .local) (hx : scope.names.lookup x = some .local)
    (h : let KL := lcPost prog w A H fs env elt x ifs scope cl s (lcFin H fs env.locals s Q); wpAny (model prog w) A (eval iter env) KL NoE s)
    (hs : ∀ x, foldedSetIterable iter env x = pure x := by intro _; rfl) :
    wpAny (model prog w) A (eval (.ListComp elt [⟨.Name x px, iter, ifs, 0⟩] scope pos) env) Q NoE s :=
  listComp_sd2 D hclos hcell hkind hnames hx h hs
theorem assignComp_sdL {m₀ : Vm} {led₀ : Ledg} {elt iter : Expr} {x y : Str} {px py : Pos} {ifs : List Expr} {scope : Scope} {pos spos : Pos} {cl : List (Str × Addr)} {Q : Flow → Shared → Prop}
    (D : Sd H fs env.locals m₀ s.heap led₀)
    (hsw : swapsWith (.ListComp elt [⟨.Name x px, iter, ifs, 0⟩] scope pos) (some (.Name y py)) spos.line env = pure true)
    (hclos : closureFor scope env = pure cl) (hcell : ∀ y ∈ scope.names, y.2 ≠ .cell) (hkind : scope.kind = .function)
    (hnames : ∀ y ∈ scope.names, y.2 = .local → scope.names.lookup y.1 = some .local) (hx : scope.names.lookup x = some .local) (hk : env.scope.kind = .function) (hy : env.kindOf y = some .local)
    (h : let KL := lcPost prog w A H fs env elt x ifs scope cl s (acFin H fs env.locals y s Q); wpAny (model prog w) A (eval iter env) KL NoE s)
    (hs : ∀ x, foldedSetIterable iter env x = pure x := by intro _; rfl) :
    wpAny (model prog w) A (exec (.Assign [.Name y py] (.ListComp elt [⟨.Name x px, iter, ifs, 0⟩] scope pos) spos) env) Q NoE s :=
  assignComp_sd2 D hsw hclos hcell hkind hnames hx hk hy h hs
theorem call_sdCL {K : Frag} {name qual : Str} {params : Arguments} {body : List Stmt} {scope : Scope} {dV kV doc pm cdv ct oc : Value} {an od : Option Addr} {osl : Array (Option Value)} {f : Addr} {vs : List Value} {binds : List (Str × Value)} {Q : Value → Shared → Prop}
    (hh : A.handled = none) (D : Sd H fs L m s.heap led) (X : K.In H) (hlim : H.NoLimit)
    (ho : K.lookup f = some ⟨oc, od, .func (fnOf name qual params body scope dV kV doc pm an cdv ct), osl⟩) (hcd : codeIn K cdv qual = true) (hroom : A.depth < recursionLimit)
    (hbind : bindArgs (fnOf name qual params body scope dV kV doc pm an cdv ct) ⟨vs, []⟩ = pure binds)
    (hkind : ∀ n, ∀ x ∈ binds, scope.names.lookup x.1 = some .local ∨ (scope.names.lookup x.1 = some .cell ∧ ((cellsFrom n scope.names []).lookup x.1).isSome = true))
    (hnd : ((cellsFrom 0 scope.names []).map (·.1)).Nodup)
    (h : ∀ C oL h' tk cells, CellsAre (bindC (envOfC qual scope C f cdv).kindOf binds fun _ => none) (cellsFrom (C + 1) scope.names []) cells →
      Sd H ((L, oL) :: fs) C (bindL (envOfC qual scope C f cdv).kindOf binds fun _ => none) h' (cells ++ led) → (∀ m₂ L₂ h₂ led₂, Sd H ((L, oL) :: fs) L₂ m₂ h₂ led₂ → Sd H fs L m h₂ led₂) →
      let env := envOfC qual scope C f cdv; let KF := retK Q; ∀ A' : Around, A'.handled = none → A'.depth = A.depth + 1 → A'.units = A.units + 3 → wpAny (model prog w) A' (execs body env) KF NoE { s with heap := h', toks := tk })
    (hco : scope.isCoroutine = false := by rfl) (hgen : scope.isGenerator = false := by rfl) (hk : scope.kind = .function := by rfl) :
    wpAny (model prog w) A (call (.ref f) vs) Q NoE s :=
  call_sdC D X hlim ho hcd hroom hbind hkind hnd (fun C oL h' tk cells Y D lv => h C oL h' tk cells Y D lv _ hh rfl rfl) hco hgen hk
end
end Mine
end

open PySem PySem.W PySem.Calls PyProof.Rows
set_option Elab.async false
set_option maxRecDepth 100000
set_option autoImplicit false
set_option maxHeartbeats 4000000
namespace Mine

inductive JJ1 (vs : List Value) (l st r u : Addr) (t1 : Tok) (led : Ledg) (k : Nat) (m' : Vm) (led' : Ledg) : Prop
  | mk (i : Nat) (ti : Tok) (n' : Nat) (f0 : Has [("inp", .ref l), ("STAR", .ref st), ("res", .ref r), ("add", .ref u), ("i", .int i ti), ("n", .int (((vs ++ [Value.ref st]).length : Nat) : Int) t1)] m') (f1 : i ≤ vs.length) (f2 : k = vs.length - i) (f3 : led' = (u, boundOf "list.append" (.ref r)) :: (r, listOf (vs.take i).toArray n') :: led)
inductive JJ2 (vs : List Value) (l st r u : Addr) (t1 : Tok) (led : Ledg) (n' : Nat) (k : Nat) (m' : Vm) (led' : Ledg) : Prop
  | mk (ti : Tok) (f0 : Has [("inp", .ref l), ("STAR", .ref st), ("res", .ref r), ("add", .ref u), ("i", .int ((vs.length : Nat) : Int) ti), ("n", .int (((vs ++ [Value.ref st]).length : Nat) : Int) t1)] m') (f1 : led' = (u, boundOf "list.append" (.ref r)) :: (r, listOf vs.toArray n') :: led)
section
variable {w : World} {A : Around} {s : Shared} {H : Heap} {fs : Ledg} {L : Addr} {m mg mb : Vm} {led : Ledg} {pp : Program} {loose : List Str}
theorem ct_join {l st : Addr} {vs : List Value} {ls : List (List Nat)} {n : Nat} {o : Obj} {Q : Value → Shared → Prop} (X : (Mine.KK0 w.params).In H) (T : TopRead pp loose mg mb H) (hh : A.handled = none) (hd : A.depth + 2 < recursionLimit)
    (D : Sd H fs L m s.heap led) (hl : (l, listOf (vs ++ [Value.ref st]).toArray n) ∈ led) (hs : SVs vs ls) (hst : (st, o) ∈ led) (ho : o.cls = .type "object") (hsz : ls.flatten.length + ls.length ≤ 1000)
    (h : ∀ t h' tk, Sd H fs L m h' led → Q (.str (S ([40, 63, 115, 58] ++ ls.flatten ++ [46, 42, 41, 92, 90])) t) { s with heap := h', toks := tk }) :
    wpAny (model PR w) A (call (.ref 69) [.ref l, .ref st]) Q NoE s := by
  refine' call_sdL (hh := hh) (K := Mine.KK0 w.params) (binds := [("inp", .ref l), ("STAR", .ref st)]) D X T.nolimit ?ho ?hcd ?hroom ?hbind ?hloc ?hcell ?_ ?hco ?hgen ?hk
  walk_at "enter"
  intro C oL h1 tk1 D1 lv
  intro env kR A1 hA1 hA2 hA3
  have hvl := hs.len
  (with_reducible show wpAny _ _ (execs _ _) _ _ _); (try clear kS); with_reducible refine ex_cons ?_; intro kS
  try dsimp only
  refine @wpAny_Assign_Name _ _ _ _ _ _ _ _ _ _ ?_ (by rfl)
  try dsimp only
  refine @List_ _ _ _ _ _ _ _ _ ?_
  try dsimp only
  refine @spliced_none _ _ _ _ _ _ _ ?_
  try dsimp only
  refine @newList_sdL _ _ _ _ _ _ _ _ _ _ _ (by assumption) ?_ (by exact sz_lit rfl); intro _ _ _ _ _
  try dsimp only
  refine @st_localL _ _ _ _ _ _ _ _ _ _ _ _ (by assumption) ?_ (by rfl) (by rfl); intro _ _ _ _
  try dsimp only
  (with_reducible show wpAny _ _ (execs _ _) _ _ _); (try clear kS); with_reducible refine ex_cons ?_; intro kS
  try dsimp only
  refine @wpAny_Assign_Name _ _ _ _ _ _ _ _ _ _ ?_ (by rfl)
  try dsimp only
  refine @Attribute_name _ _ _ _ _ _ _ _ _ _ ?_
  try dsimp only
  refine @nm_local _ _ _ _ _ _ _ _ _ _ _ _ _ (by assumption) (by walk_at "dv") ?_ (by rfl) (by rfl) (by decide)
  try dsimp only
  refine @append_attr_sdL _ _ _ _ _ _ _ _ _ _ _ _ _ _ (by assumption) (by walk_at "mem") ?_; intro _ _ _ _ _
  try dsimp only
  refine @st_localL _ _ _ _ _ _ _ _ _ _ _ _ (by assumption) ?_ (by rfl) (by rfl); intro _ _ _ _
  try dsimp only
  (with_reducible show wpAny _ _ (execs _ _) _ _ _); (try clear kS); with_reducible refine ex_cons ?_; intro kS
  try dsimp only
  refine @Assign_Tuple_swapped _ _ _ _ _ _ _ _ _ _ ([_, _]) _ ?_ (by rfl) (by rfl)
  try dsimp only
  refine @Tuple_ _ _ _ _ _ _ _ _ _ ?_
  try dsimp only
  refine @spliced_more _ _ _ _ _ _ _ _ _ ?_ (by rfl)
  try dsimp only
  refine @cst_int _ _ _ _ _ _ _ _ _ ?_; intro _ _
  try dsimp only
  refine @spliced_more _ _ _ _ _ _ _ _ _ ?_ (by rfl)
  try dsimp only
  refine @call_bi _ _ _ _ _ _ _ _ _ _ _ _ _ _ _ _ _ _ _ _ _ (by assumption) (by assumption) (by assumption) (by k_is) (by boot_by_name) ?_ (by decide) (by rfl) (by rfl) (by rfl) (by rfl) (by decide) (by rfl) (by rfl)
  try dsimp only
  refine @spliced_more _ _ _ _ _ _ _ _ _ ?_ (by rfl)
  try dsimp only
  refine @nm_local _ _ _ _ _ _ _ _ _ _ _ _ _ (by assumption) (by walk_at "dv") ?_ (by rfl) (by rfl) (by decide)
  try dsimp only
  refine @spliced_none _ _ _ _ _ _ _ ?_
  try dsimp only
  refine @len_L _ _ _ _ _ _ _ _ _ _ _ _ _ (by assumption) (by walk_at "mem") (by walk_at "sz") ?_; intro _ _
  try dsimp only
  refine @spliced_none _ _ _ _ _ _ _ ?_
  try dsimp only
  refine @pair_swL _ _ _ _ _ _ _ _ _ _ _ _ _ _ (by assumption) (by assumption) ?_ (by rfl) (by rfl) (by rfl); intro _ _ _ _
  try dsimp only
  (with_reducible show wpAny _ _ (execs _ _) _ _ _); (try clear kS); with_reducible refine ex_cons ?_; intro kS
  try dsimp only
  rename_i r h2 tk2 _ D2 h3 tk3 _ D3 u h4 tk4 _ D4 h5 tk5 _ D5 t0 tk6 t1 tk7 h6 tk8 _ D6
  refine while_sdL (JJ1 vs l st r u t1 led) vs.length D6 ⟨0, t0, 0, ⟨rfl, rfl, rfl, rfl, rfl, rfl, trivial⟩, Nat.zero_le _, rfl, rfl⟩ ?_
  rintro k KB KT m1 h7 tk9 led1 D7 ⟨i, ti, n', hm, hi, rfl, rfl⟩
  have D8 := D7.lo hm
  clear D7 hm
  have hln : (vs ++ [Value.ref st]).length = vs.length + 1 := by simp
  by_cases hlt : i < vs.length
  · obtain ⟨t2, e2⟩ := hs.get (i := i) (List.getElem?_eq_getElem (by lia))
    have e3 : (vs ++ [Value.ref st])[i]? = some (.str (S ls[i]) t2) := by rw [List.getElem?_append_left hlt]; exact e2
    refine D8.fx2 ?_
    clear D8
    intro m8 a8 b8 D8
    refine @isTrue_and _ _ _ _ _ _ _ _ _ _ ?_
    try dsimp only
    refine @wpAny_isTrue_Compare1 _ _ _ _ _ _ _ _ _ _ _ ?_ (by with_unfolding_all rfl)
    try dsimp only
    refine @nm_local _ _ _ _ _ _ _ _ _ _ _ _ _ (by assumption) (by walk_at "dv") ?_ (by rfl) (by rfl) (by decide)
    try dsimp only
    refine @nm_local _ _ _ _ _ _ _ _ _ _ _ _ _ (by assumption) (by walk_at "dv") ?_ (by rfl) (by rfl) (by decide)
    try dsimp only
    with_reducible refine lt_I ?_
    try dsimp only
    refine @wpAny_truthy_bool _ _ _ _ _ _ ?_
    try dsimp only
    (with_reducible show (if _ = true then _ else _)); refine @iteY _ _ _ (by walk_at "yes") ?_
    try dsimp only
    refine @isTrue_and _ _ _ _ _ _ _ _ _ _ ?_
    try dsimp only
    refine @wpAny_isTrue_Compare1 _ _ _ _ _ _ _ _ _ _ _ ?_ (by with_unfolding_all rfl)
    try dsimp only
    refine @Subscript_ _ _ _ _ _ _ _ _ _ ?_
    try dsimp only
    refine @nm_local _ _ _ _ _ _ _ _ _ _ _ _ _ (by assumption) (by walk_at "dv") ?_ (by rfl) (by rfl) (by decide)
    try dsimp only
    refine @nm_local _ _ _ _ _ _ _ _ _ _ _ _ _ (by assumption) (by walk_at "dv") ?_ (by rfl) (by rfl) (by decide)
    try dsimp only
    refine @tail_list _ _ _ _ _ _ _ _ _ _ _ _ _ _ _ _ _ _ _ (by assumption) (by walk_at "mem") (by rfl) (by first | assumption | exact rfl) (by walk_at "sz") ?_ (by rfl)
    try dsimp only
    refine @nm_local _ _ _ _ _ _ _ _ _ _ _ _ _ (by assumption) (by walk_at "dv") ?_ (by rfl) (by rfl) (by decide)
    try dsimp only
    refine @is_other _ _ _ _ _ _ _ _ _ _ _ _ _ (by assumption) (by walk_at "mem") (by intro a e; cases e) (by rfl) ?_
    try dsimp only
    refine @wpAny_truthy_bool _ _ _ _ _ _ ?_
    try dsimp only
    (with_reducible show (if _ = true then _ else _)); refine @iteY _ _ _ (by walk_at "yes") ?_
    try dsimp only
    refine @isTrue_and_nil _ _ _ _ _ _ _ _ ?_
    try dsimp only
    (with_reducible show (if _ = true then _ else _)); refine @iteY _ _ _ (by walk_at "yes") ?_
    try dsimp only
    (with_reducible show wpAny _ _ (execs _ _) _ _ _); (try clear kS); with_reducible refine ex_cons ?_; intro kS
    try dsimp only
    refine @wpAny_Expr _ _ _ _ _ _ _ _ ?_ (by rfl) (by rfl)
    try dsimp only
    refine @callBound _ _ _ _ _ _ _ _ _ _ _ _ _ _ _ _ _ (by assumption) (by walk_at "dv") (by walk_at "mem") ?_ (by rfl) (by rfl) (by decide) (by rfl)
    try dsimp only
    refine @Subscript_ _ _ _ _ _ _ _ _ _ ?_
    try dsimp only
    refine @nm_local _ _ _ _ _ _ _ _ _ _ _ _ _ (by assumption) (by walk_at "dv") ?_ (by rfl) (by rfl) (by decide)
    try dsimp only
    refine @nm_local _ _ _ _ _ _ _ _ _ _ _ _ _ (by assumption) (by walk_at "dv") ?_ (by rfl) (by rfl) (by decide)
    try dsimp only
    refine @tail_list _ _ _ _ _ _ _ _ _ _ _ _ _ _ _ _ _ _ _ (by assumption) (by walk_at "mem") (by rfl) (by first | assumption | exact rfl) (by walk_at "sz") ?_ (by rfl)
    try dsimp only
    refine ⟨Sd.get (by assumption) (by walk_at "mem"), ?_⟩
    try dsimp only
    refine @bound_append_sdL _ _ _ _ _ _ _ _ _ _ _ _ _ _ _ (by assumption) (by walk_at "mem") 1 (by rfl) ?_ (by walk_at "sz"); walk_at "ap"
    try dsimp only
    (with_reducible show wpAny _ _ (execs _ _) _ _ _); (try clear kS); with_reducible refine ex_cons ?_; intro kS
    try dsimp only
    refine @wpAny_AugAssign_Name _ _ _ _ _ _ _ _ _ _ _ ?_
    try dsimp only
    refine @ld_local _ _ _ _ _ _ _ _ _ _ _ _ (by assumption) (by walk_at "dv") ?_ (by rfl) (by rfl)
    try dsimp only
    refine @cst_int _ _ _ _ _ _ _ _ _ ?_; intro _ _
    try dsimp only
    refine @iadd_I _ _ _ _ _ _ _ _ _ ?_; intro _ _
    try dsimp only
    refine @st_localL _ _ _ _ _ _ _ _ _ _ _ _ (by assumption) ?_ (by rfl) (by rfl); intro _ _ _ _
    try dsimp only
    (with_reducible show wpAny _ _ (execs _ _) _ _ _); (try clear kS); with_reducible refine wpAny_execs_nil ?_
    try dsimp only
    exact ⟨vs.length - (i + 1), _, _, _, _, rfl, by assumption, ⟨i + 1, _, n' + 1, ⟨rfl, rfl, rfl, rfl, rfl, rfl, trivial⟩, by lia, rfl, by rw [List.take_add_one, e2]; rfl⟩, by lia⟩
  · have hie : i = vs.length := by lia
    subst hie
    have e3 : (vs ++ [Value.ref st])[vs.length]? = some (.ref st) := by simp
    rw [List.take_of_length_le (Nat.le_refl _)] at D8
    refine D8.fx2 ?_
    clear D8
    intro m8 a8 b8 D8
    refine @isTrue_and _ _ _ _ _ _ _ _ _ _ ?_
    try dsimp only
    refine @wpAny_isTrue_Compare1 _ _ _ _ _ _ _ _ _ _ _ ?_ (by with_unfolding_all rfl)
    try dsimp only
    refine @nm_local _ _ _ _ _ _ _ _ _ _ _ _ _ (by assumption) (by walk_at "dv") ?_ (by rfl) (by rfl) (by decide)
    try dsimp only
    refine @nm_local _ _ _ _ _ _ _ _ _ _ _ _ _ (by assumption) (by walk_at "dv") ?_ (by rfl) (by rfl) (by decide)
    try dsimp only
    with_reducible refine lt_I ?_
    try dsimp only
    refine @wpAny_truthy_bool _ _ _ _ _ _ ?_
    try dsimp only
    (with_reducible show (if _ = true then _ else _)); refine @iteY _ _ _ (by walk_at "yes") ?_
    try dsimp only
    refine @isTrue_and _ _ _ _ _ _ _ _ _ _ ?_
    try dsimp only
    refine @wpAny_isTrue_Compare1 _ _ _ _ _ _ _ _ _ _ _ ?_ (by with_unfolding_all rfl)
    try dsimp only
    refine @Subscript_ _ _ _ _ _ _ _ _ _ ?_
    try dsimp only
    refine @nm_local _ _ _ _ _ _ _ _ _ _ _ _ _ (by assumption) (by walk_at "dv") ?_ (by rfl) (by rfl) (by decide)
    try dsimp only
    refine @nm_local _ _ _ _ _ _ _ _ _ _ _ _ _ (by assumption) (by walk_at "dv") ?_ (by rfl) (by rfl) (by decide)
    try dsimp only
    refine @tail_list _ _ _ _ _ _ _ _ _ _ _ _ _ _ _ _ _ _ _ (by assumption) (by walk_at "mem") (by rfl) (by first | assumption | exact rfl) (by walk_at "sz") ?_ (by rfl)
    try dsimp only
    refine @nm_local _ _ _ _ _ _ _ _ _ _ _ _ _ (by assumption) (by walk_at "dv") ?_ (by rfl) (by rfl) (by decide)
    try dsimp only
    with_reducible refine wpAny_isNot_ref_self ?_
    try dsimp only
    refine @wpAny_truthy_bool _ _ _ _ _ _ ?_
    try dsimp only
    (with_reducible show (if _ = true then _ else _)); refine @iteN _ _ _ (by walk_at "yes") ?_
    try dsimp only
    (with_reducible show (if _ = true then _ else _)); refine @iteN _ _ _ (by walk_at "yes") ?_
    try dsimp only
    (with_reducible show wpAny _ _ (execs _ _) _ _ _); (try clear kS); with_reducible refine ex_cons ?_; intro kS
    try dsimp only
    clear D2 D3 D4 D5 D6
    refine while_sdL (JJ2 vs l st r u t1 led n') 0 D8 ⟨ti, ⟨rfl, rfl, rfl, rfl, rfl, rfl, trivial⟩, rfl⟩ ?_
    rintro k KB KT m2 h9 tk10 led2 D9 ⟨ti2, hm2, rfl⟩
    refine D9.lo2 hm2 ?_
    clear D9 hm2
    intro m10 a10 b10 D10
    clear D8
    refine @wpAny_isTrue_Compare1 _ _ _ _ _ _ _ _ _ _ _ ?_ (by with_unfolding_all rfl)
    try dsimp only
    refine @nm_local _ _ _ _ _ _ _ _ _ _ _ _ _ (by assumption) (by walk_at "dv") ?_ (by rfl) (by rfl) (by decide)
    try dsimp only
    refine @nm_local _ _ _ _ _ _ _ _ _ _ _ _ _ (by assumption) (by walk_at "dv") ?_ (by rfl) (by rfl) (by decide)
    try dsimp only
    with_reducible refine lt_I ?_
    try dsimp only
    refine @wpAny_truthy_bool _ _ _ _ _ _ ?_
    try dsimp only
    (with_reducible show (if _ = true then _ else _)); refine @iteY _ _ _ (by walk_at "yes") ?_
    try dsimp only
    (with_reducible show wpAny _ _ (execs _ _) _ _ _); (try clear kS); with_reducible refine ex_cons ?_; intro kS
    try dsimp only
    refine @wpAny_Assert_holds _ _ _ _ _ _ _ _ _ ?_
    try dsimp only
    refine @wpAny_isTrue_Compare1 _ _ _ _ _ _ _ _ _ _ _ ?_ (by with_unfolding_all rfl)
    try dsimp only
    refine @Subscript_ _ _ _ _ _ _ _ _ _ ?_
    try dsimp only
    refine @nm_local _ _ _ _ _ _ _ _ _ _ _ _ _ (by assumption) (by walk_at "dv") ?_ (by rfl) (by rfl) (by decide)
    try dsimp only
    refine @nm_local _ _ _ _ _ _ _ _ _ _ _ _ _ (by assumption) (by walk_at "dv") ?_ (by rfl) (by rfl) (by decide)
    try dsimp only
    refine @tail_list _ _ _ _ _ _ _ _ _ _ _ _ _ _ _ _ _ _ _ (by assumption) (by walk_at "mem") (by rfl) (by first | assumption | exact rfl) (by walk_at "sz") ?_ (by rfl)
    try dsimp only
    refine @nm_local _ _ _ _ _ _ _ _ _ _ _ _ _ (by assumption) (by walk_at "dv") ?_ (by rfl) (by rfl) (by decide)
    try dsimp only
    with_reducible refine wpAny_is_ref_self ?_
    try dsimp only
    refine @wpAny_truthy_bool _ _ _ _ _ _ ?_
    try dsimp only
    refine ⟨by walk_at "yes", ?_⟩
    try dsimp only
    (with_reducible show wpAny _ _ (execs _ _) _ _ _); (try clear kS); with_reducible refine ex_cons ?_; intro kS
    try dsimp only
    refine @wpAny_AugAssign_Name _ _ _ _ _ _ _ _ _ _ _ ?_
    try dsimp only
    refine @ld_local _ _ _ _ _ _ _ _ _ _ _ _ (by assumption) (by walk_at "dv") ?_ (by rfl) (by rfl)
    try dsimp only
    refine @cst_int _ _ _ _ _ _ _ _ _ ?_; intro _ _
    try dsimp only
    refine @iadd_I _ _ _ _ _ _ _ _ _ ?_; intro _ _
    try dsimp only
    refine @st_localL _ _ _ _ _ _ _ _ _ _ _ _ (by assumption) ?_ (by rfl) (by rfl); intro _ _ _ _
    try dsimp only
    (with_reducible show wpAny _ _ (execs _ _) _ _ _); (try clear kS); with_reducible refine ex_cons ?_; intro kS
    try dsimp only
    refine @wpAny_If _ _ _ _ _ _ _ _ _ _ ?_
    try dsimp only
    refine @wpAny_isTrue_Compare1 _ _ _ _ _ _ _ _ _ _ _ ?_ (by with_unfolding_all rfl)
    try dsimp only
    refine @nm_local _ _ _ _ _ _ _ _ _ _ _ _ _ (by assumption) (by walk_at "dv") ?_ (by rfl) (by rfl) (by decide)
    try dsimp only
    refine @nm_local _ _ _ _ _ _ _ _ _ _ _ _ _ (by assumption) (by walk_at "dv") ?_ (by rfl) (by rfl) (by decide)
    try dsimp only
    with_reducible refine eq_I ?_
    try dsimp only
    refine @wpAny_truthy_bool _ _ _ _ _ _ ?_
    try dsimp only
    (with_reducible show (if _ = true then _ else _)); refine @iteY _ _ _ (by walk_at "yes") ?_
    try dsimp only
    (with_reducible show wpAny _ _ (execs _ _) _ _ _); (try clear kS); with_reducible refine ex_cons ?_; intro kS
    try dsimp only
    refine @wpAny_Expr _ _ _ _ _ _ _ _ ?_ (by rfl) (by rfl)
    try dsimp only
    refine @callBound _ _ _ _ _ _ _ _ _ _ _ _ _ _ _ _ _ (by assumption) (by walk_at "dv") (by walk_at "mem") ?_ (by rfl) (by rfl) (by decide) (by rfl)
    try dsimp only
    refine @cst_S _ _ _ _ _ _ _ _ _ _ (by exact lit12) ?_; intro _ _
    try dsimp only
    refine ⟨Sd.get (by assumption) (by walk_at "mem"), ?_⟩
    try dsimp only
    refine @bound_append_sdL _ _ _ _ _ _ _ _ _ _ _ _ _ _ _ (by assumption) (by walk_at "mem") 1 (by rfl) ?_ (by walk_at "sz"); walk_at "ap"
    try dsimp only
    (with_reducible show wpAny _ _ (execs _ _) _ _ _); (try clear kS); with_reducible refine ex_cons ?_; intro kS
    try dsimp only
    refine @wpAny_Break _ _ _ _ _ _ _ ?_
    try dsimp only
    (with_reducible show wpAny _ _ (execs _ _) _ _ _); (try clear kS); with_reducible refine ex_cons ?_; intro kS
    try dsimp only
    refine @wpAny_Assert_holds _ _ _ _ _ _ _ _ _ ?_
    try dsimp only
    refine @wpAny_isTrue_Compare1 _ _ _ _ _ _ _ _ _ _ _ ?_ (by with_unfolding_all rfl)
    try dsimp only
    refine @nm_local _ _ _ _ _ _ _ _ _ _ _ _ _ (by assumption) (by walk_at "dv") ?_ (by rfl) (by rfl) (by decide)
    try dsimp only
    refine @nm_local _ _ _ _ _ _ _ _ _ _ _ _ _ (by assumption) (by walk_at "dv") ?_ (by rfl) (by rfl) (by decide)
    try dsimp only
    with_reducible refine eq_I ?_
    try dsimp only
    refine @wpAny_truthy_bool _ _ _ _ _ _ ?_
    try dsimp only
    refine ⟨by walk_at "yes", ?_⟩
    try dsimp only
    (with_reducible show wpAny _ _ (execs _ _) _ _ _); (try clear kS); with_reducible refine ex_cons ?_; intro kS
    try dsimp only
    refine @wpAny_Assign_Name _ _ _ _ _ _ _ _ _ _ ?_ (by rfl)
    try dsimp only
    refine @meth1_str _ _ _ _ _ _ _ _ _ _ _ _ F.slot_str_join F.type_str_join ?_ (by rfl) (by rfl) (by rfl)
    try dsimp only
    refine @cst_S _ _ _ _ _ _ _ _ _ _ (by exact lit11) ?_; intro _ _
    try dsimp only
    refine ⟨⟨_, _, rfl⟩, ?_⟩
    try dsimp only
    refine @nm_local _ _ _ _ _ _ _ _ _ _ _ _ _ (by assumption) (by walk_at "dv") ?_ (by rfl) (by rfl) (by decide)
    try dsimp only
    refine join_S (by assumption) (by walk_at "mem") (hs.snoc ⟨_, rfl⟩) (by rw [List.flatten_append, List.length_append]; show _ + 2 ≤ 1000000; lia) ?_
    intro t9 tk9
    rename_i D11
    have hz : (ls ++ [[46, 42]]).flatten.length ≤ 1002 := by rw [List.flatten_append, List.length_append]; show _ + 2 ≤ 1002; lia
    refine @st_localL _ _ _ _ _ _ _ _ _ _ _ _ (by assumption) ?_ (by rfl) (by rfl); intro _ _ _ _
    try dsimp only
    (with_reducible show wpAny _ _ (execs _ _) _ _ _); (try clear kS); with_reducible refine ex_cons ?_; intro kS
    try dsimp only
    refine @wpAny_Return_some _ _ _ _ _ _ _ _ ?_
    try dsimp only
    refine @fstr3 _ _ _ _ _ _ _ _ _ _ _ _ _ _ _ _ _ _ _ _ _ _ _ _ (by assumption) (by walk_at "dv") (by exact lit13) (by exact lit14) (by walk_at "sz") ?_ (by rfl) (by rfl) (by decide); intro _ _
    try dsimp only
    rename_i D12 _ _
    have e9 : [40, 63, 115, 58] ++ (ls ++ [[46, 42]]).flatten ++ [41, 92, 90] = [40, 63, 115, 58] ++ ls.flatten ++ [46, 42, 41, 92, 90] := by simp
    rw [e9]
    exact h _ _ _ (lv _ _ _ _ D12).tail.tail
end
end Mine

open PySem PySem.W PySem.Calls PyProof.Rows
set_option Elab.async false
set_option maxRecDepth 100000
set_option autoImplicit false
set_option maxHeartbeats 4000000
namespace Mine
inductive JTR1 (l : List Nat) (t t2 t1 : Tok) (st r u : Addr) (led : Ledg) (k : Nat) (m' : Vm) (led' : Ledg) : Prop
  | mk (i : Nat) (ti : Tok) (n' : Nat) (ps' : Array Value) (vs : List Value) (f0 : Has [("pat", .str (S (qs l ++ [42])) t), ("STAR", .ref st), ("QUESTION_MARK", .str (S [46]) t2), ("res", .ref r), ("add", .ref u), ("i", .int i ti), ("n", .int (((qs l ++ [42]).length : Nat) : Int) t1)] m') (f1 : led' = (57, tabObj ps') :: (u, boundOf "list.append" (.ref r)) :: (r, listOf vs.toArray n') :: led) (f2 : TriplesOk ps'.toList) (f3 : ((∃ i0, i0 ≤ l.length ∧ k = l.length + 1 - i0 ∧ i = (qs (l.take i0)).length ∧ SVs vs ((l.take i0).map part)) ∨ (k = 0 ∧ i = (qs l).length + 1 ∧ ∃ vs0, vs = vs0 ++ [.ref st] ∧ SVs vs0 (l.map part))))
inductive JTR2 (l : List Nat) (t t2 t1 : Tok) (st r u : Addr) (led : Ledg) (i n' : Nat) (ps1 : Array Value) (vs : List Value) (k : Nat) (m' : Vm) (led' : Ledg) : Prop
  | mk (jj : Nat) (ti tj : Tok) (f0 : Has [("pat", .str (S (qs l ++ [42])) t), ("STAR", .ref st), ("QUESTION_MARK", .str (S [46]) t2), ("res", .ref r), ("add", .ref u), ("i", .int ((i : Int) + 1) ti), ("n", .int (((qs l ++ [42]).length : Nat) : Int) t1), ("j", .int ((i : Int) + 1 + (jj : Int)) tj)] m') (f1 : led' = (57, tabObj ps1) :: (u, boundOf "list.append" (.ref r)) :: (r, listOf vs.toArray n') :: led) (f2 : k + jj = 1)
section
variable {w : World} {A : Around} {s : Shared} {H : Heap} {fs : Ledg} {L : Addr} {m mg mb : Vm} {led : Ledg} {pp : Program} {loose : List Str} {mean : ExcName → Option Value}
theorem ct_trans {st : Addr} {l : List Nat} {t t2 : Tok} {o : Obj} {ps : Array Value} {Q : Value → Shared → Prop} (X : (Mine.KK0 w.params).In H) (T : Top pp loose mean mg mb H) (CH : CodeHd H 61 57) (hh : A.handled = none) (hd : A.depth + 5 < recursionLimit)
    (D : Sd H fs L m s.heap ((57, tabObj ps) :: led)) (ht : TriplesOk ps.toList) (hst : (st, o) ∈ led) (hl : ∀ c ∈ l, c < 128) (hsz : l.length ≤ 100)
    (h : ∀ r vs n ps' h' tk, Sd H fs L m h' ((r, listOf (vs ++ [.ref st]).toArray n) :: (57, tabObj ps') :: led) → TriplesOk ps'.toList → SVs vs (l.map part) → Q (.ref r) { s with heap := h', toks := tk }) :
    wpAny (model PR w) A (call (.ref 62) [.str (S (qs l ++ [42])) t, .ref st, .str (S [46]) t2]) Q NoE s := by
  have TR := topRead_of T
  have hq : (qs l).length ≤ 300 := by have := qs_len l; lia
  refine' call_sdL (hh := hh) (K := Mine.KK0 w.params) (binds := [("pat", .str (S (qs l ++ [42])) t), ("STAR", .ref st), ("QUESTION_MARK", .str (S [46]) t2)]) D X TR.nolimit ?ho ?hcd ?hroom ?hbind ?hloc ?hcell ?_ ?hco ?hgen ?hk
  walk_at "enter"
  intro C oL h1 tk1 D1 lv
  intro env kR A1 hA1 hA2 hA3
  (with_reducible show wpAny _ _ (execs _ _) _ _ _); (try clear kS); with_reducible refine ex_cons ?_; intro kS
  try dsimp only
  refine @wpAny_Assign_Name _ _ _ _ _ _ _ _ _ _ ?_ (by rfl)
  try dsimp only
  refine @List_ _ _ _ _ _ _ _ _ ?_
  try dsimp only
  refine @spliced_none _ _ _ _ _ _ _ ?_
  try dsimp only
  refine @newList_sdL _ _ _ _ _ _ _ _ _ _ _ (by assumption) ?_ (by exact sz_lit rfl); intro _ _ _ _ _
  try dsimp only
  refine @st_localL _ _ _ _ _ _ _ _ _ _ _ _ (by assumption) ?_ (by rfl) (by rfl); intro _ _ _ _
  try dsimp only
  (with_reducible show wpAny _ _ (execs _ _) _ _ _); (try clear kS); with_reducible refine ex_cons ?_; intro kS
  try dsimp only
  refine @wpAny_Assign_Name _ _ _ _ _ _ _ _ _ _ ?_ (by rfl)
  try dsimp only
  refine @Attribute_name _ _ _ _ _ _ _ _ _ _ ?_
  try dsimp only
  refine @nm_local _ _ _ _ _ _ _ _ _ _ _ _ _ (by assumption) (by walk_at "dv") ?_ (by rfl) (by rfl) (by decide)
  try dsimp only
  refine @append_attr_sdL _ _ _ _ _ _ _ _ _ _ _ _ _ _ (by assumption) (by walk_at "mem") ?_; intro _ _ _ _ _
  try dsimp only
  refine @st_localL _ _ _ _ _ _ _ _ _ _ _ _ (by assumption) ?_ (by rfl) (by rfl); intro _ _ _ _
  try dsimp only
  (with_reducible show wpAny _ _ (execs _ _) _ _ _); (try clear kS); with_reducible refine ex_cons ?_; intro kS
  try dsimp only
  refine @Assign_Tuple_swapped _ _ _ _ _ _ _ _ _ _ ([_, _]) _ ?_ (by rfl) (by rfl)
  try dsimp only
  refine @Tuple_ _ _ _ _ _ _ _ _ _ ?_
  try dsimp only
  refine @spliced_more _ _ _ _ _ _ _ _ _ ?_ (by rfl)
  try dsimp only
  refine @cst_int _ _ _ _ _ _ _ _ _ ?_; intro _ _
  try dsimp only
  refine @spliced_more _ _ _ _ _ _ _ _ _ ?_ (by rfl)
  try dsimp only
  refine @call_bi _ _ _ _ _ _ _ _ _ _ _ _ _ _ _ _ _ _ _ _ _ (by assumption) (by assumption) (by assumption) (by k_is) (by boot_by_name) ?_ (by decide) (by rfl) (by rfl) (by rfl) (by rfl) (by decide) (by rfl) (by rfl)
  try dsimp only
  refine @spliced_more _ _ _ _ _ _ _ _ _ ?_ (by rfl)
  try dsimp only
  refine @nm_local _ _ _ _ _ _ _ _ _ _ _ _ _ (by assumption) (by walk_at "dv") ?_ (by rfl) (by rfl) (by decide)
  try dsimp only
  refine @spliced_none _ _ _ _ _ _ _ ?_
  try dsimp only
  refine @len_S _ _ _ _ _ _ _ ?_ (by walk_at "sz"); intro _ _
  try dsimp only
  refine @spliced_none _ _ _ _ _ _ _ ?_
  try dsimp only
  refine @pair_swL _ _ _ _ _ _ _ _ _ _ _ _ _ _ (by assumption) (by assumption) ?_ (by rfl) (by rfl) (by rfl); intro _ _ _ _
  try dsimp only
  (with_reducible show wpAny _ _ (execs _ _) _ _ _); (try clear kS); with_reducible refine ex_cons ?_; intro kS
  try dsimp only
  rename_i r h2 tk2 _ D2 h3 tk3 _ D3 u h4 tk4 _ D4 h5 tk5 _ D5 t0 tk6 t1 tk7 h6 tk8 _ D6
  refine while_sdL (JTR1 l t t2 t1 st r u led)
    (l.length + 1) (D6.pull 2 rfl) ⟨0, t0, 0, ps, [], ⟨rfl, rfl, rfl, rfl, rfl, rfl, rfl, trivial⟩, rfl, ht, .inl ⟨0, Nat.zero_le _, rfl, rfl, .nil⟩⟩ ?_
  clear D1 D2 D3 D4 D5 D6 D
  rintro k KB KT m1 h7 tk9 led1 D7 ⟨i, ti, n', ps1, vs, hm, rfl, ht1, hc⟩
  have D8 := D7.lo hm
  clear D7 hm
  have hln : (qs l ++ [42]).length = (qs l).length + 1 := by simp
  rcases hc with ⟨i0, hi0, rfl, rfl, hv⟩ | ⟨rfl, rfl, vs0, rfl, hv⟩
  · by_cases hlt : i0 < l.length
    --A
    · have hle := qs_le l i0 hlt
      have hat := fun j => qs_at l [42] i0 j hlt
      generalize hcc : l[i0] = c at hle hat
      have hc128 : c < 128 := hcc ▸ hl _ (List.getElem_mem hlt)
      generalize hii : (qs (l.take i0)).length = i at *
      have hpt : (l.take (i0 + 1)).map part = (l.take i0).map part ++ [part c] := by
        rw [List.take_add_one, List.getElem?_eq_getElem hlt, hcc]; simp
      by_cases hsp : c ∈ [42, 63, 91]
      · have hqc : qc c = [91, c, 93] := by unfold qc; rw [if_pos hsp]
        rw [hqc] at hle hat
        have h0 : (qs l ++ [42])[i]? = some 91 := hat 0 (by simp)
        have h1 : (qs l ++ [42])[i + 1]? = some c := hat 1 (by simp)
        have h2 : (qs l ++ [42])[i + 2]? = some 93 := hat 2 (by simp)
        have n1 : c ≠ 33 := fun e => by subst e; simp at hsp
        have n2 : c ≠ 93 := fun e => by subst e; simp at hsp
        have n3 : c ≠ 45 := fun e => by subst e; simp at hsp
        have hlv := hv.len
        simp only [List.length_map, List.length_take, List.length_singleton, List.length_cons, List.length_nil] at hlv hle
        have hcut : cut (qs l ++ [42]) (some ((i : Int) + 1)) (some ((i : Int) + 1 + 1)) = [c] := by
          have e := cut_nat (qs l ++ [42]) (i + 1) (i + 2) (by simp; lia) (by lia)
          rw [List.drop_eq_getElem?_toList_append, h1] at e
          exact e.trans (by simp)
        refine @wpAny_isTrue_Compare1 _ _ _ _ _ _ _ _ _ _ _ ?_ (by with_unfolding_all rfl)
        try dsimp only
        refine @nm_local _ _ _ _ _ _ _ _ _ _ _ _ _ (by assumption) (by walk_at "dv") ?_ (by rfl) (by rfl) (by decide)
        try dsimp only
        refine @nm_local _ _ _ _ _ _ _ _ _ _ _ _ _ (by assumption) (by walk_at "dv") ?_ (by rfl) (by rfl) (by decide)
        try dsimp only
        with_reducible refine lt_I ?_
        try dsimp only
        refine @wpAny_truthy_bool _ _ _ _ _ _ ?_
        try dsimp only
        (with_reducible show (if _ = true then _ else _)); refine @iteY _ _ _ (by walk_at "yes") ?_
        try dsimp only
        (with_reducible show wpAny _ _ (execs _ _) _ _ _); (try clear kS); with_reducible refine ex_cons ?_; intro kS
        try dsimp only
        refine @wpAny_Assign_Name _ _ _ _ _ _ _ _ _ _ ?_ (by rfl)
        try dsimp only
        refine @Subscript_ _ _ _ _ _ _ _ _ _ ?_
        try dsimp only
        refine @nm_local _ _ _ _ _ _ _ _ _ _ _ _ _ (by assumption) (by walk_at "dv") ?_ (by rfl) (by rfl) (by decide)
        try dsimp only
        refine @nm_local _ _ _ _ _ _ _ _ _ _ _ _ _ (by assumption) (by walk_at "dv") ?_ (by rfl) (by rfl) (by decide)
        try dsimp only
        refine @tail_str _ _ _ _ _ _ _ _ _ _ _ _ _ (by rfl) (by first | assumption | exact rfl) (by walk_at "sz") ?_ (by rfl); intro _ _
        try dsimp only
        refine @st_localL _ _ _ _ _ _ _ _ _ _ _ _ (by assumption) ?_ (by rfl) (by rfl); intro _ _ _ _
        try dsimp only
        (with_reducible show wpAny _ _ (execs _ _) _ _ _); (try clear kS); with_reducible refine ex_cons ?_; intro kS
        try dsimp only
        refine @wpAny_Assign_Name _ _ _ _ _ _ _ _ _ _ ?_ (by rfl)
        try dsimp only
        refine @wpAny_BinOp _ _ _ _ _ _ _ _ _ _ ?_
        try dsimp only
        refine @nm_local _ _ _ _ _ _ _ _ _ _ _ _ _ (by assumption) (by walk_at "dv") ?_ (by rfl) (by rfl) (by decide)
        try dsimp only
        refine @cst_int _ _ _ _ _ _ _ _ _ ?_; intro _ _
        try dsimp only
        refine @add_I _ _ _ _ _ _ _ _ _ ?_; intro _ _
        try dsimp only
        refine @st_localL _ _ _ _ _ _ _ _ _ _ _ _ (by assumption) ?_ (by rfl) (by rfl); intro _ _ _ _
        try dsimp only
        (with_reducible show wpAny _ _ (execs _ _) _ _ _); (try clear kS); with_reducible refine ex_cons ?_; intro kS
        try dsimp only
        refine @wpAny_If _ _ _ _ _ _ _ _ _ _ ?_
        try dsimp only
        refine @wpAny_isTrue_Compare1 _ _ _ _ _ _ _ _ _ _ _ ?_ (by with_unfolding_all rfl)
        try dsimp only
        refine @nm_local _ _ _ _ _ _ _ _ _ _ _ _ _ (by assumption) (by walk_at "dv") ?_ (by rfl) (by rfl) (by decide)
        try dsimp only
        refine @cst_S _ _ _ _ _ _ _ _ _ _ (by exact lit1) ?_; intro _ _
        try dsimp only
        with_reducible refine eq_S ?_
        try dsimp only
        refine @wpAny_truthy_bool _ _ _ _ _ _ ?_
        try dsimp only
        (with_reducible show (if _ = true then _ else _)); refine @iteN _ _ _ (by walk_at "yes") ?_
        try dsimp only
        (with_reducible show wpAny _ _ (execs _ _) _ _ _); (try clear kS); with_reducible refine ex_cons ?_; intro kS
        try dsimp only
        refine @wpAny_If _ _ _ _ _ _ _ _ _ _ ?_
        try dsimp only
        refine @wpAny_isTrue_Compare1 _ _ _ _ _ _ _ _ _ _ _ ?_ (by with_unfolding_all rfl)
        try dsimp only
        refine @nm_local _ _ _ _ _ _ _ _ _ _ _ _ _ (by assumption) (by walk_at "dv") ?_ (by rfl) (by rfl) (by decide)
        try dsimp only
        refine @cst_S _ _ _ _ _ _ _ _ _ _ (by exact lit2) ?_; intro _ _
        try dsimp only
        with_reducible refine eq_S ?_
        try dsimp only
        refine @wpAny_truthy_bool _ _ _ _ _ _ ?_
        try dsimp only
        (with_reducible show (if _ = true then _ else _)); refine @iteN _ _ _ (by walk_at "yes") ?_
        try dsimp only
        (with_reducible show wpAny _ _ (execs _ _) _ _ _); (try clear kS); with_reducible refine ex_cons ?_; intro kS
        try dsimp only
        refine @wpAny_If _ _ _ _ _ _ _ _ _ _ ?_
        try dsimp only
        refine @wpAny_isTrue_Compare1 _ _ _ _ _ _ _ _ _ _ _ ?_ (by with_unfolding_all rfl)
        try dsimp only
        refine @nm_local _ _ _ _ _ _ _ _ _ _ _ _ _ (by assumption) (by walk_at "dv") ?_ (by rfl) (by rfl) (by decide)
        try dsimp only
        refine @cst_S _ _ _ _ _ _ _ _ _ _ (by exact lit3) ?_; intro _ _
        try dsimp only
        with_reducible refine eq_S ?_
        try dsimp only
        refine @wpAny_truthy_bool _ _ _ _ _ _ ?_
        try dsimp only
        (with_reducible show (if _ = true then _ else _)); refine @iteY _ _ _ (by walk_at "yes") ?_
        try dsimp only
        (with_reducible show wpAny _ _ (execs _ _) _ _ _); (try clear kS); with_reducible refine ex_cons ?_; intro kS
        try dsimp only
        refine @wpAny_Assign_Name _ _ _ _ _ _ _ _ _ _ ?_ (by rfl)
        try dsimp only
        refine @nm_local _ _ _ _ _ _ _ _ _ _ _ _ _ (by assumption) (by walk_at "dv") ?_ (by rfl) (by rfl) (by decide)
        try dsimp only
        refine @st_localL _ _ _ _ _ _ _ _ _ _ _ _ (by assumption) ?_ (by rfl) (by rfl); intro _ _ _ _
        try dsimp only
        (with_reducible show wpAny _ _ (execs _ _) _ _ _); (try clear kS); with_reducible refine ex_cons ?_; intro kS
        try dsimp only
        refine @wpAny_If _ _ _ _ _ _ _ _ _ _ ?_
        try dsimp only
        refine @isTrue_and _ _ _ _ _ _ _ _ _ _ ?_
        try dsimp only
        refine @wpAny_isTrue_Compare1 _ _ _ _ _ _ _ _ _ _ _ ?_ (by with_unfolding_all rfl)
        try dsimp only
        refine @nm_local _ _ _ _ _ _ _ _ _ _ _ _ _ (by assumption) (by walk_at "dv") ?_ (by rfl) (by rfl) (by decide)
        try dsimp only
        refine @nm_local _ _ _ _ _ _ _ _ _ _ _ _ _ (by assumption) (by walk_at "dv") ?_ (by rfl) (by rfl) (by decide)
        try dsimp only
        with_reducible refine lt_I ?_
        try dsimp only
        refine @wpAny_truthy_bool _ _ _ _ _ _ ?_
        try dsimp only
        (with_reducible show (if _ = true then _ else _)); refine @iteY _ _ _ (by walk_at "yes") ?_
        try dsimp only
        refine @isTrue_and _ _ _ _ _ _ _ _ _ _ ?_
        try dsimp only
        refine @wpAny_isTrue_Compare1 _ _ _ _ _ _ _ _ _ _ _ ?_ (by with_unfolding_all rfl)
        try dsimp only
        refine @Subscript_ _ _ _ _ _ _ _ _ _ ?_
        try dsimp only
        refine @nm_local _ _ _ _ _ _ _ _ _ _ _ _ _ (by assumption) (by walk_at "dv") ?_ (by rfl) (by rfl) (by decide)
        try dsimp only
        refine @nm_local _ _ _ _ _ _ _ _ _ _ _ _ _ (by assumption) (by walk_at "dv") ?_ (by rfl) (by rfl) (by decide)
        try dsimp only
        refine @tail_str _ _ _ _ _ _ _ _ _ _ _ _ _ (by rfl) (by first | assumption | exact rfl) (by walk_at "sz") ?_ (by rfl); intro _ _
        try dsimp only
        refine @cst_S _ _ _ _ _ _ _ _ _ _ (by exact lit4) ?_; intro _ _
        try dsimp only
        with_reducible refine eq_S ?_
        try dsimp only
        refine @wpAny_truthy_bool _ _ _ _ _ _ ?_
        try dsimp only
        (with_reducible show (if _ = true then _ else _)); refine @iteN _ _ _ (by walk_at "yes") ?_
        try dsimp only
        (with_reducible show (if _ = true then _ else _)); refine @iteN _ _ _ (by walk_at "yes") ?_
        try dsimp only
        (with_reducible show wpAny _ _ (execs _ _) _ _ _); (try clear kS); with_reducible refine wpAny_execs_nil ?_
        try dsimp only
        (with_reducible show wpAny _ _ (execs _ _) _ _ _); (try clear kS); with_reducible refine ex_cons ?_; intro kS
        try dsimp only
        refine @wpAny_If _ _ _ _ _ _ _ _ _ _ ?_
        try dsimp only
        refine @isTrue_and _ _ _ _ _ _ _ _ _ _ ?_
        try dsimp only
        refine @wpAny_isTrue_Compare1 _ _ _ _ _ _ _ _ _ _ _ ?_ (by with_unfolding_all rfl)
        try dsimp only
        refine @nm_local _ _ _ _ _ _ _ _ _ _ _ _ _ (by assumption) (by walk_at "dv") ?_ (by rfl) (by rfl) (by decide)
        try dsimp only
        refine @nm_local _ _ _ _ _ _ _ _ _ _ _ _ _ (by assumption) (by walk_at "dv") ?_ (by rfl) (by rfl) (by decide)
        try dsimp only
        with_reducible refine lt_I ?_
        try dsimp only
        refine @wpAny_truthy_bool _ _ _ _ _ _ ?_
        try dsimp only
        (with_reducible show (if _ = true then _ else _)); refine @iteY _ _ _ (by walk_at "yes") ?_
        try dsimp only
        refine @isTrue_and _ _ _ _ _ _ _ _ _ _ ?_
        try dsimp only
        refine @wpAny_isTrue_Compare1 _ _ _ _ _ _ _ _ _ _ _ ?_ (by with_unfolding_all rfl)
        try dsimp only
        refine @Subscript_ _ _ _ _ _ _ _ _ _ ?_
        try dsimp only
        refine @nm_local _ _ _ _ _ _ _ _ _ _ _ _ _ (by assumption) (by walk_at "dv") ?_ (by rfl) (by rfl) (by decide)
        try dsimp only
        refine @nm_local _ _ _ _ _ _ _ _ _ _ _ _ _ (by assumption) (by walk_at "dv") ?_ (by rfl) (by rfl) (by decide)
        try dsimp only
        refine @tail_str _ _ _ _ _ _ _ _ _ _ _ _ _ (by rfl) (by first | assumption | exact rfl) (by walk_at "sz") ?_ (by rfl); intro _ _
        try dsimp only
        refine @cst_S _ _ _ _ _ _ _ _ _ _ (by exact lit5) ?_; intro _ _
        try dsimp only
        with_reducible refine eq_S ?_
        try dsimp only
        refine @wpAny_truthy_bool _ _ _ _ _ _ ?_
        try dsimp only
        (with_reducible show (if _ = true then _ else _)); refine @iteN _ _ _ (by walk_at "yes") ?_
        try dsimp only
        (with_reducible show (if _ = true then _ else _)); refine @iteN _ _ _ (by walk_at "yes") ?_
        try dsimp only
        (with_reducible show wpAny _ _ (execs _ _) _ _ _); (try clear kS); with_reducible refine wpAny_execs_nil ?_
        try dsimp only
        (with_reducible show wpAny _ _ (execs _ _) _ _ _); (try clear kS); with_reducible refine ex_cons ?_; intro kS
        try dsimp only
        rename Sd H _ _ _ _ _ => D9
        refine while_sdL (JTR2 l t t2 t1 st r u led i n' ps1 vs) 1 D9 ⟨0, _, _, ⟨rfl, rfl, rfl, rfl, rfl, rfl, rfl, rfl, trivial⟩, rfl, rfl⟩ ?_
        clear D8 D9
        rintro k KB KT m2 h9 tk10 led2 D9 ⟨jj, ti2, tj2, hm2, rfl, hk⟩
        have D10 := D9.lo hm2
        clear D9 hm2
        have hj : (k = 1 ∧ jj = 0) ∨ (k = 0 ∧ jj = 1) := by lia
        rcases hj with ⟨rfl, rfl⟩ | ⟨rfl, rfl⟩
        · refine @isTrue_and _ _ _ _ _ _ _ _ _ _ ?_
          try dsimp only
          refine @wpAny_isTrue_Compare1 _ _ _ _ _ _ _ _ _ _ _ ?_ (by with_unfolding_all rfl)
          try dsimp only
          refine @nm_local _ _ _ _ _ _ _ _ _ _ _ _ _ (by assumption) (by walk_at "dv") ?_ (by rfl) (by rfl) (by decide)
          try dsimp only
          refine @nm_local _ _ _ _ _ _ _ _ _ _ _ _ _ (by assumption) (by walk_at "dv") ?_ (by rfl) (by rfl) (by decide)
          try dsimp only
          with_reducible refine lt_I ?_
          try dsimp only
          refine @wpAny_truthy_bool _ _ _ _ _ _ ?_
          try dsimp only
          (with_reducible show (if _ = true then _ else _)); refine @iteY _ _ _ (by walk_at "yes") ?_
          try dsimp only
          refine @isTrue_and _ _ _ _ _ _ _ _ _ _ ?_
          try dsimp only
          refine @wpAny_isTrue_Compare1 _ _ _ _ _ _ _ _ _ _ _ ?_ (by with_unfolding_all rfl)
          try dsimp only
          refine @Subscript_ _ _ _ _ _ _ _ _ _ ?_
          try dsimp only
          refine @nm_local _ _ _ _ _ _ _ _ _ _ _ _ _ (by assumption) (by walk_at "dv") ?_ (by rfl) (by rfl) (by decide)
          try dsimp only
          refine @nm_local _ _ _ _ _ _ _ _ _ _ _ _ _ (by assumption) (by walk_at "dv") ?_ (by rfl) (by rfl) (by decide)
          try dsimp only
          refine @tail_str _ _ _ _ _ _ _ _ _ _ _ _ _ (by rfl) (by first | assumption | exact rfl) (by walk_at "sz") ?_ (by rfl); intro _ _
          try dsimp only
          refine @cst_S _ _ _ _ _ _ _ _ _ _ (by exact lit5) ?_; intro _ _
          try dsimp only
          with_reducible refine ne_S ?_
          try dsimp only
          refine @wpAny_truthy_bool _ _ _ _ _ _ ?_
          try dsimp only
          (with_reducible show (if _ = true then _ else _)); refine @iteY _ _ _ (by walk_at "yes") ?_
          try dsimp only
          refine @isTrue_and_nil _ _ _ _ _ _ _ _ ?_
          try dsimp only
          (with_reducible show (if _ = true then _ else _)); refine @iteY _ _ _ (by walk_at "yes") ?_
          try dsimp only
          (with_reducible show wpAny _ _ (execs _ _) _ _ _); (try clear kS); with_reducible refine ex_cons ?_; intro kS
          try dsimp only
          refine @wpAny_Assign_Name _ _ _ _ _ _ _ _ _ _ ?_ (by rfl)
          try dsimp only
          refine @wpAny_BinOp _ _ _ _ _ _ _ _ _ _ ?_
          try dsimp only
          refine @nm_local _ _ _ _ _ _ _ _ _ _ _ _ _ (by assumption) (by walk_at "dv") ?_ (by rfl) (by rfl) (by decide)
          try dsimp only
          refine @cst_int _ _ _ _ _ _ _ _ _ ?_; intro _ _
          try dsimp only
          refine @add_I _ _ _ _ _ _ _ _ _ ?_; intro _ _
          try dsimp only
          refine @st_localL _ _ _ _ _ _ _ _ _ _ _ _ (by assumption) ?_ (by rfl) (by rfl); intro _ _ _ _
          try dsimp only
          (with_reducible show wpAny _ _ (execs _ _) _ _ _); (try clear kS); with_reducible refine wpAny_execs_nil ?_
          try dsimp only
          exact ⟨0, _, _, _, _, rfl, by assumption, ⟨1, _, _, ⟨rfl, rfl, rfl, rfl, rfl, rfl, rfl, rfl, trivial⟩, rfl, rfl⟩, by lia⟩
        · by_cases e91 : c = 91
          · subst e91
            have hnm : [91] ∈ [[94], [91]] := by decide
            refine @isTrue_and _ _ _ _ _ _ _ _ _ _ ?_
            try dsimp only
            refine @wpAny_isTrue_Compare1 _ _ _ _ _ _ _ _ _ _ _ ?_ (by with_unfolding_all rfl)
            try dsimp only
            refine @nm_local _ _ _ _ _ _ _ _ _ _ _ _ _ (by assumption) (by walk_at "dv") ?_ (by rfl) (by rfl) (by decide)
            try dsimp only
            refine @nm_local _ _ _ _ _ _ _ _ _ _ _ _ _ (by assumption) (by walk_at "dv") ?_ (by rfl) (by rfl) (by decide)
            try dsimp only
            with_reducible refine lt_I ?_
            try dsimp only
            refine @wpAny_truthy_bool _ _ _ _ _ _ ?_
            try dsimp only
            (with_reducible show (if _ = true then _ else _)); refine @iteY _ _ _ (by walk_at "yes") ?_
            try dsimp only
            refine @isTrue_and _ _ _ _ _ _ _ _ _ _ ?_
            try dsimp only
            refine @wpAny_isTrue_Compare1 _ _ _ _ _ _ _ _ _ _ _ ?_ (by with_unfolding_all rfl)
            try dsimp only
            refine @Subscript_ _ _ _ _ _ _ _ _ _ ?_
            try dsimp only
            refine @nm_local _ _ _ _ _ _ _ _ _ _ _ _ _ (by assumption) (by walk_at "dv") ?_ (by rfl) (by rfl) (by decide)
            try dsimp only
            refine @nm_local _ _ _ _ _ _ _ _ _ _ _ _ _ (by assumption) (by walk_at "dv") ?_ (by rfl) (by rfl) (by decide)
            try dsimp only
            refine @tail_str _ _ _ _ _ _ _ _ _ _ _ _ _ (by rfl) (by first | assumption | exact rfl) (by walk_at "sz") ?_ (by rfl); intro _ _
            try dsimp only
            refine @cst_S _ _ _ _ _ _ _ _ _ _ (by exact lit5) ?_; intro _ _
            try dsimp only
            with_reducible refine ne_S ?_
            try dsimp only
            refine @wpAny_truthy_bool _ _ _ _ _ _ ?_
            try dsimp only
            (with_reducible show (if _ = true then _ else _)); refine @iteN _ _ _ (by walk_at "yes") ?_
            try dsimp only
            (with_reducible show (if _ = true then _ else _)); refine @iteN _ _ _ (by walk_at "yes") ?_
            try dsimp only
            (with_reducible show wpAny _ _ (execs _ _) _ _ _); (try clear kS); with_reducible refine ex_cons ?_; intro kS
            try dsimp only
            refine @wpAny_If _ _ _ _ _ _ _ _ _ _ ?_
            try dsimp only
            refine @wpAny_isTrue_Compare1 _ _ _ _ _ _ _ _ _ _ _ ?_ (by with_unfolding_all rfl)
            try dsimp only
            refine @nm_local _ _ _ _ _ _ _ _ _ _ _ _ _ (by assumption) (by walk_at "dv") ?_ (by rfl) (by rfl) (by decide)
            try dsimp only
            refine @nm_local _ _ _ _ _ _ _ _ _ _ _ _ _ (by assumption) (by walk_at "dv") ?_ (by rfl) (by rfl) (by decide)
            try dsimp only
            with_reducible refine ge_I ?_
            try dsimp only
            refine @wpAny_truthy_bool _ _ _ _ _ _ ?_
            try dsimp only
            (with_reducible show (if _ = true then _ else _)); refine @iteN _ _ _ (by walk_at "yes") ?_
            try dsimp only
            (with_reducible show wpAny _ _ (execs _ _) _ _ _); (try clear kS); with_reducible refine ex_cons ?_; intro kS
            try dsimp only
            refine @wpAny_Assign_Name _ _ _ _ _ _ _ _ _ _ ?_ (by rfl)
            try dsimp only
            refine @Subscript_ _ _ _ _ _ _ _ _ _ ?_
            try dsimp only
            refine @nm_local _ _ _ _ _ _ _ _ _ _ _ _ _ (by assumption) (by walk_at "dv") ?_ (by rfl) (by rfl) (by decide)
            try dsimp only
            refine @wpAny_Slice _ _ _ _ _ _ _ _ _ _ ?_
            try dsimp only
            refine @evalPart_some_step _ _ _ _ _ _ _ ?_
            try dsimp only
            refine @nm_local _ _ _ _ _ _ _ _ _ _ _ _ _ (by assumption) (by walk_at "dv") ?_ (by rfl) (by rfl) (by decide)
            try dsimp only
            refine @evalPart_some_step _ _ _ _ _ _ _ ?_
            try dsimp only
            refine @nm_local _ _ _ _ _ _ _ _ _ _ _ _ _ (by assumption) (by walk_at "dv") ?_ (by rfl) (by rfl) (by decide)
            try dsimp only
            refine @evalPart_none_step _ _ _ _ _ _ ?_
            try dsimp only
            refine @slice2 _ _ _ _ _ _ _ _ _ _ _ _ _ _ _ _ _ _ _ _ _ _ _ (by assumption) (by walk_at "sz") (by walk_at "cut") ?_; intro _ _ _ _
            try dsimp only
            refine @st_localL _ _ _ _ _ _ _ _ _ _ _ _ (by assumption) ?_ (by rfl) (by rfl); intro _ _ _ _
            try dsimp only
            (with_reducible show wpAny _ _ (execs _ _) _ _ _); (try clear kS); with_reducible refine ex_cons ?_; intro kS
            try dsimp only
            refine @wpAny_If _ _ _ _ _ _ _ _ _ _ ?_
            try dsimp only
            refine @wpAny_isTrue_Compare1 _ _ _ _ _ _ _ _ _ _ _ ?_ (by with_unfolding_all rfl)
            try dsimp only
            refine @cst_S _ _ _ _ _ _ _ _ _ _ (by exact lit7) ?_; intro _ _
            try dsimp only
            refine @nm_local _ _ _ _ _ _ _ _ _ _ _ _ _ (by assumption) (by walk_at "dv") ?_ (by rfl) (by rfl) (by decide)
            try dsimp only
            with_reducible refine notin_S ?_
            try dsimp only
            refine @wpAny_truthy_bool _ _ _ _ _ _ ?_
            try dsimp only
            (with_reducible show (if _ = true then _ else _)); refine @iteY _ _ _ (by walk_at "yes") ?_
            try dsimp only
            (with_reducible show wpAny _ _ (execs _ _) _ _ _); (try clear kS); with_reducible refine ex_cons ?_; intro kS
            try dsimp only
            refine @wpAny_Assign_Name _ _ _ _ _ _ _ _ _ _ ?_ (by rfl)
            try dsimp only
            refine @meth2_str _ _ _ _ _ _ _ _ _ _ _ _ _ F.slot_str_replace F.type_str_replace ?_ (by rfl) (by rfl) (by rfl) (by rfl)
            try dsimp only
            refine @nm_local _ _ _ _ _ _ _ _ _ _ _ _ _ (by assumption) (by walk_at "dv") ?_ (by rfl) (by rfl) (by decide)
            try dsimp only
            refine ⟨⟨_, _, rfl⟩, ?_⟩
            try dsimp only
            refine @cst_S _ _ _ _ _ _ _ _ _ _ (by exact lit8) ?_; intro _ _
            try dsimp only
            refine @cst_S _ _ _ _ _ _ _ _ _ _ (by exact lit9) ?_; intro _ _
            try dsimp only
            refine @replace_none _ _ _ _ _ _ _ _ _ _ (by assumption) ?_; intro _
            try dsimp only
            refine @st_localL _ _ _ _ _ _ _ _ _ _ _ _ (by assumption) ?_ (by rfl) (by rfl); intro _ _ _ _
            try dsimp only
            (with_reducible show wpAny _ _ (execs _ _) _ _ _); (try clear kS); with_reducible refine wpAny_execs_nil ?_
            try dsimp only
            (with_reducible show wpAny _ _ (execs _ _) _ _ _); (try clear kS); with_reducible refine ex_cons ?_; intro kS
            try dsimp only
            refine @wpAny_Assign_Name _ _ _ _ _ _ _ _ _ _ ?_ (by rfl)
            try dsimp only
            refine @sub_sd _ _ _ _ _ _ _ _ _ _ _ _ _ _ _ _ _ _ _ _ _ _ _ _ _ _ _ _ _ _ (by assumption) (by assumption) (by assumption) (by assumption) (by assumption) (by walk_at "dv") (by assumption) ?_ rfl rfl rfl rfl rfl (by decide) rfl rfl rfl; intro _ _ _ _ _ _
            try dsimp only
            refine @st_localL _ _ _ _ _ _ _ _ _ _ _ _ (by assumption) ?_ (by rfl) (by rfl); intro _ _ _ _
            try dsimp only
            (with_reducible show wpAny _ _ (execs _ _) _ _ _); (try clear kS); with_reducible refine ex_cons ?_; intro kS
            try dsimp only
            refine @wpAny_Assign_Name _ _ _ _ _ _ _ _ _ _ ?_ (by rfl)
            try dsimp only
            refine @wpAny_BinOp _ _ _ _ _ _ _ _ _ _ ?_
            try dsimp only
            refine @nm_local _ _ _ _ _ _ _ _ _ _ _ _ _ (by assumption) (by walk_at "dv") ?_ (by rfl) (by rfl) (by decide)
            try dsimp only
            refine @cst_int _ _ _ _ _ _ _ _ _ ?_; intro _ _
            try dsimp only
            refine @add_I _ _ _ _ _ _ _ _ _ ?_; intro _ _
            try dsimp only
            refine @st_localL _ _ _ _ _ _ _ _ _ _ _ _ (by assumption) ?_ (by rfl) (by rfl); intro _ _ _ _
            try dsimp only
            (with_reducible show wpAny _ _ (execs _ _) _ _ _); (try clear kS); with_reducible refine ex_cons ?_; intro kS
            try dsimp only
            refine @wpAny_If _ _ _ _ _ _ _ _ _ _ ?_
            try dsimp only
            refine @isTrue_not _ _ _ _ _ _ _ _ _ ?_
            try dsimp only
            refine @isTrue_plain _ _ _ _ _ _ _ _ ?_ (by rfl)
            try dsimp only
            refine @nm_local _ _ _ _ _ _ _ _ _ _ _ _ _ (by assumption) (by walk_at "dv") ?_ (by rfl) (by rfl) (by decide)
            try dsimp only
            refine @truthy_S _ _ _ _ _ _ _ (by walk_at "sz") ?_; intro _
            try dsimp only
            (with_reducible show (if _ = true then _ else _)); refine @iteN _ _ _ (by walk_at "yes") ?_
            try dsimp only
            (with_reducible show wpAny _ _ (execs _ _) _ _ _); (try clear kS); with_reducible refine ex_cons ?_; intro kS
            try dsimp only
            refine @wpAny_If _ _ _ _ _ _ _ _ _ _ ?_
            try dsimp only
            refine @wpAny_isTrue_Compare1 _ _ _ _ _ _ _ _ _ _ _ ?_ (by with_unfolding_all rfl)
            try dsimp only
            refine @nm_local _ _ _ _ _ _ _ _ _ _ _ _ _ (by assumption) (by walk_at "dv") ?_ (by rfl) (by rfl) (by decide)
            try dsimp only
            refine @cst_S _ _ _ _ _ _ _ _ _ _ (by exact lit4) ?_; intro _ _
            try dsimp only
            with_reducible refine eq_S ?_
            try dsimp only
            refine @wpAny_truthy_bool _ _ _ _ _ _ ?_
            try dsimp only
            (with_reducible show (if _ = true then _ else _)); refine @iteN _ _ _ (by walk_at "yes") ?_
            try dsimp only
            (with_reducible show wpAny _ _ (execs _ _) _ _ _); (try clear kS); with_reducible refine ex_cons ?_; intro kS
            try dsimp only
            refine @wpAny_If _ _ _ _ _ _ _ _ _ _ ?_
            try dsimp only
            refine @wpAny_isTrue_Compare1 _ _ _ _ _ _ _ _ _ _ _ ?_ (by with_unfolding_all rfl)
            try dsimp only
            refine @Subscript_ _ _ _ _ _ _ _ _ _ ?_
            try dsimp only
            refine @nm_local _ _ _ _ _ _ _ _ _ _ _ _ _ (by assumption) (by walk_at "dv") ?_ (by rfl) (by rfl) (by decide)
            try dsimp only
            refine @cst_int _ _ _ _ _ _ _ _ _ ?_; intro _ _
            try dsimp only
            refine @tail_str _ _ _ _ _ _ _ _ _ _ _ _ _ (by rfl) (by first | assumption | exact rfl) (by walk_at "sz") ?_ (by rfl); intro _ _
            try dsimp only
            refine @cst_S _ _ _ _ _ _ _ _ _ _ (by exact lit4) ?_; intro _ _
            try dsimp only
            with_reducible refine eq_S ?_
            try dsimp only
            refine @wpAny_truthy_bool _ _ _ _ _ _ ?_
            try dsimp only
            (with_reducible show (if _ = true then _ else _)); refine @iteN _ _ _ (by walk_at "yes") ?_
            try dsimp only
            (with_reducible show wpAny _ _ (execs _ _) _ _ _); (try clear kS); with_reducible refine ex_cons ?_; intro kS
            try dsimp only
            refine @wpAny_If _ _ _ _ _ _ _ _ _ _ ?_
            try dsimp only
            refine @wpAny_isTrue_Compare1 _ _ _ _ _ _ _ _ _ _ _ ?_ (by with_unfolding_all rfl)
            try dsimp only
            refine @Subscript_ _ _ _ _ _ _ _ _ _ ?_
            try dsimp only
            refine @nm_local _ _ _ _ _ _ _ _ _ _ _ _ _ (by assumption) (by walk_at "dv") ?_ (by rfl) (by rfl) (by decide)
            try dsimp only
            refine @cst_int _ _ _ _ _ _ _ _ _ ?_; intro _ _
            try dsimp only
            refine @tail_str _ _ _ _ _ _ _ _ _ _ _ _ _ (by rfl) (by first | assumption | exact rfl) (by walk_at "sz") ?_ (by rfl); intro _ _
            try dsimp only
            refine @Tuple_ _ _ _ _ _ _ _ _ _ ?_
            try dsimp only
            refine @spliced_more _ _ _ _ _ _ _ _ _ ?_ (by rfl)
            try dsimp only
            refine @cst_S _ _ _ _ _ _ _ _ _ _ (by exact lit10) ?_; intro _ _
            try dsimp only
            refine @spliced_more _ _ _ _ _ _ _ _ _ ?_ (by rfl)
            try dsimp only
            refine @cst_S _ _ _ _ _ _ _ _ _ _ (by exact lit3) ?_; intro _ _
            try dsimp only
            refine @spliced_none _ _ _ _ _ _ _ ?_
            try dsimp only
            refine @newTuple_sdL _ _ _ _ _ _ _ _ _ _ _ (by assumption) ?_ (by exact sz_lit rfl); intro _ _ _ _ _
            try dsimp only
            refine @in_T _ _ _ _ _ _ _ _ _ _ _ _ _ _ _ (by assumption) (by walk_at "mem") (.cons ⟨_, rfl⟩ (.cons ⟨_, rfl⟩ .nil)) ?_
            try dsimp only
            refine @wpAny_truthy_bool _ _ _ _ _ _ ?_
            try dsimp only
            (with_reducible show (if _ = true then _ else _)); refine @iteY _ _ _ (by walk_at "yes") ?_
            try dsimp only
            (with_reducible show wpAny _ _ (execs _ _) _ _ _); (try clear kS); with_reducible refine ex_cons ?_; intro kS
            try dsimp only
            refine @wpAny_Assign_Name _ _ _ _ _ _ _ _ _ _ ?_ (by rfl)
            try dsimp only
            refine @wpAny_BinOp _ _ _ _ _ _ _ _ _ _ ?_
            try dsimp only
            refine @cst_S _ _ _ _ _ _ _ _ _ _ (by exact lit8) ?_; intro _ _
            try dsimp only
            refine @nm_local _ _ _ _ _ _ _ _ _ _ _ _ _ (by assumption) (by walk_at "dv") ?_ (by rfl) (by rfl) (by decide)
            try dsimp only
            refine @add_S _ _ _ _ _ _ _ _ _ ?_ (by walk_at "sz"); intro _ _
            try dsimp only
            refine @st_localL _ _ _ _ _ _ _ _ _ _ _ _ (by assumption) ?_ (by rfl) (by rfl); intro _ _ _ _
            try dsimp only
            (with_reducible show wpAny _ _ (execs _ _) _ _ _); (try clear kS); with_reducible refine wpAny_execs_nil ?_
            try dsimp only
            (with_reducible show wpAny _ _ (execs _ _) _ _ _); (try clear kS); with_reducible refine wpAny_execs_nil ?_
            try dsimp only
            (with_reducible show wpAny _ _ (execs _ _) _ _ _); (try clear kS); with_reducible refine ex_cons ?_; intro kS
            try dsimp only
            refine @wpAny_Expr _ _ _ _ _ _ _ _ ?_ (by rfl) (by rfl)
            try dsimp only
            refine @callBound _ _ _ _ _ _ _ _ _ _ _ _ _ _ _ _ _ (by assumption) (by walk_at "dv") (by walk_at "mem") ?_ (by rfl) (by rfl) (by decide) (by rfl)
            try dsimp only
            refine @fstr3 _ _ _ _ _ _ _ _ _ _ _ _ _ _ _ _ _ _ _ _ _ _ _ _ (by assumption) (by walk_at "dv") (by exact lit3) (by exact lit5) (by walk_at "sz") ?_ (by rfl) (by rfl) (by decide); intro _ _
            try dsimp only
            refine ⟨Sd.get (by assumption) (by walk_at "mem"), ?_⟩
            try dsimp only
            refine @bound_append_sdL _ _ _ _ _ _ _ _ _ _ _ _ _ _ _ (by assumption) (by walk_at "mem") 3 (by rfl) ?_ (by walk_at "sz"); walk_at "ap"
            try dsimp only
            (with_reducible show wpAny _ _ (execs _ _) _ _ _); (try clear kS); with_reducible refine wpAny_execs_nil ?_
            try dsimp only
            (with_reducible show wpAny _ _ (execs _ _) _ _ _); (try clear kS); with_reducible refine wpAny_execs_nil ?_
            try dsimp only
            (with_reducible show wpAny _ _ (execs _ _) _ _ _); (try clear kS); with_reducible refine wpAny_execs_nil ?_
            try dsimp only
            (with_reducible show wpAny _ _ (execs _ _) _ _ _); (try clear kS); with_reducible refine wpAny_execs_nil ?_
            try dsimp only
            (with_reducible show wpAny _ _ (execs _ _) _ _ _); (try clear kS); with_reducible refine wpAny_execs_nil ?_
            try dsimp only
            (with_reducible show wpAny _ _ (execs _ _) _ _ _); (try clear kS); with_reducible refine wpAny_execs_nil ?_
            try dsimp only
            (with_reducible show wpAny _ _ (execs _ _) _ _ _); (try clear kS); with_reducible refine wpAny_execs_nil ?_
            try dsimp only
            rename Sd H _ _ _ _ _ => D11
            exact ⟨l.length + 1 - (i0 + 1), _, _, _, _, rfl, D11.tail, ⟨i + 3, _, n' + 1, _, _, ⟨rfl, rfl, rfl, rfl, rfl, rfl, rfl, trivial⟩, rfl, by assumption, .inl ⟨i0 + 1, hlt, rfl, by rw [qs_take l i0 hlt, List.length_append, hii, hcc, hqc]; rfl, by rw [hpt, show part 91 = [91, 92, 91, 93] from rfl]; exact hv.snoc ⟨_, rfl⟩⟩⟩, by lia⟩
          · have hnm : [c] ∉ [[94], [91]] := by simp only [List.mem_cons, List.cons.injEq, and_true, List.not_mem_nil, or_false, not_or] at hsp ⊢; lia
            have hpc : part c = [91, c, 93] := by unfold part; rw [if_neg e91, if_pos hsp]
            refine @isTrue_and _ _ _ _ _ _ _ _ _ _ ?_
            try dsimp only
            refine @wpAny_isTrue_Compare1 _ _ _ _ _ _ _ _ _ _ _ ?_ (by with_unfolding_all rfl)
            try dsimp only
            refine @nm_local _ _ _ _ _ _ _ _ _ _ _ _ _ (by assumption) (by walk_at "dv") ?_ (by rfl) (by rfl) (by decide)
            try dsimp only
            refine @nm_local _ _ _ _ _ _ _ _ _ _ _ _ _ (by assumption) (by walk_at "dv") ?_ (by rfl) (by rfl) (by decide)
            try dsimp only
            with_reducible refine lt_I ?_
            try dsimp only
            refine @wpAny_truthy_bool _ _ _ _ _ _ ?_
            try dsimp only
            (with_reducible show (if _ = true then _ else _)); refine @iteY _ _ _ (by walk_at "yes") ?_
            try dsimp only
            refine @isTrue_and _ _ _ _ _ _ _ _ _ _ ?_
            try dsimp only
            refine @wpAny_isTrue_Compare1 _ _ _ _ _ _ _ _ _ _ _ ?_ (by with_unfolding_all rfl)
            try dsimp only
            refine @Subscript_ _ _ _ _ _ _ _ _ _ ?_
            try dsimp only
            refine @nm_local _ _ _ _ _ _ _ _ _ _ _ _ _ (by assumption) (by walk_at "dv") ?_ (by rfl) (by rfl) (by decide)
            try dsimp only
            refine @nm_local _ _ _ _ _ _ _ _ _ _ _ _ _ (by assumption) (by walk_at "dv") ?_ (by rfl) (by rfl) (by decide)
            try dsimp only
            refine @tail_str _ _ _ _ _ _ _ _ _ _ _ _ _ (by rfl) (by first | assumption | exact rfl) (by walk_at "sz") ?_ (by rfl); intro _ _
            try dsimp only
            refine @cst_S _ _ _ _ _ _ _ _ _ _ (by exact lit5) ?_; intro _ _
            try dsimp only
            with_reducible refine ne_S ?_
            try dsimp only
            refine @wpAny_truthy_bool _ _ _ _ _ _ ?_
            try dsimp only
            (with_reducible show (if _ = true then _ else _)); refine @iteN _ _ _ (by walk_at "yes") ?_
            try dsimp only
            (with_reducible show (if _ = true then _ else _)); refine @iteN _ _ _ (by walk_at "yes") ?_
            try dsimp only
            (with_reducible show wpAny _ _ (execs _ _) _ _ _); (try clear kS); with_reducible refine ex_cons ?_; intro kS
            try dsimp only
            refine @wpAny_If _ _ _ _ _ _ _ _ _ _ ?_
            try dsimp only
            refine @wpAny_isTrue_Compare1 _ _ _ _ _ _ _ _ _ _ _ ?_ (by with_unfolding_all rfl)
            try dsimp only
            refine @nm_local _ _ _ _ _ _ _ _ _ _ _ _ _ (by assumption) (by walk_at "dv") ?_ (by rfl) (by rfl) (by decide)
            try dsimp only
            refine @nm_local _ _ _ _ _ _ _ _ _ _ _ _ _ (by assumption) (by walk_at "dv") ?_ (by rfl) (by rfl) (by decide)
            try dsimp only
            with_reducible refine ge_I ?_
            try dsimp only
            refine @wpAny_truthy_bool _ _ _ _ _ _ ?_
            try dsimp only
            (with_reducible show (if _ = true then _ else _)); refine @iteN _ _ _ (by walk_at "yes") ?_
            try dsimp only
            (with_reducible show wpAny _ _ (execs _ _) _ _ _); (try clear kS); with_reducible refine ex_cons ?_; intro kS
            try dsimp only
            refine @wpAny_Assign_Name _ _ _ _ _ _ _ _ _ _ ?_ (by rfl)
            try dsimp only
            refine @Subscript_ _ _ _ _ _ _ _ _ _ ?_
            try dsimp only
            refine @nm_local _ _ _ _ _ _ _ _ _ _ _ _ _ (by assumption) (by walk_at "dv") ?_ (by rfl) (by rfl) (by decide)
            try dsimp only
            refine @wpAny_Slice _ _ _ _ _ _ _ _ _ _ ?_
            try dsimp only
            refine @evalPart_some_step _ _ _ _ _ _ _ ?_
            try dsimp only
            refine @nm_local _ _ _ _ _ _ _ _ _ _ _ _ _ (by assumption) (by walk_at "dv") ?_ (by rfl) (by rfl) (by decide)
            try dsimp only
            refine @evalPart_some_step _ _ _ _ _ _ _ ?_
            try dsimp only
            refine @nm_local _ _ _ _ _ _ _ _ _ _ _ _ _ (by assumption) (by walk_at "dv") ?_ (by rfl) (by rfl) (by decide)
            try dsimp only
            refine @evalPart_none_step _ _ _ _ _ _ ?_
            try dsimp only
            refine @slice2 _ _ _ _ _ _ _ _ _ _ _ _ _ _ _ _ _ _ _ _ _ _ _ (by assumption) (by walk_at "sz") (by walk_at "cut") ?_; intro _ _ _ _
            try dsimp only
            refine @st_localL _ _ _ _ _ _ _ _ _ _ _ _ (by assumption) ?_ (by rfl) (by rfl); intro _ _ _ _
            try dsimp only
            (with_reducible show wpAny _ _ (execs _ _) _ _ _); (try clear kS); with_reducible refine ex_cons ?_; intro kS
            try dsimp only
            refine @wpAny_If _ _ _ _ _ _ _ _ _ _ ?_
            try dsimp only
            refine @wpAny_isTrue_Compare1 _ _ _ _ _ _ _ _ _ _ _ ?_ (by with_unfolding_all rfl)
            try dsimp only
            refine @cst_S _ _ _ _ _ _ _ _ _ _ (by exact lit7) ?_; intro _ _
            try dsimp only
            refine @nm_local _ _ _ _ _ _ _ _ _ _ _ _ _ (by assumption) (by walk_at "dv") ?_ (by rfl) (by rfl) (by decide)
            try dsimp only
            with_reducible refine notin_S ?_
            try dsimp only
            refine @wpAny_truthy_bool _ _ _ _ _ _ ?_
            try dsimp only
            (with_reducible show (if _ = true then _ else _)); refine @iteY _ _ _ (by walk_at "yes") ?_
            try dsimp only
            (with_reducible show wpAny _ _ (execs _ _) _ _ _); (try clear kS); with_reducible refine ex_cons ?_; intro kS
            try dsimp only
            refine @wpAny_Assign_Name _ _ _ _ _ _ _ _ _ _ ?_ (by rfl)
            try dsimp only
            refine @meth2_str _ _ _ _ _ _ _ _ _ _ _ _ _ F.slot_str_replace F.type_str_replace ?_ (by rfl) (by rfl) (by rfl) (by rfl)
            try dsimp only
            refine @nm_local _ _ _ _ _ _ _ _ _ _ _ _ _ (by assumption) (by walk_at "dv") ?_ (by rfl) (by rfl) (by decide)
            try dsimp only
            refine ⟨⟨_, _, rfl⟩, ?_⟩
            try dsimp only
            refine @cst_S _ _ _ _ _ _ _ _ _ _ (by exact lit8) ?_; intro _ _
            try dsimp only
            refine @cst_S _ _ _ _ _ _ _ _ _ _ (by exact lit9) ?_; intro _ _
            try dsimp only
            refine @replace_none _ _ _ _ _ _ _ _ _ _ (by assumption) ?_; intro _
            try dsimp only
            refine @st_localL _ _ _ _ _ _ _ _ _ _ _ _ (by assumption) ?_ (by rfl) (by rfl); intro _ _ _ _
            try dsimp only
            (with_reducible show wpAny _ _ (execs _ _) _ _ _); (try clear kS); with_reducible refine wpAny_execs_nil ?_
            try dsimp only
            (with_reducible show wpAny _ _ (execs _ _) _ _ _); (try clear kS); with_reducible refine ex_cons ?_; intro kS
            try dsimp only
            refine @wpAny_Assign_Name _ _ _ _ _ _ _ _ _ _ ?_ (by rfl)
            try dsimp only
            refine @sub_sd _ _ _ _ _ _ _ _ _ _ _ _ _ _ _ _ _ _ _ _ _ _ _ _ _ _ _ _ _ _ (by assumption) (by assumption) (by assumption) (by assumption) (by assumption) (by walk_at "dv") (by assumption) ?_ rfl rfl rfl rfl rfl (by decide) rfl rfl rfl; intro _ _ _ _ _ _
            try dsimp only
            refine @st_localL _ _ _ _ _ _ _ _ _ _ _ _ (by assumption) ?_ (by rfl) (by rfl); intro _ _ _ _
            try dsimp only
            (with_reducible show wpAny _ _ (execs _ _) _ _ _); (try clear kS); with_reducible refine ex_cons ?_; intro kS
            try dsimp only
            refine @wpAny_Assign_Name _ _ _ _ _ _ _ _ _ _ ?_ (by rfl)
            try dsimp only
            refine @wpAny_BinOp _ _ _ _ _ _ _ _ _ _ ?_
            try dsimp only
            refine @nm_local _ _ _ _ _ _ _ _ _ _ _ _ _ (by assumption) (by walk_at "dv") ?_ (by rfl) (by rfl) (by decide)
            try dsimp only
            refine @cst_int _ _ _ _ _ _ _ _ _ ?_; intro _ _
            try dsimp only
            refine @add_I _ _ _ _ _ _ _ _ _ ?_; intro _ _
            try dsimp only
            refine @st_localL _ _ _ _ _ _ _ _ _ _ _ _ (by assumption) ?_ (by rfl) (by rfl); intro _ _ _ _
            try dsimp only
            (with_reducible show wpAny _ _ (execs _ _) _ _ _); (try clear kS); with_reducible refine ex_cons ?_; intro kS
            try dsimp only
            refine @wpAny_If _ _ _ _ _ _ _ _ _ _ ?_
            try dsimp only
            refine @isTrue_not _ _ _ _ _ _ _ _ _ ?_
            try dsimp only
            refine @isTrue_plain _ _ _ _ _ _ _ _ ?_ (by rfl)
            try dsimp only
            refine @nm_local _ _ _ _ _ _ _ _ _ _ _ _ _ (by assumption) (by walk_at "dv") ?_ (by rfl) (by rfl) (by decide)
            try dsimp only
            refine @truthy_S _ _ _ _ _ _ _ (by walk_at "sz") ?_; intro _
            try dsimp only
            (with_reducible show (if _ = true then _ else _)); refine @iteN _ _ _ (by walk_at "yes") ?_
            try dsimp only
            (with_reducible show wpAny _ _ (execs _ _) _ _ _); (try clear kS); with_reducible refine ex_cons ?_; intro kS
            try dsimp only
            refine @wpAny_If _ _ _ _ _ _ _ _ _ _ ?_
            try dsimp only
            refine @wpAny_isTrue_Compare1 _ _ _ _ _ _ _ _ _ _ _ ?_ (by with_unfolding_all rfl)
            try dsimp only
            refine @nm_local _ _ _ _ _ _ _ _ _ _ _ _ _ (by assumption) (by walk_at "dv") ?_ (by rfl) (by rfl) (by decide)
            try dsimp only
            refine @cst_S _ _ _ _ _ _ _ _ _ _ (by exact lit4) ?_; intro _ _
            try dsimp only
            with_reducible refine eq_S ?_
            try dsimp only
            refine @wpAny_truthy_bool _ _ _ _ _ _ ?_
            try dsimp only
            (with_reducible show (if _ = true then _ else _)); refine @iteN _ _ _ (by walk_at "yes") ?_
            try dsimp only
            (with_reducible show wpAny _ _ (execs _ _) _ _ _); (try clear kS); with_reducible refine ex_cons ?_; intro kS
            try dsimp only
            refine @wpAny_If _ _ _ _ _ _ _ _ _ _ ?_
            try dsimp only
            refine @wpAny_isTrue_Compare1 _ _ _ _ _ _ _ _ _ _ _ ?_ (by with_unfolding_all rfl)
            try dsimp only
            refine @Subscript_ _ _ _ _ _ _ _ _ _ ?_
            try dsimp only
            refine @nm_local _ _ _ _ _ _ _ _ _ _ _ _ _ (by assumption) (by walk_at "dv") ?_ (by rfl) (by rfl) (by decide)
            try dsimp only
            refine @cst_int _ _ _ _ _ _ _ _ _ ?_; intro _ _
            try dsimp only
            refine @tail_str _ _ _ _ _ _ _ _ _ _ _ _ _ (by rfl) (by first | assumption | exact rfl) (by walk_at "sz") ?_ (by rfl); intro _ _
            try dsimp only
            refine @cst_S _ _ _ _ _ _ _ _ _ _ (by exact lit4) ?_; intro _ _
            try dsimp only
            with_reducible refine eq_S ?_
            try dsimp only
            refine @wpAny_truthy_bool _ _ _ _ _ _ ?_
            try dsimp only
            (with_reducible show (if _ = true then _ else _)); refine @iteN _ _ _ (by walk_at "yes") ?_
            try dsimp only
            (with_reducible show wpAny _ _ (execs _ _) _ _ _); (try clear kS); with_reducible refine ex_cons ?_; intro kS
            try dsimp only
            refine @wpAny_If _ _ _ _ _ _ _ _ _ _ ?_
            try dsimp only
            refine @wpAny_isTrue_Compare1 _ _ _ _ _ _ _ _ _ _ _ ?_ (by with_unfolding_all rfl)
            try dsimp only
            refine @Subscript_ _ _ _ _ _ _ _ _ _ ?_
            try dsimp only
            refine @nm_local _ _ _ _ _ _ _ _ _ _ _ _ _ (by assumption) (by walk_at "dv") ?_ (by rfl) (by rfl) (by decide)
            try dsimp only
            refine @cst_int _ _ _ _ _ _ _ _ _ ?_; intro _ _
            try dsimp only
            refine @tail_str _ _ _ _ _ _ _ _ _ _ _ _ _ (by rfl) (by first | assumption | exact rfl) (by walk_at "sz") ?_ (by rfl); intro _ _
            try dsimp only
            refine @Tuple_ _ _ _ _ _ _ _ _ _ ?_
            try dsimp only
            refine @spliced_more _ _ _ _ _ _ _ _ _ ?_ (by rfl)
            try dsimp only
            refine @cst_S _ _ _ _ _ _ _ _ _ _ (by exact lit10) ?_; intro _ _
            try dsimp only
            refine @spliced_more _ _ _ _ _ _ _ _ _ ?_ (by rfl)
            try dsimp only
            refine @cst_S _ _ _ _ _ _ _ _ _ _ (by exact lit3) ?_; intro _ _
            try dsimp only
            refine @spliced_none _ _ _ _ _ _ _ ?_
            try dsimp only
            refine @newTuple_sdL _ _ _ _ _ _ _ _ _ _ _ (by assumption) ?_ (by exact sz_lit rfl); intro _ _ _ _ _
            try dsimp only
            refine @in_T _ _ _ _ _ _ _ _ _ _ _ _ _ _ _ (by assumption) (by walk_at "mem") (.cons ⟨_, rfl⟩ (.cons ⟨_, rfl⟩ .nil)) ?_
            try dsimp only
            refine @wpAny_truthy_bool _ _ _ _ _ _ ?_
            try dsimp only
            (with_reducible show (if _ = true then _ else _)); refine @iteN _ _ _ (by walk_at "yes") ?_
            try dsimp only
            (with_reducible show wpAny _ _ (execs _ _) _ _ _); (try clear kS); with_reducible refine wpAny_execs_nil ?_
            try dsimp only
            (with_reducible show wpAny _ _ (execs _ _) _ _ _); (try clear kS); with_reducible refine wpAny_execs_nil ?_
            try dsimp only
            (with_reducible show wpAny _ _ (execs _ _) _ _ _); (try clear kS); with_reducible refine ex_cons ?_; intro kS
            try dsimp only
            refine @wpAny_Expr _ _ _ _ _ _ _ _ ?_ (by rfl) (by rfl)
            try dsimp only
            refine @callBound _ _ _ _ _ _ _ _ _ _ _ _ _ _ _ _ _ (by assumption) (by walk_at "dv") (by walk_at "mem") ?_ (by rfl) (by rfl) (by decide) (by rfl)
            try dsimp only
            refine @fstr3 _ _ _ _ _ _ _ _ _ _ _ _ _ _ _ _ _ _ _ _ _ _ _ _ (by assumption) (by walk_at "dv") (by exact lit3) (by exact lit5) (by walk_at "sz") ?_ (by rfl) (by rfl) (by decide); intro _ _
            try dsimp only
            refine ⟨Sd.get (by assumption) (by walk_at "mem"), ?_⟩
            try dsimp only
            refine @bound_append_sdL _ _ _ _ _ _ _ _ _ _ _ _ _ _ _ (by assumption) (by walk_at "mem") 3 (by rfl) ?_ (by walk_at "sz"); walk_at "ap"
            try dsimp only
            (with_reducible show wpAny _ _ (execs _ _) _ _ _); (try clear kS); with_reducible refine wpAny_execs_nil ?_
            try dsimp only
            (with_reducible show wpAny _ _ (execs _ _) _ _ _); (try clear kS); with_reducible refine wpAny_execs_nil ?_
            try dsimp only
            (with_reducible show wpAny _ _ (execs _ _) _ _ _); (try clear kS); with_reducible refine wpAny_execs_nil ?_
            try dsimp only
            (with_reducible show wpAny _ _ (execs _ _) _ _ _); (try clear kS); with_reducible refine wpAny_execs_nil ?_
            try dsimp only
            (with_reducible show wpAny _ _ (execs _ _) _ _ _); (try clear kS); with_reducible refine wpAny_execs_nil ?_
            try dsimp only
            (with_reducible show wpAny _ _ (execs _ _) _ _ _); (try clear kS); with_reducible refine wpAny_execs_nil ?_
            try dsimp only
            (with_reducible show wpAny _ _ (execs _ _) _ _ _); (try clear kS); with_reducible refine wpAny_execs_nil ?_
            try dsimp only
            rename Sd H _ _ _ _ _ => D11
            exact ⟨l.length + 1 - (i0 + 1), _, _, _, _, rfl, D11.tail, ⟨i + 3, _, n' + 1, _, _, ⟨rfl, rfl, rfl, rfl, rfl, rfl, rfl, trivial⟩, rfl, by assumption, .inl ⟨i0 + 1, hlt, rfl, by rw [qs_take l i0 hlt, List.length_append, hii, hcc, hqc]; rfl, by rw [hpt, hpc]; exact hv.snoc ⟨_, rfl⟩⟩⟩, by lia⟩
      · have hpc : part c = esc c := by
          unfold part; rw [if_neg (fun e => hsp (by simp [e])), if_neg hsp]
        have hqc : qc c = [c] := by unfold qc; rw [if_neg hsp]
        rw [hqc] at hle hat
        have h0 : (qs l ++ [42])[i]? = some c := hat 0 (by simp)
        have n1 : c ≠ 42 := fun e => hsp (by simp [e])
        have n2 : c ≠ 63 := fun e => hsp (by simp [e])
        have n3 : c ≠ 91 := fun e => hsp (by simp [e])
        have hlv := hv.len
        simp only [List.length_map, List.length_take, List.length_singleton] at hlv hle
        refine @wpAny_isTrue_Compare1 _ _ _ _ _ _ _ _ _ _ _ ?_ (by with_unfolding_all rfl)
        try dsimp only
        refine @nm_local _ _ _ _ _ _ _ _ _ _ _ _ _ (by assumption) (by walk_at "dv") ?_ (by rfl) (by rfl) (by decide)
        try dsimp only
        refine @nm_local _ _ _ _ _ _ _ _ _ _ _ _ _ (by assumption) (by walk_at "dv") ?_ (by rfl) (by rfl) (by decide)
        try dsimp only
        with_reducible refine lt_I ?_
        try dsimp only
        refine @wpAny_truthy_bool _ _ _ _ _ _ ?_
        try dsimp only
        (with_reducible show (if _ = true then _ else _)); refine @iteY _ _ _ (by walk_at "yes") ?_
        try dsimp only
        (with_reducible show wpAny _ _ (execs _ _) _ _ _); (try clear kS); with_reducible refine ex_cons ?_; intro kS
        try dsimp only
        refine @wpAny_Assign_Name _ _ _ _ _ _ _ _ _ _ ?_ (by rfl)
        try dsimp only
        refine @Subscript_ _ _ _ _ _ _ _ _ _ ?_
        try dsimp only
        refine @nm_local _ _ _ _ _ _ _ _ _ _ _ _ _ (by assumption) (by walk_at "dv") ?_ (by rfl) (by rfl) (by decide)
        try dsimp only
        refine @nm_local _ _ _ _ _ _ _ _ _ _ _ _ _ (by assumption) (by walk_at "dv") ?_ (by rfl) (by rfl) (by decide)
        try dsimp only
        refine @tail_str _ _ _ _ _ _ _ _ _ _ _ _ _ (by rfl) (by first | assumption | exact rfl) (by walk_at "sz") ?_ (by rfl); intro _ _
        try dsimp only
        refine @st_localL _ _ _ _ _ _ _ _ _ _ _ _ (by assumption) ?_ (by rfl) (by rfl); intro _ _ _ _
        try dsimp only
        (with_reducible show wpAny _ _ (execs _ _) _ _ _); (try clear kS); with_reducible refine ex_cons ?_; intro kS
        try dsimp only
        refine @wpAny_Assign_Name _ _ _ _ _ _ _ _ _ _ ?_ (by rfl)
        try dsimp only
        refine @wpAny_BinOp _ _ _ _ _ _ _ _ _ _ ?_
        try dsimp only
        refine @nm_local _ _ _ _ _ _ _ _ _ _ _ _ _ (by assumption) (by walk_at "dv") ?_ (by rfl) (by rfl) (by decide)
        try dsimp only
        refine @cst_int _ _ _ _ _ _ _ _ _ ?_; intro _ _
        try dsimp only
        refine @add_I _ _ _ _ _ _ _ _ _ ?_; intro _ _
        try dsimp only
        refine @st_localL _ _ _ _ _ _ _ _ _ _ _ _ (by assumption) ?_ (by rfl) (by rfl); intro _ _ _ _
        try dsimp only
        (with_reducible show wpAny _ _ (execs _ _) _ _ _); (try clear kS); with_reducible refine ex_cons ?_; intro kS
        try dsimp only
        refine @wpAny_If _ _ _ _ _ _ _ _ _ _ ?_
        try dsimp only
        refine @wpAny_isTrue_Compare1 _ _ _ _ _ _ _ _ _ _ _ ?_ (by with_unfolding_all rfl)
        try dsimp only
        refine @nm_local _ _ _ _ _ _ _ _ _ _ _ _ _ (by assumption) (by walk_at "dv") ?_ (by rfl) (by rfl) (by decide)
        try dsimp only
        refine @cst_S _ _ _ _ _ _ _ _ _ _ (by exact lit1) ?_; intro _ _
        try dsimp only
        with_reducible refine eq_S ?_
        try dsimp only
        refine @wpAny_truthy_bool _ _ _ _ _ _ ?_
        try dsimp only
        (with_reducible show (if _ = true then _ else _)); refine @iteN _ _ _ (by walk_at "yes") ?_
        try dsimp only
        (with_reducible show wpAny _ _ (execs _ _) _ _ _); (try clear kS); with_reducible refine ex_cons ?_; intro kS
        try dsimp only
        refine @wpAny_If _ _ _ _ _ _ _ _ _ _ ?_
        try dsimp only
        refine @wpAny_isTrue_Compare1 _ _ _ _ _ _ _ _ _ _ _ ?_ (by with_unfolding_all rfl)
        try dsimp only
        refine @nm_local _ _ _ _ _ _ _ _ _ _ _ _ _ (by assumption) (by walk_at "dv") ?_ (by rfl) (by rfl) (by decide)
        try dsimp only
        refine @cst_S _ _ _ _ _ _ _ _ _ _ (by exact lit2) ?_; intro _ _
        try dsimp only
        with_reducible refine eq_S ?_
        try dsimp only
        refine @wpAny_truthy_bool _ _ _ _ _ _ ?_
        try dsimp only
        (with_reducible show (if _ = true then _ else _)); refine @iteN _ _ _ (by walk_at "yes") ?_
        try dsimp only
        (with_reducible show wpAny _ _ (execs _ _) _ _ _); (try clear kS); with_reducible refine ex_cons ?_; intro kS
        try dsimp only
        refine @wpAny_If _ _ _ _ _ _ _ _ _ _ ?_
        try dsimp only
        refine @wpAny_isTrue_Compare1 _ _ _ _ _ _ _ _ _ _ _ ?_ (by with_unfolding_all rfl)
        try dsimp only
        refine @nm_local _ _ _ _ _ _ _ _ _ _ _ _ _ (by assumption) (by walk_at "dv") ?_ (by rfl) (by rfl) (by decide)
        try dsimp only
        refine @cst_S _ _ _ _ _ _ _ _ _ _ (by exact lit3) ?_; intro _ _
        try dsimp only
        with_reducible refine eq_S ?_
        try dsimp only
        refine @wpAny_truthy_bool _ _ _ _ _ _ ?_
        try dsimp only
        (with_reducible show (if _ = true then _ else _)); refine @iteN _ _ _ (by walk_at "yes") ?_
        try dsimp only
        (with_reducible show wpAny _ _ (execs _ _) _ _ _); (try clear kS); with_reducible refine ex_cons ?_; intro kS
        try dsimp only
        refine @wpAny_Expr _ _ _ _ _ _ _ _ ?_ (by rfl) (by rfl)
        try dsimp only
        refine @callBound _ _ _ _ _ _ _ _ _ _ _ _ _ _ _ _ _ (by assumption) (by walk_at "dv") (by walk_at "mem") ?_ (by rfl) (by rfl) (by decide) (by rfl)
        try dsimp only
        refine @call_name _ _ _ _ _ _ _ _ _ _ _ _ _ _ _ _ _ _ _ _ _ (by assumption) (by assumption) (by assumption) (by k_is) (by k_is) ?_ (by rfl) (by rfl) (by rfl) (by decide) (by rfl) (by rfl)
        try dsimp only
        refine @spliced_more _ _ _ _ _ _ _ _ _ ?_ (by rfl)
        try dsimp only
        refine @nm_local _ _ _ _ _ _ _ _ _ _ _ _ _ (by assumption) (by walk_at "dv") ?_ (by rfl) (by rfl) (by decide)
        try dsimp only
        refine @spliced_none _ _ _ _ _ _ _ ?_
        try dsimp only
        refine ⟨Sd.kIn (by assumption) (by assumption), ?_⟩
        try dsimp only
        refine @ct_escape _ _ _ _ _ _ _ _ _ _ _ _ _ _ _ (by assumption) (by assumption) (by walk_at "hh") (by walk_at "dp") (by assumption) (by assumption) ?_; intro _ _ _ _
        try dsimp only
        refine ⟨Sd.get (by assumption) (by walk_at "mem"), ?_⟩
        try dsimp only
        refine @bound_append_sdL _ _ _ _ _ _ _ _ _ _ _ _ _ _ _ (by assumption) (by walk_at "mem") 2 (by rfl) ?_ (by walk_at "sz"); walk_at "ap"
        try dsimp only
        (with_reducible show wpAny _ _ (execs _ _) _ _ _); (try clear kS); with_reducible refine wpAny_execs_nil ?_
        try dsimp only
        (with_reducible show wpAny _ _ (execs _ _) _ _ _); (try clear kS); with_reducible refine wpAny_execs_nil ?_
        try dsimp only
        (with_reducible show wpAny _ _ (execs _ _) _ _ _); (try clear kS); with_reducible refine wpAny_execs_nil ?_
        try dsimp only
        (with_reducible show wpAny _ _ (execs _ _) _ _ _); (try clear kS); with_reducible refine wpAny_execs_nil ?_
        try dsimp only
        exact ⟨l.length + 1 - (i0 + 1), _, _, _, _, rfl, by assumption, ⟨i + 1, _, n' + 1, ps1, _, ⟨rfl, rfl, rfl, rfl, rfl, rfl, rfl, trivial⟩, rfl, ht1, .inl ⟨i0 + 1, hlt, rfl, by rw [qs_take l i0 hlt, List.length_append, hii, hcc, hqc]; rfl, by rw [hpt, hpc]; exact hv.snoc ⟨_, rfl⟩⟩⟩, by lia⟩
    --B
    · have : i0 = l.length := by lia
      subst this
      rw [List.take_of_length_le (Nat.le_refl _)] at D8 hv
      have h0 : (qs l ++ [42])[(qs l).length]? = some 42 := by simp
      have hlv := hv.len
      simp only [List.length_map] at hlv
      by_cases hz : vs = []
      · subst hz
        refine @wpAny_isTrue_Compare1 _ _ _ _ _ _ _ _ _ _ _ ?_ (by with_unfolding_all rfl)
        try dsimp only
        refine @nm_local _ _ _ _ _ _ _ _ _ _ _ _ _ (by assumption) (by walk_at "dv") ?_ (by rfl) (by rfl) (by decide)
        try dsimp only
        refine @nm_local _ _ _ _ _ _ _ _ _ _ _ _ _ (by assumption) (by walk_at "dv") ?_ (by rfl) (by rfl) (by decide)
        try dsimp only
        with_reducible refine lt_I ?_
        try dsimp only
        refine @wpAny_truthy_bool _ _ _ _ _ _ ?_
        try dsimp only
        (with_reducible show (if _ = true then _ else _)); refine @iteY _ _ _ (by walk_at "yes") ?_
        try dsimp only
        (with_reducible show wpAny _ _ (execs _ _) _ _ _); (try clear kS); with_reducible refine ex_cons ?_; intro kS
        try dsimp only
        refine @wpAny_Assign_Name _ _ _ _ _ _ _ _ _ _ ?_ (by rfl)
        try dsimp only
        refine @Subscript_ _ _ _ _ _ _ _ _ _ ?_
        try dsimp only
        refine @nm_local _ _ _ _ _ _ _ _ _ _ _ _ _ (by assumption) (by walk_at "dv") ?_ (by rfl) (by rfl) (by decide)
        try dsimp only
        refine @nm_local _ _ _ _ _ _ _ _ _ _ _ _ _ (by assumption) (by walk_at "dv") ?_ (by rfl) (by rfl) (by decide)
        try dsimp only
        refine @tail_str _ _ _ _ _ _ _ _ _ _ _ _ _ (by rfl) (by first | assumption | exact rfl) (by walk_at "sz") ?_ (by rfl); intro _ _
        try dsimp only
        refine @st_localL _ _ _ _ _ _ _ _ _ _ _ _ (by assumption) ?_ (by rfl) (by rfl); intro _ _ _ _
        try dsimp only
        (with_reducible show wpAny _ _ (execs _ _) _ _ _); (try clear kS); with_reducible refine ex_cons ?_; intro kS
        try dsimp only
        refine @wpAny_Assign_Name _ _ _ _ _ _ _ _ _ _ ?_ (by rfl)
        try dsimp only
        refine @wpAny_BinOp _ _ _ _ _ _ _ _ _ _ ?_
        try dsimp only
        refine @nm_local _ _ _ _ _ _ _ _ _ _ _ _ _ (by assumption) (by walk_at "dv") ?_ (by rfl) (by rfl) (by decide)
        try dsimp only
        refine @cst_int _ _ _ _ _ _ _ _ _ ?_; intro _ _
        try dsimp only
        refine @add_I _ _ _ _ _ _ _ _ _ ?_; intro _ _
        try dsimp only
        refine @st_localL _ _ _ _ _ _ _ _ _ _ _ _ (by assumption) ?_ (by rfl) (by rfl); intro _ _ _ _
        try dsimp only
        (with_reducible show wpAny _ _ (execs _ _) _ _ _); (try clear kS); with_reducible refine ex_cons ?_; intro kS
        try dsimp only
        refine @wpAny_If _ _ _ _ _ _ _ _ _ _ ?_
        try dsimp only
        refine @wpAny_isTrue_Compare1 _ _ _ _ _ _ _ _ _ _ _ ?_ (by with_unfolding_all rfl)
        try dsimp only
        refine @nm_local _ _ _ _ _ _ _ _ _ _ _ _ _ (by assumption) (by walk_at "dv") ?_ (by rfl) (by rfl) (by decide)
        try dsimp only
        refine @cst_S _ _ _ _ _ _ _ _ _ _ (by exact lit1) ?_; intro _ _
        try dsimp only
        with_reducible refine eq_S ?_
        try dsimp only
        refine @wpAny_truthy_bool _ _ _ _ _ _ ?_
        try dsimp only
        (with_reducible show (if _ = true then _ else _)); refine @iteY _ _ _ (by walk_at "yes") ?_
        try dsimp only
        (with_reducible show wpAny _ _ (execs _ _) _ _ _); (try clear kS); with_reducible refine ex_cons ?_; intro kS
        try dsimp only
        refine @wpAny_If _ _ _ _ _ _ _ _ _ _ ?_
        try dsimp only
        refine @isTrue_or _ _ _ _ _ _ _ _ _ _ ?_
        try dsimp only
        refine @isTrue_not _ _ _ _ _ _ _ _ _ ?_
        try dsimp only
        refine @isTrue_plain _ _ _ _ _ _ _ _ ?_ (by rfl)
        try dsimp only
        refine @nm_local _ _ _ _ _ _ _ _ _ _ _ _ _ (by assumption) (by walk_at "dv") ?_ (by rfl) (by rfl) (by decide)
        try dsimp only
        refine @truthy_L _ _ _ _ _ _ _ _ _ _ _ _ _ (by assumption) (by walk_at "mem") (by walk_at "sz") ?_; intro _
        try dsimp only
        (with_reducible show (if _ = true then _ else _)); refine @iteY _ _ _ (by walk_at "yes") ?_
        try dsimp only
        (with_reducible show (if _ = true then _ else _)); refine @iteY _ _ _ (by walk_at "yes") ?_
        try dsimp only
        (with_reducible show wpAny _ _ (execs _ _) _ _ _); (try clear kS); with_reducible refine ex_cons ?_; intro kS
        try dsimp only
        refine @wpAny_Expr _ _ _ _ _ _ _ _ ?_ (by rfl) (by rfl)
        try dsimp only
        refine @callBound _ _ _ _ _ _ _ _ _ _ _ _ _ _ _ _ _ (by assumption) (by walk_at "dv") (by walk_at "mem") ?_ (by rfl) (by rfl) (by decide) (by rfl)
        try dsimp only
        refine @nm_local _ _ _ _ _ _ _ _ _ _ _ _ _ (by assumption) (by walk_at "dv") ?_ (by rfl) (by rfl) (by decide)
        try dsimp only
        refine ⟨Sd.get (by assumption) (by walk_at "mem"), ?_⟩
        try dsimp only
        refine @bound_append_sdL _ _ _ _ _ _ _ _ _ _ _ _ _ _ _ (by assumption) (by walk_at "mem") 2 (by rfl) ?_ (by walk_at "sz"); walk_at "ap"
        try dsimp only
        (with_reducible show wpAny _ _ (execs _ _) _ _ _); (try clear kS); with_reducible refine wpAny_execs_nil ?_
        try dsimp only
        (with_reducible show wpAny _ _ (execs _ _) _ _ _); (try clear kS); with_reducible refine wpAny_execs_nil ?_
        try dsimp only
        (with_reducible show wpAny _ _ (execs _ _) _ _ _); (try clear kS); with_reducible refine wpAny_execs_nil ?_
        try dsimp only
        exact ⟨0, _, _, _, _, rfl, by assumption, ⟨(qs l).length + 1, _, n' + 1, ps1, _, ⟨rfl, rfl, rfl, rfl, rfl, rfl, rfl, trivial⟩, rfl, ht1, .inr ⟨rfl, rfl, [], rfl, hv⟩⟩, by lia⟩
      · obtain ⟨vs1, v1, rfl⟩ : ∃ a b, vs = a ++ [b] := ⟨vs.dropLast, vs.getLast hz, (List.dropLast_concat_getLast hz).symm⟩
        have hvl : vs1.length < (l.map part).length := by rw [List.length_map, ← hlv, List.length_append]; simp
        obtain ⟨t9, e9⟩ := hv.get (List.getElem?_eq_getElem hvl)
        rw [List.getElem?_append_right (Nat.le_refl _), Nat.sub_self] at e9
        have e10 : v1 = .str (S (l.map part)[vs1.length]) t9 := Option.some.inj e9
        subst e10
        have hlv2 : vs1.length + 1 = l.length := by simpa using hlv
        refine @wpAny_isTrue_Compare1 _ _ _ _ _ _ _ _ _ _ _ ?_ (by with_unfolding_all rfl)
        try dsimp only
        refine @nm_local _ _ _ _ _ _ _ _ _ _ _ _ _ (by assumption) (by walk_at "dv") ?_ (by rfl) (by rfl) (by decide)
        try dsimp only
        refine @nm_local _ _ _ _ _ _ _ _ _ _ _ _ _ (by assumption) (by walk_at "dv") ?_ (by rfl) (by rfl) (by decide)
        try dsimp only
        with_reducible refine lt_I ?_
        try dsimp only
        refine @wpAny_truthy_bool _ _ _ _ _ _ ?_
        try dsimp only
        (with_reducible show (if _ = true then _ else _)); refine @iteY _ _ _ (by walk_at "yes") ?_
        try dsimp only
        (with_reducible show wpAny _ _ (execs _ _) _ _ _); (try clear kS); with_reducible refine ex_cons ?_; intro kS
        try dsimp only
        refine @wpAny_Assign_Name _ _ _ _ _ _ _ _ _ _ ?_ (by rfl)
        try dsimp only
        refine @Subscript_ _ _ _ _ _ _ _ _ _ ?_
        try dsimp only
        refine @nm_local _ _ _ _ _ _ _ _ _ _ _ _ _ (by assumption) (by walk_at "dv") ?_ (by rfl) (by rfl) (by decide)
        try dsimp only
        refine @nm_local _ _ _ _ _ _ _ _ _ _ _ _ _ (by assumption) (by walk_at "dv") ?_ (by rfl) (by rfl) (by decide)
        try dsimp only
        refine @tail_str _ _ _ _ _ _ _ _ _ _ _ _ _ (by rfl) (by first | assumption | exact rfl) (by walk_at "sz") ?_ (by rfl); intro _ _
        try dsimp only
        refine @st_localL _ _ _ _ _ _ _ _ _ _ _ _ (by assumption) ?_ (by rfl) (by rfl); intro _ _ _ _
        try dsimp only
        (with_reducible show wpAny _ _ (execs _ _) _ _ _); (try clear kS); with_reducible refine ex_cons ?_; intro kS
        try dsimp only
        refine @wpAny_Assign_Name _ _ _ _ _ _ _ _ _ _ ?_ (by rfl)
        try dsimp only
        refine @wpAny_BinOp _ _ _ _ _ _ _ _ _ _ ?_
        try dsimp only
        refine @nm_local _ _ _ _ _ _ _ _ _ _ _ _ _ (by assumption) (by walk_at "dv") ?_ (by rfl) (by rfl) (by decide)
        try dsimp only
        refine @cst_int _ _ _ _ _ _ _ _ _ ?_; intro _ _
        try dsimp only
        refine @add_I _ _ _ _ _ _ _ _ _ ?_; intro _ _
        try dsimp only
        refine @st_localL _ _ _ _ _ _ _ _ _ _ _ _ (by assumption) ?_ (by rfl) (by rfl); intro _ _ _ _
        try dsimp only
        (with_reducible show wpAny _ _ (execs _ _) _ _ _); (try clear kS); with_reducible refine ex_cons ?_; intro kS
        try dsimp only
        refine @wpAny_If _ _ _ _ _ _ _ _ _ _ ?_
        try dsimp only
        refine @wpAny_isTrue_Compare1 _ _ _ _ _ _ _ _ _ _ _ ?_ (by with_unfolding_all rfl)
        try dsimp only
        refine @nm_local _ _ _ _ _ _ _ _ _ _ _ _ _ (by assumption) (by walk_at "dv") ?_ (by rfl) (by rfl) (by decide)
        try dsimp only
        refine @cst_S _ _ _ _ _ _ _ _ _ _ (by exact lit1) ?_; intro _ _
        try dsimp only
        with_reducible refine eq_S ?_
        try dsimp only
        refine @wpAny_truthy_bool _ _ _ _ _ _ ?_
        try dsimp only
        (with_reducible show (if _ = true then _ else _)); refine @iteY _ _ _ (by walk_at "yes") ?_
        try dsimp only
        (with_reducible show wpAny _ _ (execs _ _) _ _ _); (try clear kS); with_reducible refine ex_cons ?_; intro kS
        try dsimp only
        refine @wpAny_If _ _ _ _ _ _ _ _ _ _ ?_
        try dsimp only
        refine @isTrue_or _ _ _ _ _ _ _ _ _ _ ?_
        try dsimp only
        refine @isTrue_not _ _ _ _ _ _ _ _ _ ?_
        try dsimp only
        refine @isTrue_plain _ _ _ _ _ _ _ _ ?_ (by rfl)
        try dsimp only
        refine @nm_local _ _ _ _ _ _ _ _ _ _ _ _ _ (by assumption) (by walk_at "dv") ?_ (by rfl) (by rfl) (by decide)
        try dsimp only
        refine @truthy_L _ _ _ _ _ _ _ _ _ _ _ _ _ (by assumption) (by walk_at "mem") (by walk_at "sz") ?_; intro _
        try dsimp only
        (with_reducible show (if _ = true then _ else _)); refine @iteN _ _ _ (by walk_at "yes") ?_
        try dsimp only
        refine @isTrue_or _ _ _ _ _ _ _ _ _ _ ?_
        try dsimp only
        refine @wpAny_isTrue_Compare1 _ _ _ _ _ _ _ _ _ _ _ ?_ (by with_unfolding_all rfl)
        try dsimp only
        refine @Subscript_ _ _ _ _ _ _ _ _ _ ?_
        try dsimp only
        refine @nm_local _ _ _ _ _ _ _ _ _ _ _ _ _ (by assumption) (by walk_at "dv") ?_ (by rfl) (by rfl) (by decide)
        try dsimp only
        refine @UnaryOp_ _ _ _ _ _ _ _ _ _ ?_
        try dsimp only
        refine @cst_int _ _ _ _ _ _ _ _ _ ?_; intro _ _
        try dsimp only
        refine @PyProof.Rows.neg_int _ _ _ _ _ _ _ _ ?_
        try dsimp only
        refine @tail_list_last _ _ _ _ _ _ _ _ _ _ _ _ _ _ _ _ _ (by assumption) (by walk_at "mem") (by walk_at "sz") ?_ (by rfl)
        try dsimp only
        refine @nm_local _ _ _ _ _ _ _ _ _ _ _ _ _ (by assumption) (by walk_at "dv") ?_ (by rfl) (by rfl) (by decide)
        try dsimp only
        refine @is_other _ _ _ _ _ _ _ _ _ _ _ _ _ (by assumption) (by walk_at "mem") (by intro a e; cases e) (by rfl) ?_
        try dsimp only
        refine @wpAny_truthy_bool _ _ _ _ _ _ ?_
        try dsimp only
        (with_reducible show (if _ = true then _ else _)); refine @iteY _ _ _ (by walk_at "yes") ?_
        try dsimp only
        (with_reducible show (if _ = true then _ else _)); refine @iteY _ _ _ (by walk_at "yes") ?_
        try dsimp only
        (with_reducible show wpAny _ _ (execs _ _) _ _ _); (try clear kS); with_reducible refine ex_cons ?_; intro kS
        try dsimp only
        refine @wpAny_Expr _ _ _ _ _ _ _ _ ?_ (by rfl) (by rfl)
        try dsimp only
        refine @callBound _ _ _ _ _ _ _ _ _ _ _ _ _ _ _ _ _ (by assumption) (by walk_at "dv") (by walk_at "mem") ?_ (by rfl) (by rfl) (by decide) (by rfl)
        try dsimp only
        refine @nm_local _ _ _ _ _ _ _ _ _ _ _ _ _ (by assumption) (by walk_at "dv") ?_ (by rfl) (by rfl) (by decide)
        try dsimp only
        refine ⟨Sd.get (by assumption) (by walk_at "mem"), ?_⟩
        try dsimp only
        refine @bound_append_sdL _ _ _ _ _ _ _ _ _ _ _ _ _ _ _ (by assumption) (by walk_at "mem") 2 (by rfl) ?_ (by walk_at "sz"); walk_at "ap"
        try dsimp only
        (with_reducible show wpAny _ _ (execs _ _) _ _ _); (try clear kS); with_reducible refine wpAny_execs_nil ?_
        try dsimp only
        (with_reducible show wpAny _ _ (execs _ _) _ _ _); (try clear kS); with_reducible refine wpAny_execs_nil ?_
        try dsimp only
        (with_reducible show wpAny _ _ (execs _ _) _ _ _); (try clear kS); with_reducible refine wpAny_execs_nil ?_
        try dsimp only
        exact ⟨0, _, _, _, _, rfl, by assumption, ⟨(qs l).length + 1, _, n' + 1, ps1, _, ⟨rfl, rfl, rfl, rfl, rfl, rfl, rfl, trivial⟩, rfl, ht1, .inr ⟨rfl, rfl, _, rfl, hv⟩⟩, by lia⟩
  · refine @wpAny_isTrue_Compare1 _ _ _ _ _ _ _ _ _ _ _ ?_ (by with_unfolding_all rfl)
    try dsimp only
    refine @nm_local _ _ _ _ _ _ _ _ _ _ _ _ _ (by assumption) (by walk_at "dv") ?_ (by rfl) (by rfl) (by decide)
    try dsimp only
    refine @nm_local _ _ _ _ _ _ _ _ _ _ _ _ _ (by assumption) (by walk_at "dv") ?_ (by rfl) (by rfl) (by decide)
    try dsimp only
    with_reducible refine lt_I ?_
    try dsimp only
    refine @wpAny_truthy_bool _ _ _ _ _ _ ?_
    try dsimp only
    (with_reducible show (if _ = true then _ else _)); refine @iteN _ _ _ (by walk_at "yes") ?_
    try dsimp only
    (with_reducible show wpAny _ _ (execs _ _) _ _ _); (try clear kS); with_reducible refine ex_cons ?_; intro kS
    try dsimp only
    refine @wpAny_Assert_holds _ _ _ _ _ _ _ _ _ ?_
    try dsimp only
    refine @wpAny_isTrue_Compare1 _ _ _ _ _ _ _ _ _ _ _ ?_ (by with_unfolding_all rfl)
    try dsimp only
    refine @nm_local _ _ _ _ _ _ _ _ _ _ _ _ _ (by assumption) (by walk_at "dv") ?_ (by rfl) (by rfl) (by decide)
    try dsimp only
    refine @nm_local _ _ _ _ _ _ _ _ _ _ _ _ _ (by assumption) (by walk_at "dv") ?_ (by rfl) (by rfl) (by decide)
    try dsimp only
    with_reducible refine eq_I ?_
    try dsimp only
    refine @wpAny_truthy_bool _ _ _ _ _ _ ?_
    try dsimp only
    refine ⟨by walk_at "yes", ?_⟩
    try dsimp only
    (with_reducible show wpAny _ _ (execs _ _) _ _ _); (try clear kS); with_reducible refine ex_cons ?_; intro kS
    try dsimp only
    refine @wpAny_Return_some _ _ _ _ _ _ _ _ ?_
    try dsimp only
    refine @nm_local _ _ _ _ _ _ _ _ _ _ _ _ _ (by assumption) (by walk_at "dv") ?_ (by rfl) (by rfl) (by decide)
    try dsimp only
    rename Sd H _ _ _ _ _ => D9
    exact h r vs0 _ _ _ _ (lv _ _ _ _ ((D9.pull 2 rfl).drop 2)) ht1 hv
end
end Mine

open PySem PySem.W PySem.Calls PyProof.Rows
set_option Elab.async false
set_option maxRecDepth 100000
set_option autoImplicit false
set_option maxHeartbeats 4000000
namespace Mine
section
variable {w : World} {A : Around} {s : Shared} {H : Heap} {fs : Ledg} {L : Addr} {m mg mb : Vm} {led : Ledg} {pp : Program} {loose : List Str} {mean : ExcName → Option Value}
theorem parts_len (l : List Nat) : (l.map part).flatten.length ≤ 4 * l.length := by
  induction l with
  | nil => simp
  | cons a r ih => rw [List.map_cons, List.flatten_cons, List.length_append, List.length_cons]; have := part_len a; lia
theorem ct_translate {l : List Nat} {t : Tok} {ps : Array Value} {Q : Value → Shared → Prop} (X : (Mine.KK0 w.params).In H) (T : Top pp loose mean mg mb H) (CH : CodeHd H 61 57) (hh : A.handled = none) (hd : A.depth + 8 < recursionLimit)
    (D : Sd H fs L m s.heap ((57, tabObj ps) :: led)) (ht : TriplesOk ps.toList) (hl : ∀ c ∈ l, c < 128) (hsz : l.length ≤ 100)
    (h : ∀ t ps' h' tk, Sd H fs L m h' ((57, tabObj ps') :: led) → TriplesOk ps'.toList → Q (.str (S ([40, 63, 115, 58] ++ (l.map part).flatten ++ [46, 42, 41, 92, 90])) t) { s with heap := h', toks := tk }) :
    wpAny (model PR w) A (call (.ref 43) [.str (S (qs l ++ [42])) t]) Q NoE s := by
  have TR := topRead_of T
  have hq := qs_len l
  have hp := parts_len l
  refine' call_sdL (hh := hh) (K := Mine.KK0 w.params) (binds := [("pat", .str (S (qs l ++ [42])) t)]) D X TR.nolimit ?ho ?hcd ?hroom ?hbind ?hloc ?hcell ?_ ?hco ?hgen ?hk
  walk_at "enter"
  intro C oL h1 tk1 D1 lv
  intro env kR A1 hA1 hA2 hA3
  (with_reducible show wpAny _ _ (execs _ _) _ _ _); (try clear kS); with_reducible refine ex_cons ?_; intro kS
  try dsimp only
  refine @wpAny_Assign_Name _ _ _ _ _ _ _ _ _ _ ?_ (by rfl)
  try dsimp only
  refine @call_type0 _ _ _ _ _ _ _ _ _ _ _ _ _ _ _ _ _ _ _ (by assumption) (by assumption) (by assumption) (by k_is) (by boot_by_name) ?_ (by decide) (by rfl) (by rfl) (by rfl) (by rfl) (by decide)
  try dsimp only
  refine @object_sd _ _ _ _ _ _ _ _ _ _ (by assumption) ?_; intro _ _ _ _
  try dsimp only
  refine @st_localL _ _ _ _ _ _ _ _ _ _ _ _ (by assumption) ?_ (by rfl) (by rfl); intro _ _ _ _
  try dsimp only
  (with_reducible show wpAny _ _ (execs _ _) _ _ _); (try clear kS); with_reducible refine ex_cons ?_; intro kS
  try dsimp only
  refine @wpAny_Assign_Name _ _ _ _ _ _ _ _ _ _ ?_ (by rfl)
  try dsimp only
  refine @call_name _ _ _ _ _ _ _ _ _ _ _ _ _ _ _ _ _ _ _ _ _ (by assumption) (by assumption) (by assumption) (by k_is) (by k_is) ?_ (by rfl) (by rfl) (by rfl) (by decide) (by rfl) (by rfl)
  try dsimp only
  refine @spliced_more _ _ _ _ _ _ _ _ _ ?_ (by rfl)
  try dsimp only
  refine @nm_local _ _ _ _ _ _ _ _ _ _ _ _ _ (by assumption) (by walk_at "dv") ?_ (by rfl) (by rfl) (by decide)
  try dsimp only
  refine @spliced_more _ _ _ _ _ _ _ _ _ ?_ (by rfl)
  try dsimp only
  refine @nm_local _ _ _ _ _ _ _ _ _ _ _ _ _ (by assumption) (by walk_at "dv") ?_ (by rfl) (by rfl) (by decide)
  try dsimp only
  refine @spliced_more _ _ _ _ _ _ _ _ _ ?_ (by rfl)
  try dsimp only
  refine @cst_S _ _ _ _ _ _ _ _ _ _ (by exact lit0) ?_; intro _ _
  try dsimp only
  refine @spliced_none _ _ _ _ _ _ _ ?_
  try dsimp only
  refine ⟨Sd.kIn (by assumption) (by assumption), ?_⟩
  try dsimp only
  rename Sd H _ _ _ _ _ => D2
  refine ct_trans X T CH (by walk_at "hh") (by walk_at "dp") (D2.pull 1 rfl) ht (.head _) hl hsz ?_
  intro r vs n ps' h' tk D3 ht' hv
  refine @st_localL _ _ _ _ _ _ _ _ _ _ _ _ (by assumption) ?_ (by rfl) (by rfl); intro _ _ _ _
  try dsimp only
  (with_reducible show wpAny _ _ (execs _ _) _ _ _); (try clear kS); with_reducible refine ex_cons ?_; intro kS
  try dsimp only
  refine @wpAny_Return_some _ _ _ _ _ _ _ _ ?_
  try dsimp only
  refine @call_name _ _ _ _ _ _ _ _ _ _ _ _ _ _ _ _ _ _ _ _ _ (by assumption) (by assumption) (by assumption) (by k_is) (by k_is) ?_ (by rfl) (by rfl) (by rfl) (by decide) (by rfl) (by rfl)
  try dsimp only
  refine @spliced_more _ _ _ _ _ _ _ _ _ ?_ (by rfl)
  try dsimp only
  refine @nm_local _ _ _ _ _ _ _ _ _ _ _ _ _ (by assumption) (by walk_at "dv") ?_ (by rfl) (by rfl) (by decide)
  try dsimp only
  refine @spliced_more _ _ _ _ _ _ _ _ _ ?_ (by rfl)
  try dsimp only
  refine @nm_local _ _ _ _ _ _ _ _ _ _ _ _ _ (by assumption) (by walk_at "dv") ?_ (by rfl) (by rfl) (by decide)
  try dsimp only
  refine @spliced_none _ _ _ _ _ _ _ ?_
  try dsimp only
  refine ⟨Sd.kIn (by assumption) (by assumption), ?_⟩
  try dsimp only
  rename Sd H _ _ _ _ _ => D4
  refine ct_join X TR (by walk_at "hh") (by walk_at "dp") D4 (.head _) hv (by walk_at "mem") rfl (by rw [List.length_map]; lia) ?_
  intro t1 h4 tk4 D5
  exact h _ _ _ _ (lv _ _ _ _ ((D5.drop 0).drop 1)) ht' 
end
end Mine

open PySem PySem.W PySem.Calls PyProof.Rows
set_option Elab.async false
set_option maxRecDepth 100000
set_option autoImplicit false
set_option maxHeartbeats 4000000
namespace Mine
inductive JFR (W B : List Nat) (t : Tok) (led : Ledg) (i : Nat) (m' : Vm) (led' : Ledg) : Prop
  | mk (sg st : List Nat) (ts tt : Tok) (f0 : Has [("written", .str (S W) t), ("signs", .str (S sg) ts), ("state", .str (S st) tt)] m') (f1 : led' = led) (f2 : (B.take i).foldlM fstep ([], []) = some (sg, st)) (f3 : fok st) (f4 : sg.length ≤ i)
section
variable {w : World} {A : Around} {s : Shared} {H : Heap} {fs : Ledg} {L : Addr} {m mg mb : Vm} {led : Ledg} {pp : Program} {loose : List Str}
theorem ct_front {l : List Nat} {t : Tok} {Q : Value → Shared → Prop} (X : (Mine.KK0 w.params).In H) (TR : TopRead pp loose mg mb H) (hh : A.handled = none) (hd : A.depth + 2 < recursionLimit)
    (D : Sd H fs L m s.heap led) (hl : ∀ c ∈ l, c < 128) (hB : ∀ c ∈ (l.map part).flatten, c < 128) (hBl : (l.map part).flatten.length ≤ 1000)
    (h : ∀ t h' tk, Sd H fs L m h' led → Q (.str (S l) t) { s with heap := h', toks := tk }) :
    wpAny (model PR w) A (call (.ref 91) [.str (S ([40, 63, 115, 58] ++ (l.map part).flatten ++ [46, 42, 41, 92, 90])) t]) Q NoE s := by
  have hall := front_all l []
  generalize hBe : (l.map part).flatten = B at *
  have c1 := cut_front (A := [40, 63, 115, 58]) (B := B) (C := [46, 42, 41, 92, 90]) rfl rfl
  have c2 := cut_back (A := [40, 63, 115, 58]) (B := B) (C := [46, 42, 41, 92, 90]) rfl rfl
  have c3 := cut_mid (A := [40, 63, 115, 58]) (B := B) (C := [46, 42, 41, 92, 90]) rfl rfl
  have hW : ([40, 63, 115, 58] ++ B ++ [46, 42, 41, 92, 90]).length ≤ 1100 := by simp; lia
  generalize hWe : [40, 63, 115, 58] ++ B ++ [46, 42, 41, 92, 90] = W at *
  refine' call_sdL (hh := hh) (K := Mine.KK0 w.params) (binds := [("written", .str (S W) t)]) D X TR.nolimit ?ho ?hcd ?hroom ?hbind ?hloc ?hcell ?_ ?hco ?hgen ?hk
  walk_at "enter"
  intro C oL h1 tk1 D1 lv
  intro env kR A1 hA1 hA2 hA3
  (with_reducible show wpAny _ _ (execs _ _) _ _ _); (try clear kS); with_reducible refine ex_cons ?_; intro kS
  try dsimp only
  refine @wpAny_If _ _ _ _ _ _ _ _ _ _ ?_
  try dsimp only
  refine @isTrue_or _ _ _ _ _ _ _ _ _ _ ?_
  try dsimp only
  refine @wpAny_isTrue_Compare1 _ _ _ _ _ _ _ _ _ _ _ ?_ (by with_unfolding_all rfl)
  try dsimp only
  refine @Subscript_ _ _ _ _ _ _ _ _ _ ?_
  try dsimp only
  refine @nm_local _ _ _ _ _ _ _ _ _ _ _ _ _ (by assumption) (by walk_at "dv") ?_ (by rfl) (by rfl) (by decide)
  try dsimp only
  refine @wpAny_Slice _ _ _ _ _ _ _ _ _ _ ?_
  try dsimp only
  refine @evalPart_none_step _ _ _ _ _ _ ?_
  try dsimp only
  refine @evalPart_some_step _ _ _ _ _ _ _ ?_
  try dsimp only
  refine @cst_int _ _ _ _ _ _ _ _ _ ?_; intro _ _
  try dsimp only
  refine @evalPart_none_step _ _ _ _ _ _ ?_
  try dsimp only
  refine @sliceTo _ _ _ _ _ _ _ _ _ _ _ _ _ _ _ _ _ _ _ _ _ (by assumption) (by walk_at "sz") (by walk_at "cut") ?_; intro _ _ _ _
  try dsimp only
  refine @cst_S _ _ _ _ _ _ _ _ _ _ (by exact lit13) ?_; intro _ _
  try dsimp only
  with_reducible refine ne_S ?_
  try dsimp only
  refine @wpAny_truthy_bool _ _ _ _ _ _ ?_
  try dsimp only
  (with_reducible show (if _ = true then _ else _)); refine @iteN _ _ _ (by walk_at "yes") ?_
  try dsimp only
  refine @isTrue_or _ _ _ _ _ _ _ _ _ _ ?_
  try dsimp only
  refine @wpAny_isTrue_Compare1 _ _ _ _ _ _ _ _ _ _ _ ?_ (by with_unfolding_all rfl)
  try dsimp only
  refine @Subscript_ _ _ _ _ _ _ _ _ _ ?_
  try dsimp only
  refine @nm_local _ _ _ _ _ _ _ _ _ _ _ _ _ (by assumption) (by walk_at "dv") ?_ (by rfl) (by rfl) (by decide)
  try dsimp only
  refine @wpAny_Slice _ _ _ _ _ _ _ _ _ _ ?_
  try dsimp only
  refine @evalPart_some_step _ _ _ _ _ _ _ ?_
  try dsimp only
  refine @UnaryOp_ _ _ _ _ _ _ _ _ _ ?_
  try dsimp only
  refine @cst_int _ _ _ _ _ _ _ _ _ ?_; intro _ _
  try dsimp only
  refine @PyProof.Rows.neg_int _ _ _ _ _ _ _ _ ?_
  try dsimp only
  refine @evalPart_none_step _ _ _ _ _ _ ?_
  try dsimp only
  refine @evalPart_none_step _ _ _ _ _ _ ?_
  try dsimp only
  refine @sliceFrom _ _ _ _ _ _ _ _ _ _ _ _ _ _ _ _ _ _ _ _ _ (by assumption) (by walk_at "sz") (by walk_at "cut") ?_; intro _ _ _ _
  try dsimp only
  refine @cst_S _ _ _ _ _ _ _ _ _ _ (by exact lit15) ?_; intro _ _
  try dsimp only
  with_reducible refine ne_S ?_
  try dsimp only
  refine @wpAny_truthy_bool _ _ _ _ _ _ ?_
  try dsimp only
  (with_reducible show (if _ = true then _ else _)); refine @iteN _ _ _ (by walk_at "yes") ?_
  try dsimp only
  refine @isTrue_or_nil _ _ _ _ _ _ _ _ ?_
  try dsimp only
  (with_reducible show (if _ = true then _ else _)); refine @iteN _ _ _ (by walk_at "yes") ?_
  try dsimp only
  (with_reducible show wpAny _ _ (execs _ _) _ _ _); (try clear kS); with_reducible refine wpAny_execs_nil ?_
  try dsimp only
  (with_reducible show wpAny _ _ (execs _ _) _ _ _); (try clear kS); with_reducible refine ex_cons ?_; intro kS
  try dsimp only
  refine @Assign_Tuple _ _ _ _ _ _ _ _ _ _ _ ?_ (by rfl) (by rfl)
  try dsimp only
  refine @Tuple_ _ _ _ _ _ _ _ _ _ ?_
  try dsimp only
  refine @spliced_more _ _ _ _ _ _ _ _ _ ?_ (by rfl)
  try dsimp only
  refine @cst_S _ _ _ _ _ _ _ _ _ _ (by exact lit11) ?_; intro _ _
  try dsimp only
  refine @spliced_more _ _ _ _ _ _ _ _ _ ?_ (by rfl)
  try dsimp only
  refine @cst_S _ _ _ _ _ _ _ _ _ _ (by exact lit11) ?_; intro _ _
  try dsimp only
  refine @spliced_none _ _ _ _ _ _ _ ?_
  try dsimp only
  refine @pair_unL _ _ _ _ _ _ _ _ _ _ _ _ _ _ _ _ _ _ (by assumption) (by assumption) ?_ (by rfl) (by rfl) (by rfl); intro _ _ _ _
  try dsimp only
  (with_reducible show wpAny _ _ (execs _ _) _ _ _); (try clear kS); with_reducible refine ex_cons ?_; intro kS
  try dsimp only
  refine @wpAny_For _ _ _ _ _ _ _ _ _ _ _ ?_ (by intro _; rfl)
  try dsimp only
  refine @Subscript_ _ _ _ _ _ _ _ _ _ ?_
  try dsimp only
  refine @nm_local _ _ _ _ _ _ _ _ _ _ _ _ _ (by assumption) (by walk_at "dv") ?_ (by rfl) (by rfl) (by decide)
  try dsimp only
  refine @wpAny_Slice _ _ _ _ _ _ _ _ _ _ ?_
  try dsimp only
  refine @evalPart_some_step _ _ _ _ _ _ _ ?_
  try dsimp only
  refine @cst_int _ _ _ _ _ _ _ _ _ ?_; intro _ _
  try dsimp only
  refine @evalPart_some_step _ _ _ _ _ _ _ ?_
  try dsimp only
  refine @UnaryOp_ _ _ _ _ _ _ _ _ _ ?_
  try dsimp only
  refine @cst_int _ _ _ _ _ _ _ _ _ ?_; intro _ _
  try dsimp only
  refine @PyProof.Rows.neg_int _ _ _ _ _ _ _ _ ?_
  try dsimp only
  refine @evalPart_none_step _ _ _ _ _ _ ?_
  try dsimp only
  refine @slice2 _ _ _ _ _ _ _ _ _ _ _ _ _ _ _ _ _ _ _ _ _ _ _ (by assumption) (by walk_at "sz") (by walk_at "cut") ?_; intro _ _ _ _
  try dsimp only
  rename Sd H _ _ _ _ _ => D2
  refine for_SL (by walk_at "hh") hB D2 (JFR W B t led)
    ⟨[], [], _, _, ⟨rfl, rfl, rfl, trivial⟩, rfl, rfl, by simp [fok], Nat.le_refl _⟩ ?_ ?_
  · rintro I oI i KB c u m1 led1 h3 tk3 hc ⟨sg, st, ts, tt, hm, rfl, hf, hok, hsg⟩ D3
    have hcl : ∃ p, fstep (sg, st) c = some p := by
      cases e : fstep (sg, st) c with
      | some p => exact ⟨p, rfl⟩
      | none =>
        exfalso
        obtain ⟨hi, hg⟩ := List.getElem?_eq_some_iff.mp hc
        rw [show B = B.take i ++ c :: B.drop (i + 1) from by rw [← hg, ← List.drop_eq_getElem_cons hi, List.take_append_drop], List.foldlM_append, hf] at hall
        simp [e] at hall
    obtain ⟨⟨sg', st'⟩, hst⟩ := hcl
    have hf' : (B.take (i + 1)).foldlM fstep ([], []) = some (sg', st') := by
      rw [List.take_add_one, hc, List.foldlM_append, hf]
      show (fstep (sg, st) c >>= fun p => [].foldlM fstep p) = _
      rw [hst]; rfl
    obtain ⟨hok', hsg'⟩ := fstep_ok hst hok
    dsimp only at hok' hsg'
    have hi : i < B.length := (List.getElem?_eq_some_iff.mp hc).1
    have D4 := D3.lo (l := [("sign", .str (S [c]) u), ("written", .str (S W) t), ("signs", .str (S sg) ts), ("state", .str (S st) tt)]) ⟨rfl, hm.1, hm.2.1, hm.2.2.1, trivial⟩
    clear D1 D2 D3 hm hf D hall
    unfold fok at hok
    simp only [List.mem_cons, List.not_mem_nil, or_false] at hok
    rcases hok with rfl | rfl | rfl | rfl | rfl
    · by_cases h1 : c ∈ [92, 91]
      · unfold fstep at hst
        rw [if_neg (by intro q; cases q), if_pos (.inl ⟨rfl, h1⟩)] at hst
        try dsimp only at hst
        cases hst
        (with_reducible show wpAny _ _ (execs _ _) _ _ _); (try clear kS); with_reducible refine ex_cons ?_; intro kS
        try dsimp only
        refine @wpAny_If _ _ _ _ _ _ _ _ _ _ ?_
        try dsimp only
        refine @wpAny_isTrue_Compare1 _ _ _ _ _ _ _ _ _ _ _ ?_ (by with_unfolding_all rfl)
        try dsimp only
        refine @nm_local _ _ _ _ _ _ _ _ _ _ _ _ _ (by assumption) (by walk_at "dv") ?_ (by rfl) (by rfl) (by decide)
        try dsimp only
        refine @cst_S _ _ _ _ _ _ _ _ _ _ (by exact lit5) ?_; intro _ _
        try dsimp only
        with_reducible refine eq_S ?_
        try dsimp only
        refine @wpAny_truthy_bool _ _ _ _ _ _ ?_
        try dsimp only
        (with_reducible show (if _ = true then _ else _)); refine @iteN _ _ _ (by walk_at "yes") ?_
        try dsimp only
        (with_reducible show wpAny _ _ (execs _ _) _ _ _); (try clear kS); with_reducible refine ex_cons ?_; intro kS
        try dsimp only
        refine @wpAny_If _ _ _ _ _ _ _ _ _ _ ?_
        try dsimp only
        refine @isTrue_or _ _ _ _ _ _ _ _ _ _ ?_
        try dsimp only
        refine @isTrue_and _ _ _ _ _ _ _ _ _ _ ?_
        try dsimp only
        refine @wpAny_isTrue_Compare1 _ _ _ _ _ _ _ _ _ _ _ ?_ (by with_unfolding_all rfl)
        try dsimp only
        refine @nm_local _ _ _ _ _ _ _ _ _ _ _ _ _ (by assumption) (by walk_at "dv") ?_ (by rfl) (by rfl) (by decide)
        try dsimp only
        refine @cst_S _ _ _ _ _ _ _ _ _ _ (by exact lit11) ?_; intro _ _
        try dsimp only
        with_reducible refine eq_S ?_
        try dsimp only
        refine @wpAny_truthy_bool _ _ _ _ _ _ ?_
        try dsimp only
        (with_reducible show (if _ = true then _ else _)); refine @iteY _ _ _ (by walk_at "yes") ?_
        try dsimp only
        refine @isTrue_and _ _ _ _ _ _ _ _ _ _ ?_
        try dsimp only
        refine @wpAny_isTrue_Compare1 _ _ _ _ _ _ _ _ _ _ _ ?_ (by with_unfolding_all rfl)
        try dsimp only
        refine @nm_local _ _ _ _ _ _ _ _ _ _ _ _ _ (by assumption) (by walk_at "dv") ?_ (by rfl) (by rfl) (by decide)
        try dsimp only
        refine @cst_S _ _ _ _ _ _ _ _ _ _ (by exact lit6) ?_; intro _ _
        try dsimp only
        with_reducible refine in_S ?_
        try dsimp only
        refine @wpAny_truthy_bool _ _ _ _ _ _ ?_
        try dsimp only
        (with_reducible show (if _ = true then _ else _)); refine @iteY _ _ _ (by walk_at "yes") ?_
        try dsimp only
        refine @isTrue_and_nil _ _ _ _ _ _ _ _ ?_
        try dsimp only
        (with_reducible show (if _ = true then _ else _)); refine @iteY _ _ _ (by walk_at "yes") ?_
        try dsimp only
        (with_reducible show (if _ = true then _ else _)); refine @iteY _ _ _ (by walk_at "yes") ?_
        try dsimp only
        (with_reducible show wpAny _ _ (execs _ _) _ _ _); (try clear kS); with_reducible refine ex_cons ?_; intro kS
        try dsimp only
        refine @wpAny_Assign_Name _ _ _ _ _ _ _ _ _ _ ?_ (by rfl)
        try dsimp only
        refine @wpAny_BinOp _ _ _ _ _ _ _ _ _ _ ?_
        try dsimp only
        refine @nm_local _ _ _ _ _ _ _ _ _ _ _ _ _ (by assumption) (by walk_at "dv") ?_ (by rfl) (by rfl) (by decide)
        try dsimp only
        refine @nm_local _ _ _ _ _ _ _ _ _ _ _ _ _ (by assumption) (by walk_at "dv") ?_ (by rfl) (by rfl) (by decide)
        try dsimp only
        refine @add_S _ _ _ _ _ _ _ _ _ ?_ (by walk_at "sz"); intro _ _
        try dsimp only
        refine @st_localL _ _ _ _ _ _ _ _ _ _ _ _ (by assumption) ?_ (by rfl) (by rfl); intro _ _ _ _
        try dsimp only
        (with_reducible show wpAny _ _ (execs _ _) _ _ _); (try clear kS); with_reducible refine wpAny_execs_nil ?_
        try dsimp only
        (with_reducible show wpAny _ _ (execs _ _) _ _ _); (try clear kS); with_reducible refine wpAny_execs_nil ?_
        try dsimp only
        (with_reducible show wpAny _ _ (execs _ _) _ _ _); (try clear kS); with_reducible refine wpAny_execs_nil ?_
        try dsimp only
        rename Sd H _ _ _ _ _ => D9
        first | exact ⟨_, _, _, _, rfl, D9, _, _, _, _, ⟨rfl, rfl, rfl, trivial⟩, rfl, hf', hok', by lia⟩ | exact ⟨_, _, _, _, rfl, D9.drop 0, _, _, _, _, ⟨rfl, rfl, rfl, trivial⟩, rfl, hf', hok', by lia⟩
      · by_cases h2 : c ∈ [46, 94, 36, 42, 43, 63, 123, 125, 40, 41, 124]
        · unfold fstep at hst
          rw [if_neg (by intro q; cases q), if_neg (by rintro (⟨_, q⟩ | ⟨q, _⟩); exact h1 q; cases q), if_pos (.inl ⟨rfl, h2⟩)] at hst
          try dsimp only at hst
          cases hst
        · unfold fstep at hst
          rw [if_neg (by intro q; cases q), if_neg (by rintro (⟨_, q⟩ | ⟨q, _⟩); exact h1 q; cases q), if_neg (by rintro (⟨_, q⟩ | ⟨q, _⟩ | ⟨q, _⟩); exact h2 q; cases q; cases q)] at hst
          try dsimp only at hst
          cases hst
          (with_reducible show wpAny _ _ (execs _ _) _ _ _); (try clear kS); with_reducible refine ex_cons ?_; intro kS
          try dsimp only
          refine @wpAny_If _ _ _ _ _ _ _ _ _ _ ?_
          try dsimp only
          refine @wpAny_isTrue_Compare1 _ _ _ _ _ _ _ _ _ _ _ ?_ (by with_unfolding_all rfl)
          try dsimp only
          refine @nm_local _ _ _ _ _ _ _ _ _ _ _ _ _ (by assumption) (by walk_at "dv") ?_ (by rfl) (by rfl) (by decide)
          try dsimp only
          refine @cst_S _ _ _ _ _ _ _ _ _ _ (by exact lit5) ?_; intro _ _
          try dsimp only
          with_reducible refine eq_S ?_
          try dsimp only
          refine @wpAny_truthy_bool _ _ _ _ _ _ ?_
          try dsimp only
          (with_reducible show (if _ = true then _ else _)); refine @iteN _ _ _ (by walk_at "yes") ?_
          try dsimp only
          (with_reducible show wpAny _ _ (execs _ _) _ _ _); (try clear kS); with_reducible refine ex_cons ?_; intro kS
          try dsimp only
          refine @wpAny_If _ _ _ _ _ _ _ _ _ _ ?_
          try dsimp only
          refine @isTrue_or _ _ _ _ _ _ _ _ _ _ ?_
          try dsimp only
          refine @isTrue_and _ _ _ _ _ _ _ _ _ _ ?_
          try dsimp only
          refine @wpAny_isTrue_Compare1 _ _ _ _ _ _ _ _ _ _ _ ?_ (by with_unfolding_all rfl)
          try dsimp only
          refine @nm_local _ _ _ _ _ _ _ _ _ _ _ _ _ (by assumption) (by walk_at "dv") ?_ (by rfl) (by rfl) (by decide)
          try dsimp only
          refine @cst_S _ _ _ _ _ _ _ _ _ _ (by exact lit11) ?_; intro _ _
          try dsimp only
          with_reducible refine eq_S ?_
          try dsimp only
          refine @wpAny_truthy_bool _ _ _ _ _ _ ?_
          try dsimp only
          (with_reducible show (if _ = true then _ else _)); refine @iteY _ _ _ (by walk_at "yes") ?_
          try dsimp only
          refine @isTrue_and _ _ _ _ _ _ _ _ _ _ ?_
          try dsimp only
          refine @wpAny_isTrue_Compare1 _ _ _ _ _ _ _ _ _ _ _ ?_ (by with_unfolding_all rfl)
          try dsimp only
          refine @nm_local _ _ _ _ _ _ _ _ _ _ _ _ _ (by assumption) (by walk_at "dv") ?_ (by rfl) (by rfl) (by decide)
          try dsimp only
          refine @cst_S _ _ _ _ _ _ _ _ _ _ (by exact lit6) ?_; intro _ _
          try dsimp only
          with_reducible refine in_S ?_
          try dsimp only
          refine @wpAny_truthy_bool _ _ _ _ _ _ ?_
          try dsimp only
          (with_reducible show (if _ = true then _ else _)); refine @iteN _ _ _ (by walk_at "yes") ?_
          try dsimp only
          (with_reducible show (if _ = true then _ else _)); refine @iteN _ _ _ (by walk_at "yes") ?_
          try dsimp only
          refine @isTrue_or _ _ _ _ _ _ _ _ _ _ ?_
          try dsimp only
          refine @isTrue_and _ _ _ _ _ _ _ _ _ _ ?_
          try dsimp only
          refine @wpAny_isTrue_Compare1 _ _ _ _ _ _ _ _ _ _ _ ?_ (by with_unfolding_all rfl)
          try dsimp only
          refine @nm_local _ _ _ _ _ _ _ _ _ _ _ _ _ (by assumption) (by walk_at "dv") ?_ (by rfl) (by rfl) (by decide)
          try dsimp only
          refine @cst_S _ _ _ _ _ _ _ _ _ _ (by exact lit3) ?_; intro _ _
          try dsimp only
          with_reducible refine eq_S ?_
          try dsimp only
          refine @wpAny_truthy_bool _ _ _ _ _ _ ?_
          try dsimp only
          (with_reducible show (if _ = true then _ else _)); refine @iteN _ _ _ (by walk_at "yes") ?_
          try dsimp only
          (with_reducible show (if _ = true then _ else _)); refine @iteN _ _ _ (by walk_at "yes") ?_
          try dsimp only
          refine @isTrue_or_nil _ _ _ _ _ _ _ _ ?_
          try dsimp only
          (with_reducible show (if _ = true then _ else _)); refine @iteN _ _ _ (by walk_at "yes") ?_
          try dsimp only
          (with_reducible show wpAny _ _ (execs _ _) _ _ _); (try clear kS); with_reducible refine ex_cons ?_; intro kS
          try dsimp only
          refine @wpAny_If _ _ _ _ _ _ _ _ _ _ ?_
          try dsimp only
          refine @isTrue_or _ _ _ _ _ _ _ _ _ _ ?_
          try dsimp only
          refine @isTrue_and _ _ _ _ _ _ _ _ _ _ ?_
          try dsimp only
          refine @wpAny_isTrue_Compare1 _ _ _ _ _ _ _ _ _ _ _ ?_ (by with_unfolding_all rfl)
          try dsimp only
          refine @nm_local _ _ _ _ _ _ _ _ _ _ _ _ _ (by assumption) (by walk_at "dv") ?_ (by rfl) (by rfl) (by decide)
          try dsimp only
          refine @cst_S _ _ _ _ _ _ _ _ _ _ (by exact lit11) ?_; intro _ _
          try dsimp only
          with_reducible refine eq_S ?_
          try dsimp only
          refine @wpAny_truthy_bool _ _ _ _ _ _ ?_
          try dsimp only
          (with_reducible show (if _ = true then _ else _)); refine @iteY _ _ _ (by walk_at "yes") ?_
          try dsimp only
          refine @isTrue_and _ _ _ _ _ _ _ _ _ _ ?_
          try dsimp only
          refine @wpAny_isTrue_Compare1 _ _ _ _ _ _ _ _ _ _ _ ?_ (by with_unfolding_all rfl)
          try dsimp only
          refine @nm_local _ _ _ _ _ _ _ _ _ _ _ _ _ (by assumption) (by walk_at "dv") ?_ (by rfl) (by rfl) (by decide)
          try dsimp only
          refine @cst_S _ _ _ _ _ _ _ _ _ _ (by exact lit16) ?_; intro _ _
          try dsimp only
          with_reducible refine in_S ?_
          try dsimp only
          refine @wpAny_truthy_bool _ _ _ _ _ _ ?_
          try dsimp only
          (with_reducible show (if _ = true then _ else _)); refine @iteN _ _ _ (by walk_at "yes") ?_
          try dsimp only
          (with_reducible show (if _ = true then _ else _)); refine @iteN _ _ _ (by walk_at "yes") ?_
          try dsimp only
          refine @isTrue_or _ _ _ _ _ _ _ _ _ _ ?_
          try dsimp only
          refine @isTrue_and _ _ _ _ _ _ _ _ _ _ ?_
          try dsimp only
          refine @wpAny_isTrue_Compare1 _ _ _ _ _ _ _ _ _ _ _ ?_ (by with_unfolding_all rfl)
          try dsimp only
          refine @nm_local _ _ _ _ _ _ _ _ _ _ _ _ _ (by assumption) (by walk_at "dv") ?_ (by rfl) (by rfl) (by decide)
          try dsimp only
          refine @cst_S _ _ _ _ _ _ _ _ _ _ (by exact lit3) ?_; intro _ _
          try dsimp only
          with_reducible refine eq_S ?_
          try dsimp only
          refine @wpAny_truthy_bool _ _ _ _ _ _ ?_
          try dsimp only
          (with_reducible show (if _ = true then _ else _)); refine @iteN _ _ _ (by walk_at "yes") ?_
          try dsimp only
          (with_reducible show (if _ = true then _ else _)); refine @iteN _ _ _ (by walk_at "yes") ?_
          try dsimp only
          refine @isTrue_or _ _ _ _ _ _ _ _ _ _ ?_
          try dsimp only
          refine @isTrue_and _ _ _ _ _ _ _ _ _ _ ?_
          try dsimp only
          refine @wpAny_isTrue_Compare1 _ _ _ _ _ _ _ _ _ _ _ ?_ (by with_unfolding_all rfl)
          try dsimp only
          refine @nm_local _ _ _ _ _ _ _ _ _ _ _ _ _ (by assumption) (by walk_at "dv") ?_ (by rfl) (by rfl) (by decide)
          try dsimp only
          refine @cst_S _ _ _ _ _ _ _ _ _ _ (by exact lit8) ?_; intro _ _
          try dsimp only
          with_reducible refine eq_S ?_
          try dsimp only
          refine @wpAny_truthy_bool _ _ _ _ _ _ ?_
          try dsimp only
          (with_reducible show (if _ = true then _ else _)); refine @iteN _ _ _ (by walk_at "yes") ?_
          try dsimp only
          (with_reducible show (if _ = true then _ else _)); refine @iteN _ _ _ (by walk_at "yes") ?_
          try dsimp only
          refine @isTrue_or_nil _ _ _ _ _ _ _ _ ?_
          try dsimp only
          (with_reducible show (if _ = true then _ else _)); refine @iteN _ _ _ (by walk_at "yes") ?_
          try dsimp only
          (with_reducible show wpAny _ _ (execs _ _) _ _ _); (try clear kS); with_reducible refine ex_cons ?_; intro kS
          try dsimp only
          refine @wpAny_Assign_Name _ _ _ _ _ _ _ _ _ _ ?_ (by rfl)
          try dsimp only
          refine @wpAny_BinOp _ _ _ _ _ _ _ _ _ _ ?_
          try dsimp only
          refine @nm_local _ _ _ _ _ _ _ _ _ _ _ _ _ (by assumption) (by walk_at "dv") ?_ (by rfl) (by rfl) (by decide)
          try dsimp only
          refine @nm_local _ _ _ _ _ _ _ _ _ _ _ _ _ (by assumption) (by walk_at "dv") ?_ (by rfl) (by rfl) (by decide)
          try dsimp only
          refine @add_S _ _ _ _ _ _ _ _ _ ?_ (by walk_at "sz"); intro _ _
          try dsimp only
          refine @st_localL _ _ _ _ _ _ _ _ _ _ _ _ (by assumption) ?_ (by rfl) (by rfl); intro _ _ _ _
          try dsimp only
          (with_reducible show wpAny _ _ (execs _ _) _ _ _); (try clear kS); with_reducible refine ex_cons ?_; intro kS
          try dsimp only
          refine @wpAny_Assign_Name _ _ _ _ _ _ _ _ _ _ ?_ (by rfl)
          try dsimp only
          refine @IfExp_ _ _ _ _ _ _ _ _ _ _ ?_
          try dsimp only
          refine @wpAny_isTrue_Compare1 _ _ _ _ _ _ _ _ _ _ _ ?_ (by with_unfolding_all rfl)
          try dsimp only
          refine @nm_local _ _ _ _ _ _ _ _ _ _ _ _ _ (by assumption) (by walk_at "dv") ?_ (by rfl) (by rfl) (by decide)
          try dsimp only
          refine @List_ _ _ _ _ _ _ _ _ ?_
          try dsimp only
          refine @spliced_more _ _ _ _ _ _ _ _ _ ?_ (by rfl)
          try dsimp only
          refine @cst_S _ _ _ _ _ _ _ _ _ _ (by exact lit11) ?_; intro _ _
          try dsimp only
          refine @spliced_more _ _ _ _ _ _ _ _ _ ?_ (by rfl)
          try dsimp only
          refine @cst_S _ _ _ _ _ _ _ _ _ _ (by exact lit8) ?_; intro _ _
          try dsimp only
          refine @spliced_none _ _ _ _ _ _ _ ?_
          try dsimp only
          refine @newList_sdL _ _ _ _ _ _ _ _ _ _ _ (by assumption) ?_ (by exact sz_lit rfl); intro _ _ _ _ _
          try dsimp only
          refine @in_Ls _ _ _ _ _ _ _ _ _ _ _ _ _ _ _ _ (by assumption) (by walk_at "mem") (.cons ⟨_, rfl⟩ (.cons ⟨_, rfl⟩ .nil)) ?_
          try dsimp only
          refine @wpAny_truthy_bool _ _ _ _ _ _ ?_
          try dsimp only
          (with_reducible show (if _ = true then _ else _)); refine @iteY _ _ _ (by walk_at "yes") ?_
          try dsimp only
          refine @cst_S _ _ _ _ _ _ _ _ _ _ (by exact lit11) ?_; intro _ _
          try dsimp only
          refine @st_localL _ _ _ _ _ _ _ _ _ _ _ _ (by assumption) ?_ (by rfl) (by rfl); intro _ _ _ _
          try dsimp only
          (with_reducible show wpAny _ _ (execs _ _) _ _ _); (try clear kS); with_reducible refine wpAny_execs_nil ?_
          try dsimp only
          (with_reducible show wpAny _ _ (execs _ _) _ _ _); (try clear kS); with_reducible refine wpAny_execs_nil ?_
          try dsimp only
          (with_reducible show wpAny _ _ (execs _ _) _ _ _); (try clear kS); with_reducible refine wpAny_execs_nil ?_
          try dsimp only
          (with_reducible show wpAny _ _ (execs _ _) _ _ _); (try clear kS); with_reducible refine wpAny_execs_nil ?_
          try dsimp only
          rename Sd H _ _ _ _ _ => D9
          first | exact ⟨_, _, _, _, rfl, D9, _, _, _, _, ⟨rfl, rfl, rfl, trivial⟩, rfl, hf', hok', by lia⟩ | exact ⟨_, _, _, _, rfl, D9.drop 0, _, _, _, _, ⟨rfl, rfl, rfl, trivial⟩, rfl, hf', hok', by lia⟩
    · by_cases h1 : c = 92
      · subst h1
        have h1 : ([92] : List Nat) = [92] := rfl
        unfold fstep at hst
        rw [if_neg (by intro q; cases q), if_pos (.inr ⟨rfl, rfl⟩)] at hst
        try dsimp only at hst
        cases hst
        (with_reducible show wpAny _ _ (execs _ _) _ _ _); (try clear kS); with_reducible refine ex_cons ?_; intro kS
        try dsimp only
        refine @wpAny_If _ _ _ _ _ _ _ _ _ _ ?_
        try dsimp only
        refine @wpAny_isTrue_Compare1 _ _ _ _ _ _ _ _ _ _ _ ?_ (by with_unfolding_all rfl)
        try dsimp only
        refine @nm_local _ _ _ _ _ _ _ _ _ _ _ _ _ (by assumption) (by walk_at "dv") ?_ (by rfl) (by rfl) (by decide)
        try dsimp only
        refine @cst_S _ _ _ _ _ _ _ _ _ _ (by exact lit5) ?_; intro _ _
        try dsimp only
        with_reducible refine eq_S ?_
        try dsimp only
        refine @wpAny_truthy_bool _ _ _ _ _ _ ?_
        try dsimp only
        (with_reducible show (if _ = true then _ else _)); refine @iteN _ _ _ (by walk_at "yes") ?_
        try dsimp only
        (with_reducible show wpAny _ _ (execs _ _) _ _ _); (try clear kS); with_reducible refine ex_cons ?_; intro kS
        try dsimp only
        refine @wpAny_If _ _ _ _ _ _ _ _ _ _ ?_
        try dsimp only
        refine @isTrue_or _ _ _ _ _ _ _ _ _ _ ?_
        try dsimp only
        refine @isTrue_and _ _ _ _ _ _ _ _ _ _ ?_
        try dsimp only
        refine @wpAny_isTrue_Compare1 _ _ _ _ _ _ _ _ _ _ _ ?_ (by with_unfolding_all rfl)
        try dsimp only
        refine @nm_local _ _ _ _ _ _ _ _ _ _ _ _ _ (by assumption) (by walk_at "dv") ?_ (by rfl) (by rfl) (by decide)
        try dsimp only
        refine @cst_S _ _ _ _ _ _ _ _ _ _ (by exact lit11) ?_; intro _ _
        try dsimp only
        with_reducible refine eq_S ?_
        try dsimp only
        refine @wpAny_truthy_bool _ _ _ _ _ _ ?_
        try dsimp only
        (with_reducible show (if _ = true then _ else _)); refine @iteN _ _ _ (by walk_at "yes") ?_
        try dsimp only
        (with_reducible show (if _ = true then _ else _)); refine @iteN _ _ _ (by walk_at "yes") ?_
        try dsimp only
        refine @isTrue_or _ _ _ _ _ _ _ _ _ _ ?_
        try dsimp only
        refine @isTrue_and _ _ _ _ _ _ _ _ _ _ ?_
        try dsimp only
        refine @wpAny_isTrue_Compare1 _ _ _ _ _ _ _ _ _ _ _ ?_ (by with_unfolding_all rfl)
        try dsimp only
        refine @nm_local _ _ _ _ _ _ _ _ _ _ _ _ _ (by assumption) (by walk_at "dv") ?_ (by rfl) (by rfl) (by decide)
        try dsimp only
        refine @cst_S _ _ _ _ _ _ _ _ _ _ (by exact lit3) ?_; intro _ _
        try dsimp only
        with_reducible refine eq_S ?_
        try dsimp only
        refine @wpAny_truthy_bool _ _ _ _ _ _ ?_
        try dsimp only
        (with_reducible show (if _ = true then _ else _)); refine @iteY _ _ _ (by walk_at "yes") ?_
        try dsimp only
        refine @isTrue_and _ _ _ _ _ _ _ _ _ _ ?_
        try dsimp only
        refine @wpAny_isTrue_Compare1 _ _ _ _ _ _ _ _ _ _ _ ?_ (by with_unfolding_all rfl)
        try dsimp only
        refine @nm_local _ _ _ _ _ _ _ _ _ _ _ _ _ (by assumption) (by walk_at "dv") ?_ (by rfl) (by rfl) (by decide)
        try dsimp only
        refine @cst_S _ _ _ _ _ _ _ _ _ _ (by exact lit8) ?_; intro _ _
        try dsimp only
        with_reducible refine eq_S ?_
        try dsimp only
        refine @wpAny_truthy_bool _ _ _ _ _ _ ?_
        try dsimp only
        (with_reducible show (if _ = true then _ else _)); refine @iteY _ _ _ (by walk_at "yes") ?_
        try dsimp only
        refine @isTrue_and_nil _ _ _ _ _ _ _ _ ?_
        try dsimp only
        (with_reducible show (if _ = true then _ else _)); refine @iteY _ _ _ (by walk_at "yes") ?_
        try dsimp only
        (with_reducible show (if _ = true then _ else _)); refine @iteY _ _ _ (by walk_at "yes") ?_
        try dsimp only
        (with_reducible show wpAny _ _ (execs _ _) _ _ _); (try clear kS); with_reducible refine ex_cons ?_; intro kS
        try dsimp only
        refine @wpAny_Assign_Name _ _ _ _ _ _ _ _ _ _ ?_ (by rfl)
        try dsimp only
        refine @wpAny_BinOp _ _ _ _ _ _ _ _ _ _ ?_
        try dsimp only
        refine @nm_local _ _ _ _ _ _ _ _ _ _ _ _ _ (by assumption) (by walk_at "dv") ?_ (by rfl) (by rfl) (by decide)
        try dsimp only
        refine @nm_local _ _ _ _ _ _ _ _ _ _ _ _ _ (by assumption) (by walk_at "dv") ?_ (by rfl) (by rfl) (by decide)
        try dsimp only
        refine @add_S _ _ _ _ _ _ _ _ _ ?_ (by walk_at "sz"); intro _ _
        try dsimp only
        refine @st_localL _ _ _ _ _ _ _ _ _ _ _ _ (by assumption) ?_ (by rfl) (by rfl); intro _ _ _ _
        try dsimp only
        (with_reducible show wpAny _ _ (execs _ _) _ _ _); (try clear kS); with_reducible refine wpAny_execs_nil ?_
        try dsimp only
        (with_reducible show wpAny _ _ (execs _ _) _ _ _); (try clear kS); with_reducible refine wpAny_execs_nil ?_
        try dsimp only
        (with_reducible show wpAny _ _ (execs _ _) _ _ _); (try clear kS); with_reducible refine wpAny_execs_nil ?_
        try dsimp only
        rename Sd H _ _ _ _ _ => D9
        first | exact ⟨_, _, _, _, rfl, D9, _, _, _, _, ⟨rfl, rfl, rfl, trivial⟩, rfl, hf', hok', by lia⟩ | exact ⟨_, _, _, _, rfl, D9.drop 0, _, _, _, _, ⟨rfl, rfl, rfl, trivial⟩, rfl, hf', hok', by lia⟩
      · have h1' : ¬ ([c] = [92]) := fun q => h1 (List.cons.inj q).1
        by_cases h2 : c ∈ [93, 94]
        · unfold fstep at hst
          rw [if_neg (by intro q; cases q), if_neg (by rintro (⟨q, _⟩ | ⟨_, q⟩); cases q; exact h1 q), if_pos (.inr (.inl ⟨rfl, h2⟩))] at hst
          try dsimp only at hst
          cases hst
        · unfold fstep at hst
          rw [if_neg (by intro q; cases q), if_neg (by rintro (⟨q, _⟩ | ⟨_, q⟩); cases q; exact h1 q), if_neg (by rintro (⟨q, _⟩ | ⟨_, q⟩ | ⟨q, _⟩); cases q; exact h2 q; cases q)] at hst
          try dsimp only at hst
          cases hst
          (with_reducible show wpAny _ _ (execs _ _) _ _ _); (try clear kS); with_reducible refine ex_cons ?_; intro kS
          try dsimp only
          refine @wpAny_If _ _ _ _ _ _ _ _ _ _ ?_
          try dsimp only
          refine @wpAny_isTrue_Compare1 _ _ _ _ _ _ _ _ _ _ _ ?_ (by with_unfolding_all rfl)
          try dsimp only
          refine @nm_local _ _ _ _ _ _ _ _ _ _ _ _ _ (by assumption) (by walk_at "dv") ?_ (by rfl) (by rfl) (by decide)
          try dsimp only
          refine @cst_S _ _ _ _ _ _ _ _ _ _ (by exact lit5) ?_; intro _ _
          try dsimp only
          with_reducible refine eq_S ?_
          try dsimp only
          refine @wpAny_truthy_bool _ _ _ _ _ _ ?_
          try dsimp only
          (with_reducible show (if _ = true then _ else _)); refine @iteN _ _ _ (by walk_at "yes") ?_
          try dsimp only
          (with_reducible show wpAny _ _ (execs _ _) _ _ _); (try clear kS); with_reducible refine ex_cons ?_; intro kS
          try dsimp only
          refine @wpAny_If _ _ _ _ _ _ _ _ _ _ ?_
          try dsimp only
          refine @isTrue_or _ _ _ _ _ _ _ _ _ _ ?_
          try dsimp only
          refine @isTrue_and _ _ _ _ _ _ _ _ _ _ ?_
          try dsimp only
          refine @wpAny_isTrue_Compare1 _ _ _ _ _ _ _ _ _ _ _ ?_ (by with_unfolding_all rfl)
          try dsimp only
          refine @nm_local _ _ _ _ _ _ _ _ _ _ _ _ _ (by assumption) (by walk_at "dv") ?_ (by rfl) (by rfl) (by decide)
          try dsimp only
          refine @cst_S _ _ _ _ _ _ _ _ _ _ (by exact lit11) ?_; intro _ _
          try dsimp only
          with_reducible refine eq_S ?_
          try dsimp only
          refine @wpAny_truthy_bool _ _ _ _ _ _ ?_
          try dsimp only
          (with_reducible show (if _ = true then _ else _)); refine @iteN _ _ _ (by walk_at "yes") ?_
          try dsimp only
          (with_reducible show (if _ = true then _ else _)); refine @iteN _ _ _ (by walk_at "yes") ?_
          try dsimp only
          refine @isTrue_or _ _ _ _ _ _ _ _ _ _ ?_
          try dsimp only
          refine @isTrue_and _ _ _ _ _ _ _ _ _ _ ?_
          try dsimp only
          refine @wpAny_isTrue_Compare1 _ _ _ _ _ _ _ _ _ _ _ ?_ (by with_unfolding_all rfl)
          try dsimp only
          refine @nm_local _ _ _ _ _ _ _ _ _ _ _ _ _ (by assumption) (by walk_at "dv") ?_ (by rfl) (by rfl) (by decide)
          try dsimp only
          refine @cst_S _ _ _ _ _ _ _ _ _ _ (by exact lit3) ?_; intro _ _
          try dsimp only
          with_reducible refine eq_S ?_
          try dsimp only
          refine @wpAny_truthy_bool _ _ _ _ _ _ ?_
          try dsimp only
          (with_reducible show (if _ = true then _ else _)); refine @iteY _ _ _ (by walk_at "yes") ?_
          try dsimp only
          refine @isTrue_and _ _ _ _ _ _ _ _ _ _ ?_
          try dsimp only
          refine @wpAny_isTrue_Compare1 _ _ _ _ _ _ _ _ _ _ _ ?_ (by with_unfolding_all rfl)
          try dsimp only
          refine @nm_local _ _ _ _ _ _ _ _ _ _ _ _ _ (by assumption) (by walk_at "dv") ?_ (by rfl) (by rfl) (by decide)
          try dsimp only
          refine @cst_S _ _ _ _ _ _ _ _ _ _ (by exact lit8) ?_; intro _ _
          try dsimp only
          with_reducible refine eq_S ?_
          try dsimp only
          refine @wpAny_truthy_bool _ _ _ _ _ _ ?_
          try dsimp only
          (with_reducible show (if _ = true then _ else _)); refine @iteN _ _ _ (by walk_at "yes") ?_
          try dsimp only
          (with_reducible show (if _ = true then _ else _)); refine @iteN _ _ _ (by walk_at "yes") ?_
          try dsimp only
          refine @isTrue_or_nil _ _ _ _ _ _ _ _ ?_
          try dsimp only
          (with_reducible show (if _ = true then _ else _)); refine @iteN _ _ _ (by walk_at "yes") ?_
          try dsimp only
          (with_reducible show wpAny _ _ (execs _ _) _ _ _); (try clear kS); with_reducible refine ex_cons ?_; intro kS
          try dsimp only
          refine @wpAny_If _ _ _ _ _ _ _ _ _ _ ?_
          try dsimp only
          refine @isTrue_or _ _ _ _ _ _ _ _ _ _ ?_
          try dsimp only
          refine @isTrue_and _ _ _ _ _ _ _ _ _ _ ?_
          try dsimp only
          refine @wpAny_isTrue_Compare1 _ _ _ _ _ _ _ _ _ _ _ ?_ (by with_unfolding_all rfl)
          try dsimp only
          refine @nm_local _ _ _ _ _ _ _ _ _ _ _ _ _ (by assumption) (by walk_at "dv") ?_ (by rfl) (by rfl) (by decide)
          try dsimp only
          refine @cst_S _ _ _ _ _ _ _ _ _ _ (by exact lit11) ?_; intro _ _
          try dsimp only
          with_reducible refine eq_S ?_
          try dsimp only
          refine @wpAny_truthy_bool _ _ _ _ _ _ ?_
          try dsimp only
          (with_reducible show (if _ = true then _ else _)); refine @iteN _ _ _ (by walk_at "yes") ?_
          try dsimp only
          (with_reducible show (if _ = true then _ else _)); refine @iteN _ _ _ (by walk_at "yes") ?_
          try dsimp only
          refine @isTrue_or _ _ _ _ _ _ _ _ _ _ ?_
          try dsimp only
          refine @isTrue_and _ _ _ _ _ _ _ _ _ _ ?_
          try dsimp only
          refine @wpAny_isTrue_Compare1 _ _ _ _ _ _ _ _ _ _ _ ?_ (by with_unfolding_all rfl)
          try dsimp only
          refine @nm_local _ _ _ _ _ _ _ _ _ _ _ _ _ (by assumption) (by walk_at "dv") ?_ (by rfl) (by rfl) (by decide)
          try dsimp only
          refine @cst_S _ _ _ _ _ _ _ _ _ _ (by exact lit3) ?_; intro _ _
          try dsimp only
          with_reducible refine eq_S ?_
          try dsimp only
          refine @wpAny_truthy_bool _ _ _ _ _ _ ?_
          try dsimp only
          (with_reducible show (if _ = true then _ else _)); refine @iteY _ _ _ (by walk_at "yes") ?_
          try dsimp only
          refine @isTrue_and _ _ _ _ _ _ _ _ _ _ ?_
          try dsimp only
          refine @wpAny_isTrue_Compare1 _ _ _ _ _ _ _ _ _ _ _ ?_ (by with_unfolding_all rfl)
          try dsimp only
          refine @nm_local _ _ _ _ _ _ _ _ _ _ _ _ _ (by assumption) (by walk_at "dv") ?_ (by rfl) (by rfl) (by decide)
          try dsimp only
          refine @cst_S _ _ _ _ _ _ _ _ _ _ (by exact lit17) ?_; intro _ _
          try dsimp only
          with_reducible refine in_S ?_
          try dsimp only
          refine @wpAny_truthy_bool _ _ _ _ _ _ ?_
          try dsimp only
          (with_reducible show (if _ = true then _ else _)); refine @iteN _ _ _ (by walk_at "yes") ?_
          try dsimp only
          (with_reducible show (if _ = true then _ else _)); refine @iteN _ _ _ (by walk_at "yes") ?_
          try dsimp only
          refine @isTrue_or _ _ _ _ _ _ _ _ _ _ ?_
          try dsimp only
          refine @isTrue_and _ _ _ _ _ _ _ _ _ _ ?_
          try dsimp only
          refine @wpAny_isTrue_Compare1 _ _ _ _ _ _ _ _ _ _ _ ?_ (by with_unfolding_all rfl)
          try dsimp only
          refine @nm_local _ _ _ _ _ _ _ _ _ _ _ _ _ (by assumption) (by walk_at "dv") ?_ (by rfl) (by rfl) (by decide)
          try dsimp only
          refine @cst_S _ _ _ _ _ _ _ _ _ _ (by exact lit8) ?_; intro _ _
          try dsimp only
          with_reducible refine eq_S ?_
          try dsimp only
          refine @wpAny_truthy_bool _ _ _ _ _ _ ?_
          try dsimp only
          (with_reducible show (if _ = true then _ else _)); refine @iteN _ _ _ (by walk_at "yes") ?_
          try dsimp only
          (with_reducible show (if _ = true then _ else _)); refine @iteN _ _ _ (by walk_at "yes") ?_
          try dsimp only
          refine @isTrue_or_nil _ _ _ _ _ _ _ _ ?_
          try dsimp only
          (with_reducible show (if _ = true then _ else _)); refine @iteN _ _ _ (by walk_at "yes") ?_
          try dsimp only
          (with_reducible show wpAny _ _ (execs _ _) _ _ _); (try clear kS); with_reducible refine ex_cons ?_; intro kS
          try dsimp only
          refine @wpAny_Assign_Name _ _ _ _ _ _ _ _ _ _ ?_ (by rfl)
          try dsimp only
          refine @wpAny_BinOp _ _ _ _ _ _ _ _ _ _ ?_
          try dsimp only
          refine @nm_local _ _ _ _ _ _ _ _ _ _ _ _ _ (by assumption) (by walk_at "dv") ?_ (by rfl) (by rfl) (by decide)
          try dsimp only
          refine @nm_local _ _ _ _ _ _ _ _ _ _ _ _ _ (by assumption) (by walk_at "dv") ?_ (by rfl) (by rfl) (by decide)
          try dsimp only
          refine @add_S _ _ _ _ _ _ _ _ _ ?_ (by walk_at "sz"); intro _ _
          try dsimp only
          refine @st_localL _ _ _ _ _ _ _ _ _ _ _ _ (by assumption) ?_ (by rfl) (by rfl); intro _ _ _ _
          try dsimp only
          (with_reducible show wpAny _ _ (execs _ _) _ _ _); (try clear kS); with_reducible refine ex_cons ?_; intro kS
          try dsimp only
          refine @wpAny_Assign_Name _ _ _ _ _ _ _ _ _ _ ?_ (by rfl)
          try dsimp only
          refine @IfExp_ _ _ _ _ _ _ _ _ _ _ ?_
          try dsimp only
          refine @wpAny_isTrue_Compare1 _ _ _ _ _ _ _ _ _ _ _ ?_ (by with_unfolding_all rfl)
          try dsimp only
          refine @nm_local _ _ _ _ _ _ _ _ _ _ _ _ _ (by assumption) (by walk_at "dv") ?_ (by rfl) (by rfl) (by decide)
          try dsimp only
          refine @List_ _ _ _ _ _ _ _ _ ?_
          try dsimp only
          refine @spliced_more _ _ _ _ _ _ _ _ _ ?_ (by rfl)
          try dsimp only
          refine @cst_S _ _ _ _ _ _ _ _ _ _ (by exact lit11) ?_; intro _ _
          try dsimp only
          refine @spliced_more _ _ _ _ _ _ _ _ _ ?_ (by rfl)
          try dsimp only
          refine @cst_S _ _ _ _ _ _ _ _ _ _ (by exact lit8) ?_; intro _ _
          try dsimp only
          refine @spliced_none _ _ _ _ _ _ _ ?_
          try dsimp only
          refine @newList_sdL _ _ _ _ _ _ _ _ _ _ _ (by assumption) ?_ (by exact sz_lit rfl); intro _ _ _ _ _
          try dsimp only
          refine @in_Ls _ _ _ _ _ _ _ _ _ _ _ _ _ _ _ _ (by assumption) (by walk_at "mem") (.cons ⟨_, rfl⟩ (.cons ⟨_, rfl⟩ .nil)) ?_
          try dsimp only
          refine @wpAny_truthy_bool _ _ _ _ _ _ ?_
          try dsimp only
          (with_reducible show (if _ = true then _ else _)); refine @iteN _ _ _ (by walk_at "yes") ?_
          try dsimp only
          refine @cst_S _ _ _ _ _ _ _ _ _ _ (by exact lit5) ?_; intro _ _
          try dsimp only
          refine @st_localL _ _ _ _ _ _ _ _ _ _ _ _ (by assumption) ?_ (by rfl) (by rfl); intro _ _ _ _
          try dsimp only
          (with_reducible show wpAny _ _ (execs _ _) _ _ _); (try clear kS); with_reducible refine wpAny_execs_nil ?_
          try dsimp only
          (with_reducible show wpAny _ _ (execs _ _) _ _ _); (try clear kS); with_reducible refine wpAny_execs_nil ?_
          try dsimp only
          (with_reducible show wpAny _ _ (execs _ _) _ _ _); (try clear kS); with_reducible refine wpAny_execs_nil ?_
          try dsimp only
          (with_reducible show wpAny _ _ (execs _ _) _ _ _); (try clear kS); with_reducible refine wpAny_execs_nil ?_
          try dsimp only
          rename Sd H _ _ _ _ _ => D9
          first | exact ⟨_, _, _, _, rfl, D9, _, _, _, _, ⟨rfl, rfl, rfl, trivial⟩, rfl, hf', hok', by lia⟩ | exact ⟨_, _, _, _, rfl, D9.drop 0, _, _, _, _, ⟨rfl, rfl, rfl, trivial⟩, rfl, hf', hok', by lia⟩
    · unfold fstep at hst
      rw [if_neg (by intro q; cases q), if_neg (by rintro (⟨q, _⟩ | ⟨q, _⟩) <;> cases q), if_neg (by rintro (⟨q, _⟩ | ⟨q, _⟩ | ⟨q, _⟩) <;> cases q)] at hst
      try dsimp only at hst
      cases hst
      (with_reducible show wpAny _ _ (execs _ _) _ _ _); (try clear kS); with_reducible refine ex_cons ?_; intro kS
      try dsimp only
      refine @wpAny_If _ _ _ _ _ _ _ _ _ _ ?_
      try dsimp only
      refine @wpAny_isTrue_Compare1 _ _ _ _ _ _ _ _ _ _ _ ?_ (by with_unfolding_all rfl)
      try dsimp only
      refine @nm_local _ _ _ _ _ _ _ _ _ _ _ _ _ (by assumption) (by walk_at "dv") ?_ (by rfl) (by rfl) (by decide)
      try dsimp only
      refine @cst_S _ _ _ _ _ _ _ _ _ _ (by exact lit5) ?_; intro _ _
      try dsimp only
      with_reducible refine eq_S ?_
      try dsimp only
      refine @wpAny_truthy_bool _ _ _ _ _ _ ?_
      try dsimp only
      (with_reducible show (if _ = true then _ else _)); refine @iteN _ _ _ (by walk_at "yes") ?_
      try dsimp only
      (with_reducible show wpAny _ _ (execs _ _) _ _ _); (try clear kS); with_reducible refine ex_cons ?_; intro kS
      try dsimp only
      refine @wpAny_If _ _ _ _ _ _ _ _ _ _ ?_
      try dsimp only
      refine @isTrue_or _ _ _ _ _ _ _ _ _ _ ?_
      try dsimp only
      refine @isTrue_and _ _ _ _ _ _ _ _ _ _ ?_
      try dsimp only
      refine @wpAny_isTrue_Compare1 _ _ _ _ _ _ _ _ _ _ _ ?_ (by with_unfolding_all rfl)
      try dsimp only
      refine @nm_local _ _ _ _ _ _ _ _ _ _ _ _ _ (by assumption) (by walk_at "dv") ?_ (by rfl) (by rfl) (by decide)
      try dsimp only
      refine @cst_S _ _ _ _ _ _ _ _ _ _ (by exact lit11) ?_; intro _ _
      try dsimp only
      with_reducible refine eq_S ?_
      try dsimp only
      refine @wpAny_truthy_bool _ _ _ _ _ _ ?_
      try dsimp only
      (with_reducible show (if _ = true then _ else _)); refine @iteN _ _ _ (by walk_at "yes") ?_
      try dsimp only
      (with_reducible show (if _ = true then _ else _)); refine @iteN _ _ _ (by walk_at "yes") ?_
      try dsimp only
      refine @isTrue_or _ _ _ _ _ _ _ _ _ _ ?_
      try dsimp only
      refine @isTrue_and _ _ _ _ _ _ _ _ _ _ ?_
      try dsimp only
      refine @wpAny_isTrue_Compare1 _ _ _ _ _ _ _ _ _ _ _ ?_ (by with_unfolding_all rfl)
      try dsimp only
      refine @nm_local _ _ _ _ _ _ _ _ _ _ _ _ _ (by assumption) (by walk_at "dv") ?_ (by rfl) (by rfl) (by decide)
      try dsimp only
      refine @cst_S _ _ _ _ _ _ _ _ _ _ (by exact lit3) ?_; intro _ _
      try dsimp only
      with_reducible refine eq_S ?_
      try dsimp only
      refine @wpAny_truthy_bool _ _ _ _ _ _ ?_
      try dsimp only
      (with_reducible show (if _ = true then _ else _)); refine @iteN _ _ _ (by walk_at "yes") ?_
      try dsimp only
      (with_reducible show (if _ = true then _ else _)); refine @iteN _ _ _ (by walk_at "yes") ?_
      try dsimp only
      refine @isTrue_or_nil _ _ _ _ _ _ _ _ ?_
      try dsimp only
      (with_reducible show (if _ = true then _ else _)); refine @iteN _ _ _ (by walk_at "yes") ?_
      try dsimp only
      (with_reducible show wpAny _ _ (execs _ _) _ _ _); (try clear kS); with_reducible refine ex_cons ?_; intro kS
      try dsimp only
      refine @wpAny_If _ _ _ _ _ _ _ _ _ _ ?_
      try dsimp only
      refine @isTrue_or _ _ _ _ _ _ _ _ _ _ ?_
      try dsimp only
      refine @isTrue_and _ _ _ _ _ _ _ _ _ _ ?_
      try dsimp only
      refine @wpAny_isTrue_Compare1 _ _ _ _ _ _ _ _ _ _ _ ?_ (by with_unfolding_all rfl)
      try dsimp only
      refine @nm_local _ _ _ _ _ _ _ _ _ _ _ _ _ (by assumption) (by walk_at "dv") ?_ (by rfl) (by rfl) (by decide)
      try dsimp only
      refine @cst_S _ _ _ _ _ _ _ _ _ _ (by exact lit11) ?_; intro _ _
      try dsimp only
      with_reducible refine eq_S ?_
      try dsimp only
      refine @wpAny_truthy_bool _ _ _ _ _ _ ?_
      try dsimp only
      (with_reducible show (if _ = true then _ else _)); refine @iteN _ _ _ (by walk_at "yes") ?_
      try dsimp only
      (with_reducible show (if _ = true then _ else _)); refine @iteN _ _ _ (by walk_at "yes") ?_
      try dsimp only
      refine @isTrue_or _ _ _ _ _ _ _ _ _ _ ?_
      try dsimp only
      refine @isTrue_and _ _ _ _ _ _ _ _ _ _ ?_
      try dsimp only
      refine @wpAny_isTrue_Compare1 _ _ _ _ _ _ _ _ _ _ _ ?_ (by with_unfolding_all rfl)
      try dsimp only
      refine @nm_local _ _ _ _ _ _ _ _ _ _ _ _ _ (by assumption) (by walk_at "dv") ?_ (by rfl) (by rfl) (by decide)
      try dsimp only
      refine @cst_S _ _ _ _ _ _ _ _ _ _ (by exact lit3) ?_; intro _ _
      try dsimp only
      with_reducible refine eq_S ?_
      try dsimp only
      refine @wpAny_truthy_bool _ _ _ _ _ _ ?_
      try dsimp only
      (with_reducible show (if _ = true then _ else _)); refine @iteN _ _ _ (by walk_at "yes") ?_
      try dsimp only
      (with_reducible show (if _ = true then _ else _)); refine @iteN _ _ _ (by walk_at "yes") ?_
      try dsimp only
      refine @isTrue_or _ _ _ _ _ _ _ _ _ _ ?_
      try dsimp only
      refine @isTrue_and _ _ _ _ _ _ _ _ _ _ ?_
      try dsimp only
      refine @wpAny_isTrue_Compare1 _ _ _ _ _ _ _ _ _ _ _ ?_ (by with_unfolding_all rfl)
      try dsimp only
      refine @nm_local _ _ _ _ _ _ _ _ _ _ _ _ _ (by assumption) (by walk_at "dv") ?_ (by rfl) (by rfl) (by decide)
      try dsimp only
      refine @cst_S _ _ _ _ _ _ _ _ _ _ (by exact lit8) ?_; intro _ _
      try dsimp only
      with_reducible refine eq_S ?_
      try dsimp only
      refine @wpAny_truthy_bool _ _ _ _ _ _ ?_
      try dsimp only
      (with_reducible show (if _ = true then _ else _)); refine @iteN _ _ _ (by walk_at "yes") ?_
      try dsimp only
      (with_reducible show (if _ = true then _ else _)); refine @iteN _ _ _ (by walk_at "yes") ?_
      try dsimp only
      refine @isTrue_or_nil _ _ _ _ _ _ _ _ ?_
      try dsimp only
      (with_reducible show (if _ = true then _ else _)); refine @iteN _ _ _ (by walk_at "yes") ?_
      try dsimp only
      (with_reducible show wpAny _ _ (execs _ _) _ _ _); (try clear kS); with_reducible refine ex_cons ?_; intro kS
      try dsimp only
      refine @wpAny_Assign_Name _ _ _ _ _ _ _ _ _ _ ?_ (by rfl)
      try dsimp only
      refine @wpAny_BinOp _ _ _ _ _ _ _ _ _ _ ?_
      try dsimp only
      refine @nm_local _ _ _ _ _ _ _ _ _ _ _ _ _ (by assumption) (by walk_at "dv") ?_ (by rfl) (by rfl) (by decide)
      try dsimp only
      refine @nm_local _ _ _ _ _ _ _ _ _ _ _ _ _ (by assumption) (by walk_at "dv") ?_ (by rfl) (by rfl) (by decide)
      try dsimp only
      refine @add_S _ _ _ _ _ _ _ _ _ ?_ (by walk_at "sz"); intro _ _
      try dsimp only
      refine @st_localL _ _ _ _ _ _ _ _ _ _ _ _ (by assumption) ?_ (by rfl) (by rfl); intro _ _ _ _
      try dsimp only
      (with_reducible show wpAny _ _ (execs _ _) _ _ _); (try clear kS); with_reducible refine ex_cons ?_; intro kS
      try dsimp only
      refine @wpAny_Assign_Name _ _ _ _ _ _ _ _ _ _ ?_ (by rfl)
      try dsimp only
      refine @IfExp_ _ _ _ _ _ _ _ _ _ _ ?_
      try dsimp only
      refine @wpAny_isTrue_Compare1 _ _ _ _ _ _ _ _ _ _ _ ?_ (by with_unfolding_all rfl)
      try dsimp only
      refine @nm_local _ _ _ _ _ _ _ _ _ _ _ _ _ (by assumption) (by walk_at "dv") ?_ (by rfl) (by rfl) (by decide)
      try dsimp only
      refine @List_ _ _ _ _ _ _ _ _ ?_
      try dsimp only
      refine @spliced_more _ _ _ _ _ _ _ _ _ ?_ (by rfl)
      try dsimp only
      refine @cst_S _ _ _ _ _ _ _ _ _ _ (by exact lit11) ?_; intro _ _
      try dsimp only
      refine @spliced_more _ _ _ _ _ _ _ _ _ ?_ (by rfl)
      try dsimp only
      refine @cst_S _ _ _ _ _ _ _ _ _ _ (by exact lit8) ?_; intro _ _
      try dsimp only
      refine @spliced_none _ _ _ _ _ _ _ ?_
      try dsimp only
      refine @newList_sdL _ _ _ _ _ _ _ _ _ _ _ (by assumption) ?_ (by exact sz_lit rfl); intro _ _ _ _ _
      try dsimp only
      refine @in_Ls _ _ _ _ _ _ _ _ _ _ _ _ _ _ _ _ (by assumption) (by walk_at "mem") (.cons ⟨_, rfl⟩ (.cons ⟨_, rfl⟩ .nil)) ?_
      try dsimp only
      refine @wpAny_truthy_bool _ _ _ _ _ _ ?_
      try dsimp only
      (with_reducible show (if _ = true then _ else _)); refine @iteN _ _ _ (by walk_at "yes") ?_
      try dsimp only
      refine @cst_S _ _ _ _ _ _ _ _ _ _ (by exact lit5) ?_; intro _ _
      try dsimp only
      refine @st_localL _ _ _ _ _ _ _ _ _ _ _ _ (by assumption) ?_ (by rfl) (by rfl); intro _ _ _ _
      try dsimp only
      (with_reducible show wpAny _ _ (execs _ _) _ _ _); (try clear kS); with_reducible refine wpAny_execs_nil ?_
      try dsimp only
      (with_reducible show wpAny _ _ (execs _ _) _ _ _); (try clear kS); with_reducible refine wpAny_execs_nil ?_
      try dsimp only
      (with_reducible show wpAny _ _ (execs _ _) _ _ _); (try clear kS); with_reducible refine wpAny_execs_nil ?_
      try dsimp only
      (with_reducible show wpAny _ _ (execs _ _) _ _ _); (try clear kS); with_reducible refine wpAny_execs_nil ?_
      try dsimp only
      rename Sd H _ _ _ _ _ => D9
      first | exact ⟨_, _, _, _, rfl, D9, _, _, _, _, ⟨rfl, rfl, rfl, trivial⟩, rfl, hf', hok', by lia⟩ | exact ⟨_, _, _, _, rfl, D9.drop 0, _, _, _, _, ⟨rfl, rfl, rfl, trivial⟩, rfl, hf', hok', by lia⟩
    · by_cases h1 : c = 97
      · unfold fstep at hst
        rw [if_neg (by intro q; cases q), if_neg (by rintro (⟨q, _⟩ | ⟨q, _⟩) <;> cases q), if_pos (.inr (.inr ⟨rfl, h1⟩))] at hst
        try dsimp only at hst
        cases hst
      · have h1' : ¬ ([c] = [97]) := fun q => h1 (List.cons.inj q).1
        unfold fstep at hst
        rw [if_neg (by intro q; cases q), if_neg (by rintro (⟨q, _⟩ | ⟨q, _⟩) <;> cases q), if_neg (by rintro (⟨q, _⟩ | ⟨q, _⟩ | ⟨_, q⟩); cases q; cases q; exact h1 q)] at hst
        try dsimp only at hst
        cases hst
        (with_reducible show wpAny _ _ (execs _ _) _ _ _); (try clear kS); with_reducible refine ex_cons ?_; intro kS
        try dsimp only
        refine @wpAny_If _ _ _ _ _ _ _ _ _ _ ?_
        try dsimp only
        refine @wpAny_isTrue_Compare1 _ _ _ _ _ _ _ _ _ _ _ ?_ (by with_unfolding_all rfl)
        try dsimp only
        refine @nm_local _ _ _ _ _ _ _ _ _ _ _ _ _ (by assumption) (by walk_at "dv") ?_ (by rfl) (by rfl) (by decide)
        try dsimp only
        refine @cst_S _ _ _ _ _ _ _ _ _ _ (by exact lit5) ?_; intro _ _
        try dsimp only
        with_reducible refine eq_S ?_
        try dsimp only
        refine @wpAny_truthy_bool _ _ _ _ _ _ ?_
        try dsimp only
        (with_reducible show (if _ = true then _ else _)); refine @iteN _ _ _ (by walk_at "yes") ?_
        try dsimp only
        (with_reducible show wpAny _ _ (execs _ _) _ _ _); (try clear kS); with_reducible refine ex_cons ?_; intro kS
        try dsimp only
        refine @wpAny_If _ _ _ _ _ _ _ _ _ _ ?_
        try dsimp only
        refine @isTrue_or _ _ _ _ _ _ _ _ _ _ ?_
        try dsimp only
        refine @isTrue_and _ _ _ _ _ _ _ _ _ _ ?_
        try dsimp only
        refine @wpAny_isTrue_Compare1 _ _ _ _ _ _ _ _ _ _ _ ?_ (by with_unfolding_all rfl)
        try dsimp only
        refine @nm_local _ _ _ _ _ _ _ _ _ _ _ _ _ (by assumption) (by walk_at "dv") ?_ (by rfl) (by rfl) (by decide)
        try dsimp only
        refine @cst_S _ _ _ _ _ _ _ _ _ _ (by exact lit11) ?_; intro _ _
        try dsimp only
        with_reducible refine eq_S ?_
        try dsimp only
        refine @wpAny_truthy_bool _ _ _ _ _ _ ?_
        try dsimp only
        (with_reducible show (if _ = true then _ else _)); refine @iteN _ _ _ (by walk_at "yes") ?_
        try dsimp only
        (with_reducible show (if _ = true then _ else _)); refine @iteN _ _ _ (by walk_at "yes") ?_
        try dsimp only
        refine @isTrue_or _ _ _ _ _ _ _ _ _ _ ?_
        try dsimp only
        refine @isTrue_and _ _ _ _ _ _ _ _ _ _ ?_
        try dsimp only
        refine @wpAny_isTrue_Compare1 _ _ _ _ _ _ _ _ _ _ _ ?_ (by with_unfolding_all rfl)
        try dsimp only
        refine @nm_local _ _ _ _ _ _ _ _ _ _ _ _ _ (by assumption) (by walk_at "dv") ?_ (by rfl) (by rfl) (by decide)
        try dsimp only
        refine @cst_S _ _ _ _ _ _ _ _ _ _ (by exact lit3) ?_; intro _ _
        try dsimp only
        with_reducible refine eq_S ?_
        try dsimp only
        refine @wpAny_truthy_bool _ _ _ _ _ _ ?_
        try dsimp only
        (with_reducible show (if _ = true then _ else _)); refine @iteN _ _ _ (by walk_at "yes") ?_
        try dsimp only
        (with_reducible show (if _ = true then _ else _)); refine @iteN _ _ _ (by walk_at "yes") ?_
        try dsimp only
        refine @isTrue_or_nil _ _ _ _ _ _ _ _ ?_
        try dsimp only
        (with_reducible show (if _ = true then _ else _)); refine @iteN _ _ _ (by walk_at "yes") ?_
        try dsimp only
        (with_reducible show wpAny _ _ (execs _ _) _ _ _); (try clear kS); with_reducible refine ex_cons ?_; intro kS
        try dsimp only
        refine @wpAny_If _ _ _ _ _ _ _ _ _ _ ?_
        try dsimp only
        refine @isTrue_or _ _ _ _ _ _ _ _ _ _ ?_
        try dsimp only
        refine @isTrue_and _ _ _ _ _ _ _ _ _ _ ?_
        try dsimp only
        refine @wpAny_isTrue_Compare1 _ _ _ _ _ _ _ _ _ _ _ ?_ (by with_unfolding_all rfl)
        try dsimp only
        refine @nm_local _ _ _ _ _ _ _ _ _ _ _ _ _ (by assumption) (by walk_at "dv") ?_ (by rfl) (by rfl) (by decide)
        try dsimp only
        refine @cst_S _ _ _ _ _ _ _ _ _ _ (by exact lit11) ?_; intro _ _
        try dsimp only
        with_reducible refine eq_S ?_
        try dsimp only
        refine @wpAny_truthy_bool _ _ _ _ _ _ ?_
        try dsimp only
        (with_reducible show (if _ = true then _ else _)); refine @iteN _ _ _ (by walk_at "yes") ?_
        try dsimp only
        (with_reducible show (if _ = true then _ else _)); refine @iteN _ _ _ (by walk_at "yes") ?_
        try dsimp only
        refine @isTrue_or _ _ _ _ _ _ _ _ _ _ ?_
        try dsimp only
        refine @isTrue_and _ _ _ _ _ _ _ _ _ _ ?_
        try dsimp only
        refine @wpAny_isTrue_Compare1 _ _ _ _ _ _ _ _ _ _ _ ?_ (by with_unfolding_all rfl)
        try dsimp only
        refine @nm_local _ _ _ _ _ _ _ _ _ _ _ _ _ (by assumption) (by walk_at "dv") ?_ (by rfl) (by rfl) (by decide)
        try dsimp only
        refine @cst_S _ _ _ _ _ _ _ _ _ _ (by exact lit3) ?_; intro _ _
        try dsimp only
        with_reducible refine eq_S ?_
        try dsimp only
        refine @wpAny_truthy_bool _ _ _ _ _ _ ?_
        try dsimp only
        (with_reducible show (if _ = true then _ else _)); refine @iteN _ _ _ (by walk_at "yes") ?_
        try dsimp only
        (with_reducible show (if _ = true then _ else _)); refine @iteN _ _ _ (by walk_at "yes") ?_
        try dsimp only
        refine @isTrue_or _ _ _ _ _ _ _ _ _ _ ?_
        try dsimp only
        refine @isTrue_and _ _ _ _ _ _ _ _ _ _ ?_
        try dsimp only
        refine @wpAny_isTrue_Compare1 _ _ _ _ _ _ _ _ _ _ _ ?_ (by with_unfolding_all rfl)
        try dsimp only
        refine @nm_local _ _ _ _ _ _ _ _ _ _ _ _ _ (by assumption) (by walk_at "dv") ?_ (by rfl) (by rfl) (by decide)
        try dsimp only
        refine @cst_S _ _ _ _ _ _ _ _ _ _ (by exact lit8) ?_; intro _ _
        try dsimp only
        with_reducible refine eq_S ?_
        try dsimp only
        refine @wpAny_truthy_bool _ _ _ _ _ _ ?_
        try dsimp only
        (with_reducible show (if _ = true then _ else _)); refine @iteY _ _ _ (by walk_at "yes") ?_
        try dsimp only
        refine @isTrue_and _ _ _ _ _ _ _ _ _ _ ?_
        try dsimp only
        refine @wpAny_isTrue_Compare1 _ _ _ _ _ _ _ _ _ _ _ ?_ (by with_unfolding_all rfl)
        try dsimp only
        refine @nm_local _ _ _ _ _ _ _ _ _ _ _ _ _ (by assumption) (by walk_at "dv") ?_ (by rfl) (by rfl) (by decide)
        try dsimp only
        refine @cst_S _ _ _ _ _ _ _ _ _ _ (by exact lit18) ?_; intro _ _
        try dsimp only
        with_reducible refine eq_S ?_
        try dsimp only
        refine @wpAny_truthy_bool _ _ _ _ _ _ ?_
        try dsimp only
        (with_reducible show (if _ = true then _ else _)); refine @iteN _ _ _ (by walk_at "yes") ?_
        try dsimp only
        (with_reducible show (if _ = true then _ else _)); refine @iteN _ _ _ (by walk_at "yes") ?_
        try dsimp only
        refine @isTrue_or_nil _ _ _ _ _ _ _ _ ?_
        try dsimp only
        (with_reducible show (if _ = true then _ else _)); refine @iteN _ _ _ (by walk_at "yes") ?_
        try dsimp only
        (with_reducible show wpAny _ _ (execs _ _) _ _ _); (try clear kS); with_reducible refine ex_cons ?_; intro kS
        try dsimp only
        refine @wpAny_Assign_Name _ _ _ _ _ _ _ _ _ _ ?_ (by rfl)
        try dsimp only
        refine @wpAny_BinOp _ _ _ _ _ _ _ _ _ _ ?_
        try dsimp only
        refine @nm_local _ _ _ _ _ _ _ _ _ _ _ _ _ (by assumption) (by walk_at "dv") ?_ (by rfl) (by rfl) (by decide)
        try dsimp only
        refine @nm_local _ _ _ _ _ _ _ _ _ _ _ _ _ (by assumption) (by walk_at "dv") ?_ (by rfl) (by rfl) (by decide)
        try dsimp only
        refine @add_S _ _ _ _ _ _ _ _ _ ?_ (by walk_at "sz"); intro _ _
        try dsimp only
        refine @st_localL _ _ _ _ _ _ _ _ _ _ _ _ (by assumption) ?_ (by rfl) (by rfl); intro _ _ _ _
        try dsimp only
        (with_reducible show wpAny _ _ (execs _ _) _ _ _); (try clear kS); with_reducible refine ex_cons ?_; intro kS
        try dsimp only
        refine @wpAny_Assign_Name _ _ _ _ _ _ _ _ _ _ ?_ (by rfl)
        try dsimp only
        refine @IfExp_ _ _ _ _ _ _ _ _ _ _ ?_
        try dsimp only
        refine @wpAny_isTrue_Compare1 _ _ _ _ _ _ _ _ _ _ _ ?_ (by with_unfolding_all rfl)
        try dsimp only
        refine @nm_local _ _ _ _ _ _ _ _ _ _ _ _ _ (by assumption) (by walk_at "dv") ?_ (by rfl) (by rfl) (by decide)
        try dsimp only
        refine @List_ _ _ _ _ _ _ _ _ ?_
        try dsimp only
        refine @spliced_more _ _ _ _ _ _ _ _ _ ?_ (by rfl)
        try dsimp only
        refine @cst_S _ _ _ _ _ _ _ _ _ _ (by exact lit11) ?_; intro _ _
        try dsimp only
        refine @spliced_more _ _ _ _ _ _ _ _ _ ?_ (by rfl)
        try dsimp only
        refine @cst_S _ _ _ _ _ _ _ _ _ _ (by exact lit8) ?_; intro _ _
        try dsimp only
        refine @spliced_none _ _ _ _ _ _ _ ?_
        try dsimp only
        refine @newList_sdL _ _ _ _ _ _ _ _ _ _ _ (by assumption) ?_ (by exact sz_lit rfl); intro _ _ _ _ _
        try dsimp only
        refine @in_Ls _ _ _ _ _ _ _ _ _ _ _ _ _ _ _ _ (by assumption) (by walk_at "mem") (.cons ⟨_, rfl⟩ (.cons ⟨_, rfl⟩ .nil)) ?_
        try dsimp only
        refine @wpAny_truthy_bool _ _ _ _ _ _ ?_
        try dsimp only
        (with_reducible show (if _ = true then _ else _)); refine @iteY _ _ _ (by walk_at "yes") ?_
        try dsimp only
        refine @cst_S _ _ _ _ _ _ _ _ _ _ (by exact lit11) ?_; intro _ _
        try dsimp only
        refine @st_localL _ _ _ _ _ _ _ _ _ _ _ _ (by assumption) ?_ (by rfl) (by rfl); intro _ _ _ _
        try dsimp only
        (with_reducible show wpAny _ _ (execs _ _) _ _ _); (try clear kS); with_reducible refine wpAny_execs_nil ?_
        try dsimp only
        (with_reducible show wpAny _ _ (execs _ _) _ _ _); (try clear kS); with_reducible refine wpAny_execs_nil ?_
        try dsimp only
        (with_reducible show wpAny _ _ (execs _ _) _ _ _); (try clear kS); with_reducible refine wpAny_execs_nil ?_
        try dsimp only
        (with_reducible show wpAny _ _ (execs _ _) _ _ _); (try clear kS); with_reducible refine wpAny_execs_nil ?_
        try dsimp only
        rename Sd H _ _ _ _ _ => D9
        first | exact ⟨_, _, _, _, rfl, D9, _, _, _, _, ⟨rfl, rfl, rfl, trivial⟩, rfl, hf', hok', by lia⟩ | exact ⟨_, _, _, _, rfl, D9.drop 0, _, _, _, _, ⟨rfl, rfl, rfl, trivial⟩, rfl, hf', hok', by lia⟩
    · by_cases h1 : c = 93
      · subst h1
        unfold fstep at hst
        rw [if_pos rfl, if_pos rfl] at hst
        try dsimp only at hst
        cases hst
        (with_reducible show wpAny _ _ (execs _ _) _ _ _); (try clear kS); with_reducible refine ex_cons ?_; intro kS
        try dsimp only
        refine @wpAny_If _ _ _ _ _ _ _ _ _ _ ?_
        try dsimp only
        refine @wpAny_isTrue_Compare1 _ _ _ _ _ _ _ _ _ _ _ ?_ (by with_unfolding_all rfl)
        try dsimp only
        refine @nm_local _ _ _ _ _ _ _ _ _ _ _ _ _ (by assumption) (by walk_at "dv") ?_ (by rfl) (by rfl) (by decide)
        try dsimp only
        refine @cst_S _ _ _ _ _ _ _ _ _ _ (by exact lit5) ?_; intro _ _
        try dsimp only
        with_reducible refine eq_S ?_
        try dsimp only
        refine @wpAny_truthy_bool _ _ _ _ _ _ ?_
        try dsimp only
        (with_reducible show (if _ = true then _ else _)); refine @iteY _ _ _ (by walk_at "yes") ?_
        try dsimp only
        (with_reducible show wpAny _ _ (execs _ _) _ _ _); (try clear kS); with_reducible refine ex_cons ?_; intro kS
        try dsimp only
        refine @wpAny_If _ _ _ _ _ _ _ _ _ _ ?_
        try dsimp only
        refine @wpAny_isTrue_Compare1 _ _ _ _ _ _ _ _ _ _ _ ?_ (by with_unfolding_all rfl)
        try dsimp only
        refine @nm_local _ _ _ _ _ _ _ _ _ _ _ _ _ (by assumption) (by walk_at "dv") ?_ (by rfl) (by rfl) (by decide)
        try dsimp only
        refine @cst_S _ _ _ _ _ _ _ _ _ _ (by exact lit5) ?_; intro _ _
        try dsimp only
        with_reducible refine ne_S ?_
        try dsimp only
        refine @wpAny_truthy_bool _ _ _ _ _ _ ?_
        try dsimp only
        (with_reducible show (if _ = true then _ else _)); refine @iteN _ _ _ (by walk_at "yes") ?_
        try dsimp only
        (with_reducible show wpAny _ _ (execs _ _) _ _ _); (try clear kS); with_reducible refine wpAny_execs_nil ?_
        try dsimp only
        (with_reducible show wpAny _ _ (execs _ _) _ _ _); (try clear kS); with_reducible refine ex_cons ?_; intro kS
        try dsimp only
        refine @wpAny_Assign_Name _ _ _ _ _ _ _ _ _ _ ?_ (by rfl)
        try dsimp only
        refine @cst_S _ _ _ _ _ _ _ _ _ _ (by exact lit11) ?_; intro _ _
        try dsimp only
        refine @st_localL _ _ _ _ _ _ _ _ _ _ _ _ (by assumption) ?_ (by rfl) (by rfl); intro _ _ _ _
        try dsimp only
        (with_reducible show wpAny _ _ (execs _ _) _ _ _); (try clear kS); with_reducible refine wpAny_execs_nil ?_
        try dsimp only
        (with_reducible show wpAny _ _ (execs _ _) _ _ _); (try clear kS); with_reducible refine wpAny_execs_nil ?_
        try dsimp only
        rename Sd H _ _ _ _ _ => D9
        first | exact ⟨_, _, _, _, rfl, D9, _, _, _, _, ⟨rfl, rfl, rfl, trivial⟩, rfl, hf', hok', by lia⟩ | exact ⟨_, _, _, _, rfl, D9.drop 0, _, _, _, _, ⟨rfl, rfl, rfl, trivial⟩, rfl, hf', hok', by lia⟩
      · unfold fstep at hst
        rw [if_pos rfl, if_neg h1] at hst
        try dsimp only at hst
        cases hst
  · rintro m1 led1 h3 tk3 ⟨sg, st, ts, tt, hm, rfl, hf, hok, hsg⟩ D3
    rw [List.take_of_length_le (Nat.le_refl _), hall] at hf
    cases hf
    have D4 := D3.lo hm
    (with_reducible show wpAny _ _ (execs _ _) _ _ _); (try clear kS); with_reducible refine ex_cons ?_; intro kS
    try dsimp only
    refine @wpAny_Return_some _ _ _ _ _ _ _ _ ?_
    try dsimp only
    refine @IfExp_ _ _ _ _ _ _ _ _ _ _ ?_
    try dsimp only
    refine @wpAny_isTrue_Compare1 _ _ _ _ _ _ _ _ _ _ _ ?_ (by with_unfolding_all rfl)
    try dsimp only
    refine @nm_local _ _ _ _ _ _ _ _ _ _ _ _ _ (by assumption) (by walk_at "dv") ?_ (by rfl) (by rfl) (by decide)
    try dsimp only
    refine @cst_S _ _ _ _ _ _ _ _ _ _ (by exact lit11) ?_; intro _ _
    try dsimp only
    with_reducible refine eq_S ?_
    try dsimp only
    refine @wpAny_truthy_bool _ _ _ _ _ _ ?_
    try dsimp only
    (with_reducible show (if _ = true then _ else _)); refine @iteY _ _ _ (by walk_at "yes") ?_
    try dsimp only
    refine @nm_local _ _ _ _ _ _ _ _ _ _ _ _ _ (by assumption) (by walk_at "dv") ?_ (by rfl) (by rfl) (by decide)
    try dsimp only
    exact h _ _ _ (lv _ _ _ _ D4)
end
end Mine

open PySem PySem.W PySem.Calls PyProof.Rows
set_option Elab.async false
set_option maxRecDepth 100000
set_option autoImplicit false
set_option maxHeartbeats 4000000
namespace Mine
section
variable {w : World} {A : Around} {s : Shared} {H : Heap} {fs : Ledg} {L : Addr} {m mg mb : Vm} {own kl : Ledg} {pp : Program} {loose : List Str} {mean : ExcName → Option Value}
theorem ops_len : ∀ x ∈ ops70.map (·.1), x.length ≤ 3 := by decide
theorem tk_len (hd x : List Nat) (h : x ∈ tk hd) : x.length ≤ 3 := ops_len x (List.mem_filter.mp h).1
theorem ct_takers {hd : List Nat} {t : Tok} {ps : Array Value} {kd : Addr} {ko : Obj} {kv : Kv} {Q : Value → Shared → Prop} (X : (Mine.KK0 w.params).In H) (T : Top pp loose mean mg mb H) (CH : CodeHd H 61 57) (hh : A.handled = none) (hdp : A.depth + 12 < recursionLimit)
    (D : Sd H fs L m s.heap (own ++ (57, tabObj ps) :: (kd, ko) :: kl)) (ht : TriplesOk ps.toList) (ho : DO PR w kv ko) (hI : KInv kv kl) (hpre : 1 < hd.length → (vat kv hd.dropLast).isSome = true) (hl : ∀ c ∈ hd, c < 128) (hsz : hd.length ≤ 50) (hkv : kv.length ≤ 10000) (hsys : (kd == sysModules) = false)
    (h : ∀ l vs n ps' ko' kv' kl' h' tk', Sd H fs L m h' (own ++ (57, tabObj ps') :: (kd, ko') :: kl') → TriplesOk ps'.toList → DO PR w kv' ko' → KInv kv' kl' → kv'.length ≤ kv.length + 1 → (vat kv' hd).isSome = true → (∀ k, (vat kv k).isSome = true → (vat kv' k).isSome = true) →
      (l, listOf vs.toArray n) ∈ kl' → SVs vs (tk hd) → Q (.ref l) { s with heap := h', toks := tk' }) :
    wpAny (model PR w) A (call (.ref 96) [.str (S hd) t, .ref kd]) Q NoE s := by
  have TR := topRead_of T
  have hq := qs_len hd
  refine' call_sdCL (hh := hh) (K := Mine.KK0 w.params) (binds := [("head", .str (S hd) t), ("known", .ref kd)]) D X TR.nolimit ?ho ?hcd ?hroom ?hbind ?hloc ?hcell ?_ ?hco ?hgen ?hk
  walk_at "enterC"
  intro C oL h1 tk1 cells hc D1 lv
  intro env kR A1 hA1 hA2 hA3
  obtain ⟨o1, rfl, hd1⟩ := hc.one
  clear D
  cases hv : vat kv hd with
  | some v =>
    obtain ⟨tp, t1, l, vs, n, rfl, m1, m2, m3⟩ := hI hd v hv
    have hs1 : (vat kv hd).isSome = true := by rw [hv]; rfl
    (with_reducible show wpAny _ _ (execs _ _) _ _ _); (try clear kS); with_reducible refine ex_cons ?_; intro kS
    try dsimp only
    refine @wpAny_If _ _ _ _ _ _ _ _ _ _ ?_
    try dsimp only
    refine @wpAny_isTrue_Compare1 _ _ _ _ _ _ _ _ _ _ _ ?_ (by with_unfolding_all rfl)
    try dsimp only
    refine @nm_local _ _ _ _ _ _ _ _ _ _ _ _ _ (by assumption) (by walk_at "dv") ?_ (by rfl) (by rfl) (by decide)
    try dsimp only
    refine @nm_local _ _ _ _ _ _ _ _ _ _ _ _ _ (by assumption) (by walk_at "dv") ?_ (by rfl) (by rfl) (by decide)
    try dsimp only
    refine @notin_D _ _ _ _ _ _ _ _ _ _ (Sd.get (by assumption) (by walk_at "mem")) (by assumption) (by assumption) ?_; intro _
    try dsimp only
    refine @wpAny_truthy_bool _ _ _ _ _ _ ?_
    try dsimp only
    (with_reducible show (if _ = true then _ else _)); refine @iteN _ _ _ (by walk_at "yes") ?_
    try dsimp only
    (with_reducible show wpAny _ _ (execs _ _) _ _ _); (try clear kS); with_reducible refine wpAny_execs_nil ?_
    try dsimp only
    (with_reducible show wpAny _ _ (execs _ _) _ _ _); (try clear kS); with_reducible refine ex_cons ?_; intro kS
    try dsimp only
    refine @wpAny_Return_some _ _ _ _ _ _ _ _ ?_
    try dsimp only
    refine @Subscript_ _ _ _ _ _ _ _ _ _ ?_
    try dsimp only
    refine @Subscript_ _ _ _ _ _ _ _ _ _ ?_
    try dsimp only
    refine @nm_local _ _ _ _ _ _ _ _ _ _ _ _ _ (by assumption) (by walk_at "dv") ?_ (by rfl) (by rfl) (by decide)
    try dsimp only
    refine @nm_local _ _ _ _ _ _ _ _ _ _ _ _ _ (by assumption) (by walk_at "dv") ?_ (by rfl) (by rfl) (by decide)
    try dsimp only
    refine @tail_D _ _ _ _ _ _ _ _ _ _ _ _ _ (Sd.get (by assumption) (by walk_at "mem")) (by assumption) (by assumption) ?_ (by with_unfolding_all rfl); intro _
    try dsimp only
    refine @cst_int _ _ _ _ _ _ _ _ _ ?_; intro _ _
    try dsimp only
    refine @tail_tup _ _ _ _ _ _ _ _ _ _ _ _ _ _ (1) _ _ _ (by assumption) (by walk_at "mem") (by rfl) (by exact rfl) (by walk_at "sz") ?_ (by rfl)
    try dsimp only
    exact h l vs n _ _ kv kl _ _ (lv _ _ _ _ D1.tail) ht ho hI (Nat.le_succ _) hs1 (fun _ e => e) m2 m3
  | none =>
    have hcut : cut hd none (some (-1)) = hd.dropLast := cut_last hd
    have hqs : (hd.map qc).flatten = qs hd := by unfold qs; rw [List.flatMap_def]
    (with_reducible show wpAny _ _ (execs _ _) _ _ _); (try clear kS); with_reducible refine ex_cons ?_; intro kS
    try dsimp only
    refine @wpAny_If _ _ _ _ _ _ _ _ _ _ ?_
    try dsimp only
    refine @wpAny_isTrue_Compare1 _ _ _ _ _ _ _ _ _ _ _ ?_ (by with_unfolding_all rfl)
    try dsimp only
    refine @nm_local _ _ _ _ _ _ _ _ _ _ _ _ _ (by assumption) (by walk_at "dv") ?_ (by rfl) (by rfl) (by decide)
    try dsimp only
    refine @nm_local _ _ _ _ _ _ _ _ _ _ _ _ _ (by assumption) (by walk_at "dv") ?_ (by rfl) (by rfl) (by decide)
    try dsimp only
    refine @notin_D _ _ _ _ _ _ _ _ _ _ (Sd.get (by assumption) (by walk_at "mem")) (by assumption) (by assumption) ?_; intro _
    try dsimp only
    refine @wpAny_truthy_bool _ _ _ _ _ _ ?_
    try dsimp only
    (with_reducible show (if _ = true then _ else _)); refine @iteY _ _ _ (by walk_at "yes") ?_
    try dsimp only
    (with_reducible show wpAny _ _ (execs _ _) _ _ _); (try clear kS); with_reducible refine ex_cons ?_; intro kS
    try dsimp only
    refine @wpAny_Assign_Name _ _ _ _ _ _ _ _ _ _ ?_ (by rfl)
    try dsimp only
    refine @meth1_str _ _ _ _ _ _ _ _ _ _ _ _ F.slot_str_join F.type_str_join ?_ (by rfl) (by rfl) (by rfl)
    try dsimp only
    refine @cst_S _ _ _ _ _ _ _ _ _ _ (by exact lit11) ?_; intro _ _
    try dsimp only
    refine ⟨⟨_, _, rfl⟩, ?_⟩
    try dsimp only
    refine @listComp_sdL _ _ _ _ _ _ _ _ _ _ _ _ _ _ _ _ _ _ (by assumption) rfl (by decide) rfl (by decide) rfl ?_ (by intro _; rfl); intro _
    try dsimp only
    refine @nm_local _ _ _ _ _ _ _ _ _ _ _ _ _ (by assumption) (by walk_at "dv") ?_ (by rfl) (by rfl) (by decide)
    try dsimp only
    refine lc_anyL (s := s) (it_S (by walk_at "hh") hl) (by lia) D1 (fun i ys led' => led' = (C + 1, o1) :: (own ++ (57, tabObj ps) :: (kd, ko) :: kl) ∧ SVs ys ((hd.take i).map qc)) ⟨rfl, .nil⟩ (fun _ _ _ _ _ hp => by cases hp) ?_ ?_
    · rintro I i ys k oI acc C1 fs₁ env1 KE KT v m₁ led₁ h₁ tk₁ hi ⟨c, u, hc, rfl⟩ ⟨rfl, hys⟩ D3
      have hmq : (hd.take (i + 1)).map qc = (hd.take i).map qc ++ [qc c] := by rw [List.take_add_one, hc]; simp
      by_cases hsp : c ∈ [42, 63, 91]
      · have hqc : qc c = [91, c, 93] := by unfold qc; rw [if_pos hsp]
        refine @tests_nil _ _ _ _ _ _ ?_
        try dsimp only
        (with_reducible show (if _ = true then _ else _)); refine @iteY _ _ _ (by walk_at "yes") ?_
        try dsimp only
        refine @IfExp_ _ _ _ _ _ _ _ _ _ _ ?_
        try dsimp only
        refine @wpAny_isTrue_Compare1 _ _ _ _ _ _ _ _ _ _ _ ?_ (by with_unfolding_all rfl)
        try dsimp only
        refine @nm_local _ _ _ _ _ _ _ _ _ _ _ _ _ (by assumption) (by walk_at "dv") ?_ (by rfl) (by rfl) (by decide)
        try dsimp only
        refine @cst_S _ _ _ _ _ _ _ _ _ _ (by exact lit19) ?_; intro _ _
        try dsimp only
        with_reducible refine in_S ?_
        try dsimp only
        refine @wpAny_truthy_bool _ _ _ _ _ _ ?_
        try dsimp only
        (with_reducible show (if _ = true then _ else _)); refine @iteY _ _ _ (by walk_at "yes") ?_
        try dsimp only
        refine @wpAny_BinOp _ _ _ _ _ _ _ _ _ _ ?_
        try dsimp only
        refine @wpAny_BinOp _ _ _ _ _ _ _ _ _ _ ?_
        try dsimp only
        refine @cst_S _ _ _ _ _ _ _ _ _ _ (by exact lit3) ?_; intro _ _
        try dsimp only
        refine @nm_local _ _ _ _ _ _ _ _ _ _ _ _ _ (by assumption) (by walk_at "dv") ?_ (by rfl) (by rfl) (by decide)
        try dsimp only
        refine @add_S _ _ _ _ _ _ _ _ _ ?_ (by walk_at "sz"); intro _ _
        try dsimp only
        refine @cst_S _ _ _ _ _ _ _ _ _ _ (by exact lit5) ?_; intro _ _
        try dsimp only
        refine @add_S _ _ _ _ _ _ _ _ _ ?_ (by walk_at "sz"); intro _ _
        try dsimp only
        exact ⟨_, _, _, _, rfl, by assumption, rfl, by rw [hmq, hqc]; exact hys.snoc ⟨_, rfl⟩⟩
      · have hqc : qc c = [c] := by unfold qc; rw [if_neg hsp]
        refine @tests_nil _ _ _ _ _ _ ?_
        try dsimp only
        (with_reducible show (if _ = true then _ else _)); refine @iteY _ _ _ (by walk_at "yes") ?_
        try dsimp only
        refine @IfExp_ _ _ _ _ _ _ _ _ _ _ ?_
        try dsimp only
        refine @wpAny_isTrue_Compare1 _ _ _ _ _ _ _ _ _ _ _ ?_ (by with_unfolding_all rfl)
        try dsimp only
        refine @nm_local _ _ _ _ _ _ _ _ _ _ _ _ _ (by assumption) (by walk_at "dv") ?_ (by rfl) (by rfl) (by decide)
        try dsimp only
        refine @cst_S _ _ _ _ _ _ _ _ _ _ (by exact lit19) ?_; intro _ _
        try dsimp only
        with_reducible refine in_S ?_
        try dsimp only
        refine @wpAny_truthy_bool _ _ _ _ _ _ ?_
        try dsimp only
        (with_reducible show (if _ = true then _ else _)); refine @iteN _ _ _ (by walk_at "yes") ?_
        try dsimp only
        refine @nm_local _ _ _ _ _ _ _ _ _ _ _ _ _ (by assumption) (by walk_at "dv") ?_ (by rfl) (by rfl) (by decide)
        try dsimp only
        exact ⟨_, _, _, _, rfl, by assumption, rfl, by rw [hmq, hqc]; exact hys.snoc ⟨_, rfl⟩⟩
    · rintro ys k acc led₁ h₁ tk₁ ⟨rfl, hys⟩ D3
      rw [List.take_of_length_le (Nat.le_refl _)] at hys
      have hsz2 : (hd.map qc).flatten.length ≤ 150 := by rw [hqs]; lia
      refine @join_S _ _ _ _ _ _ _ _ _ _ _ _ _ _ _ (by assumption) (by walk_at "mem") (by assumption) (by walk_at "sz") ?_; intro _ _
      try dsimp only
      refine @st_localL _ _ _ _ _ _ _ _ _ _ _ _ (by assumption) ?_ (by rfl) (by rfl); intro _ _ _ _
      try dsimp only
      (with_reducible show wpAny _ _ (execs _ _) _ _ _); (try clear kS); with_reducible refine ex_cons ?_; intro kS
      try dsimp only
      refine @wpAny_Assign_Name _ _ _ _ _ _ _ _ _ _ ?_ (by rfl)
      try dsimp only
      refine @call_name _ _ _ _ _ _ _ _ _ _ _ _ _ _ _ _ _ _ _ _ _ (by assumption) (by assumption) (by assumption) (by k_is) (by k_is) ?_ (by rfl) (by rfl) (by rfl) (by decide) (by rfl) (by rfl)
      try dsimp only
      refine @spliced_more _ _ _ _ _ _ _ _ _ ?_ (by rfl)
      try dsimp only
      refine @call_name _ _ _ _ _ _ _ _ _ _ _ _ _ _ _ _ _ _ _ _ _ (by assumption) (by assumption) (by assumption) (by k_is) (by k_is) ?_ (by rfl) (by rfl) (by rfl) (by decide) (by rfl) (by rfl)
      try dsimp only
      refine @spliced_more _ _ _ _ _ _ _ _ _ ?_ (by rfl)
      try dsimp only
      refine @wpAny_BinOp _ _ _ _ _ _ _ _ _ _ ?_
      try dsimp only
      refine @nm_local _ _ _ _ _ _ _ _ _ _ _ _ _ (by assumption) (by walk_at "dv") ?_ (by rfl) (by rfl) (by decide)
      try dsimp only
      refine @cst_S _ _ _ _ _ _ _ _ _ _ (by exact lit1) ?_; intro _ _
      try dsimp only
      refine @add_S _ _ _ _ _ _ _ _ _ ?_ (by walk_at "sz"); intro _ _
      try dsimp only
      refine @spliced_none _ _ _ _ _ _ _ ?_
      try dsimp only
      refine ⟨Sd.kIn (by assumption) (by assumption), ?_⟩
      try dsimp only
      rename Sd H _ _ _ _ _ => D4
      rw [hqs]
      refine ct_translate X T CH (by walk_at "hh") (by walk_at "dp") (Sd.front (pre := (C + 1, o1) :: own) D4.tail) ht hl (by lia) ?_
      intro t5 ps5 h5 tk5 D5 ht5
      have D6 : Sd H ((L, oL) :: fs) C _ h5 ((C + 1, o1) :: (own ++ (57, tabObj ps5) :: (kd, ko) :: kl)) := Sd.back (pre := (C + 1, o1) :: own) D5
      clear D5 D4 D3 D1
      have hB : ∀ c ∈ (hd.map part).flatten, c < 128 := parts_lt hl
      have hBl : (hd.map part).flatten.length ≤ 1000 := by have := parts_len hd; lia
      by_cases hlen : 1 < hd.length
      · obtain ⟨v6, e6⟩ := Option.isSome_iff_exists.mp (hpre hlen)
        obtain ⟨tp, t1, l, vs, n, rfl, m1, m2, m3⟩ := hI _ _ e6
        refine @spliced_none _ _ _ _ _ _ _ ?_
        try dsimp only
        refine ⟨Sd.kIn (by assumption) (by assumption), ?_⟩
        try dsimp only
        refine @ct_front _ _ _ _ _ _ _ _ _ _ _ _ _ _ _ (by assumption) (by assumption) (by walk_at "hh") (by walk_at "dp") (by assumption) (by assumption) (by assumption) (by assumption) ?_; intro _ _ _ _
        try dsimp only
        refine @st_cell _ _ _ _ _ _ _ _ _ _ _ _ (0) _ _ _ (by assumption) (by exact rfl) (by exact rfl) (by assumption) ?_ (by rfl) (by rfl); walk_at "cl"
        try dsimp only
        (with_reducible show wpAny _ _ (execs _ _) _ _ _); (try clear kS); with_reducible refine ex_cons ?_; intro kS
        try dsimp only
        refine @wpAny_Assign_Name _ _ _ _ _ _ _ _ _ _ ?_ (by rfl)
        try dsimp only
        refine @IfExp_ _ _ _ _ _ _ _ _ _ _ ?_
        try dsimp only
        refine @wpAny_isTrue_Compare1 _ _ _ _ _ _ _ _ _ _ _ ?_ (by with_unfolding_all rfl)
        try dsimp only
        refine @call_bi _ _ _ _ _ _ _ _ _ _ _ _ _ _ _ _ _ _ _ _ _ (by assumption) (by assumption) (by assumption) (by k_is) (by boot_by_name) ?_ (by decide) (by rfl) (by rfl) (by rfl) (by rfl) (by decide) (by rfl) (by rfl)
        try dsimp only
        refine @spliced_more _ _ _ _ _ _ _ _ _ ?_ (by rfl)
        try dsimp only
        refine @nm_local _ _ _ _ _ _ _ _ _ _ _ _ _ (by assumption) (by walk_at "dv") ?_ (by rfl) (by rfl) (by decide)
        try dsimp only
        refine @spliced_none _ _ _ _ _ _ _ ?_
        try dsimp only
        refine @len_S _ _ _ _ _ _ _ ?_ (by walk_at "sz"); intro _ _
        try dsimp only
        refine @cst_int _ _ _ _ _ _ _ _ _ ?_; intro _ _
        try dsimp only
        with_reducible refine gt_I ?_
        try dsimp only
        refine @wpAny_truthy_bool _ _ _ _ _ _ ?_
        try dsimp only
        (with_reducible show (if _ = true then _ else _)); refine @iteY _ _ _ (by walk_at "yes") ?_
        try dsimp only
        refine @Subscript_ _ _ _ _ _ _ _ _ _ ?_
        try dsimp only
        refine @Subscript_ _ _ _ _ _ _ _ _ _ ?_
        try dsimp only
        refine @nm_local _ _ _ _ _ _ _ _ _ _ _ _ _ (by assumption) (by walk_at "dv") ?_ (by rfl) (by rfl) (by decide)
        try dsimp only
        refine @Subscript_ _ _ _ _ _ _ _ _ _ ?_
        try dsimp only
        refine @nm_local _ _ _ _ _ _ _ _ _ _ _ _ _ (by assumption) (by walk_at "dv") ?_ (by rfl) (by rfl) (by decide)
        try dsimp only
        refine @wpAny_Slice _ _ _ _ _ _ _ _ _ _ ?_
        try dsimp only
        refine @evalPart_none_step _ _ _ _ _ _ ?_
        try dsimp only
        refine @evalPart_some_step _ _ _ _ _ _ _ ?_
        try dsimp only
        refine @UnaryOp_ _ _ _ _ _ _ _ _ _ ?_
        try dsimp only
        refine @cst_int _ _ _ _ _ _ _ _ _ ?_; intro _ _
        try dsimp only
        refine @PyProof.Rows.neg_int _ _ _ _ _ _ _ _ ?_
        try dsimp only
        refine @evalPart_none_step _ _ _ _ _ _ ?_
        try dsimp only
        refine @sliceTo _ _ _ _ _ _ _ _ _ _ _ _ _ _ _ _ _ _ _ _ _ (by assumption) (by walk_at "sz") (by walk_at "cut") ?_; intro _ _ _ _
        try dsimp only
        refine @tail_D _ _ _ _ _ _ _ _ _ _ _ _ _ (Sd.get (by assumption) (by walk_at "mem")) (by assumption) (by assumption) ?_ (by with_unfolding_all rfl); intro _
        try dsimp only
        refine @cst_int _ _ _ _ _ _ _ _ _ ?_; intro _ _
        try dsimp only
        refine @tail_tup _ _ _ _ _ _ _ _ _ _ _ _ _ _ (1) _ _ _ (by assumption) (by walk_at "mem") (by rfl) (by exact rfl) (by walk_at "sz") ?_ (by rfl)
        try dsimp only
        refine @st_localL _ _ _ _ _ _ _ _ _ _ _ _ (by assumption) ?_ (by rfl) (by rfl); intro _ _ _ _
        try dsimp only
        (with_reducible show wpAny _ _ (execs _ _) _ _ _); (try clear kS); with_reducible refine ex_cons ?_; intro kS
        try dsimp only
        refine @wpAny_Assign_Subscript _ _ _ _ _ _ _ _ _ _ _ ?_ (by rfl)
        try dsimp only
        refine @Tuple_ _ _ _ _ _ _ _ _ _ ?_
        try dsimp only
        refine @spliced_more _ _ _ _ _ _ _ _ _ ?_ (by rfl)
        try dsimp only
        refine @nm_cell _ _ _ _ _ _ _ _ _ _ _ _ _ _ _ (by assumption) (by walk_at "dv") (by walk_at "mem") (by assumption) ?_ (by rfl) (by rfl) (by decide)
        try dsimp only
        refine @spliced_more _ _ _ _ _ _ _ _ _ ?_ (by rfl)
        try dsimp only
        refine @listComp_sdL _ _ _ _ _ _ _ _ _ _ _ _ _ _ _ _ _ _ (by assumption) rfl (by decide) rfl (by decide) rfl ?_ (by intro _; rfl); intro _
        try dsimp only
        refine @nm_local _ _ _ _ _ _ _ _ _ _ _ _ _ (by assumption) (by walk_at "dv") ?_ (by rfl) (by rfl) (by decide)
        try dsimp only
        rename Sd H _ _ _ _ _ => D7
        rename Obj.data _ = Data.cell (some (Value.str _ _)) => hF
        refine lc_anyL (s := s) (it_L (by walk_at "hh") (D7.get (by walk_at "mem"))) (by rw [m3.len]; have := List.length_filter_le (fun t : List Nat => decide (t.take hd.dropLast.length = hd.dropLast)) (ops70.map (·.1)); unfold tk; have e : (ops70.map (·.1)).length = 48 := rfl; lia) D7 (fun i ys led' => led' = (C + 1, _) :: (own ++ (57, tabObj ps5) :: (kd, ko) :: kl) ∧ SVs ys (((tk hd.dropLast).take i).filter fun x => decide (x.take hd.length = hd))) ⟨rfl, .nil⟩ (fun i ys led hj p hp => by rw [List.mem_singleton.mp hp, hj.1]; walk_at "mem") ?_ ?_
        · rintro I i ys k oI acc C1 fs₁ env1 KE KT v m₁ led₁ h₁ tk₁ hi hP ⟨rfl, hys⟩ D8
          obtain ⟨x, t8, hx, rfl⟩ : ∃ x t8, (tk hd.dropLast)[i]? = some x ∧ v = .str (S x) t8 := by
            have hi2 : i < (tk hd.dropLast).length := by rw [← m3.len]; exact hi
            obtain ⟨t8, e8⟩ := m3.get (List.getElem?_eq_getElem hi2)
            rw [hP] at e8
            exact ⟨_, t8, List.getElem?_eq_getElem hi2, Option.some.inj e8⟩
          have hxl : x.length ≤ 3 := tk_len _ _ (List.mem_of_getElem? hx)
          have hmq : ((tk hd.dropLast).take (i + 1)).filter (fun x => decide (x.take hd.length = hd)) = ((tk hd.dropLast).take i).filter (fun x => decide (x.take hd.length = hd)) ++ (if x.take hd.length = hd then [x] else []) := by
            rw [List.take_add_one, hx, List.filter_append]
            congr 1
            by_cases hp : x.take hd.length = hd <;> simp [hp]
          by_cases hp : x.take hd.length = hd
          · rw [if_pos hp] at hmq
            refine @tests_one _ _ _ _ _ _ _ ?_
            try dsimp only
            refine @isTrue_and _ _ _ _ _ _ _ _ _ _ ?_
            try dsimp only
            refine @wpAny_isTrue_Compare1 _ _ _ _ _ _ _ _ _ _ _ ?_ (by with_unfolding_all rfl)
            try dsimp only
            refine @nm_cell _ _ _ _ _ _ _ _ _ _ _ _ _ _ _ (by assumption) (by walk_at "dv") (by walk_at "mem") (by assumption) ?_ (by rfl) (by rfl) (by decide)
            try dsimp only
            refine @PyProof.Rows.Constant_none _ _ _ _ _ _ _ _ ?_
            try dsimp only
            refine @isNot_None_S _ _ _ _ _ _ _ ?_
            try dsimp only
            refine @wpAny_truthy_bool _ _ _ _ _ _ ?_
            try dsimp only
            (with_reducible show (if _ = true then _ else _)); refine @iteY _ _ _ (by walk_at "yes") ?_
            try dsimp only
            refine @isTrue_and _ _ _ _ _ _ _ _ _ _ ?_
            try dsimp only
            refine @wpAny_isTrue_Compare1 _ _ _ _ _ _ _ _ _ _ _ ?_ (by with_unfolding_all rfl)
            try dsimp only
            refine @Subscript_ _ _ _ _ _ _ _ _ _ ?_
            try dsimp only
            refine @nm_local _ _ _ _ _ _ _ _ _ _ _ _ _ (by assumption) (by walk_at "dv") ?_ (by rfl) (by rfl) (by decide)
            try dsimp only
            refine @wpAny_Slice _ _ _ _ _ _ _ _ _ _ ?_
            try dsimp only
            refine @evalPart_none_step _ _ _ _ _ _ ?_
            try dsimp only
            refine @evalPart_some_step _ _ _ _ _ _ _ ?_
            try dsimp only
            refine @call_bi _ _ _ _ _ _ _ _ _ _ _ _ _ _ _ _ _ _ _ _ _ (by assumption) (by assumption) (by assumption) (by k_is) (by boot_by_name) ?_ (by decide) (by rfl) (by rfl) (by rfl) (by rfl) (by decide) (by rfl) (by rfl)
            try dsimp only
            refine @spliced_more _ _ _ _ _ _ _ _ _ ?_ (by rfl)
            try dsimp only
            refine @nm_cell _ _ _ _ _ _ _ _ _ _ _ _ _ _ _ (by assumption) (by walk_at "dv") (by walk_at "mem") (by assumption) ?_ (by rfl) (by rfl) (by decide)
            try dsimp only
            refine @spliced_none _ _ _ _ _ _ _ ?_
            try dsimp only
            refine @len_S _ _ _ _ _ _ _ ?_ (by walk_at "sz"); intro _ _
            try dsimp only
            refine @evalPart_none_step _ _ _ _ _ _ ?_
            try dsimp only
            refine @sliceTo _ _ _ _ _ _ _ _ _ _ _ _ _ _ _ _ _ _ _ _ _ (by assumption) (by walk_at "sz") (by walk_at "cut") ?_; intro _ _ _ _
            try dsimp only
            refine @nm_cell _ _ _ _ _ _ _ _ _ _ _ _ _ _ _ (by assumption) (by walk_at "dv") (by walk_at "mem") (by assumption) ?_ (by rfl) (by rfl) (by decide)
            try dsimp only
            with_reducible refine eq_S ?_
            try dsimp only
            refine @wpAny_truthy_bool _ _ _ _ _ _ ?_
            try dsimp only
            (with_reducible show (if _ = true then _ else _)); refine @iteY _ _ _ (by walk_at "yes") ?_
            try dsimp only
            refine @isTrue_and_nil _ _ _ _ _ _ _ _ ?_
            try dsimp only
            (with_reducible show (if _ = true then _ else _)); refine @iteY _ _ _ (by walk_at "yes") ?_
            try dsimp only
            refine @nm_local _ _ _ _ _ _ _ _ _ _ _ _ _ (by assumption) (by walk_at "dv") ?_ (by rfl) (by rfl) (by decide)
            try dsimp only
            exact ⟨_, _, _, _, rfl, by assumption, rfl, by rw [hmq]; exact hys.snoc ⟨_, rfl⟩⟩
          · rw [if_neg hp, List.append_nil] at hmq
            refine @tests_one _ _ _ _ _ _ _ ?_
            try dsimp only
            refine @isTrue_and _ _ _ _ _ _ _ _ _ _ ?_
            try dsimp only
            refine @wpAny_isTrue_Compare1 _ _ _ _ _ _ _ _ _ _ _ ?_ (by with_unfolding_all rfl)
            try dsimp only
            refine @nm_cell _ _ _ _ _ _ _ _ _ _ _ _ _ _ _ (by assumption) (by walk_at "dv") (by walk_at "mem") (by assumption) ?_ (by rfl) (by rfl) (by decide)
            try dsimp only
            refine @PyProof.Rows.Constant_none _ _ _ _ _ _ _ _ ?_
            try dsimp only
            refine @isNot_None_S _ _ _ _ _ _ _ ?_
            try dsimp only
            refine @wpAny_truthy_bool _ _ _ _ _ _ ?_
            try dsimp only
            (with_reducible show (if _ = true then _ else _)); refine @iteY _ _ _ (by walk_at "yes") ?_
            try dsimp only
            refine @isTrue_and _ _ _ _ _ _ _ _ _ _ ?_
            try dsimp only
            refine @wpAny_isTrue_Compare1 _ _ _ _ _ _ _ _ _ _ _ ?_ (by with_unfolding_all rfl)
            try dsimp only
            refine @Subscript_ _ _ _ _ _ _ _ _ _ ?_
            try dsimp only
            refine @nm_local _ _ _ _ _ _ _ _ _ _ _ _ _ (by assumption) (by walk_at "dv") ?_ (by rfl) (by rfl) (by decide)
            try dsimp only
            refine @wpAny_Slice _ _ _ _ _ _ _ _ _ _ ?_
            try dsimp only
            refine @evalPart_none_step _ _ _ _ _ _ ?_
            try dsimp only
            refine @evalPart_some_step _ _ _ _ _ _ _ ?_
            try dsimp only
            refine @call_bi _ _ _ _ _ _ _ _ _ _ _ _ _ _ _ _ _ _ _ _ _ (by assumption) (by assumption) (by assumption) (by k_is) (by boot_by_name) ?_ (by decide) (by rfl) (by rfl) (by rfl) (by rfl) (by decide) (by rfl) (by rfl)
            try dsimp only
            refine @spliced_more _ _ _ _ _ _ _ _ _ ?_ (by rfl)
            try dsimp only
            refine @nm_cell _ _ _ _ _ _ _ _ _ _ _ _ _ _ _ (by assumption) (by walk_at "dv") (by walk_at "mem") (by assumption) ?_ (by rfl) (by rfl) (by decide)
            try dsimp only
            refine @spliced_none _ _ _ _ _ _ _ ?_
            try dsimp only
            refine @len_S _ _ _ _ _ _ _ ?_ (by walk_at "sz"); intro _ _
            try dsimp only
            refine @evalPart_none_step _ _ _ _ _ _ ?_
            try dsimp only
            refine @sliceTo _ _ _ _ _ _ _ _ _ _ _ _ _ _ _ _ _ _ _ _ _ (by assumption) (by walk_at "sz") (by walk_at "cut") ?_; intro _ _ _ _
            try dsimp only
            refine @nm_cell _ _ _ _ _ _ _ _ _ _ _ _ _ _ _ (by assumption) (by walk_at "dv") (by walk_at "mem") (by assumption) ?_ (by rfl) (by rfl) (by decide)
            try dsimp only
            with_reducible refine eq_S ?_
            try dsimp only
            refine @wpAny_truthy_bool _ _ _ _ _ _ ?_
            try dsimp only
            (with_reducible show (if _ = true then _ else _)); refine @iteN _ _ _ (by walk_at "yes") ?_
            try dsimp only
            (with_reducible show (if _ = true then _ else _)); refine @iteN _ _ _ (by walk_at "yes") ?_
            try dsimp only
            exact ⟨_, _, _, _, rfl, by assumption, rfl, by rw [hmq]; exact hys⟩
        · rintro ys k acc led₁ h₁ tk₁ ⟨rfl, hys⟩ D8
          rw [List.take_of_length_le (by rw [m3.len]; exact Nat.le_refl _), tk_step] at hys
          refine @spliced_none _ _ _ _ _ _ _ ?_
          try dsimp only
          refine @newTuple_sdL _ _ _ _ _ _ _ _ _ _ _ (by assumption) ?_ (by exact sz_lit rfl); intro _ _ _ _ _
          try dsimp only
          refine @nm_local _ _ _ _ _ _ _ _ _ _ _ _ _ (by assumption) (by walk_at "dv") ?_ (by rfl) (by rfl) (by decide)
          try dsimp only
          refine @nm_local _ _ _ _ _ _ _ _ _ _ _ _ _ (by assumption) (by walk_at "dv") ?_ (by rfl) (by rfl) (by decide)
          try dsimp only
          rename Sd H _ _ _ _ _ => D9
          rw [show own ++ (57, tabObj ps5) :: (kd, ko) :: kl = (own ++ [(57, tabObj ps5)]) ++ (kd, ko) :: kl from by simp] at D9
          refine set_D2 (pre := _ :: _ :: _ :: (own ++ [(57, tabObj ps5)])) D9 ho hv (by lia) ?_
          intro h9 ko9 tk9 D10 ho10 hv10
          (with_reducible show wpAny _ _ (execs _ _) _ _ _); (try clear kS); with_reducible refine wpAny_execs_nil ?_
          try dsimp only
          (with_reducible show wpAny _ _ (execs _ _) _ _ _); (try clear kS); with_reducible refine ex_cons ?_; intro kS
          try dsimp only
          refine @wpAny_Return_some _ _ _ _ _ _ _ _ ?_
          try dsimp only
          refine @Subscript_ _ _ _ _ _ _ _ _ _ ?_
          try dsimp only
          refine @Subscript_ _ _ _ _ _ _ _ _ _ ?_
          try dsimp only
          refine @nm_local _ _ _ _ _ _ _ _ _ _ _ _ _ (by assumption) (by walk_at "dv") ?_ (by rfl) (by rfl) (by decide)
          try dsimp only
          refine @nm_local _ _ _ _ _ _ _ _ _ _ _ _ _ (by assumption) (by walk_at "dv") ?_ (by rfl) (by rfl) (by decide)
          try dsimp only
          refine @tail_D _ _ _ _ _ _ _ _ _ _ _ _ _ (Sd.get (by assumption) (by walk_at "mem")) (by assumption) (by assumption) ?_ (by with_unfolding_all rfl); intro _
          try dsimp only
          refine @cst_int _ _ _ _ _ _ _ _ _ ?_; intro _ _
          try dsimp only
          refine @tail_tup _ _ _ _ _ _ _ _ _ _ _ _ _ _ (1) _ _ _ (by assumption) (by walk_at "mem") (by rfl) (by exact rfl) (by walk_at "sz") ?_ (by rfl)
          try dsimp only
          have D11 := D10.drop 2
          have D12 := Sd.move2 (pre := (own ++ [(57, tabObj ps5)]) ++ [(kd, ko9)]) (post := kl) (by rw [List.append_assoc]; exact D11)
          rw [List.append_assoc, List.append_assoc] at D12
          refine h acc ys _ ps5 ko9 _ _ _ _ (lv _ _ _ _ D12) ht5 ho10 (KInv.add (hI.mono fun p hp => .tail _ (.tail _ hp)) hv (.head _) (.tail _ (.head _)) hys) (by simp) (by rw [hv10]; rfl) (fun k e => vat_append_mono e) (.tail _ (.head _)) hys
      · refine @spliced_none _ _ _ _ _ _ _ ?_
        try dsimp only
        refine ⟨Sd.kIn (by assumption) (by assumption), ?_⟩
        try dsimp only
        refine @ct_front _ _ _ _ _ _ _ _ _ _ _ _ _ _ _ (by assumption) (by assumption) (by walk_at "hh") (by walk_at "dp") (by assumption) (by assumption) (by assumption) (by assumption) ?_; intro _ _ _ _
        try dsimp only
        refine @st_cell _ _ _ _ _ _ _ _ _ _ _ _ (0) _ _ _ (by assumption) (by exact rfl) (by exact rfl) (by assumption) ?_ (by rfl) (by rfl); walk_at "cl"
        try dsimp only
        (with_reducible show wpAny _ _ (execs _ _) _ _ _); (try clear kS); with_reducible refine ex_cons ?_; intro kS
        try dsimp only
        refine @wpAny_Assign_Name _ _ _ _ _ _ _ _ _ _ ?_ (by rfl)
        try dsimp only
        refine @IfExp_ _ _ _ _ _ _ _ _ _ _ ?_
        try dsimp only
        refine @wpAny_isTrue_Compare1 _ _ _ _ _ _ _ _ _ _ _ ?_ (by with_unfolding_all rfl)
        try dsimp only
        refine @call_bi _ _ _ _ _ _ _ _ _ _ _ _ _ _ _ _ _ _ _ _ _ (by assumption) (by assumption) (by assumption) (by k_is) (by boot_by_name) ?_ (by decide) (by rfl) (by rfl) (by rfl) (by rfl) (by decide) (by rfl) (by rfl)
        try dsimp only
        refine @spliced_more _ _ _ _ _ _ _ _ _ ?_ (by rfl)
        try dsimp only
        refine @nm_local _ _ _ _ _ _ _ _ _ _ _ _ _ (by assumption) (by walk_at "dv") ?_ (by rfl) (by rfl) (by decide)
        try dsimp only
        refine @spliced_none _ _ _ _ _ _ _ ?_
        try dsimp only
        refine @len_S _ _ _ _ _ _ _ ?_ (by walk_at "sz"); intro _ _
        try dsimp only
        refine @cst_int _ _ _ _ _ _ _ _ _ ?_; intro _ _
        try dsimp only
        with_reducible refine gt_I ?_
        try dsimp only
        refine @wpAny_truthy_bool _ _ _ _ _ _ ?_
        try dsimp only
        (with_reducible show (if _ = true then _ else _)); refine @iteN _ _ _ (by walk_at "yes") ?_
        try dsimp only
        refine @nm_glob _ _ _ _ _ _ _ _ _ _ _ _ _ _ _ _ _ _ (by assumption) (by assumption) (by assumption) (by k_is) ?_ (by rfl) (by rfl) (by rfl) (by decide)
        try dsimp only
        refine @st_localL _ _ _ _ _ _ _ _ _ _ _ _ (by assumption) ?_ (by rfl) (by rfl); intro _ _ _ _
        try dsimp only
        (with_reducible show wpAny _ _ (execs _ _) _ _ _); (try clear kS); with_reducible refine ex_cons ?_; intro kS
        try dsimp only
        refine @wpAny_Assign_Subscript _ _ _ _ _ _ _ _ _ _ _ ?_ (by rfl)
        try dsimp only
        refine @Tuple_ _ _ _ _ _ _ _ _ _ ?_
        try dsimp only
        refine @spliced_more _ _ _ _ _ _ _ _ _ ?_ (by rfl)
        try dsimp only
        refine @nm_cell _ _ _ _ _ _ _ _ _ _ _ _ _ _ _ (by assumption) (by walk_at "dv") (by walk_at "mem") (by assumption) ?_ (by rfl) (by rfl) (by decide)
        try dsimp only
        refine @spliced_more _ _ _ _ _ _ _ _ _ ?_ (by rfl)
        try dsimp only
        refine @listComp_sdL _ _ _ _ _ _ _ _ _ _ _ _ _ _ _ _ _ _ (by assumption) rfl (by decide) rfl (by decide) rfl ?_ (by intro _; rfl); intro _
        try dsimp only
        refine @nm_local _ _ _ _ _ _ _ _ _ _ _ _ _ (by assumption) (by walk_at "dv") ?_ (by rfl) (by rfl) (by decide)
        try dsimp only
        rename Sd H _ _ _ _ _ => D7
        rename Obj.data _ = Data.cell (some (Value.str _ _)) => hF
        refine lc_anyL (s := s) (it_D (prog := PR) (w := w) (held := []) (by walk_at "hh") (D7.old (X _ _ (KF.k70 w))) do70 (by decide) (.inr (X _ _ (KF.k70 w)))) (by decide) D7 (fun i ys led' => led' = (C + 1, _) :: (own ++ (57, tabObj ps5) :: (kd, ko) :: kl) ∧ SVs ys (((ops70.map (·.1)).take i).filter fun x => decide (x.take hd.length = hd))) ⟨rfl, .nil⟩ (fun _ _ _ _ _ hp => by cases hp) ?_ ?_
        · rintro I i ys k oI acc C1 fs₁ env1 KE KT v m₁ led₁ h₁ tk₁ hi hP ⟨rfl, hys⟩ D8
          obtain ⟨x, t8, hx, rfl⟩ : ∃ x t8, (ops70.map (·.1))[i]? = some x ∧ v = .str (S x) t8 := by
            obtain ⟨k8, x8, t8, e8, e9⟩ := hP
            unfold kv70 at e8
            rw [List.getElem?_map] at e8
            cases q : ops70[i]? with
            | none => rw [q] at e8; cases e8
            | some p =>
              rw [q] at e8; cases e8
              exact ⟨p.1, t8, by rw [List.getElem?_map, q]; rfl, e9⟩
          have hxl : x.length ≤ 3 := ops_len _ (List.mem_of_getElem? hx)
          have hmq : ((ops70.map (·.1)).take (i + 1)).filter (fun x => decide (x.take hd.length = hd)) = ((ops70.map (·.1)).take i).filter (fun x => decide (x.take hd.length = hd)) ++ (if x.take hd.length = hd then [x] else []) := by
            rw [List.take_add_one, hx, List.filter_append]
            congr 1
            by_cases hp : x.take hd.length = hd <;> simp [hp]
          by_cases hp : x.take hd.length = hd
          · rw [if_pos hp] at hmq
            refine @tests_one _ _ _ _ _ _ _ ?_
            try dsimp only
            refine @isTrue_and _ _ _ _ _ _ _ _ _ _ ?_
            try dsimp only
            refine @wpAny_isTrue_Compare1 _ _ _ _ _ _ _ _ _ _ _ ?_ (by with_unfolding_all rfl)
            try dsimp only
            refine @nm_cell _ _ _ _ _ _ _ _ _ _ _ _ _ _ _ (by assumption) (by walk_at "dv") (by walk_at "mem") (by assumption) ?_ (by rfl) (by rfl) (by decide)
            try dsimp only
            refine @PyProof.Rows.Constant_none _ _ _ _ _ _ _ _ ?_
            try dsimp only
            refine @isNot_None_S _ _ _ _ _ _ _ ?_
            try dsimp only
            refine @wpAny_truthy_bool _ _ _ _ _ _ ?_
            try dsimp only
            (with_reducible show (if _ = true then _ else _)); refine @iteY _ _ _ (by walk_at "yes") ?_
            try dsimp only
            refine @isTrue_and _ _ _ _ _ _ _ _ _ _ ?_
            try dsimp only
            refine @wpAny_isTrue_Compare1 _ _ _ _ _ _ _ _ _ _ _ ?_ (by with_unfolding_all rfl)
            try dsimp only
            refine @Subscript_ _ _ _ _ _ _ _ _ _ ?_
            try dsimp only
            refine @nm_local _ _ _ _ _ _ _ _ _ _ _ _ _ (by assumption) (by walk_at "dv") ?_ (by rfl) (by rfl) (by decide)
            try dsimp only
            refine @wpAny_Slice _ _ _ _ _ _ _ _ _ _ ?_
            try dsimp only
            refine @evalPart_none_step _ _ _ _ _ _ ?_
            try dsimp only
            refine @evalPart_some_step _ _ _ _ _ _ _ ?_
            try dsimp only
            refine @call_bi _ _ _ _ _ _ _ _ _ _ _ _ _ _ _ _ _ _ _ _ _ (by assumption) (by assumption) (by assumption) (by k_is) (by boot_by_name) ?_ (by decide) (by rfl) (by rfl) (by rfl) (by rfl) (by decide) (by rfl) (by rfl)
            try dsimp only
            refine @spliced_more _ _ _ _ _ _ _ _ _ ?_ (by rfl)
            try dsimp only
            refine @nm_cell _ _ _ _ _ _ _ _ _ _ _ _ _ _ _ (by assumption) (by walk_at "dv") (by walk_at "mem") (by assumption) ?_ (by rfl) (by rfl) (by decide)
            try dsimp only
            refine @spliced_none _ _ _ _ _ _ _ ?_
            try dsimp only
            refine @len_S _ _ _ _ _ _ _ ?_ (by walk_at "sz"); intro _ _
            try dsimp only
            refine @evalPart_none_step _ _ _ _ _ _ ?_
            try dsimp only
            refine @sliceTo _ _ _ _ _ _ _ _ _ _ _ _ _ _ _ _ _ _ _ _ _ (by assumption) (by walk_at "sz") (by walk_at "cut") ?_; intro _ _ _ _
            try dsimp only
            refine @nm_cell _ _ _ _ _ _ _ _ _ _ _ _ _ _ _ (by assumption) (by walk_at "dv") (by walk_at "mem") (by assumption) ?_ (by rfl) (by rfl) (by decide)
            try dsimp only
            with_reducible refine eq_S ?_
            try dsimp only
            refine @wpAny_truthy_bool _ _ _ _ _ _ ?_
            try dsimp only
            (with_reducible show (if _ = true then _ else _)); refine @iteY _ _ _ (by walk_at "yes") ?_
            try dsimp only
            refine @isTrue_and_nil _ _ _ _ _ _ _ _ ?_
            try dsimp only
            (with_reducible show (if _ = true then _ else _)); refine @iteY _ _ _ (by walk_at "yes") ?_
            try dsimp only
            refine @nm_local _ _ _ _ _ _ _ _ _ _ _ _ _ (by assumption) (by walk_at "dv") ?_ (by rfl) (by rfl) (by decide)
            try dsimp only
            exact ⟨_, _, _, _, rfl, by assumption, rfl, by rw [hmq]; exact hys.snoc ⟨_, rfl⟩⟩
          · rw [if_neg hp, List.append_nil] at hmq
            refine @tests_one _ _ _ _ _ _ _ ?_
            try dsimp only
            refine @isTrue_and _ _ _ _ _ _ _ _ _ _ ?_
            try dsimp only
            refine @wpAny_isTrue_Compare1 _ _ _ _ _ _ _ _ _ _ _ ?_ (by with_unfolding_all rfl)
            try dsimp only
            refine @nm_cell _ _ _ _ _ _ _ _ _ _ _ _ _ _ _ (by assumption) (by walk_at "dv") (by walk_at "mem") (by assumption) ?_ (by rfl) (by rfl) (by decide)
            try dsimp only
            refine @PyProof.Rows.Constant_none _ _ _ _ _ _ _ _ ?_
            try dsimp only
            refine @isNot_None_S _ _ _ _ _ _ _ ?_
            try dsimp only
            refine @wpAny_truthy_bool _ _ _ _ _ _ ?_
            try dsimp only
            (with_reducible show (if _ = true then _ else _)); refine @iteY _ _ _ (by walk_at "yes") ?_
            try dsimp only
            refine @isTrue_and _ _ _ _ _ _ _ _ _ _ ?_
            try dsimp only
            refine @wpAny_isTrue_Compare1 _ _ _ _ _ _ _ _ _ _ _ ?_ (by with_unfolding_all rfl)
            try dsimp only
            refine @Subscript_ _ _ _ _ _ _ _ _ _ ?_
            try dsimp only
            refine @nm_local _ _ _ _ _ _ _ _ _ _ _ _ _ (by assumption) (by walk_at "dv") ?_ (by rfl) (by rfl) (by decide)
            try dsimp only
            refine @wpAny_Slice _ _ _ _ _ _ _ _ _ _ ?_
            try dsimp only
            refine @evalPart_none_step _ _ _ _ _ _ ?_
            try dsimp only
            refine @evalPart_some_step _ _ _ _ _ _ _ ?_
            try dsimp only
            refine @call_bi _ _ _ _ _ _ _ _ _ _ _ _ _ _ _ _ _ _ _ _ _ (by assumption) (by assumption) (by assumption) (by k_is) (by boot_by_name) ?_ (by decide) (by rfl) (by rfl) (by rfl) (by rfl) (by decide) (by rfl) (by rfl)
            try dsimp only
            refine @spliced_more _ _ _ _ _ _ _ _ _ ?_ (by rfl)
            try dsimp only
            refine @nm_cell _ _ _ _ _ _ _ _ _ _ _ _ _ _ _ (by assumption) (by walk_at "dv") (by walk_at "mem") (by assumption) ?_ (by rfl) (by rfl) (by decide)
            try dsimp only
            refine @spliced_none _ _ _ _ _ _ _ ?_
            try dsimp only
            refine @len_S _ _ _ _ _ _ _ ?_ (by walk_at "sz"); intro _ _
            try dsimp only
            refine @evalPart_none_step _ _ _ _ _ _ ?_
            try dsimp only
            refine @sliceTo _ _ _ _ _ _ _ _ _ _ _ _ _ _ _ _ _ _ _ _ _ (by assumption) (by walk_at "sz") (by walk_at "cut") ?_; intro _ _ _ _
            try dsimp only
            refine @nm_cell _ _ _ _ _ _ _ _ _ _ _ _ _ _ _ (by assumption) (by walk_at "dv") (by walk_at "mem") (by assumption) ?_ (by rfl) (by rfl) (by decide)
            try dsimp only
            with_reducible refine eq_S ?_
            try dsimp only
            refine @wpAny_truthy_bool _ _ _ _ _ _ ?_
            try dsimp only
            (with_reducible show (if _ = true then _ else _)); refine @iteN _ _ _ (by walk_at "yes") ?_
            try dsimp only
            (with_reducible show (if _ = true then _ else _)); refine @iteN _ _ _ (by walk_at "yes") ?_
            try dsimp only
            exact ⟨_, _, _, _, rfl, by assumption, rfl, by rw [hmq]; exact hys⟩
        · rintro ys k acc led₁ h₁ tk₁ ⟨rfl, hys⟩ D8
          rw [List.take_of_length_le (by decide), show (ops70.map (·.1)).filter (fun x => decide (x.take hd.length = hd)) = tk hd from rfl] at hys
          refine @spliced_none _ _ _ _ _ _ _ ?_
          try dsimp only
          refine @newTuple_sdL _ _ _ _ _ _ _ _ _ _ _ (by assumption) ?_ (by exact sz_lit rfl); intro _ _ _ _ _
          try dsimp only
          refine @nm_local _ _ _ _ _ _ _ _ _ _ _ _ _ (by assumption) (by walk_at "dv") ?_ (by rfl) (by rfl) (by decide)
          try dsimp only
          refine @nm_local _ _ _ _ _ _ _ _ _ _ _ _ _ (by assumption) (by walk_at "dv") ?_ (by rfl) (by rfl) (by decide)
          try dsimp only
          rename Sd H _ _ _ _ _ => D9
          rw [show own ++ (57, tabObj ps5) :: (kd, ko) :: kl = (own ++ [(57, tabObj ps5)]) ++ (kd, ko) :: kl from by simp] at D9
          refine set_D2 (pre := _ :: _ :: _ :: (own ++ [(57, tabObj ps5)])) D9 ho hv (by lia) ?_
          intro h9 ko9 tk9 D10 ho10 hv10
          (with_reducible show wpAny _ _ (execs _ _) _ _ _); (try clear kS); with_reducible refine wpAny_execs_nil ?_
          try dsimp only
          (with_reducible show wpAny _ _ (execs _ _) _ _ _); (try clear kS); with_reducible refine ex_cons ?_; intro kS
          try dsimp only
          refine @wpAny_Return_some _ _ _ _ _ _ _ _ ?_
          try dsimp only
          refine @Subscript_ _ _ _ _ _ _ _ _ _ ?_
          try dsimp only
          refine @Subscript_ _ _ _ _ _ _ _ _ _ ?_
          try dsimp only
          refine @nm_local _ _ _ _ _ _ _ _ _ _ _ _ _ (by assumption) (by walk_at "dv") ?_ (by rfl) (by rfl) (by decide)
          try dsimp only
          refine @nm_local _ _ _ _ _ _ _ _ _ _ _ _ _ (by assumption) (by walk_at "dv") ?_ (by rfl) (by rfl) (by decide)
          try dsimp only
          refine @tail_D _ _ _ _ _ _ _ _ _ _ _ _ _ (Sd.get (by assumption) (by walk_at "mem")) (by assumption) (by assumption) ?_ (by with_unfolding_all rfl); intro _
          try dsimp only
          refine @cst_int _ _ _ _ _ _ _ _ _ ?_; intro _ _
          try dsimp only
          refine @tail_tup _ _ _ _ _ _ _ _ _ _ _ _ _ _ (1) _ _ _ (by assumption) (by walk_at "mem") (by rfl) (by exact rfl) (by walk_at "sz") ?_ (by rfl)
          try dsimp only
          have D11 := D10.drop 2
          have D12 := Sd.move2 (pre := (own ++ [(57, tabObj ps5)]) ++ [(kd, ko9)]) (post := kl) (by rw [List.append_assoc]; exact D11)
          rw [List.append_assoc, List.append_assoc] at D12
          refine h acc ys _ ps5 ko9 _ _ _ _ (lv _ _ _ _ D12) ht5 ho10 (KInv.add (hI.mono fun p hp => .tail _ (.tail _ hp)) hv (.head _) (.tail _ (.head _)) hys) (by simp) (by rw [hv10]; rfl) (fun k e => vat_append_mono e) (.tail _ (.head _)) hys
end
end Mine

open PySem PySem.W PySem.Calls PyProof.Rows
set_option Elab.async false
set_option maxRecDepth 100000
set_option autoImplicit false
set_option maxHeartbeats 4000000
namespace Mine
inductive JRD1 (w : World) (text : List Nat) (t : Tok) (kd r : Addr) (own : Ledg) (kv : Kv) (k : Nat) (m' : Vm) (led' : Ledg) : Prop
  | mk (a : Nat) (ta : Tok) (n : Nat) (vs : List Value) (done : List Nat) (ps' : Array Value) (ko' : Obj) (kv' : Kv) (kl' : Ledg) (f0 : Has [("text", .str (S text) t), ("known", .ref kd), ("row", .ref r), ("at", .int (a : Int) ta)] m') (f1 : led' = (r, listOf vs.toArray n) :: (own ++ (57, tabObj ps') :: (kd, ko') :: kl')) (f2 : TriplesOk ps'.toList) (f3 : DO PR w kv' ko') (f4 : KInv kv' kl') (f5 : kv'.length ≤ kv.length + 31 * a) (f6 : a ≤ text.length) (f7 : k = text.length - a) (f8 : IVs vs done) (f9 : vs.length ≤ a) (f10 : done ++ R (text.drop a) = R text)
inductive JRD2 (w : World) (text tt : List Nat) (t ta : Tok) (kd r : Addr) (own : Ledg) (kv : Kv) (vs : List Value) (n a : Nat) (k : Nat) (m' : Vm) (led' : Ledg) : Prop
  | mk (sz b : Nat) (ts tb : Tok) (ps' : Array Value) (ko' : Obj) (kv' : Kv) (kl' : Ledg) (f0 : Has [("text", .str (S text) t), ("known", .ref kd), ("row", .ref r), ("at", .int (a : Int) ta), ("size", .int (sz : Int) ts), ("best", .int (b : Int) tb)] m') (f1 : led' = (r, listOf vs.toArray n) :: (own ++ (57, tabObj ps') :: (kd, ko') :: kl')) (f2 : TriplesOk ps'.toList) (f3 : DO PR w kv' ko') (f4 : KInv kv' kl') (f5 : kv'.length ≤ kv.length + 31 * a + (sz - 1)) (f6 : 1 ≤ sz) (f7 : sz ≤ tt.length + 1) (f8 : k = tt.length + 1 - sz) (f9 : scan tt k sz b = bestOf tt) (f10 : (0 < b → tt.take b ∈ keys ∧ b ≤ tt.length)) (f11 : (1 < sz → (vat kv' (tt.take (sz - 1))).isSome = true))
section
variable {w : World} {A : Around} {s : Shared} {H : Heap} {fs : Ledg} {L : Addr} {m mg mb : Vm} {own kl : Ledg} {pp : Program} {loose : List Str} {mean : ExcName → Option Value}
theorem ct_read {text : List Nat} {t : Tok} {ps : Array Value} {kd : Addr} {ko : Obj} {kv : Kv} {Q : Value → Shared → Prop} (X : (Mine.KK0 w.params).In H) (T : Top pp loose mean mg mb H) (CH : CodeHd H 61 57) (hh : A.handled = none) (hdp : A.depth + 15 < recursionLimit) (hu : A.units + 100 < cLine)
    (D : Sd H fs L m s.heap (own ++ (57, tabObj ps) :: (kd, ko) :: kl)) (ht : TriplesOk ps.toList) (ho : DO PR w kv ko) (hI : KInv kv kl) (hl : ∀ c ∈ text, c < 128) (hsz : text.length ≤ 30) (hkv : kv.length ≤ 6000) (hsys : (kd == sysModules) = false)
    (h : ∀ r vs n ps' ko' kv' kl' h' tk', Sd H fs L m h' ((r, listOf vs.toArray n) :: (own ++ (57, tabObj ps') :: (kd, ko') :: kl')) → TriplesOk ps'.toList → DO PR w kv' ko' → KInv kv' kl' → kv'.length ≤ kv.length + 1000 →
      IVs vs (R text) → Q (.ref r) { s with heap := h', toks := tk' }) :
    wpAny (model PR w) A (call (.ref 103) [.str (S text) t, .ref kd]) Q NoE s := by
  have TR := topRead_of T
  refine' call_sdL (hh := hh) (K := Mine.KK0 w.params) (binds := [("text", .str (S text) t), ("known", .ref kd)]) D X TR.nolimit ?ho ?hcd ?hroom ?hbind ?hloc ?hcell ?_ ?hco ?hgen ?hk
  walk_at "enter"
  intro C oL h1 tk1 D1 lv
  intro env kR A1 hA1 hA2 hA3
  clear D
  (with_reducible show wpAny _ _ (execs _ _) _ _ _); (try clear kS); with_reducible refine ex_cons ?_; intro kS
  try dsimp only
  refine @Assign_Tuple_swapped _ _ _ _ _ _ _ _ _ _ ([_, _]) _ ?_ (by rfl) (by rfl)
  try dsimp only
  refine @Tuple_ _ _ _ _ _ _ _ _ _ ?_
  try dsimp only
  refine @spliced_more _ _ _ _ _ _ _ _ _ ?_ (by rfl)
  try dsimp only
  refine @List_ _ _ _ _ _ _ _ _ ?_
  try dsimp only
  refine @spliced_none _ _ _ _ _ _ _ ?_
  try dsimp only
  refine @newList_sdL _ _ _ _ _ _ _ _ _ _ _ (by assumption) ?_ (by exact sz_lit rfl); intro _ _ _ _ _
  try dsimp only
  refine @spliced_more _ _ _ _ _ _ _ _ _ ?_ (by rfl)
  try dsimp only
  refine @cst_int _ _ _ _ _ _ _ _ _ ?_; intro _ _
  try dsimp only
  refine @spliced_none _ _ _ _ _ _ _ ?_
  try dsimp only
  refine @pair_swL _ _ _ _ _ _ _ _ _ _ _ _ _ _ (by assumption) (by assumption) ?_ (by rfl) (by rfl) (by rfl); intro _ _ _ _
  try dsimp only
  (with_reducible show wpAny _ _ (execs _ _) _ _ _); (try clear kS); with_reducible refine ex_cons ?_; intro kS
  try dsimp only
  rename_i r h2 tk2 _ D2 ta0 tk3 h4 tk4 _ D4
  clear D1 D2
  refine while_sdL (JRD1 w text t kd r own kv)
    text.length D4 ⟨0, ta0, _, [], [], ps, ko, kv, kl, ⟨rfl, rfl, rfl, rfl, trivial⟩, rfl, ht, ho, hI, Nat.le_refl _, Nat.zero_le _, rfl, .nil, Nat.le_refl _, rfl⟩ ?_
  clear D4 ht hI ho
  rintro k KB KT m1 h5 tk5 led1 D5 ⟨a, ta, n, vs, done, ps1, ko1, kv1, kl1, hm, rfl, ht1, ho1, hI1, hk1, ha, rfl, hv, hvl, hR⟩
  have D6 := D5.lo hm
  clear D5 hm
  by_cases hlt : a < text.length
  · generalize htt : text.drop a = tt at *
    have httl : tt.length = text.length - a := by rw [← htt, List.length_drop]
    have hchar : ∃ c, text[a]? = some c ∧ tt.headD 0 = c := ⟨text[a], List.getElem?_eq_getElem hlt, by rw [← htt, List.drop_eq_getElem_cons hlt]; rfl⟩
    obtain ⟨c0, hc0, hc1⟩ := hchar
    have hne : tt ≠ [] := by intro e; rw [e] at httl; simp at httl; lia
    refine @wpAny_isTrue_Compare1 _ _ _ _ _ _ _ _ _ _ _ ?_ (by with_unfolding_all rfl)
    try dsimp only
    refine @nm_local _ _ _ _ _ _ _ _ _ _ _ _ _ (by assumption) (by walk_at "dv") ?_ (by rfl) (by rfl) (by decide)
    try dsimp only
    refine @call_bi _ _ _ _ _ _ _ _ _ _ _ _ _ _ _ _ _ _ _ _ _ (by assumption) (by assumption) (by assumption) (by k_is) (by boot_by_name) ?_ (by decide) (by rfl) (by rfl) (by rfl) (by rfl) (by decide) (by rfl) (by rfl)
    try dsimp only
    refine @spliced_more _ _ _ _ _ _ _ _ _ ?_ (by rfl)
    try dsimp only
    refine @nm_local _ _ _ _ _ _ _ _ _ _ _ _ _ (by assumption) (by walk_at "dv") ?_ (by rfl) (by rfl) (by decide)
    try dsimp only
    refine @spliced_none _ _ _ _ _ _ _ ?_
    try dsimp only
    refine @len_S _ _ _ _ _ _ _ ?_ (by walk_at "sz"); intro _ _
    try dsimp only
    with_reducible refine lt_I ?_
    try dsimp only
    refine @wpAny_truthy_bool _ _ _ _ _ _ ?_
    try dsimp only
    (with_reducible show (if _ = true then _ else _)); refine @iteY _ _ _ (by walk_at "yes") ?_
    try dsimp only
    (with_reducible show wpAny _ _ (execs _ _) _ _ _); (try clear kS); with_reducible refine ex_cons ?_; intro kS
    try dsimp only
    refine @Assign_Tuple _ _ _ _ _ _ _ _ _ _ _ ?_ (by rfl) (by rfl)
    try dsimp only
    refine @Tuple_ _ _ _ _ _ _ _ _ _ ?_
    try dsimp only
    refine @spliced_more _ _ _ _ _ _ _ _ _ ?_ (by rfl)
    try dsimp only
    refine @cst_int _ _ _ _ _ _ _ _ _ ?_; intro _ _
    try dsimp only
    refine @spliced_more _ _ _ _ _ _ _ _ _ ?_ (by rfl)
    try dsimp only
    refine @cst_int _ _ _ _ _ _ _ _ _ ?_; intro _ _
    try dsimp only
    refine @spliced_none _ _ _ _ _ _ _ ?_
    try dsimp only
    refine @pair_unL _ _ _ _ _ _ _ _ _ _ _ _ _ _ _ _ _ _ (by assumption) (by assumption) ?_ (by rfl) (by rfl) (by rfl); intro _ _ _ _
    try dsimp only
    (with_reducible show wpAny _ _ (execs _ _) _ _ _); (try clear kS); with_reducible refine ex_cons ?_; intro kS
    try dsimp only
    rename_i ts0 tks tb0 tkb h7 tk7 _ D7
    clear D6
    refine while_sdL (JRD2 w text tt t ta kd r own kv vs n a)
      tt.length D7 ⟨1, 0, ts0, tb0, ps1, ko1, kv1, kl1, ⟨rfl, rfl, rfl, rfl, rfl, rfl, trivial⟩, rfl, ht1, ho1, hI1, hk1, Nat.le_refl _, by lia, by lia, rfl, fun q => absurd q (Nat.lt_irrefl _), fun q => absurd q (Nat.lt_irrefl _)⟩ ?_
    clear D7 ht1 ho1 hI1 hk1
    rintro k KB KT m2 h8 tk8 led2 D8 ⟨sz, b, ts, tb, ps2, ko2, kv2, kl2, hm, rfl, ht2, ho2, hI2, hk2, hs1, hs2, rfl, hsc, hb, hpre⟩
    have D9 := D8.lo hm
    clear D8 hm
    by_cases hle : sz ≤ tt.length
    · have hcut : cut text (some (a : Int)) (some ((a : Int) + (sz : Int))) = tt.take sz := by
        have e := cut_nat text a (a + sz) (by lia) (by lia)
        rw [htt, Nat.add_sub_cancel_left] at e
        exact e
      have hlx : ∀ c ∈ tt.take sz, c < 128 := fun c hc => hl c (List.mem_of_mem_drop (htt ▸ List.mem_of_mem_take hc))
      have hsx : (tt.take sz).length = sz := by rw [List.length_take]; lia
      refine @isTrue_and _ _ _ _ _ _ _ _ _ _ ?_
      try dsimp only
      refine @wpAny_isTrue_Compare1 _ _ _ _ _ _ _ _ _ _ _ ?_ (by with_unfolding_all rfl)
      try dsimp only
      refine @wpAny_BinOp _ _ _ _ _ _ _ _ _ _ ?_
      try dsimp only
      refine @nm_local _ _ _ _ _ _ _ _ _ _ _ _ _ (by assumption) (by walk_at "dv") ?_ (by rfl) (by rfl) (by decide)
      try dsimp only
      refine @nm_local _ _ _ _ _ _ _ _ _ _ _ _ _ (by assumption) (by walk_at "dv") ?_ (by rfl) (by rfl) (by decide)
      try dsimp only
      refine @add_I _ _ _ _ _ _ _ _ _ ?_; intro _ _
      try dsimp only
      refine @call_bi _ _ _ _ _ _ _ _ _ _ _ _ _ _ _ _ _ _ _ _ _ (by assumption) (by assumption) (by assumption) (by k_is) (by boot_by_name) ?_ (by decide) (by rfl) (by rfl) (by rfl) (by rfl) (by decide) (by rfl) (by rfl)
      try dsimp only
      refine @spliced_more _ _ _ _ _ _ _ _ _ ?_ (by rfl)
      try dsimp only
      refine @nm_local _ _ _ _ _ _ _ _ _ _ _ _ _ (by assumption) (by walk_at "dv") ?_ (by rfl) (by rfl) (by decide)
      try dsimp only
      refine @spliced_none _ _ _ _ _ _ _ ?_
      try dsimp only
      refine @len_S _ _ _ _ _ _ _ ?_ (by walk_at "sz"); intro _ _
      try dsimp only
      with_reducible refine le_I ?_
      try dsimp only
      refine @wpAny_truthy_bool _ _ _ _ _ _ ?_
      try dsimp only
      (with_reducible show (if _ = true then _ else _)); refine @iteY _ _ _ (by walk_at "yes") ?_
      try dsimp only
      refine @isTrue_and _ _ _ _ _ _ _ _ _ _ ?_
      try dsimp only
      refine @wpAny_isTrue_Compare1 _ _ _ _ _ _ _ _ _ _ _ ?_ (by with_unfolding_all rfl)
      try dsimp only
      refine @call_name _ _ _ _ _ _ _ _ _ _ _ _ _ _ _ _ _ _ _ _ _ (by assumption) (by assumption) (by assumption) (by k_is) (by k_is) ?_ (by rfl) (by rfl) (by rfl) (by decide) (by rfl) (by rfl)
      try dsimp only
      refine @spliced_more _ _ _ _ _ _ _ _ _ ?_ (by rfl)
      try dsimp only
      refine @Subscript_ _ _ _ _ _ _ _ _ _ ?_
      try dsimp only
      refine @nm_local _ _ _ _ _ _ _ _ _ _ _ _ _ (by assumption) (by walk_at "dv") ?_ (by rfl) (by rfl) (by decide)
      try dsimp only
      refine @wpAny_Slice _ _ _ _ _ _ _ _ _ _ ?_
      try dsimp only
      refine @evalPart_some_step _ _ _ _ _ _ _ ?_
      try dsimp only
      refine @nm_local _ _ _ _ _ _ _ _ _ _ _ _ _ (by assumption) (by walk_at "dv") ?_ (by rfl) (by rfl) (by decide)
      try dsimp only
      refine @evalPart_some_step _ _ _ _ _ _ _ ?_
      try dsimp only
      refine @wpAny_BinOp _ _ _ _ _ _ _ _ _ _ ?_
      try dsimp only
      refine @nm_local _ _ _ _ _ _ _ _ _ _ _ _ _ (by assumption) (by walk_at "dv") ?_ (by rfl) (by rfl) (by decide)
      try dsimp only
      refine @nm_local _ _ _ _ _ _ _ _ _ _ _ _ _ (by assumption) (by walk_at "dv") ?_ (by rfl) (by rfl) (by decide)
      try dsimp only
      refine @add_I _ _ _ _ _ _ _ _ _ ?_; intro _ _
      try dsimp only
      refine @evalPart_none_step _ _ _ _ _ _ ?_
      try dsimp only
      refine @slice2 _ _ _ _ _ _ _ _ _ _ _ _ _ _ _ _ _ _ _ _ _ _ _ (by assumption) (by walk_at "sz") (by walk_at "cut") ?_; intro _ _ _ _
      try dsimp only
      refine @spliced_more _ _ _ _ _ _ _ _ _ ?_ (by rfl)
      try dsimp only
      refine @nm_local _ _ _ _ _ _ _ _ _ _ _ _ _ (by assumption) (by walk_at "dv") ?_ (by rfl) (by rfl) (by decide)
      try dsimp only
      refine @spliced_none _ _ _ _ _ _ _ ?_
      try dsimp only
      refine ⟨Sd.kIn (by assumption) (by assumption), ?_⟩
      try dsimp only
      rename Sd H _ _ _ _ _ => D10
      refine ct_takers (own := (r, listOf vs.toArray n) :: own) X T CH (by walk_at "hh") (by walk_at "dp") D10 ht2 ho2 hI2 (fun q => by rw [List.dropLast_eq_take, hsx, List.take_take, Nat.min_eq_left (by lia)]; exact hpre (by rw [hsx] at q; exact q)) hlx (by lia) (by lia) hsys ?_
      clear D10 D9
      intro l2 vs2 n2 ps3 ko3 kv3 kl3 h3 tk3 D11 ht3 ho3 hI3 hk3 hsome hmono hm2 hv2
      have D11 : Sd H ((L, oL) :: fs) C _ h3 ((r, listOf vs.toArray n) :: (own ++ (57, tabObj ps3) :: (kd, ko3) :: kl3)) := D11
      have htok := tk_ok (tt.take sz)
      by_cases hz : tk (tt.take sz) = []
      · rw [hz] at hv2 htok
        have hbe : b = bestOf tt := by
          rw [← hsc, show tt.length + 1 - sz = (tt.length - sz) + 1 from by lia]
          show b = if tk (tt.take sz) ≠ [] then _ else b
          rw [if_neg (not_not_intro hz)]
        have hcutb : cut text (some (a : Int)) (some ((a : Int) + (b : Int))) = tt.take b := by
          by_cases q : 0 < b
          · have e := cut_nat text a (a + b) (by have := (hb q).2; lia) (by lia)
            rw [htt, Nat.add_sub_cancel_left] at e
            exact e
          · have : b = 0 := by lia
            subst this
            have e := cut_nat text a (a + 0) (by lia) (by lia)
            rw [htt, Nat.add_sub_cancel_left] at e
            exact e
        by_cases hbp : 0 < b
        · obtain ⟨t70, hv70⟩ := vat70 (hb hbp).1
          have hw : word tt = codeOf (tt.take b) := by unfold word; rw [← hbe, if_pos hbp]
          have hbl := (hb hbp).2
          refine @List_ _ _ _ _ _ _ _ _ ?_
          try dsimp only
          refine @spliced_none _ _ _ _ _ _ _ ?_
          try dsimp only
          refine @newList_sdL _ _ _ _ _ _ _ _ _ _ _ (by assumption) ?_ (by exact sz_lit rfl); intro _ _ _ _ _
          try dsimp only
          refine @ne_nilS _ _ _ _ _ _ _ _ _ _ _ _ _ _ _ _ (by assumption) (by walk_at "mem") (by walk_at "mem") (by assumption) (by assumption) (by walk_at "un") ?_
          try dsimp only
          refine @wpAny_truthy_bool _ _ _ _ _ _ ?_
          try dsimp only
          (with_reducible show (if _ = true then _ else _)); refine @iteN _ _ _ (by walk_at "yes") ?_
          try dsimp only
          (with_reducible show (if _ = true then _ else _)); refine @iteN _ _ _ (by walk_at "yes") ?_
          try dsimp only
          (with_reducible show wpAny _ _ (execs _ _) _ _ _); (try clear kS); with_reducible refine ex_cons ?_; intro kS
          try dsimp only
          refine @wpAny_Expr _ _ _ _ _ _ _ _ ?_ (by rfl) (by rfl)
          try dsimp only
          refine @meth1_list _ _ _ _ _ _ _ _ _ _ _ _ F.slot_list_append F.type_list_append ?_ (by rfl) (by rfl) (by rfl)
          try dsimp only
          refine @nm_local _ _ _ _ _ _ _ _ _ _ _ _ _ (by assumption) (by walk_at "dv") ?_ (by rfl) (by rfl) (by decide)
          try dsimp only
          refine ⟨⟨_, _, _, rfl, Sd.get (by assumption) (by walk_at "mem")⟩, ?_⟩
          try dsimp only
          refine @IfExp_ _ _ _ _ _ _ _ _ _ _ ?_
          try dsimp only
          refine @wpAny_isTrue_Compare1 _ _ _ _ _ _ _ _ _ _ _ ?_ (by with_unfolding_all rfl)
          try dsimp only
          refine @nm_local _ _ _ _ _ _ _ _ _ _ _ _ _ (by assumption) (by walk_at "dv") ?_ (by rfl) (by rfl) (by decide)
          try dsimp only
          refine @cst_int _ _ _ _ _ _ _ _ _ ?_; intro _ _
          try dsimp only
          with_reducible refine gt_I ?_
          try dsimp only
          refine @wpAny_truthy_bool _ _ _ _ _ _ ?_
          try dsimp only
          (with_reducible show (if _ = true then _ else _)); refine @iteY _ _ _ (by walk_at "yes") ?_
          try dsimp only
          refine @Subscript_ _ _ _ _ _ _ _ _ _ ?_
          try dsimp only
          refine @nm_glob _ _ _ _ _ _ _ _ _ _ _ _ _ _ _ _ _ _ (by assumption) (by assumption) (by assumption) (by k_is) ?_ (by rfl) (by rfl) (by rfl) (by decide)
          try dsimp only
          refine @Subscript_ _ _ _ _ _ _ _ _ _ ?_
          try dsimp only
          refine @nm_local _ _ _ _ _ _ _ _ _ _ _ _ _ (by assumption) (by walk_at "dv") ?_ (by rfl) (by rfl) (by decide)
          try dsimp only
          refine @wpAny_Slice _ _ _ _ _ _ _ _ _ _ ?_
          try dsimp only
          refine @evalPart_some_step _ _ _ _ _ _ _ ?_
          try dsimp only
          refine @nm_local _ _ _ _ _ _ _ _ _ _ _ _ _ (by assumption) (by walk_at "dv") ?_ (by rfl) (by rfl) (by decide)
          try dsimp only
          refine @evalPart_some_step _ _ _ _ _ _ _ ?_
          try dsimp only
          refine @wpAny_BinOp _ _ _ _ _ _ _ _ _ _ ?_
          try dsimp only
          refine @nm_local _ _ _ _ _ _ _ _ _ _ _ _ _ (by assumption) (by walk_at "dv") ?_ (by rfl) (by rfl) (by decide)
          try dsimp only
          refine @nm_local _ _ _ _ _ _ _ _ _ _ _ _ _ (by assumption) (by walk_at "dv") ?_ (by rfl) (by rfl) (by decide)
          try dsimp only
          refine @add_I _ _ _ _ _ _ _ _ _ ?_; intro _ _
          try dsimp only
          refine @evalPart_none_step _ _ _ _ _ _ ?_
          try dsimp only
          refine @slice2 _ _ _ _ _ _ _ _ _ _ _ _ _ _ _ _ _ _ _ _ _ _ _ (by assumption) (by walk_at "sz") (by walk_at "cut") ?_; intro _ _ _ _
          try dsimp only
          refine @tail_D _ _ _ _ _ _ _ _ _ _ _ _ _ (Sd.old (by assumption) (by rename Frag.In _ _ => hX; exact hX _ _ (KF.k70 _))) do70 (by assumption) ?_ (by with_unfolding_all rfl); intro _
          try dsimp only
          refine @list_appendL _ _ _ _ _ _ _ _ _ _ _ _ _ _ (by assumption) 1 (by rfl) ?_ (by walk_at "sz"); walk_at "ap"
          try dsimp only
          (with_reducible show wpAny _ _ (execs _ _) _ _ _); (try clear kS); with_reducible refine ex_cons ?_; intro kS
          try dsimp only
          refine @wpAny_AugAssign_Name _ _ _ _ _ _ _ _ _ _ _ ?_
          try dsimp only
          refine @ld_local _ _ _ _ _ _ _ _ _ _ _ _ (by assumption) (by walk_at "dv") ?_ (by rfl) (by rfl)
          try dsimp only
          refine @call_bi _ _ _ _ _ _ _ _ _ _ _ _ _ _ _ _ _ _ _ _ _ (by assumption) (by assumption) (by assumption) (by k_is) (by boot_by_name) ?_ (by decide) (by rfl) (by rfl) (by rfl) (by rfl) (by decide) (by rfl) (by rfl)
          try dsimp only
          refine @spliced_more _ _ _ _ _ _ _ _ _ ?_ (by rfl)
          try dsimp only
          refine @cst_int _ _ _ _ _ _ _ _ _ ?_; intro _ _
          try dsimp only
          refine @spliced_more _ _ _ _ _ _ _ _ _ ?_ (by rfl)
          try dsimp only
          refine @nm_local _ _ _ _ _ _ _ _ _ _ _ _ _ (by assumption) (by walk_at "dv") ?_ (by rfl) (by rfl) (by decide)
          try dsimp only
          refine @spliced_none _ _ _ _ _ _ _ ?_
          try dsimp only
          refine @max_two _ _ _ _ _ _ _ _ _ _ _ _ _ (by walk_at "hh") (by assumption) ?_; intro _ _ _ _
          try dsimp only
          refine @iadd_I _ _ _ _ _ _ _ _ _ ?_; intro _ _
          try dsimp only
          refine @st_localL _ _ _ _ _ _ _ _ _ _ _ _ (by assumption) ?_ (by rfl) (by rfl); intro _ _ _ _
          try dsimp only
          (with_reducible show wpAny _ _ (execs _ _) _ _ _); (try clear kS); with_reducible refine wpAny_execs_nil ?_
          try dsimp only
          rename Sd H _ _ _ _ _ => D12
          exact ⟨text.length - (a + max 1 b), _, _, _, _, rfl, D12.drop 0, ⟨a + max 1 b, _, n + 1, _, done ++ [codeOf (tt.take b)], ps3, ko3, kv3, kl3, ⟨rfl, rfl, rfl, rfl, trivial⟩, rfl, ht3, ho3, hI3, by lia, by lia, rfl, hv.snoc _ _, by rw [List.length_append, List.length_singleton]; lia, by rw [← List.drop_drop, htt, ← hw, hbe, List.append_assoc, List.singleton_append, ← R_step tt hne]; exact hR⟩, by lia⟩
        · have hb0 : b = 0 := by lia
          subst hb0
          have hw : word tt = 256 + c0 := by unfold word; rw [← hbe, if_neg (Nat.lt_irrefl _), hc1]
          refine @List_ _ _ _ _ _ _ _ _ ?_
          try dsimp only
          refine @spliced_none _ _ _ _ _ _ _ ?_
          try dsimp only
          refine @newList_sdL _ _ _ _ _ _ _ _ _ _ _ (by assumption) ?_ (by exact sz_lit rfl); intro _ _ _ _ _
          try dsimp only
          refine @ne_nilS _ _ _ _ _ _ _ _ _ _ _ _ _ _ _ _ (by assumption) (by walk_at "mem") (by walk_at "mem") (by assumption) (by assumption) (by walk_at "un") ?_
          try dsimp only
          refine @wpAny_truthy_bool _ _ _ _ _ _ ?_
          try dsimp only
          (with_reducible show (if _ = true then _ else _)); refine @iteN _ _ _ (by walk_at "yes") ?_
          try dsimp only
          (with_reducible show (if _ = true then _ else _)); refine @iteN _ _ _ (by walk_at "yes") ?_
          try dsimp only
          (with_reducible show wpAny _ _ (execs _ _) _ _ _); (try clear kS); with_reducible refine ex_cons ?_; intro kS
          try dsimp only
          refine @wpAny_Expr _ _ _ _ _ _ _ _ ?_ (by rfl) (by rfl)
          try dsimp only
          refine @meth1_list _ _ _ _ _ _ _ _ _ _ _ _ F.slot_list_append F.type_list_append ?_ (by rfl) (by rfl) (by rfl)
          try dsimp only
          refine @nm_local _ _ _ _ _ _ _ _ _ _ _ _ _ (by assumption) (by walk_at "dv") ?_ (by rfl) (by rfl) (by decide)
          try dsimp only
          refine ⟨⟨_, _, _, rfl, Sd.get (by assumption) (by walk_at "mem")⟩, ?_⟩
          try dsimp only
          refine @IfExp_ _ _ _ _ _ _ _ _ _ _ ?_
          try dsimp only
          refine @wpAny_isTrue_Compare1 _ _ _ _ _ _ _ _ _ _ _ ?_ (by with_unfolding_all rfl)
          try dsimp only
          refine @nm_local _ _ _ _ _ _ _ _ _ _ _ _ _ (by assumption) (by walk_at "dv") ?_ (by rfl) (by rfl) (by decide)
          try dsimp only
          refine @cst_int _ _ _ _ _ _ _ _ _ ?_; intro _ _
          try dsimp only
          with_reducible refine gt_I ?_
          try dsimp only
          refine @wpAny_truthy_bool _ _ _ _ _ _ ?_
          try dsimp only
          (with_reducible show (if _ = true then _ else _)); refine @iteN _ _ _ (by walk_at "yes") ?_
          try dsimp only
          refine @wpAny_BinOp _ _ _ _ _ _ _ _ _ _ ?_
          try dsimp only
          refine @nm_glob _ _ _ _ _ _ _ _ _ _ _ _ _ _ _ _ _ _ (by assumption) (by assumption) (by assumption) (by k_is) ?_ (by rfl) (by rfl) (by rfl) (by decide)
          try dsimp only
          refine @call_bi _ _ _ _ _ _ _ _ _ _ _ _ _ _ _ _ _ _ _ _ _ (by assumption) (by assumption) (by assumption) (by k_is) (by boot_by_name) ?_ (by decide) (by rfl) (by rfl) (by rfl) (by rfl) (by decide) (by rfl) (by rfl)
          try dsimp only
          refine @spliced_more _ _ _ _ _ _ _ _ _ ?_ (by rfl)
          try dsimp only
          refine @Subscript_ _ _ _ _ _ _ _ _ _ ?_
          try dsimp only
          refine @nm_local _ _ _ _ _ _ _ _ _ _ _ _ _ (by assumption) (by walk_at "dv") ?_ (by rfl) (by rfl) (by decide)
          try dsimp only
          refine @nm_local _ _ _ _ _ _ _ _ _ _ _ _ _ (by assumption) (by walk_at "dv") ?_ (by rfl) (by rfl) (by decide)
          try dsimp only
          refine @tail_str _ _ _ _ _ _ _ _ _ _ _ _ _ (by rfl) (by first | assumption | exact rfl) (by walk_at "sz") ?_ (by rfl); intro _ _
          try dsimp only
          refine @spliced_none _ _ _ _ _ _ _ ?_
          try dsimp only
          refine @ord_S _ _ _ _ _ _ _ ?_; intro _ _
          try dsimp only
          refine @add_I _ _ _ _ _ _ _ _ _ ?_; intro _ _
          try dsimp only
          refine @list_appendL _ _ _ _ _ _ _ _ _ _ _ _ _ _ (by assumption) 1 (by rfl) ?_ (by walk_at "sz"); walk_at "ap"
          try dsimp only
          (with_reducible show wpAny _ _ (execs _ _) _ _ _); (try clear kS); with_reducible refine ex_cons ?_; intro kS
          try dsimp only
          refine @wpAny_AugAssign_Name _ _ _ _ _ _ _ _ _ _ _ ?_
          try dsimp only
          refine @ld_local _ _ _ _ _ _ _ _ _ _ _ _ (by assumption) (by walk_at "dv") ?_ (by rfl) (by rfl)
          try dsimp only
          refine @call_bi _ _ _ _ _ _ _ _ _ _ _ _ _ _ _ _ _ _ _ _ _ (by assumption) (by assumption) (by assumption) (by k_is) (by boot_by_name) ?_ (by decide) (by rfl) (by rfl) (by rfl) (by rfl) (by decide) (by rfl) (by rfl)
          try dsimp only
          refine @spliced_more _ _ _ _ _ _ _ _ _ ?_ (by rfl)
          try dsimp only
          refine @cst_int _ _ _ _ _ _ _ _ _ ?_; intro _ _
          try dsimp only
          refine @spliced_more _ _ _ _ _ _ _ _ _ ?_ (by rfl)
          try dsimp only
          refine @nm_local _ _ _ _ _ _ _ _ _ _ _ _ _ (by assumption) (by walk_at "dv") ?_ (by rfl) (by rfl) (by decide)
          try dsimp only
          refine @spliced_none _ _ _ _ _ _ _ ?_
          try dsimp only
          refine @max_two _ _ _ _ _ _ _ _ _ _ _ _ _ (by walk_at "hh") (by assumption) ?_; intro _ _ _ _
          try dsimp only
          refine @iadd_I _ _ _ _ _ _ _ _ _ ?_; intro _ _
          try dsimp only
          refine @st_localL _ _ _ _ _ _ _ _ _ _ _ _ (by assumption) ?_ (by rfl) (by rfl); intro _ _ _ _
          try dsimp only
          (with_reducible show wpAny _ _ (execs _ _) _ _ _); (try clear kS); with_reducible refine wpAny_execs_nil ?_
          try dsimp only
          rename Sd H _ _ _ _ _ => D12
          exact ⟨text.length - (a + max 1 0), _, _, _, _, rfl, D12.drop 0, ⟨a + max 1 0, _, n + 1, _, done ++ [256 + c0], ps3, ko3, kv3, kl3, ⟨rfl, rfl, rfl, rfl, trivial⟩, rfl, ht3, ho3, hI3, by lia, by lia, rfl, hv.snoc _ _, by rw [List.length_append, List.length_singleton]; lia, by rw [← List.drop_drop, htt, ← hw, hbe, List.append_assoc, List.singleton_append, ← R_step tt hne]; exact hR⟩, by lia⟩
      · have hnz : (!(tk (tt.take sz)).isEmpty) = true := by
          cases q : tk (tt.take sz) with
          | nil => exact absurd q hz
          | cons _ _ => rfl
        obtain ⟨v3, ev3⟩ := Option.isSome_iff_exists.mp hsome
        obtain ⟨tp, t3, l3, vs3, n3, rfl, m1, m2', m3⟩ := hI3 _ _ ev3
        have hsc' : scan tt (tt.length + 1 - (sz + 1)) (sz + 1) (if tt.take sz ∈ tk (tt.take sz) then sz else b) = bestOf tt := by
          rw [← hsc, show tt.length + 1 - sz = (tt.length + 1 - (sz + 1)) + 1 from by lia]
          show _ = if tk (tt.take sz) ≠ [] then _ else b
          rw [if_pos hz]
        by_cases hin : tt.take sz ∈ tk (tt.take sz)
        · rw [if_pos hin] at hsc'
          refine @List_ _ _ _ _ _ _ _ _ ?_
          try dsimp only
          refine @spliced_none _ _ _ _ _ _ _ ?_
          try dsimp only
          refine @newList_sdL _ _ _ _ _ _ _ _ _ _ _ (by assumption) ?_ (by exact sz_lit rfl); intro _ _ _ _ _
          try dsimp only
          refine @ne_nilS _ _ _ _ _ _ _ _ _ _ _ _ _ _ _ _ (by assumption) (by walk_at "mem") (by walk_at "mem") (by assumption) (by assumption) (by walk_at "un") ?_
          try dsimp only
          refine @wpAny_truthy_bool _ _ _ _ _ _ ?_
          try dsimp only
          (with_reducible show (if _ = true then _ else _)); refine @iteY _ _ _ (by walk_at "yes") ?_
          try dsimp only
          refine @isTrue_and_nil _ _ _ _ _ _ _ _ ?_
          try dsimp only
          (with_reducible show (if _ = true then _ else _)); refine @iteY _ _ _ (by walk_at "yes") ?_
          try dsimp only
          (with_reducible show wpAny _ _ (execs _ _) _ _ _); (try clear kS); with_reducible refine ex_cons ?_; intro kS
          try dsimp only
          refine @wpAny_If _ _ _ _ _ _ _ _ _ _ ?_
          try dsimp only
          refine @wpAny_isTrue_Compare1 _ _ _ _ _ _ _ _ _ _ _ ?_ (by with_unfolding_all rfl)
          try dsimp only
          refine @Subscript_ _ _ _ _ _ _ _ _ _ ?_
          try dsimp only
          refine @nm_local _ _ _ _ _ _ _ _ _ _ _ _ _ (by assumption) (by walk_at "dv") ?_ (by rfl) (by rfl) (by decide)
          try dsimp only
          refine @wpAny_Slice _ _ _ _ _ _ _ _ _ _ ?_
          try dsimp only
          refine @evalPart_some_step _ _ _ _ _ _ _ ?_
          try dsimp only
          refine @nm_local _ _ _ _ _ _ _ _ _ _ _ _ _ (by assumption) (by walk_at "dv") ?_ (by rfl) (by rfl) (by decide)
          try dsimp only
          refine @evalPart_some_step _ _ _ _ _ _ _ ?_
          try dsimp only
          refine @wpAny_BinOp _ _ _ _ _ _ _ _ _ _ ?_
          try dsimp only
          refine @nm_local _ _ _ _ _ _ _ _ _ _ _ _ _ (by assumption) (by walk_at "dv") ?_ (by rfl) (by rfl) (by decide)
          try dsimp only
          refine @nm_local _ _ _ _ _ _ _ _ _ _ _ _ _ (by assumption) (by walk_at "dv") ?_ (by rfl) (by rfl) (by decide)
          try dsimp only
          refine @add_I _ _ _ _ _ _ _ _ _ ?_; intro _ _
          try dsimp only
          refine @evalPart_none_step _ _ _ _ _ _ ?_
          try dsimp only
          refine @slice2 _ _ _ _ _ _ _ _ _ _ _ _ _ _ _ _ _ _ _ _ _ _ _ (by assumption) (by walk_at "sz") (by walk_at "cut") ?_; intro _ _ _ _
          try dsimp only
          refine @Subscript_ _ _ _ _ _ _ _ _ _ ?_
          try dsimp only
          refine @Subscript_ _ _ _ _ _ _ _ _ _ ?_
          try dsimp only
          refine @nm_local _ _ _ _ _ _ _ _ _ _ _ _ _ (by assumption) (by walk_at "dv") ?_ (by rfl) (by rfl) (by decide)
          try dsimp only
          refine @Subscript_ _ _ _ _ _ _ _ _ _ ?_
          try dsimp only
          refine @nm_local _ _ _ _ _ _ _ _ _ _ _ _ _ (by assumption) (by walk_at "dv") ?_ (by rfl) (by rfl) (by decide)
          try dsimp only
          refine @wpAny_Slice _ _ _ _ _ _ _ _ _ _ ?_
          try dsimp only
          refine @evalPart_some_step _ _ _ _ _ _ _ ?_
          try dsimp only
          refine @nm_local _ _ _ _ _ _ _ _ _ _ _ _ _ (by assumption) (by walk_at "dv") ?_ (by rfl) (by rfl) (by decide)
          try dsimp only
          refine @evalPart_some_step _ _ _ _ _ _ _ ?_
          try dsimp only
          refine @wpAny_BinOp _ _ _ _ _ _ _ _ _ _ ?_
          try dsimp only
          refine @nm_local _ _ _ _ _ _ _ _ _ _ _ _ _ (by assumption) (by walk_at "dv") ?_ (by rfl) (by rfl) (by decide)
          try dsimp only
          refine @nm_local _ _ _ _ _ _ _ _ _ _ _ _ _ (by assumption) (by walk_at "dv") ?_ (by rfl) (by rfl) (by decide)
          try dsimp only
          refine @add_I _ _ _ _ _ _ _ _ _ ?_; intro _ _
          try dsimp only
          refine @evalPart_none_step _ _ _ _ _ _ ?_
          try dsimp only
          refine @slice2 _ _ _ _ _ _ _ _ _ _ _ _ _ _ _ _ _ _ _ _ _ _ _ (by assumption) (by walk_at "sz") (by walk_at "cut") ?_; intro _ _ _ _
          try dsimp only
          refine @tail_D _ _ _ _ _ _ _ _ _ _ _ _ _ (Sd.get (by assumption) (by walk_at "mem")) (by assumption) (by assumption) ?_ (by with_unfolding_all rfl); intro _
          try dsimp only
          refine @cst_int _ _ _ _ _ _ _ _ _ ?_; intro _ _
          try dsimp only
          refine @tail_tup _ _ _ _ _ _ _ _ _ _ _ _ _ _ (1) _ _ _ (by assumption) (by walk_at "mem") (by rfl) (by exact rfl) (by walk_at "sz") ?_ (by rfl)
          try dsimp only
          refine @in_Ls _ _ _ _ _ _ _ _ _ _ _ _ _ _ _ _ (by assumption) (by walk_at "mem") (by assumption) ?_
          try dsimp only
          refine @wpAny_truthy_bool _ _ _ _ _ _ ?_
          try dsimp only
          (with_reducible show (if _ = true then _ else _)); refine @iteY _ _ _ (by walk_at "yes") ?_
          try dsimp only
          (with_reducible show wpAny _ _ (execs _ _) _ _ _); (try clear kS); with_reducible refine ex_cons ?_; intro kS
          try dsimp only
          refine @wpAny_Assign_Name _ _ _ _ _ _ _ _ _ _ ?_ (by rfl)
          try dsimp only
          refine @nm_local _ _ _ _ _ _ _ _ _ _ _ _ _ (by assumption) (by walk_at "dv") ?_ (by rfl) (by rfl) (by decide)
          try dsimp only
          refine @st_localL _ _ _ _ _ _ _ _ _ _ _ _ (by assumption) ?_ (by rfl) (by rfl); intro _ _ _ _
          try dsimp only
          (with_reducible show wpAny _ _ (execs _ _) _ _ _); (try clear kS); with_reducible refine wpAny_execs_nil ?_
          try dsimp only
          (with_reducible show wpAny _ _ (execs _ _) _ _ _); (try clear kS); with_reducible refine ex_cons ?_; intro kS
          try dsimp only
          refine @wpAny_AugAssign_Name _ _ _ _ _ _ _ _ _ _ _ ?_
          try dsimp only
          refine @ld_local _ _ _ _ _ _ _ _ _ _ _ _ (by assumption) (by walk_at "dv") ?_ (by rfl) (by rfl)
          try dsimp only
          refine @cst_int _ _ _ _ _ _ _ _ _ ?_; intro _ _
          try dsimp only
          refine @iadd_I _ _ _ _ _ _ _ _ _ ?_; intro _ _
          try dsimp only
          refine @st_localL _ _ _ _ _ _ _ _ _ _ _ _ (by assumption) ?_ (by rfl) (by rfl); intro _ _ _ _
          try dsimp only
          (with_reducible show wpAny _ _ (execs _ _) _ _ _); (try clear kS); with_reducible refine wpAny_execs_nil ?_
          try dsimp only
          rename Sd H _ _ _ _ _ => D12
          exact ⟨tt.length + 1 - (sz + 1), _, _, _, _, rfl, D12.drop 0, ⟨sz + 1, sz, _, _, ps3, ko3, kv3, kl3, ⟨rfl, rfl, rfl, rfl, rfl, rfl, trivial⟩, rfl, ht3, ho3, hI3, by lia, by lia, by lia, rfl, hsc', fun _ => ⟨(List.mem_filter.mp hin).1, hle⟩, fun _ => by rw [Nat.add_sub_cancel]; exact hsome⟩, by lia⟩
        · rw [if_neg hin] at hsc'
          refine @List_ _ _ _ _ _ _ _ _ ?_
          try dsimp only
          refine @spliced_none _ _ _ _ _ _ _ ?_
          try dsimp only
          refine @newList_sdL _ _ _ _ _ _ _ _ _ _ _ (by assumption) ?_ (by exact sz_lit rfl); intro _ _ _ _ _
          try dsimp only
          refine @ne_nilS _ _ _ _ _ _ _ _ _ _ _ _ _ _ _ _ (by assumption) (by walk_at "mem") (by walk_at "mem") (by assumption) (by assumption) (by walk_at "un") ?_
          try dsimp only
          refine @wpAny_truthy_bool _ _ _ _ _ _ ?_
          try dsimp only
          (with_reducible show (if _ = true then _ else _)); refine @iteY _ _ _ (by walk_at "yes") ?_
          try dsimp only
          refine @isTrue_and_nil _ _ _ _ _ _ _ _ ?_
          try dsimp only
          (with_reducible show (if _ = true then _ else _)); refine @iteY _ _ _ (by walk_at "yes") ?_
          try dsimp only
          (with_reducible show wpAny _ _ (execs _ _) _ _ _); (try clear kS); with_reducible refine ex_cons ?_; intro kS
          try dsimp only
          refine @wpAny_If _ _ _ _ _ _ _ _ _ _ ?_
          try dsimp only
          refine @wpAny_isTrue_Compare1 _ _ _ _ _ _ _ _ _ _ _ ?_ (by with_unfolding_all rfl)
          try dsimp only
          refine @Subscript_ _ _ _ _ _ _ _ _ _ ?_
          try dsimp only
          refine @nm_local _ _ _ _ _ _ _ _ _ _ _ _ _ (by assumption) (by walk_at "dv") ?_ (by rfl) (by rfl) (by decide)
          try dsimp only
          refine @wpAny_Slice _ _ _ _ _ _ _ _ _ _ ?_
          try dsimp only
          refine @evalPart_some_step _ _ _ _ _ _ _ ?_
          try dsimp only
          refine @nm_local _ _ _ _ _ _ _ _ _ _ _ _ _ (by assumption) (by walk_at "dv") ?_ (by rfl) (by rfl) (by decide)
          try dsimp only
          refine @evalPart_some_step _ _ _ _ _ _ _ ?_
          try dsimp only
          refine @wpAny_BinOp _ _ _ _ _ _ _ _ _ _ ?_
          try dsimp only
          refine @nm_local _ _ _ _ _ _ _ _ _ _ _ _ _ (by assumption) (by walk_at "dv") ?_ (by rfl) (by rfl) (by decide)
          try dsimp only
          refine @nm_local _ _ _ _ _ _ _ _ _ _ _ _ _ (by assumption) (by walk_at "dv") ?_ (by rfl) (by rfl) (by decide)
          try dsimp only
          refine @add_I _ _ _ _ _ _ _ _ _ ?_; intro _ _
          try dsimp only
          refine @evalPart_none_step _ _ _ _ _ _ ?_
          try dsimp only
          refine @slice2 _ _ _ _ _ _ _ _ _ _ _ _ _ _ _ _ _ _ _ _ _ _ _ (by assumption) (by walk_at "sz") (by walk_at "cut") ?_; intro _ _ _ _
          try dsimp only
          refine @Subscript_ _ _ _ _ _ _ _ _ _ ?_
          try dsimp only
          refine @Subscript_ _ _ _ _ _ _ _ _ _ ?_
          try dsimp only
          refine @nm_local _ _ _ _ _ _ _ _ _ _ _ _ _ (by assumption) (by walk_at "dv") ?_ (by rfl) (by rfl) (by decide)
          try dsimp only
          refine @Subscript_ _ _ _ _ _ _ _ _ _ ?_
          try dsimp only
          refine @nm_local _ _ _ _ _ _ _ _ _ _ _ _ _ (by assumption) (by walk_at "dv") ?_ (by rfl) (by rfl) (by decide)
          try dsimp only
          refine @wpAny_Slice _ _ _ _ _ _ _ _ _ _ ?_
          try dsimp only
          refine @evalPart_some_step _ _ _ _ _ _ _ ?_
          try dsimp only
          refine @nm_local _ _ _ _ _ _ _ _ _ _ _ _ _ (by assumption) (by walk_at "dv") ?_ (by rfl) (by rfl) (by decide)
          try dsimp only
          refine @evalPart_some_step _ _ _ _ _ _ _ ?_
          try dsimp only
          refine @wpAny_BinOp _ _ _ _ _ _ _ _ _ _ ?_
          try dsimp only
          refine @nm_local _ _ _ _ _ _ _ _ _ _ _ _ _ (by assumption) (by walk_at "dv") ?_ (by rfl) (by rfl) (by decide)
          try dsimp only
          refine @nm_local _ _ _ _ _ _ _ _ _ _ _ _ _ (by assumption) (by walk_at "dv") ?_ (by rfl) (by rfl) (by decide)
          try dsimp only
          refine @add_I _ _ _ _ _ _ _ _ _ ?_; intro _ _
          try dsimp only
          refine @evalPart_none_step _ _ _ _ _ _ ?_
          try dsimp only
          refine @slice2 _ _ _ _ _ _ _ _ _ _ _ _ _ _ _ _ _ _ _ _ _ _ _ (by assumption) (by walk_at "sz") (by walk_at "cut") ?_; intro _ _ _ _
          try dsimp only
          refine @tail_D _ _ _ _ _ _ _ _ _ _ _ _ _ (Sd.get (by assumption) (by walk_at "mem")) (by assumption) (by assumption) ?_ (by with_unfolding_all rfl); intro _
          try dsimp only
          refine @cst_int _ _ _ _ _ _ _ _ _ ?_; intro _ _
          try dsimp only
          refine @tail_tup _ _ _ _ _ _ _ _ _ _ _ _ _ _ (1) _ _ _ (by assumption) (by walk_at "mem") (by rfl) (by exact rfl) (by walk_at "sz") ?_ (by rfl)
          try dsimp only
          refine @in_Ls _ _ _ _ _ _ _ _ _ _ _ _ _ _ _ _ (by assumption) (by walk_at "mem") (by assumption) ?_
          try dsimp only
          refine @wpAny_truthy_bool _ _ _ _ _ _ ?_
          try dsimp only
          (with_reducible show (if _ = true then _ else _)); refine @iteN _ _ _ (by walk_at "yes") ?_
          try dsimp only
          (with_reducible show wpAny _ _ (execs _ _) _ _ _); (try clear kS); with_reducible refine wpAny_execs_nil ?_
          try dsimp only
          (with_reducible show wpAny _ _ (execs _ _) _ _ _); (try clear kS); with_reducible refine ex_cons ?_; intro kS
          try dsimp only
          refine @wpAny_AugAssign_Name _ _ _ _ _ _ _ _ _ _ _ ?_
          try dsimp only
          refine @ld_local _ _ _ _ _ _ _ _ _ _ _ _ (by assumption) (by walk_at "dv") ?_ (by rfl) (by rfl)
          try dsimp only
          refine @cst_int _ _ _ _ _ _ _ _ _ ?_; intro _ _
          try dsimp only
          refine @iadd_I _ _ _ _ _ _ _ _ _ ?_; intro _ _
          try dsimp only
          refine @st_localL _ _ _ _ _ _ _ _ _ _ _ _ (by assumption) ?_ (by rfl) (by rfl); intro _ _ _ _
          try dsimp only
          (with_reducible show wpAny _ _ (execs _ _) _ _ _); (try clear kS); with_reducible refine wpAny_execs_nil ?_
          try dsimp only
          rename Sd H _ _ _ _ _ => D12
          exact ⟨tt.length + 1 - (sz + 1), _, _, _, _, rfl, D12.drop 0, ⟨sz + 1, b, _, _, ps3, ko3, kv3, kl3, ⟨rfl, rfl, rfl, rfl, rfl, rfl, trivial⟩, rfl, ht3, ho3, hI3, by lia, by lia, by lia, rfl, hsc', hb, fun _ => by rw [Nat.add_sub_cancel]; exact hsome⟩, by lia⟩
    · have hbe : b = bestOf tt := by
        rw [← hsc, show tt.length + 1 - sz = 0 from by lia]; rfl
      have hcutb : cut text (some (a : Int)) (some ((a : Int) + (b : Int))) = tt.take b := by
        by_cases q : 0 < b
        · have e := cut_nat text a (a + b) (by have := (hb q).2; lia) (by lia)
          rw [htt, Nat.add_sub_cancel_left] at e
          exact e
        · have : b = 0 := by lia
          subst this
          have e := cut_nat text a (a + 0) (by lia) (by lia)
          rw [htt, Nat.add_sub_cancel_left] at e
          exact e
      by_cases hbp : 0 < b
      · obtain ⟨t70, hv70⟩ := vat70 (hb hbp).1
        have hw : word tt = codeOf (tt.take b) := by unfold word; rw [← hbe, if_pos hbp]
        have hbl := (hb hbp).2
        refine @isTrue_and _ _ _ _ _ _ _ _ _ _ ?_
        try dsimp only
        refine @wpAny_isTrue_Compare1 _ _ _ _ _ _ _ _ _ _ _ ?_ (by with_unfolding_all rfl)
        try dsimp only
        refine @wpAny_BinOp _ _ _ _ _ _ _ _ _ _ ?_
        try dsimp only
        refine @nm_local _ _ _ _ _ _ _ _ _ _ _ _ _ (by assumption) (by walk_at "dv") ?_ (by rfl) (by rfl) (by decide)
        try dsimp only
        refine @nm_local _ _ _ _ _ _ _ _ _ _ _ _ _ (by assumption) (by walk_at "dv") ?_ (by rfl) (by rfl) (by decide)
        try dsimp only
        refine @add_I _ _ _ _ _ _ _ _ _ ?_; intro _ _
        try dsimp only
        refine @call_bi _ _ _ _ _ _ _ _ _ _ _ _ _ _ _ _ _ _ _ _ _ (by assumption) (by assumption) (by assumption) (by k_is) (by boot_by_name) ?_ (by decide) (by rfl) (by rfl) (by rfl) (by rfl) (by decide) (by rfl) (by rfl)
        try dsimp only
        refine @spliced_more _ _ _ _ _ _ _ _ _ ?_ (by rfl)
        try dsimp only
        refine @nm_local _ _ _ _ _ _ _ _ _ _ _ _ _ (by assumption) (by walk_at "dv") ?_ (by rfl) (by rfl) (by decide)
        try dsimp only
        refine @spliced_none _ _ _ _ _ _ _ ?_
        try dsimp only
        refine @len_S _ _ _ _ _ _ _ ?_ (by walk_at "sz"); intro _ _
        try dsimp only
        with_reducible refine le_I ?_
        try dsimp only
        refine @wpAny_truthy_bool _ _ _ _ _ _ ?_
        try dsimp only
        (with_reducible show (if _ = true then _ else _)); refine @iteN _ _ _ (by walk_at "yes") ?_
        try dsimp only
        (with_reducible show (if _ = true then _ else _)); refine @iteN _ _ _ (by walk_at "yes") ?_
        try dsimp only
        (with_reducible show wpAny _ _ (execs _ _) _ _ _); (try clear kS); with_reducible refine ex_cons ?_; intro kS
        try dsimp only
        refine @wpAny_Expr _ _ _ _ _ _ _ _ ?_ (by rfl) (by rfl)
        try dsimp only
        refine @meth1_list _ _ _ _ _ _ _ _ _ _ _ _ F.slot_list_append F.type_list_append ?_ (by rfl) (by rfl) (by rfl)
        try dsimp only
        refine @nm_local _ _ _ _ _ _ _ _ _ _ _ _ _ (by assumption) (by walk_at "dv") ?_ (by rfl) (by rfl) (by decide)
        try dsimp only
        refine ⟨⟨_, _, _, rfl, Sd.get (by assumption) (by walk_at "mem")⟩, ?_⟩
        try dsimp only
        refine @IfExp_ _ _ _ _ _ _ _ _ _ _ ?_
        try dsimp only
        refine @wpAny_isTrue_Compare1 _ _ _ _ _ _ _ _ _ _ _ ?_ (by with_unfolding_all rfl)
        try dsimp only
        refine @nm_local _ _ _ _ _ _ _ _ _ _ _ _ _ (by assumption) (by walk_at "dv") ?_ (by rfl) (by rfl) (by decide)
        try dsimp only
        refine @cst_int _ _ _ _ _ _ _ _ _ ?_; intro _ _
        try dsimp only
        with_reducible refine gt_I ?_
        try dsimp only
        refine @wpAny_truthy_bool _ _ _ _ _ _ ?_
        try dsimp only
        (with_reducible show (if _ = true then _ else _)); refine @iteY _ _ _ (by walk_at "yes") ?_
        try dsimp only
        refine @Subscript_ _ _ _ _ _ _ _ _ _ ?_
        try dsimp only
        refine @nm_glob _ _ _ _ _ _ _ _ _ _ _ _ _ _ _ _ _ _ (by assumption) (by assumption) (by assumption) (by k_is) ?_ (by rfl) (by rfl) (by rfl) (by decide)
        try dsimp only
        refine @Subscript_ _ _ _ _ _ _ _ _ _ ?_
        try dsimp only
        refine @nm_local _ _ _ _ _ _ _ _ _ _ _ _ _ (by assumption) (by walk_at "dv") ?_ (by rfl) (by rfl) (by decide)
        try dsimp only
        refine @wpAny_Slice _ _ _ _ _ _ _ _ _ _ ?_
        try dsimp only
        refine @evalPart_some_step _ _ _ _ _ _ _ ?_
        try dsimp only
        refine @nm_local _ _ _ _ _ _ _ _ _ _ _ _ _ (by assumption) (by walk_at "dv") ?_ (by rfl) (by rfl) (by decide)
        try dsimp only
        refine @evalPart_some_step _ _ _ _ _ _ _ ?_
        try dsimp only
        refine @wpAny_BinOp _ _ _ _ _ _ _ _ _ _ ?_
        try dsimp only
        refine @nm_local _ _ _ _ _ _ _ _ _ _ _ _ _ (by assumption) (by walk_at "dv") ?_ (by rfl) (by rfl) (by decide)
        try dsimp only
        refine @nm_local _ _ _ _ _ _ _ _ _ _ _ _ _ (by assumption) (by walk_at "dv") ?_ (by rfl) (by rfl) (by decide)
        try dsimp only
        refine @add_I _ _ _ _ _ _ _ _ _ ?_; intro _ _
        try dsimp only
        refine @evalPart_none_step _ _ _ _ _ _ ?_
        try dsimp only
        refine @slice2 _ _ _ _ _ _ _ _ _ _ _ _ _ _ _ _ _ _ _ _ _ _ _ (by assumption) (by walk_at "sz") (by walk_at "cut") ?_; intro _ _ _ _
        try dsimp only
        refine @tail_D _ _ _ _ _ _ _ _ _ _ _ _ _ (Sd.old (by assumption) (by rename Frag.In _ _ => hX; exact hX _ _ (KF.k70 _))) do70 (by assumption) ?_ (by with_unfolding_all rfl); intro _
        try dsimp only
        refine @list_appendL _ _ _ _ _ _ _ _ _ _ _ _ _ _ (by assumption) 0 (by rfl) ?_ (by walk_at "sz"); walk_at "ap"
        try dsimp only
        (with_reducible show wpAny _ _ (execs _ _) _ _ _); (try clear kS); with_reducible refine ex_cons ?_; intro kS
        try dsimp only
        refine @wpAny_AugAssign_Name _ _ _ _ _ _ _ _ _ _ _ ?_
        try dsimp only
        refine @ld_local _ _ _ _ _ _ _ _ _ _ _ _ (by assumption) (by walk_at "dv") ?_ (by rfl) (by rfl)
        try dsimp only
        refine @call_bi _ _ _ _ _ _ _ _ _ _ _ _ _ _ _ _ _ _ _ _ _ (by assumption) (by assumption) (by assumption) (by k_is) (by boot_by_name) ?_ (by decide) (by rfl) (by rfl) (by rfl) (by rfl) (by decide) (by rfl) (by rfl)
        try dsimp only
        refine @spliced_more _ _ _ _ _ _ _ _ _ ?_ (by rfl)
        try dsimp only
        refine @cst_int _ _ _ _ _ _ _ _ _ ?_; intro _ _
        try dsimp only
        refine @spliced_more _ _ _ _ _ _ _ _ _ ?_ (by rfl)
        try dsimp only
        refine @nm_local _ _ _ _ _ _ _ _ _ _ _ _ _ (by assumption) (by walk_at "dv") ?_ (by rfl) (by rfl) (by decide)
        try dsimp only
        refine @spliced_none _ _ _ _ _ _ _ ?_
        try dsimp only
        refine @max_two _ _ _ _ _ _ _ _ _ _ _ _ _ (by walk_at "hh") (by assumption) ?_; intro _ _ _ _
        try dsimp only
        refine @iadd_I _ _ _ _ _ _ _ _ _ ?_; intro _ _
        try dsimp only
        refine @st_localL _ _ _ _ _ _ _ _ _ _ _ _ (by assumption) ?_ (by rfl) (by rfl); intro _ _ _ _
        try dsimp only
        (with_reducible show wpAny _ _ (execs _ _) _ _ _); (try clear kS); with_reducible refine wpAny_execs_nil ?_
        try dsimp only
        rename Sd H _ _ _ _ _ => D12
        exact ⟨text.length - (a + max 1 b), _, _, _, _, rfl, D12, ⟨a + max 1 b, _, n + 1, _, done ++ [codeOf (tt.take b)], ps2, ko2, kv2, kl2, ⟨rfl, rfl, rfl, rfl, trivial⟩, rfl, ht2, ho2, hI2, by lia, by lia, rfl, hv.snoc _ _, by rw [List.length_append, List.length_singleton]; lia, by rw [← List.drop_drop, htt, ← hw, hbe, List.append_assoc, List.singleton_append, ← R_step tt hne]; exact hR⟩, by lia⟩
      · have hb0 : b = 0 := by lia
        subst hb0
        have hw : word tt = 256 + c0 := by unfold word; rw [← hbe, if_neg (Nat.lt_irrefl _), hc1]
        refine @isTrue_and _ _ _ _ _ _ _ _ _ _ ?_
        try dsimp only
        refine @wpAny_isTrue_Compare1 _ _ _ _ _ _ _ _ _ _ _ ?_ (by with_unfolding_all rfl)
        try dsimp only
        refine @wpAny_BinOp _ _ _ _ _ _ _ _ _ _ ?_
        try dsimp only
        refine @nm_local _ _ _ _ _ _ _ _ _ _ _ _ _ (by assumption) (by walk_at "dv") ?_ (by rfl) (by rfl) (by decide)
        try dsimp only
        refine @nm_local _ _ _ _ _ _ _ _ _ _ _ _ _ (by assumption) (by walk_at "dv") ?_ (by rfl) (by rfl) (by decide)
        try dsimp only
        refine @add_I _ _ _ _ _ _ _ _ _ ?_; intro _ _
        try dsimp only
        refine @call_bi _ _ _ _ _ _ _ _ _ _ _ _ _ _ _ _ _ _ _ _ _ (by assumption) (by assumption) (by assumption) (by k_is) (by boot_by_name) ?_ (by decide) (by rfl) (by rfl) (by rfl) (by rfl) (by decide) (by rfl) (by rfl)
        try dsimp only
        refine @spliced_more _ _ _ _ _ _ _ _ _ ?_ (by rfl)
        try dsimp only
        refine @nm_local _ _ _ _ _ _ _ _ _ _ _ _ _ (by assumption) (by walk_at "dv") ?_ (by rfl) (by rfl) (by decide)
        try dsimp only
        refine @spliced_none _ _ _ _ _ _ _ ?_
        try dsimp only
        refine @len_S _ _ _ _ _ _ _ ?_ (by walk_at "sz"); intro _ _
        try dsimp only
        with_reducible refine le_I ?_
        try dsimp only
        refine @wpAny_truthy_bool _ _ _ _ _ _ ?_
        try dsimp only
        (with_reducible show (if _ = true then _ else _)); refine @iteN _ _ _ (by walk_at "yes") ?_
        try dsimp only
        (with_reducible show (if _ = true then _ else _)); refine @iteN _ _ _ (by walk_at "yes") ?_
        try dsimp only
        (with_reducible show wpAny _ _ (execs _ _) _ _ _); (try clear kS); with_reducible refine ex_cons ?_; intro kS
        try dsimp only
        refine @wpAny_Expr _ _ _ _ _ _ _ _ ?_ (by rfl) (by rfl)
        try dsimp only
        refine @meth1_list _ _ _ _ _ _ _ _ _ _ _ _ F.slot_list_append F.type_list_append ?_ (by rfl) (by rfl) (by rfl)
        try dsimp only
        refine @nm_local _ _ _ _ _ _ _ _ _ _ _ _ _ (by assumption) (by walk_at "dv") ?_ (by rfl) (by rfl) (by decide)
        try dsimp only
        refine ⟨⟨_, _, _, rfl, Sd.get (by assumption) (by walk_at "mem")⟩, ?_⟩
        try dsimp only
        refine @IfExp_ _ _ _ _ _ _ _ _ _ _ ?_
        try dsimp only
        refine @wpAny_isTrue_Compare1 _ _ _ _ _ _ _ _ _ _ _ ?_ (by with_unfolding_all rfl)
        try dsimp only
        refine @nm_local _ _ _ _ _ _ _ _ _ _ _ _ _ (by assumption) (by walk_at "dv") ?_ (by rfl) (by rfl) (by decide)
        try dsimp only
        refine @cst_int _ _ _ _ _ _ _ _ _ ?_; intro _ _
        try dsimp only
        with_reducible refine gt_I ?_
        try dsimp only
        refine @wpAny_truthy_bool _ _ _ _ _ _ ?_
        try dsimp only
        (with_reducible show (if _ = true then _ else _)); refine @iteN _ _ _ (by walk_at "yes") ?_
        try dsimp only
        refine @wpAny_BinOp _ _ _ _ _ _ _ _ _ _ ?_
        try dsimp only
        refine @nm_glob _ _ _ _ _ _ _ _ _ _ _ _ _ _ _ _ _ _ (by assumption) (by assumption) (by assumption) (by k_is) ?_ (by rfl) (by rfl) (by rfl) (by decide)
        try dsimp only
        refine @call_bi _ _ _ _ _ _ _ _ _ _ _ _ _ _ _ _ _ _ _ _ _ (by assumption) (by assumption) (by assumption) (by k_is) (by boot_by_name) ?_ (by decide) (by rfl) (by rfl) (by rfl) (by rfl) (by decide) (by rfl) (by rfl)
        try dsimp only
        refine @spliced_more _ _ _ _ _ _ _ _ _ ?_ (by rfl)
        try dsimp only
        refine @Subscript_ _ _ _ _ _ _ _ _ _ ?_
        try dsimp only
        refine @nm_local _ _ _ _ _ _ _ _ _ _ _ _ _ (by assumption) (by walk_at "dv") ?_ (by rfl) (by rfl) (by decide)
        try dsimp only
        refine @nm_local _ _ _ _ _ _ _ _ _ _ _ _ _ (by assumption) (by walk_at "dv") ?_ (by rfl) (by rfl) (by decide)
        try dsimp only
        refine @tail_str _ _ _ _ _ _ _ _ _ _ _ _ _ (by rfl) (by first | assumption | exact rfl) (by walk_at "sz") ?_ (by rfl); intro _ _
        try dsimp only
        refine @spliced_none _ _ _ _ _ _ _ ?_
        try dsimp only
        refine @ord_S _ _ _ _ _ _ _ ?_; intro _ _
        try dsimp only
        refine @add_I _ _ _ _ _ _ _ _ _ ?_; intro _ _
        try dsimp only
        refine @list_appendL _ _ _ _ _ _ _ _ _ _ _ _ _ _ (by assumption) 0 (by rfl) ?_ (by walk_at "sz"); walk_at "ap"
        try dsimp only
        (with_reducible show wpAny _ _ (execs _ _) _ _ _); (try clear kS); with_reducible refine ex_cons ?_; intro kS
        try dsimp only
        refine @wpAny_AugAssign_Name _ _ _ _ _ _ _ _ _ _ _ ?_
        try dsimp only
        refine @ld_local _ _ _ _ _ _ _ _ _ _ _ _ (by assumption) (by walk_at "dv") ?_ (by rfl) (by rfl)
        try dsimp only
        refine @call_bi _ _ _ _ _ _ _ _ _ _ _ _ _ _ _ _ _ _ _ _ _ (by assumption) (by assumption) (by assumption) (by k_is) (by boot_by_name) ?_ (by decide) (by rfl) (by rfl) (by rfl) (by rfl) (by decide) (by rfl) (by rfl)
        try dsimp only
        refine @spliced_more _ _ _ _ _ _ _ _ _ ?_ (by rfl)
        try dsimp only
        refine @cst_int _ _ _ _ _ _ _ _ _ ?_; intro _ _
        try dsimp only
        refine @spliced_more _ _ _ _ _ _ _ _ _ ?_ (by rfl)
        try dsimp only
        refine @nm_local _ _ _ _ _ _ _ _ _ _ _ _ _ (by assumption) (by walk_at "dv") ?_ (by rfl) (by rfl) (by decide)
        try dsimp only
        refine @spliced_none _ _ _ _ _ _ _ ?_
        try dsimp only
        refine @max_two _ _ _ _ _ _ _ _ _ _ _ _ _ (by walk_at "hh") (by assumption) ?_; intro _ _ _ _
        try dsimp only
        refine @iadd_I _ _ _ _ _ _ _ _ _ ?_; intro _ _
        try dsimp only
        refine @st_localL _ _ _ _ _ _ _ _ _ _ _ _ (by assumption) ?_ (by rfl) (by rfl); intro _ _ _ _
        try dsimp only
        (with_reducible show wpAny _ _ (execs _ _) _ _ _); (try clear kS); with_reducible refine wpAny_execs_nil ?_
        try dsimp only
        rename Sd H _ _ _ _ _ => D12
        exact ⟨text.length - (a + max 1 0), _, _, _, _, rfl, D12, ⟨a + max 1 0, _, n + 1, _, done ++ [256 + c0], ps2, ko2, kv2, kl2, ⟨rfl, rfl, rfl, rfl, trivial⟩, rfl, ht2, ho2, hI2, by lia, by lia, rfl, hv.snoc _ _, by rw [List.length_append, List.length_singleton]; lia, by rw [← List.drop_drop, htt, ← hw, hbe, List.append_assoc, List.singleton_append, ← R_step tt hne]; exact hR⟩, by lia⟩
  · refine @wpAny_isTrue_Compare1 _ _ _ _ _ _ _ _ _ _ _ ?_ (by with_unfolding_all rfl)
    try dsimp only
    refine @nm_local _ _ _ _ _ _ _ _ _ _ _ _ _ (by assumption) (by walk_at "dv") ?_ (by rfl) (by rfl) (by decide)
    try dsimp only
    refine @call_bi _ _ _ _ _ _ _ _ _ _ _ _ _ _ _ _ _ _ _ _ _ (by assumption) (by assumption) (by assumption) (by k_is) (by boot_by_name) ?_ (by decide) (by rfl) (by rfl) (by rfl) (by rfl) (by decide) (by rfl) (by rfl)
    try dsimp only
    refine @spliced_more _ _ _ _ _ _ _ _ _ ?_ (by rfl)
    try dsimp only
    refine @nm_local _ _ _ _ _ _ _ _ _ _ _ _ _ (by assumption) (by walk_at "dv") ?_ (by rfl) (by rfl) (by decide)
    try dsimp only
    refine @spliced_none _ _ _ _ _ _ _ ?_
    try dsimp only
    refine @len_S _ _ _ _ _ _ _ ?_ (by walk_at "sz"); intro _ _
    try dsimp only
    with_reducible refine lt_I ?_
    try dsimp only
    refine @wpAny_truthy_bool _ _ _ _ _ _ ?_
    try dsimp only
    (with_reducible show (if _ = true then _ else _)); refine @iteN _ _ _ (by walk_at "yes") ?_
    try dsimp only
    (with_reducible show wpAny _ _ (execs _ _) _ _ _); (try clear kS); with_reducible refine ex_cons ?_; intro kS
    try dsimp only
    refine @wpAny_Return_some _ _ _ _ _ _ _ _ ?_
    try dsimp only
    refine @nm_local _ _ _ _ _ _ _ _ _ _ _ _ _ (by assumption) (by walk_at "dv") ?_ (by rfl) (by rfl) (by decide)
    try dsimp only
    have : a = text.length := by lia
    subst this
    rw [List.drop_length, R_nil, List.append_nil] at hR
    exact h r vs n ps1 ko1 kv1 kl1 _ _ (lv _ _ _ _ D6) ht1 ho1 hI1 (by lia) (hR ▸ hv)
end
end Mine

open PySem PySem.W PySem.Calls PyProof.Rows
set_option Elab.async false
set_option maxRecDepth 100000
set_option autoImplicit false
set_option maxHeartbeats 4000000
namespace Mine
inductive JFW (text : List Nat) (t : Tok) (C d : Addr) (oDu2 oOw : Obj) (led : Ledg) (i : Nat) (m' : Vm) (led' : Ledg) : Prop
  | mk (n : Nat) (refs : List Value) (oL oR : Obj) (vL vR : Option Value) (kl : Ledg) (f0 : Has [("text", .str (S text) t)] m') (f1 : led' = (d, listOf refs.toArray n) :: (C + 5, oL) :: (C + 4, oR) :: (C + 2, oDu2) :: (C + 1, oOw) :: (kl ++ led)) (f2 : oL.data = .cell vL) (f3 : oR.data = .cell vR) (f4 : LLs kl refs (dp text i))
section
variable {w : World} {A : Around} {s : Shared} {H : Heap} {fs : Ledg} {L : Addr} {m mg mb : Vm} {led : Ledg} {pp : Program} {loose : List Str}
theorem ct_fewest {text : List Nat} {t : Tok} {od : Addr} {oo : Obj} {kvo : Kv} {Q : Value → Shared → Prop} (X : (Mine.KK0 w.params).In H) (TR : TopRead pp loose mg mb H) (hh : A.handled = none) (hdp : A.depth + 5 < recursionLimit) (hu : A.units + 100 < cLine)
    (D : Sd H fs L m s.heap led) (hmo : (od, oo) ∈ led) (ho : DO PR w kvo oo) (hI : OwnInv kvo) (hl : ∀ c ∈ text, c < 128) (hsz : text.length ≤ 30) (hsys : (od == sysModules) = false)
    (h : ∀ r vs n h' tk', Sd H fs L m h' ((r, listOf vs.toArray n) :: led) → IVs vs (F text) → Q (.ref r) { s with heap := h', toks := tk' }) :
    wpAny (model PR w) A (call (.ref 108) [.str (S text) t, .ref od]) Q NoE s := by
  refine' call_sdCL (hh := hh) (K := Mine.KK0 w.params) (binds := [("text", .str (S text) t), ("own", .ref od)]) D X TR.nolimit ?ho ?hcd ?hroom ?hbind ?hloc ?hcell ?_ ?hco ?hgen ?hk
  walk_at "enterC"
  intro C oL h1 tk1 cells hc D1 lv
  intro env kR A1 hA1 hA2 hA3
  obtain ⟨oLe, oRe, oK, oDu, oOw, rfl, d1, d2, d3, d4, d5⟩ := kc_five hc
  clear D hc
  (with_reducible show wpAny _ _ (execs _ _) _ _ _); (try clear kS); with_reducible refine ex_cons ?_; intro kS
  try dsimp only
  refine @wpAny_Assign_Name _ _ _ _ _ _ _ _ _ _ ?_ (by rfl)
  try dsimp only
  refine @List_ _ _ _ _ _ _ _ _ ?_
  try dsimp only
  refine @spliced_more _ _ _ _ _ _ _ _ _ ?_ (by rfl)
  try dsimp only
  refine @List_ _ _ _ _ _ _ _ _ ?_
  try dsimp only
  refine @spliced_none _ _ _ _ _ _ _ ?_
  try dsimp only
  refine @newList_sdL _ _ _ _ _ _ _ _ _ _ _ (by assumption) ?_ (by exact sz_lit rfl); intro _ _ _ _ _
  try dsimp only
  refine @spliced_none _ _ _ _ _ _ _ ?_
  try dsimp only
  refine @newList_sdL _ _ _ _ _ _ _ _ _ _ _ (by assumption) ?_ (by exact sz_lit rfl); intro _ _ _ _ _
  try dsimp only
  refine @st_cell _ _ _ _ _ _ _ _ _ _ _ _ (5) _ _ _ (by assumption) (by exact rfl) (by exact rfl) (by assumption) ?_ (by rfl) (by rfl); walk_at "cl"
  try dsimp only
  (with_reducible show wpAny _ _ (execs _ _) _ _ _); (try clear kS); with_reducible refine ex_cons ?_; intro kS
  try dsimp only
  refine @wpAny_For _ _ _ _ _ _ _ _ _ _ _ ?_ (by intro _; rfl)
  try dsimp only
  refine @call_ty _ _ _ _ _ _ _ _ _ _ _ _ _ _ _ _ _ _ _ _ _ (by assumption) (by assumption) (by assumption) (by k_is) (by boot_by_name) ?_ (by decide) (by rfl) (by rfl) (by rfl) (by rfl) (by decide) (by rfl) (by rfl)
  try dsimp only
  refine @spliced_more _ _ _ _ _ _ _ _ _ ?_ (by rfl)
  try dsimp only
  refine @cst_int _ _ _ _ _ _ _ _ _ ?_; intro _ _
  try dsimp only
  refine @spliced_more _ _ _ _ _ _ _ _ _ ?_ (by rfl)
  try dsimp only
  refine @wpAny_BinOp _ _ _ _ _ _ _ _ _ _ ?_
  try dsimp only
  refine @call_bi _ _ _ _ _ _ _ _ _ _ _ _ _ _ _ _ _ _ _ _ _ (by assumption) (by assumption) (by assumption) (by k_is) (by boot_by_name) ?_ (by decide) (by rfl) (by rfl) (by rfl) (by rfl) (by decide) (by rfl) (by rfl)
  try dsimp only
  refine @spliced_more _ _ _ _ _ _ _ _ _ ?_ (by rfl)
  try dsimp only
  refine @nm_local _ _ _ _ _ _ _ _ _ _ _ _ _ (by assumption) (by walk_at "dv") ?_ (by rfl) (by rfl) (by decide)
  try dsimp only
  refine @spliced_none _ _ _ _ _ _ _ ?_
  try dsimp only
  refine @len_S _ _ _ _ _ _ _ ?_ (by walk_at "sz"); intro _ _
  try dsimp only
  refine @cst_int _ _ _ _ _ _ _ _ _ ?_; intro _ _
  try dsimp only
  refine @add_I _ _ _ _ _ _ _ _ _ ?_; intro _ _
  try dsimp only
  refine @spliced_none _ _ _ _ _ _ _ ?_
  try dsimp only
  refine @range2_sd _ _ _ _ _ _ _ _ _ _ _ _ _ _ (by assumption) ?_; intro _ _ _ _ _
  try dsimp only
  rename_i a0 h2 tk2 _ D2 d h3 tk3 _ D3 h4 oDu2 tk4 D4 d4' tc1 tkc1 tl tkl tc2 tkc2 ta tka r v h5 tk5 D5
  clear D1 D2 D3 D4 d4
  have D6 := D5.tail.pull 1 rfl
  have D7 := Sd.back (pre := [(d, _), (C + 5, oLe), (C + 4, oRe), (C + 3, oK), (C + 2, oDu2), (C + 1, oOw)]) D6
  have D8 := D7.pull 3 rfl
  have hr := D5.get (.head _)
  clear D5 D6 D7
  refine for_cellL (s := { s with heap := h5, toks := _ }) (it_R (n := text.length) (by walk_at "hh") hr (by lia) (by lia) (by lia) (by lia) (by lia)) D8 (by exact rfl) d3
    (JFW text t C d oDu2 oOw led)
    ⟨_, _, oLe, oRe, _, _, [(a0, _)], ⟨rfl, trivial⟩, rfl, d1, d2, .cons ⟨a0, [], _, rfl, .head _, .nil⟩ .nil⟩ (fun _ _ _ _ _ hp => by cases hp) ?_ ?_
  · rintro I oI i KB oc v m1 led1 h6 tk6 hi ⟨tv, rfl⟩ ⟨n, refs, oL5, oR5, vL, vR, kl, hm, rfl, dL, dR, hLL⟩ hoc D9
    have D10 := D9.lo hm
    rw [show (1 : Int) + (i : Int) * 1 = ((i + 1 : Nat) : Int) from by lia] at hoc
    have hdl := dp_len text i
    have hrl := hLL.len
    have hcut : cut text (some ((text.length : Int) - ((i + 1 : Nat) : Int))) none = text.drop (text.length - (i + 1)) := by
      rw [show (text.length : Int) - ((i + 1 : Nat) : Int) = ((text.length - (i + 1) : Nat) : Int) from by lia]; exact cut_from _ _
    have hdp : dp text (i + 1) = dp text i ++ [pick (ways (text.drop (text.length - (i + 1))) (i + 1) (dp text i))] := rfl
    have hrestl : (text.drop (text.length - (i + 1))).length = i + 1 := by rw [List.length_drop]; lia
    generalize hrest : text.drop (text.length - (i + 1)) = rest at *
    clear D8 D9 hm hr
    (with_reducible show wpAny _ _ (execs _ _) _ _ _); (try clear kS); with_reducible refine ex_cons ?_; intro kS
    try dsimp only
    refine @wpAny_Assign_Name _ _ _ _ _ _ _ _ _ _ ?_ (by rfl)
    try dsimp only
    refine @Subscript_ _ _ _ _ _ _ _ _ _ ?_
    try dsimp only
    refine @nm_local _ _ _ _ _ _ _ _ _ _ _ _ _ (by assumption) (by walk_at "dv") ?_ (by rfl) (by rfl) (by decide)
    try dsimp only
    refine @wpAny_Slice _ _ _ _ _ _ _ _ _ _ ?_
    try dsimp only
    refine @evalPart_some_step _ _ _ _ _ _ _ ?_
    try dsimp only
    refine @wpAny_BinOp _ _ _ _ _ _ _ _ _ _ ?_
    try dsimp only
    refine @call_bi _ _ _ _ _ _ _ _ _ _ _ _ _ _ _ _ _ _ _ _ _ (by assumption) (by assumption) (by assumption) (by k_is) (by boot_by_name) ?_ (by decide) (by rfl) (by rfl) (by rfl) (by rfl) (by decide) (by rfl) (by rfl)
    try dsimp only
    refine @spliced_more _ _ _ _ _ _ _ _ _ ?_ (by rfl)
    try dsimp only
    refine @nm_local _ _ _ _ _ _ _ _ _ _ _ _ _ (by assumption) (by walk_at "dv") ?_ (by rfl) (by rfl) (by decide)
    try dsimp only
    refine @spliced_none _ _ _ _ _ _ _ ?_
    try dsimp only
    refine @len_S _ _ _ _ _ _ _ ?_ (by walk_at "sz"); intro _ _
    try dsimp only
    refine @nm_cell _ _ _ _ _ _ _ _ _ _ _ _ _ _ _ (by assumption) (by walk_at "dv") (by walk_at "mem") (by assumption) ?_ (by rfl) (by rfl) (by decide)
    try dsimp only
    refine @sub_I _ _ _ _ _ _ _ _ _ ?_; intro _ _
    try dsimp only
    refine @evalPart_none_step _ _ _ _ _ _ ?_
    try dsimp only
    refine @evalPart_none_step _ _ _ _ _ _ ?_
    try dsimp only
    refine @sliceFrom _ _ _ _ _ _ _ _ _ _ _ _ _ _ _ _ _ _ _ _ _ (by assumption) (by walk_at "sz") (by walk_at "cut") ?_; intro _ _ _ _
    try dsimp only
    refine @st_cell _ _ _ _ _ _ _ _ _ _ _ _ (4) _ _ _ (by assumption) (by exact rfl) (by exact rfl) (by assumption) ?_ (by rfl) (by rfl); walk_at "cl"
    try dsimp only
    (with_reducible show wpAny _ _ (execs _ _) _ _ _); (try clear kS); with_reducible refine ex_cons ?_; intro kS
    try dsimp only
    refine @assignComp_sdL _ _ _ _ _ _ _ _ _ _ _ _ _ _ _ _ _ _ _ _ _ (by assumption) rfl rfl (by decide) rfl (by decide) rfl rfl rfl ?_ (by intro _; rfl); intro _
    try dsimp only
    refine @Tuple_ _ _ _ _ _ _ _ _ _ ?_
    try dsimp only
    refine @spliced_more _ _ _ _ _ _ _ _ _ ?_ (by rfl)
    try dsimp only
    refine @cst_int _ _ _ _ _ _ _ _ _ ?_; intro _ _
    try dsimp only
    refine @spliced_more _ _ _ _ _ _ _ _ _ ?_ (by rfl)
    try dsimp only
    refine @cst_int _ _ _ _ _ _ _ _ _ ?_; intro _ _
    try dsimp only
    refine @spliced_more _ _ _ _ _ _ _ _ _ ?_ (by rfl)
    try dsimp only
    refine @cst_int _ _ _ _ _ _ _ _ _ ?_; intro _ _
    try dsimp only
    refine @spliced_none _ _ _ _ _ _ _ ?_
    try dsimp only
    refine @newTuple_sdL _ _ _ _ _ _ _ _ _ _ _ (by assumption) ?_ (by exact sz_lit rfl); intro _ _ _ _ _
    try dsimp only
    rename_i tl2 tkl2 ts2 tks2 h7 trs tk7 D11 h8 oRe2 tk8 D12 dRe2 _ t3 tk3' t2 tk2' t1 tk1' tp h9 tk9 _ D13
    refine lc_anyL (s := s) (it_T (by walk_at "hh") (D13.get (.head _))) (by show 3 ≤ 1000000; decide) D13
      (fun j ys led' => ∃ kl', led' = (tp, tupOf [.int 3 t3, .int 2 t2, .int 1 t1]) :: (I, oI) :: (C + 3, oc) :: (d, listOf refs.toArray n) :: (C + 5, oL5) :: (C + 4, oRe2) :: (C + 2, oDu2) :: (C + 1, oOw) :: (kl' ++ led) ∧ (∀ p ∈ kl, p ∈ kl') ∧ LLs kl' ys (([3, 2, 1].take j).filterMap (wstep rest (i + 1) (dp text i))))
      ⟨kl, rfl, fun _ hp => hp, .nil⟩ (fun j ys led' hj p hp => by obtain ⟨kl', rfl, _⟩ := hj; rw [List.mem_singleton.mp hp]; exact .head _) ?_ ?_
    · clear D10 D11 D12 D13
      rintro I2 j ys k2 oI2 acc C1 fs₁ env1 KE KT v m₁ led₁ h₁ tk₁ hj hP ⟨kl', rfl, hsub, hys⟩ D14
      obtain ⟨sz, tz, hsz3, hszv⟩ : ∃ sz tz, [3, 2, 1][j]? = some sz ∧ v = .int ((sz : Nat) : Int) tz := by
        match j, hP with
        | 0, hP => exact ⟨3, t3, rfl, (Option.some.inj hP).symm⟩
        | 1, hP => exact ⟨2, t2, rfl, (Option.some.inj hP).symm⟩
        | 2, hP => exact ⟨1, t1, rfl, (Option.some.inj hP).symm⟩
        | j + 3, hP => simp at hP
      subst hszv
      have hsz1 : 1 ≤ sz ∧ sz ≤ 3 := by
        have := List.mem_of_getElem? hsz3
        simp only [List.mem_cons, List.not_mem_nil, or_false] at this
        lia
      have htk : ([3, 2, 1].take (j + 1)).filterMap (wstep rest (i + 1) (dp text i)) = ([3, 2, 1].take j).filterMap (wstep rest (i + 1) (dp text i)) ++ (wstep rest (i + 1) (dp text i) sz).toList := by
        rw [List.take_add_one, hsz3, List.filterMap_append]
        cases q : wstep rest (i + 1) (dp text i) sz <;> simp [q]
      by_cases hle : sz ≤ i + 1
      · by_cases hkey : rest.take sz ∈ keys
        · obtain ⟨tv2, hv2⟩ := (hI (rest.take sz)).1 hkey
          have hs2 : (vat kvo (rest.take sz)).isSome = true := by rw [hv2]; rfl
          have hlt2 : i + 1 - sz < (dp text i).length := by lia
          obtain ⟨a, us, na, e1, e2, e3⟩ := (hLL.mono hsub).get (List.getElem?_eq_getElem hlt2)
          have hul := e3.len
          have hul2 : us.length ≤ 1000 := by rw [hul]; have := dp_bound text i _ _ (List.getElem?_eq_getElem hlt2); lia
          have hws : wstep rest (i + 1) (dp text i) sz = some (codeOf (rest.take sz) :: (dp text i)[i + 1 - sz]) := by
            unfold wstep
            rw [if_pos ⟨hle, hkey⟩, List.getD_eq_getElem?_getD, List.getElem?_eq_getElem hlt2]; rfl
          rw [hws] at htk
          refine @tests_one _ _ _ _ _ _ _ ?_
          try dsimp only
          refine @isTrue_and _ _ _ _ _ _ _ _ _ _ ?_
          try dsimp only
          refine @wpAny_isTrue_Compare1 _ _ _ _ _ _ _ _ _ _ _ ?_ (by with_unfolding_all rfl)
          try dsimp only
          refine @nm_local _ _ _ _ _ _ _ _ _ _ _ _ _ (by assumption) (by walk_at "dv") ?_ (by rfl) (by rfl) (by decide)
          try dsimp only
          refine @nm_cell _ _ _ _ _ _ _ _ _ _ _ _ _ _ _ (by assumption) (by walk_at "dv") (by walk_at "mem") (by assumption) ?_ (by rfl) (by rfl) (by decide)
          try dsimp only
          with_reducible refine le_I ?_
          try dsimp only
          refine @wpAny_truthy_bool _ _ _ _ _ _ ?_
          try dsimp only
          (with_reducible show (if _ = true then _ else _)); refine @iteY _ _ _ (by walk_at "yes") ?_
          try dsimp only
          refine @isTrue_and _ _ _ _ _ _ _ _ _ _ ?_
          try dsimp only
          refine @wpAny_isTrue_Compare1 _ _ _ _ _ _ _ _ _ _ _ ?_ (by with_unfolding_all rfl)
          try dsimp only
          refine @Subscript_ _ _ _ _ _ _ _ _ _ ?_
          try dsimp only
          refine @nm_cell _ _ _ _ _ _ _ _ _ _ _ _ _ _ _ (by assumption) (by walk_at "dv") (by walk_at "mem") (by assumption) ?_ (by rfl) (by rfl) (by decide)
          try dsimp only
          refine @wpAny_Slice _ _ _ _ _ _ _ _ _ _ ?_
          try dsimp only
          refine @evalPart_none_step _ _ _ _ _ _ ?_
          try dsimp only
          refine @evalPart_some_step _ _ _ _ _ _ _ ?_
          try dsimp only
          refine @nm_local _ _ _ _ _ _ _ _ _ _ _ _ _ (by assumption) (by walk_at "dv") ?_ (by rfl) (by rfl) (by decide)
          try dsimp only
          refine @evalPart_none_step _ _ _ _ _ _ ?_
          try dsimp only
          refine @sliceTo _ _ _ _ _ _ _ _ _ _ _ _ _ _ _ _ _ _ _ _ _ (by assumption) (by walk_at "sz") (by walk_at "cut") ?_; intro _ _ _ _
          try dsimp only
          refine @nm_cell _ _ _ _ _ _ _ _ _ _ _ _ _ _ _ (by assumption) (by walk_at "dv") (by walk_at "mem") (by assumption) ?_ (by rfl) (by rfl) (by decide)
          try dsimp only
          refine @in_D _ _ _ _ _ _ _ _ _ _ (Sd.get (by assumption) (by walk_at "mem")) (by assumption) (by assumption) ?_; intro _
          try dsimp only
          refine @wpAny_truthy_bool _ _ _ _ _ _ ?_
          try dsimp only
          (with_reducible show (if _ = true then _ else _)); refine @iteY _ _ _ (by walk_at "yes") ?_
          try dsimp only
          refine @isTrue_and_nil _ _ _ _ _ _ _ _ ?_
          try dsimp only
          (with_reducible show (if _ = true then _ else _)); refine @iteY _ _ _ (by walk_at "yes") ?_
          try dsimp only
          refine @wpAny_BinOp _ _ _ _ _ _ _ _ _ _ ?_
          try dsimp only
          refine @List_ _ _ _ _ _ _ _ _ ?_
          try dsimp only
          refine @spliced_more _ _ _ _ _ _ _ _ _ ?_ (by rfl)
          try dsimp only
          refine @Subscript_ _ _ _ _ _ _ _ _ _ ?_
          try dsimp only
          refine @nm_cell _ _ _ _ _ _ _ _ _ _ _ _ _ _ _ (by assumption) (by walk_at "dv") (by walk_at "mem") (by assumption) ?_ (by rfl) (by rfl) (by decide)
          try dsimp only
          refine @Subscript_ _ _ _ _ _ _ _ _ _ ?_
          try dsimp only
          refine @nm_cell _ _ _ _ _ _ _ _ _ _ _ _ _ _ _ (by assumption) (by walk_at "dv") (by walk_at "mem") (by assumption) ?_ (by rfl) (by rfl) (by decide)
          try dsimp only
          refine @wpAny_Slice _ _ _ _ _ _ _ _ _ _ ?_
          try dsimp only
          refine @evalPart_none_step _ _ _ _ _ _ ?_
          try dsimp only
          refine @evalPart_some_step _ _ _ _ _ _ _ ?_
          try dsimp only
          refine @nm_local _ _ _ _ _ _ _ _ _ _ _ _ _ (by assumption) (by walk_at "dv") ?_ (by rfl) (by rfl) (by decide)
          try dsimp only
          refine @evalPart_none_step _ _ _ _ _ _ ?_
          try dsimp only
          refine @sliceTo _ _ _ _ _ _ _ _ _ _ _ _ _ _ _ _ _ _ _ _ _ (by assumption) (by walk_at "sz") (by walk_at "cut") ?_; intro _ _ _ _
          try dsimp only
          refine @tail_D _ _ _ _ _ _ _ _ _ _ _ _ _ (Sd.get (by assumption) (by walk_at "mem")) (by assumption) (by assumption) ?_ (by with_unfolding_all rfl); intro _
          try dsimp only
          refine @spliced_none _ _ _ _ _ _ _ ?_
          try dsimp only
          refine @newList_sdL _ _ _ _ _ _ _ _ _ _ _ (by assumption) ?_ (by exact sz_lit rfl); intro _ _ _ _ _
          try dsimp only
          refine @Subscript_ _ _ _ _ _ _ _ _ _ ?_
          try dsimp only
          refine @nm_cell _ _ _ _ _ _ _ _ _ _ _ _ _ _ _ (by assumption) (by walk_at "dv") (by walk_at "mem") (by assumption) ?_ (by rfl) (by rfl) (by decide)
          try dsimp only
          refine @wpAny_BinOp _ _ _ _ _ _ _ _ _ _ ?_
          try dsimp only
          refine @nm_cell _ _ _ _ _ _ _ _ _ _ _ _ _ _ _ (by assumption) (by walk_at "dv") (by walk_at "mem") (by assumption) ?_ (by rfl) (by rfl) (by decide)
          try dsimp only
          refine @nm_local _ _ _ _ _ _ _ _ _ _ _ _ _ (by assumption) (by walk_at "dv") ?_ (by rfl) (by rfl) (by decide)
          try dsimp only
          refine @sub_I _ _ _ _ _ _ _ _ _ ?_; intro _ _
          try dsimp only
          refine' tail_list ?ta ?tb ?tc ?td ?te ?_ ?tf; (case ta => assumption); (case tb => walk_at "mem"); (case td => assumption); (case tc => lia); (case te => walk_at "sz"); (case tf => rfl)
          try dsimp only
          refine @add_LL _ _ _ _ _ _ _ _ _ _ _ _ _ _ _ _ (by assumption) (by walk_at "mem") (by walk_at "mem") ?_ (by walk_at "sz"); intro _ _ _ _
          try dsimp only
          rename Sd H _ _ _ _ _ => D15
          have D16 := D15.drop 1
          exact ⟨_, _, _, _, rfl, Sd.back (pre := [(I2, oI2), (acc, _), (tp, _), (I, oI), (C + 3, oc), (d, _), (C + 5, oL5), (C + 4, oRe2), (C + 2, oDu2), (C + 1, oOw)]) D16, _ :: kl', rfl, fun p hp => .tail _ (hsub p hp), by rw [htk]; exact LLs.snoc (hys.mono fun p hp => .tail _ hp) (.head _) (.cons _ _ e3)⟩
        · have hs2 : (vat kvo (rest.take sz)).isSome = false := by rw [(hI (rest.take sz)).2 hkey]; rfl
          have hws : wstep rest (i + 1) (dp text i) sz = none := by unfold wstep; rw [if_neg (fun q => hkey q.2)]
          rw [hws] at htk
          refine @tests_one _ _ _ _ _ _ _ ?_
          try dsimp only
          refine @isTrue_and _ _ _ _ _ _ _ _ _ _ ?_
          try dsimp only
          refine @wpAny_isTrue_Compare1 _ _ _ _ _ _ _ _ _ _ _ ?_ (by with_unfolding_all rfl)
          try dsimp only
          refine @nm_local _ _ _ _ _ _ _ _ _ _ _ _ _ (by assumption) (by walk_at "dv") ?_ (by rfl) (by rfl) (by decide)
          try dsimp only
          refine @nm_cell _ _ _ _ _ _ _ _ _ _ _ _ _ _ _ (by assumption) (by walk_at "dv") (by walk_at "mem") (by assumption) ?_ (by rfl) (by rfl) (by decide)
          try dsimp only
          with_reducible refine le_I ?_
          try dsimp only
          refine @wpAny_truthy_bool _ _ _ _ _ _ ?_
          try dsimp only
          (with_reducible show (if _ = true then _ else _)); refine @iteY _ _ _ (by walk_at "yes") ?_
          try dsimp only
          refine @isTrue_and _ _ _ _ _ _ _ _ _ _ ?_
          try dsimp only
          refine @wpAny_isTrue_Compare1 _ _ _ _ _ _ _ _ _ _ _ ?_ (by with_unfolding_all rfl)
          try dsimp only
          refine @Subscript_ _ _ _ _ _ _ _ _ _ ?_
          try dsimp only
          refine @nm_cell _ _ _ _ _ _ _ _ _ _ _ _ _ _ _ (by assumption) (by walk_at "dv") (by walk_at "mem") (by assumption) ?_ (by rfl) (by rfl) (by decide)
          try dsimp only
          refine @wpAny_Slice _ _ _ _ _ _ _ _ _ _ ?_
          try dsimp only
          refine @evalPart_none_step _ _ _ _ _ _ ?_
          try dsimp only
          refine @evalPart_some_step _ _ _ _ _ _ _ ?_
          try dsimp only
          refine @nm_local _ _ _ _ _ _ _ _ _ _ _ _ _ (by assumption) (by walk_at "dv") ?_ (by rfl) (by rfl) (by decide)
          try dsimp only
          refine @evalPart_none_step _ _ _ _ _ _ ?_
          try dsimp only
          refine @sliceTo _ _ _ _ _ _ _ _ _ _ _ _ _ _ _ _ _ _ _ _ _ (by assumption) (by walk_at "sz") (by walk_at "cut") ?_; intro _ _ _ _
          try dsimp only
          refine @nm_cell _ _ _ _ _ _ _ _ _ _ _ _ _ _ _ (by assumption) (by walk_at "dv") (by walk_at "mem") (by assumption) ?_ (by rfl) (by rfl) (by decide)
          try dsimp only
          refine @in_D _ _ _ _ _ _ _ _ _ _ (Sd.get (by assumption) (by walk_at "mem")) (by assumption) (by assumption) ?_; intro _
          try dsimp only
          refine @wpAny_truthy_bool _ _ _ _ _ _ ?_
          try dsimp only
          (with_reducible show (if _ = true then _ else _)); refine @iteN _ _ _ (by walk_at "yes") ?_
          try dsimp only
          (with_reducible show (if _ = true then _ else _)); refine @iteN _ _ _ (by walk_at "yes") ?_
          try dsimp only
          rename Sd H _ _ _ _ _ => D15
          exact ⟨_, _, _, _, rfl, D15, kl', rfl, hsub, by rw [htk]; simpa using hys⟩
      · have hws : wstep rest (i + 1) (dp text i) sz = none := by unfold wstep; rw [if_neg (fun q => hle q.1)]
        rw [hws] at htk
        refine @tests_one _ _ _ _ _ _ _ ?_
        try dsimp only
        refine @isTrue_and _ _ _ _ _ _ _ _ _ _ ?_
        try dsimp only
        refine @wpAny_isTrue_Compare1 _ _ _ _ _ _ _ _ _ _ _ ?_ (by with_unfolding_all rfl)
        try dsimp only
        refine @nm_local _ _ _ _ _ _ _ _ _ _ _ _ _ (by assumption) (by walk_at "dv") ?_ (by rfl) (by rfl) (by decide)
        try dsimp only
        refine @nm_cell _ _ _ _ _ _ _ _ _ _ _ _ _ _ _ (by assumption) (by walk_at "dv") (by walk_at "mem") (by assumption) ?_ (by rfl) (by rfl) (by decide)
        try dsimp only
        with_reducible refine le_I ?_
        try dsimp only
        refine @wpAny_truthy_bool _ _ _ _ _ _ ?_
        try dsimp only
        (with_reducible show (if _ = true then _ else _)); refine @iteN _ _ _ (by walk_at "yes") ?_
        try dsimp only
        (with_reducible show (if _ = true then _ else _)); refine @iteN _ _ _ (by walk_at "yes") ?_
        try dsimp only
        rename Sd H _ _ _ _ _ => D15
        exact ⟨_, _, _, _, rfl, D15, kl', rfl, hsub, by rw [htk]; simpa using hys⟩
    · clear D10 D11 D12 D13
      rintro ys k2 acc led₁ h₁ tk₁ ⟨kl', rfl, hsub, hys⟩ D14
      have hys2 : LLs kl' ys (wayList rest (i + 1) (dp text i)) := hys
      clear hys
      have hyl := hys2.len
      have hnz : ways rest (i + 1) (dp text i) ≠ [] := ways_ne _ _ _
      by_cases hw : wayList rest (i + 1) (dp text i) = []
      · rw [hw] at hys2 hyl
        have hy0 : ys = [] := List.eq_nil_of_length_eq_zero hyl
        subst hy0
        obtain ⟨c0, hc0⟩ : ∃ c0, rest[0]? = some c0 := ⟨_, List.getElem?_eq_getElem (by lia)⟩
        have hlt2 : i < (dp text i).length := by lia
        obtain ⟨a, us, na, e1, e2, e3⟩ := (hLL.mono hsub).get (List.getElem?_eq_getElem hlt2)
        have hul := e3.len
        have hul2 : us.length ≤ 1000 := by rw [hul]; have := dp_bound text i _ _ (List.getElem?_eq_getElem hlt2); lia
        have hwy : ways rest (i + 1) (dp text i) = [(256 + c0) :: (dp text i)[i]] := by
          unfold ways
          rw [if_pos hw, Nat.add_sub_cancel, List.getD_eq_getElem?_getD, List.getElem?_eq_getElem hlt2, List.headD_eq_head?_getD, List.head?_eq_getElem?, hc0]; rfl
        (with_reducible show wpAny _ _ (execs _ _) _ _ _); (try clear kS); with_reducible refine ex_cons ?_; intro kS
        try dsimp only
        refine @wpAny_If _ _ _ _ _ _ _ _ _ _ ?_
        try dsimp only
        refine @wpAny_isTrue_Compare1 _ _ _ _ _ _ _ _ _ _ _ ?_ (by with_unfolding_all rfl)
        try dsimp only
        refine @nm_local _ _ _ _ _ _ _ _ _ _ _ _ _ (by assumption) (by walk_at "dv") ?_ (by rfl) (by rfl) (by decide)
        try dsimp only
        refine @List_ _ _ _ _ _ _ _ _ ?_
        try dsimp only
        refine @spliced_none _ _ _ _ _ _ _ ?_
        try dsimp only
        refine @newList_sdL _ _ _ _ _ _ _ _ _ _ _ (by assumption) ?_ (by exact sz_lit rfl); intro _ _ _ _ _
        try dsimp only
        refine @eq_nil _ _ _ _ _ _ _ _ _ _ _ _ _ _ _ (by assumption) (by walk_at "mem") (by walk_at "mem") (by walk_at "un") ?_
        try dsimp only
        refine @wpAny_truthy_bool _ _ _ _ _ _ ?_
        try dsimp only
        (with_reducible show (if _ = true then _ else _)); refine @iteY _ _ _ (by walk_at "yes") ?_
        try dsimp only
        (with_reducible show wpAny _ _ (execs _ _) _ _ _); (try clear kS); with_reducible refine ex_cons ?_; intro kS
        try dsimp only
        refine @wpAny_Assign_Name _ _ _ _ _ _ _ _ _ _ ?_ (by rfl)
        try dsimp only
        refine @List_ _ _ _ _ _ _ _ _ ?_
        try dsimp only
        refine @spliced_more _ _ _ _ _ _ _ _ _ ?_ (by rfl)
        try dsimp only
        refine @wpAny_BinOp _ _ _ _ _ _ _ _ _ _ ?_
        try dsimp only
        refine @List_ _ _ _ _ _ _ _ _ ?_
        try dsimp only
        refine @spliced_more _ _ _ _ _ _ _ _ _ ?_ (by rfl)
        try dsimp only
        refine @wpAny_BinOp _ _ _ _ _ _ _ _ _ _ ?_
        try dsimp only
        refine @cst_int _ _ _ _ _ _ _ _ _ ?_; intro _ _
        try dsimp only
        refine @call_bi _ _ _ _ _ _ _ _ _ _ _ _ _ _ _ _ _ _ _ _ _ (by assumption) (by assumption) (by assumption) (by k_is) (by boot_by_name) ?_ (by decide) (by rfl) (by rfl) (by rfl) (by rfl) (by decide) (by rfl) (by rfl)
        try dsimp only
        refine @spliced_more _ _ _ _ _ _ _ _ _ ?_ (by rfl)
        try dsimp only
        refine @Subscript_ _ _ _ _ _ _ _ _ _ ?_
        try dsimp only
        refine @nm_cell _ _ _ _ _ _ _ _ _ _ _ _ _ _ _ (by assumption) (by walk_at "dv") (by walk_at "mem") (by assumption) ?_ (by rfl) (by rfl) (by decide)
        try dsimp only
        refine @cst_int _ _ _ _ _ _ _ _ _ ?_; intro _ _
        try dsimp only
        refine @tail_str _ _ _ _ _ _ _ _ _ _ _ _ _ (by rfl) (by first | assumption | exact rfl) (by walk_at "sz") ?_ (by rfl); intro _ _
        try dsimp only
        refine @spliced_none _ _ _ _ _ _ _ ?_
        try dsimp only
        refine @ord_S _ _ _ _ _ _ _ ?_; intro _ _
        try dsimp only
        refine @add_I _ _ _ _ _ _ _ _ _ ?_; intro _ _
        try dsimp only
        refine @spliced_none _ _ _ _ _ _ _ ?_
        try dsimp only
        refine @newList_sdL _ _ _ _ _ _ _ _ _ _ _ (by assumption) ?_ (by exact sz_lit rfl); intro _ _ _ _ _
        try dsimp only
        refine @Subscript_ _ _ _ _ _ _ _ _ _ ?_
        try dsimp only
        refine @nm_cell _ _ _ _ _ _ _ _ _ _ _ _ _ _ _ (by assumption) (by walk_at "dv") (by walk_at "mem") (by assumption) ?_ (by rfl) (by rfl) (by decide)
        try dsimp only
        refine @wpAny_BinOp _ _ _ _ _ _ _ _ _ _ ?_
        try dsimp only
        refine @nm_cell _ _ _ _ _ _ _ _ _ _ _ _ _ _ _ (by assumption) (by walk_at "dv") (by walk_at "mem") (by assumption) ?_ (by rfl) (by rfl) (by decide)
        try dsimp only
        refine @cst_int _ _ _ _ _ _ _ _ _ ?_; intro _ _
        try dsimp only
        refine @sub_I _ _ _ _ _ _ _ _ _ ?_; intro _ _
        try dsimp only
        refine' tail_list ?ta ?tb ?tc ?td ?te ?_ ?tf; (case ta => assumption); (case tb => walk_at "mem"); (case td => assumption); (case tc => lia); (case te => walk_at "sz"); (case tf => rfl)
        try dsimp only
        refine @add_LL _ _ _ _ _ _ _ _ _ _ _ _ _ _ _ _ (by assumption) (by walk_at "mem") (by walk_at "mem") ?_ (by walk_at "sz"); intro _ _ _ _
        try dsimp only
        refine @spliced_none _ _ _ _ _ _ _ ?_
        try dsimp only
        refine @newList_sdL _ _ _ _ _ _ _ _ _ _ _ (by assumption) ?_ (by exact sz_lit rfl); intro _ _ _ _ _
        try dsimp only
        refine @st_localL _ _ _ _ _ _ _ _ _ _ _ _ (by assumption) ?_ (by rfl) (by rfl); intro _ _ _ _
        try dsimp only
        (with_reducible show wpAny _ _ (execs _ _) _ _ _); (try clear kS); with_reducible refine wpAny_execs_nil ?_
        try dsimp only
        (with_reducible show wpAny _ _ (execs _ _) _ _ _); (try clear kS); with_reducible refine ex_cons ?_; intro kS
        try dsimp only
        refine @wpAny_Assign_Name _ _ _ _ _ _ _ _ _ _ ?_ (by rfl)
        try dsimp only
        refine @call_bi _ _ _ _ _ _ _ _ _ _ _ _ _ _ _ _ _ _ _ _ _ (by assumption) (by assumption) (by assumption) (by k_is) (by boot_by_name) ?_ (by decide) (by rfl) (by rfl) (by rfl) (by rfl) (by decide) (by rfl) (by rfl)
        try dsimp only
        refine @spliced_more _ _ _ _ _ _ _ _ _ ?_ (by rfl)
        try dsimp only
        refine @listComp_sdL _ _ _ _ _ _ _ _ _ _ _ _ _ _ _ _ _ _ (by assumption) rfl (by decide) rfl (by decide) rfl ?_ (by intro _; rfl); intro _
        try dsimp only
        refine @nm_local _ _ _ _ _ _ _ _ _ _ _ _ _ (by assumption) (by walk_at "dv") ?_ (by rfl) (by rfl) (by decide)
        try dsimp only
        rename_i e0 he te _ De tc tkc tz tkz tr tkr to tko ts tks n1 hn1 tn1 _ Dn1 t11 tk11 tsb tksb n2 hn2 tn2 Dn2 wa hwa twa _ Dwa hst tst _ D15 _
        have D16 := Sd.back (pre := [(wa, _), (I, oI), (C + 3, oc), (d, _), (C + 5, oL5), (C + 4, oRe2), (C + 2, oDu2), (C + 1, oOw)]) (((((D15.drop 2).drop 2).drop 2).drop 2).pull 1 rfl)
        have hLw : LLs ((n2, listOf ([Value.int ((256 : Int) + (c0 : Int)) ts] ++ us).toArray 0) :: kl') [.ref n2] (ways rest (i + 1) (dp text i)) := by
          rw [hwy]
          exact .cons ⟨n2, _, _, rfl, .head _, .cons _ _ e3⟩ .nil
        clear De Dn1 Dn2 Dwa D14 D15
        have hwl : [Value.ref n2].length = (ways rest (i + 1) (dp text i)).length := hLw.len
        have hwb : ∀ x ∈ ways rest (i + 1) (dp text i), x.length ≤ i + 1 := ways_len (by lia) (dp_bound text i)
        have hwn : [Value.ref n2].length ≤ 1000 := by simp
        refine lc_anyL (s := s) (it_L (by walk_at "hh") (D16.get (.head _))) (by lia) D16
          (fun j ys' led' => led' = (wa, listOf [Value.ref n2].toArray 0) :: (I, oI) :: (C + 3, oc) :: (d, listOf refs.toArray n) :: (C + 5, oL5) :: (C + 4, oRe2) :: (C + 2, oDu2) :: (C + 1, oOw) :: (((n2, listOf ([Value.int ((256 : Int) + (c0 : Int)) ts] ++ us).toArray 0) :: kl') ++ led) ∧ IVs ys' (((ways rest (i + 1) (dp text i)).take j).map List.length))
          ⟨rfl, .nil⟩ (fun j ys' led' hj p hp => by rw [List.mem_singleton.mp hp, hj.1]; exact .head _) ?_ ?_
        · rintro I2 j ys' k2 oI2 acc2 C1 fs₁ env1 KE KT v m₁ led₁ h₁ tk₁ hj hP ⟨rfl, hys'⟩ D17
          have hj2 : j < (ways rest (i + 1) (dp text i)).length := by lia
          obtain ⟨a9, us9, n9, e1, e2, e3⟩ := hLw.get (List.getElem?_eq_getElem hj2)
          have e4 : v = .ref a9 := Option.some.inj (hP.symm.trans e1)
          subst e4
          have hul9 := e3.len
          have hub9 : us9.length ≤ 1000 := by rw [hul9]; have := hwb _ (List.getElem_mem hj2); lia
          refine @tests_nil _ _ _ _ _ _ ?_
          try dsimp only
          (with_reducible show (if _ = true then _ else _)); refine @iteY _ _ _ (by walk_at "yes") ?_
          try dsimp only
          refine @call_bi _ _ _ _ _ _ _ _ _ _ _ _ _ _ _ _ _ _ _ _ _ (by assumption) (by assumption) (by assumption) (by k_is) (by boot_by_name) ?_ (by decide) (by rfl) (by rfl) (by rfl) (by rfl) (by decide) (by rfl) (by rfl)
          try dsimp only
          refine @spliced_more _ _ _ _ _ _ _ _ _ ?_ (by rfl)
          try dsimp only
          refine @nm_local _ _ _ _ _ _ _ _ _ _ _ _ _ (by assumption) (by walk_at "dv") ?_ (by rfl) (by rfl) (by decide)
          try dsimp only
          refine @spliced_none _ _ _ _ _ _ _ ?_
          try dsimp only
          refine @len_L _ _ _ _ _ _ _ _ _ _ _ _ _ (by assumption) (by walk_at "mem") (by walk_at "sz") ?_; intro _ _
          try dsimp only
          refine ⟨_, _, _, _, rfl, D17, rfl, ?_⟩
          rw [List.take_add_one, List.getElem?_eq_getElem hj2, List.map_append, hul9]
          exact hys'.snoc _ _
        · rintro ys' k2 acc2 led₁ h₁ tk₁ ⟨rfl, hys'⟩ D17
          rw [hwl, List.take_length] at hys'
          have hlne : (ways rest (i + 1) (dp text i)).map List.length ≠ [] := by simpa using hnz
          refine @spliced_none _ _ _ _ _ _ _ ?_
          try dsimp only
          refine @min_sd _ _ _ _ _ _ _ _ _ _ _ _ _ _ (by walk_at "hh") (by assumption) (by walk_at "mem") (by assumption) (by assumption) ?_; intro _ _ _ _ _ _ _
          try dsimp only
          refine @st_cell _ _ _ _ _ _ _ _ _ _ _ _ (5) _ _ _ (by assumption) (by exact rfl) (by exact rfl) (by assumption) ?_ (by rfl) (by rfl); walk_at "cl"
          try dsimp only
          (with_reducible show wpAny _ _ (execs _ _) _ _ _); (try clear kS); with_reducible refine ex_cons ?_; intro kS
          try dsimp only
          refine @wpAny_Expr _ _ _ _ _ _ _ _ ?_ (by rfl) (by rfl)
          try dsimp only
          refine @meth1_list _ _ _ _ _ _ _ _ _ _ _ _ F.slot_list_append F.type_list_append ?_ (by rfl) (by rfl) (by rfl)
          try dsimp only
          refine @nm_cell _ _ _ _ _ _ _ _ _ _ _ _ _ _ _ (by assumption) (by walk_at "dv") (by walk_at "mem") (by assumption) ?_ (by rfl) (by rfl) (by decide)
          try dsimp only
          refine ⟨⟨_, _, _, rfl, Sd.get (by assumption) (by walk_at "mem")⟩, ?_⟩
          try dsimp only
          refine @Subscript_ _ _ _ _ _ _ _ _ _ ?_
          try dsimp only
          refine @listComp_sdL _ _ _ _ _ _ _ _ _ _ _ _ _ _ _ _ _ _ (by assumption) rfl (by decide) rfl (by decide) rfl ?_ (by intro _; rfl); intro _
          try dsimp only
          refine @nm_local _ _ _ _ _ _ _ _ _ _ _ _ _ (by assumption) (by walk_at "dv") ?_ (by rfl) (by rfl) (by decide)
          try dsimp only
          rename_i M tM hM tkM DM hM1 hM2 h18 oLe2 tk18 D18 dLe2 _
          have hMl : M = leastOf (ways rest (i + 1) (dp text i)) := least_uniq hnz (by obtain ⟨x, hx, e⟩ := List.mem_map.mp hM1; exact ⟨x, hx, e.symm⟩) (fun x hx => hM2 _ (List.mem_map_of_mem hx))
          refine lc_anyL (s := s) (it_L (by walk_at "hh") (D18.get (.tail _ (.head _)))) (by lia) D18
            (fun j zs' led' => led' = (acc2, listOf ys'.toArray k2) :: (wa, listOf [Value.ref n2].toArray 0) :: (I, oI) :: (C + 3, oc) :: (d, listOf refs.toArray n) :: (C + 5, oLe2) :: (C + 4, oRe2) :: (C + 2, oDu2) :: (C + 1, oOw) :: (((n2, listOf ([Value.int ((256 : Int) + (c0 : Int)) ts] ++ us).toArray 0) :: kl') ++ led) ∧ LLs ((n2, listOf ([Value.int ((256 : Int) + (c0 : Int)) ts] ++ us).toArray 0) :: kl') zs' (((ways rest (i + 1) (dp text i)).take j).filter fun x => decide (x.length = leastOf (ways rest (i + 1) (dp text i)))))
            ⟨rfl, .nil⟩ (fun j zs' led' hj p hp => by rw [List.mem_singleton.mp hp, hj.1]; exact .tail _ (.head _)) ?_ ?_
          · rintro I2 j zs' k3 oI2 acc3 C1 fs₁ env1 KE KT v m₁ led₁ h₁ tk₁ hj hP ⟨rfl, hzs⟩ D19
            have hj2 : j < (ways rest (i + 1) (dp text i)).length := by lia
            obtain ⟨a9, us9, n9, e1, e2, e3⟩ := hLw.get (List.getElem?_eq_getElem hj2)
            have e4 : v = .ref a9 := Option.some.inj (hP.symm.trans e1)
            subst e4
            have hul9 := e3.len
            have hub9 : us9.length ≤ 1000 := by rw [hul9]; have := hwb _ (List.getElem_mem hj2); lia
            have hfl : ((ways rest (i + 1) (dp text i)).take (j + 1)).filter (fun x => decide (x.length = leastOf (ways rest (i + 1) (dp text i)))) = ((ways rest (i + 1) (dp text i)).take j).filter (fun x => decide (x.length = leastOf (ways rest (i + 1) (dp text i)))) ++ (if (ways rest (i + 1) (dp text i))[j].length = leastOf (ways rest (i + 1) (dp text i)) then [(ways rest (i + 1) (dp text i))[j]] else []) := by
              rw [List.take_add_one, List.getElem?_eq_getElem hj2, List.filter_append]
              congr 1
              by_cases q : (ways rest (i + 1) (dp text i))[j].length = leastOf (ways rest (i + 1) (dp text i)) <;> simp [q]
            by_cases hq : (ways rest (i + 1) (dp text i))[j].length = leastOf (ways rest (i + 1) (dp text i))
            · have hq2 : ((us9.length : Nat) : Int) = ((M : Nat) : Int) := by rw [hul9, hMl, hq]
              rw [if_pos hq] at hfl
              refine @tests_one _ _ _ _ _ _ _ ?_
              try dsimp only
              refine @wpAny_isTrue_Compare1 _ _ _ _ _ _ _ _ _ _ _ ?_ (by with_unfolding_all rfl)
              try dsimp only
              refine @call_bi _ _ _ _ _ _ _ _ _ _ _ _ _ _ _ _ _ _ _ _ _ (by assumption) (by assumption) (by assumption) (by k_is) (by boot_by_name) ?_ (by decide) (by rfl) (by rfl) (by rfl) (by rfl) (by decide) (by rfl) (by rfl)
              try dsimp only
              refine @spliced_more _ _ _ _ _ _ _ _ _ ?_ (by rfl)
              try dsimp only
              refine @nm_local _ _ _ _ _ _ _ _ _ _ _ _ _ (by assumption) (by walk_at "dv") ?_ (by rfl) (by rfl) (by decide)
              try dsimp only
              refine @spliced_none _ _ _ _ _ _ _ ?_
              try dsimp only
              refine @len_L _ _ _ _ _ _ _ _ _ _ _ _ _ (by assumption) (by walk_at "mem") (by walk_at "sz") ?_; intro _ _
              try dsimp only
              refine @nm_cell _ _ _ _ _ _ _ _ _ _ _ _ _ _ _ (by assumption) (by walk_at "dv") (by walk_at "mem") (by assumption) ?_ (by rfl) (by rfl) (by decide)
              try dsimp only
              with_reducible refine eq_I ?_
              try dsimp only
              refine @wpAny_truthy_bool _ _ _ _ _ _ ?_
              try dsimp only
              (with_reducible show (if _ = true then _ else _)); refine @iteY _ _ _ (by walk_at "yes") ?_
              try dsimp only
              refine @nm_local _ _ _ _ _ _ _ _ _ _ _ _ _ (by assumption) (by walk_at "dv") ?_ (by rfl) (by rfl) (by decide)
              try dsimp only
              exact ⟨_, _, _, _, rfl, D19, rfl, by rw [hfl]; exact hzs.snoc e2 e3⟩
            · have hq2 : ¬ (((us9.length : Nat) : Int) = ((M : Nat) : Int)) := by rw [hul9, hMl]; exact fun q => hq (Int.ofNat_inj.mp q)
              rw [if_neg hq, List.append_nil] at hfl
              refine @tests_one _ _ _ _ _ _ _ ?_
              try dsimp only
              refine @wpAny_isTrue_Compare1 _ _ _ _ _ _ _ _ _ _ _ ?_ (by with_unfolding_all rfl)
              try dsimp only
              refine @call_bi _ _ _ _ _ _ _ _ _ _ _ _ _ _ _ _ _ _ _ _ _ (by assumption) (by assumption) (by assumption) (by k_is) (by boot_by_name) ?_ (by decide) (by rfl) (by rfl) (by rfl) (by rfl) (by decide) (by rfl) (by rfl)
              try dsimp only
              refine @spliced_more _ _ _ _ _ _ _ _ _ ?_ (by rfl)
              try dsimp only
              refine @nm_local _ _ _ _ _ _ _ _ _ _ _ _ _ (by assumption) (by walk_at "dv") ?_ (by rfl) (by rfl) (by decide)
              try dsimp only
              refine @spliced_none _ _ _ _ _ _ _ ?_
              try dsimp only
              refine @len_L _ _ _ _ _ _ _ _ _ _ _ _ _ (by assumption) (by walk_at "mem") (by walk_at "sz") ?_; intro _ _
              try dsimp only
              refine @nm_cell _ _ _ _ _ _ _ _ _ _ _ _ _ _ _ (by assumption) (by walk_at "dv") (by walk_at "mem") (by assumption) ?_ (by rfl) (by rfl) (by decide)
              try dsimp only
              with_reducible refine eq_I ?_
              try dsimp only
              refine @wpAny_truthy_bool _ _ _ _ _ _ ?_
              try dsimp only
              (with_reducible show (if _ = true then _ else _)); refine @iteY _ _ _ (by walk_at "yes") ?_
              try dsimp only
              refine @nm_local _ _ _ _ _ _ _ _ _ _ _ _ _ (by assumption) (by walk_at "dv") ?_ (by rfl) (by rfl) (by decide)
              try dsimp only
              exact ⟨_, _, _, _, rfl, D19, rfl, by first | (rw [hfl]; exact hzs) | (exfalso; simp_all; done)⟩
          · rintro zs' k3 acc3 led₁ h₁ tk₁ ⟨rfl, hzs⟩ D19
            rw [hwl, List.take_length] at hzs
            have hzl := hzs.len
            have hp1 : ((ways rest (i + 1) (dp text i)).filter fun x => decide (x.length = leastOf (ways rest (i + 1) (dp text i))))[0]? = some (pick (ways rest (i + 1) (dp text i))) := by
              obtain ⟨q1, q2⟩ := pick_mem hnz
              have hm : pick (ways rest (i + 1) (dp text i)) ∈ (ways rest (i + 1) (dp text i)).filter fun x => decide (x.length = leastOf (ways rest (i + 1) (dp text i))) := List.mem_filter.mpr ⟨q1, by simp [q2]⟩
              unfold pick at hm ⊢
              cases q : (ways rest (i + 1) (dp text i)).filter fun x => decide (x.length = leastOf (ways rest (i + 1) (dp text i))) with
              | nil => rw [q] at hm; cases hm
              | cons y r => rfl
            obtain ⟨a9, us9, n9, e1, e2, e3⟩ := hzs.get hp1
            have hzb : zs'.length ≤ 1000 := by rw [hzl]; exact Nat.le_trans (List.length_filter_le _ _) (by lia)
            have hrb : refs.length ≤ 1000 := by lia
            refine @cst_int _ _ _ _ _ _ _ _ _ ?_; intro _ _
            try dsimp only
            refine @tail_list _ _ _ _ _ _ _ _ _ _ _ _ _ _ _ _ _ _ _ (by assumption) (by walk_at "mem") (by rfl) (by first | assumption | exact rfl) (by walk_at "sz") ?_ (by rfl)
            try dsimp only
            refine @list_appendL _ _ _ _ _ _ _ _ _ _ _ _ _ _ (by assumption) 5 (by rfl) ?_ (by walk_at "sz"); walk_at "ap"
            try dsimp only
            (with_reducible show wpAny _ _ (execs _ _) _ _ _); (try clear kS); with_reducible refine wpAny_execs_nil ?_
            try dsimp only
            rename Sd H _ _ _ _ _ => D20
            exact ⟨_, _, _, _, oc, _, rfl, ((D20.drop 0).drop 0).drop 0, hoc, ⟨_, _, _, _, _, _, ((n2, listOf ([Value.int ((256 : Int) + (c0 : Int)) ts] ++ us).toArray 0) :: kl'), ⟨rfl, trivial⟩, rfl, dLe2, dRe2, by rw [hdp]; exact (hLL.mono fun p hp => .tail _ (hsub p hp)).snoc e2 e3⟩⟩
      · have hne : ys.isEmpty = false := by
          cases ys with
          | nil => exact absurd (List.eq_nil_of_length_eq_zero hyl.symm) hw
          | cons _ _ => rfl
        have hwy : ways rest (i + 1) (dp text i) = wayList rest (i + 1) (dp text i) := by unfold ways; rw [if_neg hw]
        (with_reducible show wpAny _ _ (execs _ _) _ _ _); (try clear kS); with_reducible refine ex_cons ?_; intro kS
        try dsimp only
        refine @wpAny_If _ _ _ _ _ _ _ _ _ _ ?_
        try dsimp only
        refine @wpAny_isTrue_Compare1 _ _ _ _ _ _ _ _ _ _ _ ?_ (by with_unfolding_all rfl)
        try dsimp only
        refine @nm_local _ _ _ _ _ _ _ _ _ _ _ _ _ (by assumption) (by walk_at "dv") ?_ (by rfl) (by rfl) (by decide)
        try dsimp only
        refine @List_ _ _ _ _ _ _ _ _ ?_
        try dsimp only
        refine @spliced_none _ _ _ _ _ _ _ ?_
        try dsimp only
        refine @newList_sdL _ _ _ _ _ _ _ _ _ _ _ (by assumption) ?_ (by exact sz_lit rfl); intro _ _ _ _ _
        try dsimp only
        refine @eq_nil _ _ _ _ _ _ _ _ _ _ _ _ _ _ _ (by assumption) (by walk_at "mem") (by walk_at "mem") (by walk_at "un") ?_
        try dsimp only
        refine @wpAny_truthy_bool _ _ _ _ _ _ ?_
        try dsimp only
        (with_reducible show (if _ = true then _ else _)); refine @iteN _ _ _ (by walk_at "yes") ?_
        try dsimp only
        (with_reducible show wpAny _ _ (execs _ _) _ _ _); (try clear kS); with_reducible refine wpAny_execs_nil ?_
        try dsimp only
        (with_reducible show wpAny _ _ (execs _ _) _ _ _); (try clear kS); with_reducible refine ex_cons ?_; intro kS
        try dsimp only
        refine @wpAny_Assign_Name _ _ _ _ _ _ _ _ _ _ ?_ (by rfl)
        try dsimp only
        refine @call_bi _ _ _ _ _ _ _ _ _ _ _ _ _ _ _ _ _ _ _ _ _ (by assumption) (by assumption) (by assumption) (by k_is) (by boot_by_name) ?_ (by decide) (by rfl) (by rfl) (by rfl) (by rfl) (by decide) (by rfl) (by rfl)
        try dsimp only
        refine @spliced_more _ _ _ _ _ _ _ _ _ ?_ (by rfl)
        try dsimp only
        refine @listComp_sdL _ _ _ _ _ _ _ _ _ _ _ _ _ _ _ _ _ _ (by assumption) rfl (by decide) rfl (by decide) rfl ?_ (by intro _; rfl); intro _
        try dsimp only
        refine @nm_local _ _ _ _ _ _ _ _ _ _ _ _ _ (by assumption) (by walk_at "dv") ?_ (by rfl) (by rfl) (by decide)
        try dsimp only
        rename_i e0 he te _ De _
        have D16 := (De.drop 0).drop 1
        have hLw : LLs kl' ys (ways rest (i + 1) (dp text i)) := by rw [hwy]; exact hys2
        clear De D14
        have hwl : ys.length = (ways rest (i + 1) (dp text i)).length := hLw.len
        have hwb : ∀ x ∈ ways rest (i + 1) (dp text i), x.length ≤ i + 1 := ways_len (by lia) (dp_bound text i)
        have hwn : ys.length ≤ 1000 := by rw [hyl]; exact Nat.le_trans (List.length_filterMap_le _ _) (by decide)
        refine lc_anyL (s := s) (it_L (by walk_at "hh") (D16.get (.head _))) (by lia) D16
          (fun j ys' led' => led' = (acc, listOf ys.toArray k2) :: (I, oI) :: (C + 3, oc) :: (d, listOf refs.toArray n) :: (C + 5, oL5) :: (C + 4, oRe2) :: (C + 2, oDu2) :: (C + 1, oOw) :: (kl' ++ led) ∧ IVs ys' (((ways rest (i + 1) (dp text i)).take j).map List.length))
          ⟨rfl, .nil⟩ (fun j ys' led' hj p hp => by rw [List.mem_singleton.mp hp, hj.1]; exact .head _) ?_ ?_
        · rintro I2 j ys' k6 oI2 acc2 C1 fs₁ env1 KE KT v m₁ led₁ h₁ tk₁ hj hP ⟨rfl, hys'⟩ D17
          have hj2 : j < (ways rest (i + 1) (dp text i)).length := by lia
          obtain ⟨a9, us9, n9, e1, e2, e3⟩ := hLw.get (List.getElem?_eq_getElem hj2)
          have e4 : v = .ref a9 := Option.some.inj (hP.symm.trans e1)
          subst e4
          have hul9 := e3.len
          have hub9 : us9.length ≤ 1000 := by rw [hul9]; have := hwb _ (List.getElem_mem hj2); lia
          refine @tests_nil _ _ _ _ _ _ ?_
          try dsimp only
          (with_reducible show (if _ = true then _ else _)); refine @iteY _ _ _ (by walk_at "yes") ?_
          try dsimp only
          refine @call_bi _ _ _ _ _ _ _ _ _ _ _ _ _ _ _ _ _ _ _ _ _ (by assumption) (by assumption) (by assumption) (by k_is) (by boot_by_name) ?_ (by decide) (by rfl) (by rfl) (by rfl) (by rfl) (by decide) (by rfl) (by rfl)
          try dsimp only
          refine @spliced_more _ _ _ _ _ _ _ _ _ ?_ (by rfl)
          try dsimp only
          refine @nm_local _ _ _ _ _ _ _ _ _ _ _ _ _ (by assumption) (by walk_at "dv") ?_ (by rfl) (by rfl) (by decide)
          try dsimp only
          refine @spliced_none _ _ _ _ _ _ _ ?_
          try dsimp only
          refine @len_L _ _ _ _ _ _ _ _ _ _ _ _ _ (by assumption) (by walk_at "mem") (by walk_at "sz") ?_; intro _ _
          try dsimp only
          refine ⟨_, _, _, _, rfl, D17, rfl, ?_⟩
          rw [List.take_add_one, List.getElem?_eq_getElem hj2, List.map_append, hul9]
          exact hys'.snoc _ _
        · rintro ys' k5 acc2 led₁ h₁ tk₁ ⟨rfl, hys'⟩ D17
          rw [hwl, List.take_length] at hys'
          have hlne : (ways rest (i + 1) (dp text i)).map List.length ≠ [] := by simpa using hnz
          refine @spliced_none _ _ _ _ _ _ _ ?_
          try dsimp only
          refine @min_sd _ _ _ _ _ _ _ _ _ _ _ _ _ _ (by walk_at "hh") (by assumption) (by walk_at "mem") (by assumption) (by assumption) ?_; intro _ _ _ _ _ _ _
          try dsimp only
          refine @st_cell _ _ _ _ _ _ _ _ _ _ _ _ (5) _ _ _ (by assumption) (by exact rfl) (by exact rfl) (by assumption) ?_ (by rfl) (by rfl); walk_at "cl"
          try dsimp only
          (with_reducible show wpAny _ _ (execs _ _) _ _ _); (try clear kS); with_reducible refine ex_cons ?_; intro kS
          try dsimp only
          refine @wpAny_Expr _ _ _ _ _ _ _ _ ?_ (by rfl) (by rfl)
          try dsimp only
          refine @meth1_list _ _ _ _ _ _ _ _ _ _ _ _ F.slot_list_append F.type_list_append ?_ (by rfl) (by rfl) (by rfl)
          try dsimp only
          refine @nm_cell _ _ _ _ _ _ _ _ _ _ _ _ _ _ _ (by assumption) (by walk_at "dv") (by walk_at "mem") (by assumption) ?_ (by rfl) (by rfl) (by decide)
          try dsimp only
          refine ⟨⟨_, _, _, rfl, Sd.get (by assumption) (by walk_at "mem")⟩, ?_⟩
          try dsimp only
          refine @Subscript_ _ _ _ _ _ _ _ _ _ ?_
          try dsimp only
          refine @listComp_sdL _ _ _ _ _ _ _ _ _ _ _ _ _ _ _ _ _ _ (by assumption) rfl (by decide) rfl (by decide) rfl ?_ (by intro _; rfl); intro _
          try dsimp only
          refine @nm_local _ _ _ _ _ _ _ _ _ _ _ _ _ (by assumption) (by walk_at "dv") ?_ (by rfl) (by rfl) (by decide)
          try dsimp only
          rename_i M tM hM tkM DM hM1 hM2 h18 oLe2 tk18 D18 dLe2 _
          have hMl : M = leastOf (ways rest (i + 1) (dp text i)) := least_uniq hnz (by obtain ⟨x, hx, e⟩ := List.mem_map.mp hM1; exact ⟨x, hx, e.symm⟩) (fun x hx => hM2 _ (List.mem_map_of_mem hx))
          refine lc_anyL (s := s) (it_L (by walk_at "hh") (D18.get (.tail _ (.head _)))) (by lia) D18
            (fun j zs' led' => led' = (acc2, listOf ys'.toArray k5) :: (acc, listOf ys.toArray k2) :: (I, oI) :: (C + 3, oc) :: (d, listOf refs.toArray n) :: (C + 5, oLe2) :: (C + 4, oRe2) :: (C + 2, oDu2) :: (C + 1, oOw) :: (kl' ++ led) ∧ LLs kl' zs' (((ways rest (i + 1) (dp text i)).take j).filter fun x => decide (x.length = leastOf (ways rest (i + 1) (dp text i)))))
            ⟨rfl, .nil⟩ (fun j zs' led' hj p hp => by rw [List.mem_singleton.mp hp, hj.1]; exact .tail _ (.head _)) ?_ ?_
          · rintro I2 j zs' k3 oI2 acc3 C1 fs₁ env1 KE KT v m₁ led₁ h₁ tk₁ hj hP ⟨rfl, hzs⟩ D19
            have hj2 : j < (ways rest (i + 1) (dp text i)).length := by lia
            obtain ⟨a9, us9, n9, e1, e2, e3⟩ := hLw.get (List.getElem?_eq_getElem hj2)
            have e4 : v = .ref a9 := Option.some.inj (hP.symm.trans e1)
            subst e4
            have hul9 := e3.len
            have hub9 : us9.length ≤ 1000 := by rw [hul9]; have := hwb _ (List.getElem_mem hj2); lia
            have hfl : ((ways rest (i + 1) (dp text i)).take (j + 1)).filter (fun x => decide (x.length = leastOf (ways rest (i + 1) (dp text i)))) = ((ways rest (i + 1) (dp text i)).take j).filter (fun x => decide (x.length = leastOf (ways rest (i + 1) (dp text i)))) ++ (if (ways rest (i + 1) (dp text i))[j].length = leastOf (ways rest (i + 1) (dp text i)) then [(ways rest (i + 1) (dp text i))[j]] else []) := by
              rw [List.take_add_one, List.getElem?_eq_getElem hj2, List.filter_append]
              congr 1
              by_cases q : (ways rest (i + 1) (dp text i))[j].length = leastOf (ways rest (i + 1) (dp text i)) <;> simp [q]
            by_cases hq : (ways rest (i + 1) (dp text i))[j].length = leastOf (ways rest (i + 1) (dp text i))
            · have hq2 : ((us9.length : Nat) : Int) = ((M : Nat) : Int) := by rw [hul9, hMl, hq]
              rw [if_pos hq] at hfl
              refine @tests_one _ _ _ _ _ _ _ ?_
              try dsimp only
              refine @wpAny_isTrue_Compare1 _ _ _ _ _ _ _ _ _ _ _ ?_ (by with_unfolding_all rfl)
              try dsimp only
              refine @call_bi _ _ _ _ _ _ _ _ _ _ _ _ _ _ _ _ _ _ _ _ _ (by assumption) (by assumption) (by assumption) (by k_is) (by boot_by_name) ?_ (by decide) (by rfl) (by rfl) (by rfl) (by rfl) (by decide) (by rfl) (by rfl)
              try dsimp only
              refine @spliced_more _ _ _ _ _ _ _ _ _ ?_ (by rfl)
              try dsimp only
              refine @nm_local _ _ _ _ _ _ _ _ _ _ _ _ _ (by assumption) (by walk_at "dv") ?_ (by rfl) (by rfl) (by decide)
              try dsimp only
              refine @spliced_none _ _ _ _ _ _ _ ?_
              try dsimp only
              refine @len_L _ _ _ _ _ _ _ _ _ _ _ _ _ (by assumption) (by walk_at "mem") (by walk_at "sz") ?_; intro _ _
              try dsimp only
              refine @nm_cell _ _ _ _ _ _ _ _ _ _ _ _ _ _ _ (by assumption) (by walk_at "dv") (by walk_at "mem") (by assumption) ?_ (by rfl) (by rfl) (by decide)
              try dsimp only
              with_reducible refine eq_I ?_
              try dsimp only
              refine @wpAny_truthy_bool _ _ _ _ _ _ ?_
              try dsimp only
              (with_reducible show (if _ = true then _ else _)); refine @iteY _ _ _ (by walk_at "yes") ?_
              try dsimp only
              refine @nm_local _ _ _ _ _ _ _ _ _ _ _ _ _ (by assumption) (by walk_at "dv") ?_ (by rfl) (by rfl) (by decide)
              try dsimp only
              exact ⟨_, _, _, _, rfl, D19, rfl, by rw [hfl]; exact hzs.snoc e2 e3⟩
            · have hq2 : ¬ (((us9.length : Nat) : Int) = ((M : Nat) : Int)) := by rw [hul9, hMl]; exact fun q => hq (Int.ofNat_inj.mp q)
              rw [if_neg hq, List.append_nil] at hfl
              refine @tests_one _ _ _ _ _ _ _ ?_
              try dsimp only
              refine @wpAny_isTrue_Compare1 _ _ _ _ _ _ _ _ _ _ _ ?_ (by with_unfolding_all rfl)
              try dsimp only
              refine @call_bi _ _ _ _ _ _ _ _ _ _ _ _ _ _ _ _ _ _ _ _ _ (by assumption) (by assumption) (by assumption) (by k_is) (by boot_by_name) ?_ (by decide) (by rfl) (by rfl) (by rfl) (by rfl) (by decide) (by rfl) (by rfl)
              try dsimp only
              refine @spliced_more _ _ _ _ _ _ _ _ _ ?_ (by rfl)
              try dsimp only
              refine @nm_local _ _ _ _ _ _ _ _ _ _ _ _ _ (by assumption) (by walk_at "dv") ?_ (by rfl) (by rfl) (by decide)
              try dsimp only
              refine @spliced_none _ _ _ _ _ _ _ ?_
              try dsimp only
              refine @len_L _ _ _ _ _ _ _ _ _ _ _ _ _ (by assumption) (by walk_at "mem") (by walk_at "sz") ?_; intro _ _
              try dsimp only
              refine @nm_cell _ _ _ _ _ _ _ _ _ _ _ _ _ _ _ (by assumption) (by walk_at "dv") (by walk_at "mem") (by assumption) ?_ (by rfl) (by rfl) (by decide)
              try dsimp only
              with_reducible refine eq_I ?_
              try dsimp only
              refine @wpAny_truthy_bool _ _ _ _ _ _ ?_
              try dsimp only
              (with_reducible show (if _ = true then _ else _)); refine @iteN _ _ _ (by walk_at "yes") ?_
              try dsimp only
              exact ⟨_, _, _, _, rfl, D19, rfl, by first | (rw [hfl]; exact hzs) | (exfalso; simp_all; done)⟩
          · rintro zs' k3 acc3 led₁ h₁ tk₁ ⟨rfl, hzs⟩ D19
            rw [hwl, List.take_length] at hzs
            have hzl := hzs.len
            have hp1 : ((ways rest (i + 1) (dp text i)).filter fun x => decide (x.length = leastOf (ways rest (i + 1) (dp text i))))[0]? = some (pick (ways rest (i + 1) (dp text i))) := by
              obtain ⟨q1, q2⟩ := pick_mem hnz
              have hm : pick (ways rest (i + 1) (dp text i)) ∈ (ways rest (i + 1) (dp text i)).filter fun x => decide (x.length = leastOf (ways rest (i + 1) (dp text i))) := List.mem_filter.mpr ⟨q1, by simp [q2]⟩
              unfold pick at hm ⊢
              cases q : (ways rest (i + 1) (dp text i)).filter fun x => decide (x.length = leastOf (ways rest (i + 1) (dp text i))) with
              | nil => rw [q] at hm; cases hm
              | cons y r => rfl
            obtain ⟨a9, us9, n9, e1, e2, e3⟩ := hzs.get hp1
            have hzb : zs'.length ≤ 1000 := by rw [hzl]; exact Nat.le_trans (List.length_filter_le _ _) (by lia)
            have hrb : refs.length ≤ 1000 := by lia
            refine @cst_int _ _ _ _ _ _ _ _ _ ?_; intro _ _
            try dsimp only
            refine @tail_list _ _ _ _ _ _ _ _ _ _ _ _ _ _ _ _ _ _ _ (by assumption) (by walk_at "mem") (by rfl) (by first | assumption | exact rfl) (by walk_at "sz") ?_ (by rfl)
            try dsimp only
            refine @list_appendL _ _ _ _ _ _ _ _ _ _ _ _ _ _ (by assumption) 5 (by rfl) ?_ (by walk_at "sz"); walk_at "ap"
            try dsimp only
            (with_reducible show wpAny _ _ (execs _ _) _ _ _); (try clear kS); with_reducible refine wpAny_execs_nil ?_
            try dsimp only
            rename Sd H _ _ _ _ _ => D20
            exact ⟨_, _, _, _, oc, _, rfl, ((D20.drop 0).drop 0).drop 0, hoc, ⟨_, _, _, _, _, _, kl', ⟨rfl, trivial⟩, rfl, dLe2, dRe2, by rw [hdp]; exact (hLL.mono hsub).snoc e2 e3⟩⟩
  · rintro m1 led1 oc h6 tk6 ⟨n, refs, oL5, oR5, vL, vR, kl, hm, rfl, dL, dR, hLL⟩ D9
    have D10 := D9.lo hm
    have hdl := dp_len text text.length
    have hlast : (dp text text.length)[text.length]? = some (F text) := by
      unfold F
      rw [List.getLastD_eq_getLast?, List.getLast?_eq_getElem?, hdl, Nat.add_sub_cancel, List.getElem?_eq_getElem (by lia)]; rfl
    obtain ⟨a, us, na, e1, e2, e3⟩ := hLL.get hlast
    have hrl := hLL.len
    obtain ⟨refs0, rfl⟩ : ∃ r0, refs = r0 ++ [.ref a] := by
      refine ⟨refs.dropLast, ?_⟩
      have hne : refs ≠ [] := by intro q; rw [q] at hrl; simp at hrl; lia
      rw [← List.dropLast_concat_getLast hne]
      congr 1
      · simp
      · rw [List.getLast_eq_getElem]
        have := (List.getElem?_eq_some_iff.mp e1).2
        simp only [hrl, hdl, Nat.add_sub_cancel]
        rw [this]
    have hr0 : refs0.length ≤ 1000 := by rw [List.length_append] at hrl; simp at hrl; lia
    (with_reducible show wpAny _ _ (execs _ _) _ _ _); (try clear kS); with_reducible refine ex_cons ?_; intro kS
    try dsimp only
    refine @wpAny_Return_some _ _ _ _ _ _ _ _ ?_
    try dsimp only
    refine @Subscript_ _ _ _ _ _ _ _ _ _ ?_
    try dsimp only
    refine @nm_cell _ _ _ _ _ _ _ _ _ _ _ _ _ _ _ (by assumption) (by walk_at "dv") (by walk_at "mem") (by assumption) ?_ (by rfl) (by rfl) (by decide)
    try dsimp only
    refine @UnaryOp_ _ _ _ _ _ _ _ _ _ ?_
    try dsimp only
    refine @cst_int _ _ _ _ _ _ _ _ _ ?_; intro _ _
    try dsimp only
    refine @PyProof.Rows.neg_int _ _ _ _ _ _ _ _ ?_
    try dsimp only
    refine @tail_list_last _ _ _ _ _ _ _ _ _ _ _ _ _ _ _ _ _ (by assumption) (by walk_at "mem") (by walk_at "sz") ?_ (by rfl)
    try dsimp only
    exact h a us na _ _ (lv _ _ _ _ (Sd.pick (pre := [(C + 3, oc), (d, _), (C + 5, oL5), (C + 4, oR5), (C + 2, oDu2), (C + 1, oOw)]) D10 e2)) e3
end
end Mine

section
open PySem PySem.W PySem.Calls PyProof.Rows
set_option Elab.async false
set_option maxRecDepth 100000
set_option autoImplicit false
set_option maxHeartbeats 4000000
namespace Mine
abbrev sl3 (a b c : Value) : Obj := { cls := .type "slice", data := .fields #[a, b, c] }
theorem pick_cut (vs : List Value) (lo hi : Option Int) : (slicePick vs.toArray lo hi none).toList = cut vs lo hi := by
  rw [slicePick_plain]
  unfold cut
  simp
section
variable {prog : Program} {w : World} {A : Around} {s : Shared} {env : Env} {H : Heap} {fs : Ledg} {m : Vm} {led its : Ledg} {L : Addr}
theorem sliceG {h : Heap} {base : Expr} {e1 e2 e3 : Option Expr} {p : Pos} {l : Addr} {vs us : List Value} {n tk0 : Nat} {vl vu vk : Value} {lo hi st : Option Int} {ops : List Value} {Q : Value → Shared → Prop} (D : Sd H fs L m h led) (hm : (l, listOf vs.toArray n) ∈ led)
    (pl : IsPart vl lo) (pu : IsPart vu hi) (pk : IsPart vk st) (h0 : st ≠ some 0) (hr : (slicePick vs.toArray lo hi st).toList = us) (hsz : vs.length ≤ 1000000)
    (k : ∀ r h' tk, Sd H fs L m h' ((r, listOf us.toArray 0) :: led) → Q (.ref r) { s with heap := h', toks := tk })
    (hs : subscripted (.Slice e1 e2 e3 p) false (.ref l) (.ref h.objs.size) = operate ops (getItem (.ref l) (.ref h.objs.size)) := by with_unfolding_all rfl) :
    wpAny (model prog w) A (subscriptTail base (.Slice e1 e2 e3 p) (.ref l) (.ref h.objs.size)) Q NoE { s with heap := h.push (sl3 vl vu vk), toks := tk0 } := by
  have hL : h.IsList l vs.toArray := ⟨_, D.get hm, rfl, ⟨_, rfl⟩⟩
  subst hr
  refine tail_any (T := "list") (s := { s with heap := h.push (sl3 vl vu vk), toks := tk0 }) (Heap.IsList.typeIs (s := { s with heap := h.push (sl3 vl vu vk), toks := tk0 }) (hL.push _)) list_getitem_lookup
    (wpAny_getItem_list_slice (hL.push _) (Heap.IsSliceOf.new ..) pl pu pk h0 ?_ (by rw [sizeLine_eq, List.size_toArray]; lia)) hs
  have D1 := ((D.push (sl3 vl vu vk)).push (listOf (slicePick vs.toArray lo hi st) 0)).drop 1
  refine k _ _ _ ?_
  simpa using D1
theorem mul_blank {mk : Nat} {t u : Tok} {Q : Value → Shared → Prop} (hm : mk ≤ 1) (h : ∀ t' tk, Q (.str (S (List.replicate mk 32)) t') { s with toks := tk }) : wpAny (model prog w) A (binaryOp .Mult (.str (S [32]) t) (.int (mk : Int) u)) Q NoE s := by
  have e : mk = 0 ∨ mk = 1 := by lia
  rcases e with rfl | rfl
  · refine SB.mul ⟨by decide, fun q => absurd (by decide) q, fun q => absurd (by decide) q⟩ fun t' k => ?_
    have := h t' k
    exact this
  · refine SB.mul ⟨by decide, fun _ q => absurd q (by decide), fun _ q => absurd q (by decide)⟩ fun t' k => ?_
    have := h t' k
    exact this
theorem mod_I {a : Int} {t u : Tok} {Q : Value → Shared → Prop} (h : ∀ t' tk, Q (.int (a.fmod 60) t') { s with toks := tk }) : wpAny (model prog w) A (binaryOp .Mod (.int a t) (.int 60 u)) Q NoE s :=
  PyProof.Rows.mod_int (by decide) (h _ _)
end
theorem fmod60 (a : Int) : ∃ p : Nat, p < 60 ∧ a.fmod 60 = (p : Int) := by
  have h1 : 0 ≤ a.fmod 60 := Int.fmod_nonneg_of_pos a (by decide)
  have h2 : a.fmod 60 < 60 := Int.fmod_lt_of_pos a (by decide)
  exact ⟨(a.fmod 60).toNat, by lia, by lia⟩
section
variable {prog : Program} {w : World} {A : Around} {s : Shared}
theorem mod_N {a : Int} {t u : Tok} {Q : Value → Shared → Prop} (h : ∀ p : Nat, p < 60 → ∀ t' tk, Q (.int (p : Int) t') { s with toks := tk }) : wpAny (model prog w) A (binaryOp .Mod (.int a t) (.int 60 u)) Q NoE s := by
  obtain ⟨p, hp, e⟩ := fmod60 a
  exact mod_I fun t' tk => by rw [e]; exact h p hp t' tk
end
theorem IVs.snocZ {vs : List Value} {ns : List Nat} (h : IVs vs ns) {z : Int} {k : Nat} (e : z = (k : Int)) (t : Tok) : IVs (vs ++ [.int z t]) (ns ++ [k]) := by subst e; exact h.snoc k t
end Mine
end

section
open PySem PySem.W PySem.Calls PyProof.Rows
set_option autoImplicit false
set_option maxRecDepth 100000
namespace Mine
structure Best (t : List Nat) (b : Nat) : Prop where
  ok : 0 < b → b ≤ t.length ∧ t.take b ∈ keys
  top : ∀ s, 1 ≤ s → s ≤ t.length → t.take s ∈ keys → s ≤ b
theorem Best.uniq {t : List Nat} {a b : Nat} (h : Best t a) (g : Best t b) : a = b := by
  have h1 : a ≤ b := by
    by_cases q : 0 < a
    · exact g.top a q (h.ok q).1 (h.ok q).2
    · lia
  have h2 : b ≤ a := by
    by_cases q : 0 < b
    · exact h.top b q (g.ok q).1 (g.ok q).2
    · lia
  lia
theorem tk_mem (x : List Nat) : x ∈ tk x ↔ x ∈ keys := by
  unfold tk
  rw [List.mem_filter]
  exact ⟨fun h => h.1, fun h => ⟨h, by simp⟩⟩
theorem tk_nil {t : List Nat} {s s' : Nat} (h : tk (t.take s) = []) (hs : s ≤ s') : t.take s' ∉ keys := fun q => by
  have : t.take s' ∈ tk (t.take s) := by
    unfold tk
    refine List.mem_filter.mpr ⟨q, ?_⟩
    simp only [decide_eq_true_eq, List.length_take, List.take_take]
    rw [show min (min s t.length) s' = min s t.length from by lia]
    by_cases z : s ≤ t.length
    · rw [Nat.min_eq_left z]
    · rw [Nat.min_eq_right (by lia), List.take_of_length_le (Nat.le_refl _), List.take_of_length_le (by lia)]
  rw [h] at this; cases this
theorem scan_best (t : List Nat) : ∀ f s b, f + s = t.length + 1 → 1 ≤ s → b < s → (0 < b → b ≤ t.length ∧ t.take b ∈ keys) → (∀ s', 1 ≤ s' → s' < s → t.take s' ∈ keys → s' ≤ b) → Best t (scan t f s b)
  | 0, s, b, hf, hs, hb, h1, h2 => ⟨h1, fun s' a1 a2 a3 => h2 s' a1 (by lia) a3⟩
  | f + 1, s, b, hf, hs, hb, h1, h2 => by
    unfold scan
    by_cases hz : tk (t.take s) = []
    · rw [if_neg (not_not_intro hz)]
      refine ⟨h1, fun s' a1 a2 a3 => ?_⟩
      by_cases q : s' < s
      · exact h2 s' a1 q a3
      · exact absurd a3 (tk_nil hz (by lia))
    · rw [if_pos hz]
      by_cases hk : t.take s ∈ tk (t.take s)
      · rw [if_pos hk]
        rw [tk_mem] at hk
        exact scan_best t f (s + 1) s (by lia) (by lia) (by lia) (fun _ => ⟨by lia, hk⟩) (fun s' a1 a2 a3 => by lia)
      · rw [if_neg hk]
        rw [tk_mem] at hk
        refine scan_best t f (s + 1) b (by lia) (by lia) (by lia) h1 (fun s' a1 a2 a3 => ?_)
        by_cases q : s' = s
        · subst q; exact absurd a3 hk
        · exact h2 s' a1 (by lia) a3
theorem best (t : List Nat) : Best t (bestOf t) := scan_best t t.length 1 0 (by lia) (by lia) (by lia) (fun q => absurd q (Nat.lt_irrefl _)) (fun s' a1 a2 _ => by lia)
theorem key_len : ∀ o ∈ keys, 1 ≤ o.length ∧ o.length ≤ 3 := by decide +kernel
theorem key_dot : ∀ o ∈ keys, 46 ∈ o → o = [46] ∨ o = [46, 46, 46] := by decide +kernel
theorem key_tail : ∀ o ∈ keys, o ≠ [46, 46, 46] → 2 ≤ o.length → o.drop 1 ∈ keys := by decide +kernel
theorem key_head : ∀ o ∈ keys, o.take 1 ∈ keys := by decide +kernel
theorem key_dd : [46, 46] ∉ keys := by decide +kernel
theorem key_lt : ∀ o ∈ keys, codeOf o < 256 := by decide +kernel
theorem key_inj : ∀ o ∈ keys, ∀ p ∈ keys, codeOf o = codeOf p → o = p := by decide +kernel
theorem key_blank : ∀ o ∈ keys, 32 ∉ o := by decide +kernel
noncomputable abbrev nn (t : List Nat) : Nat := (R t).length
theorem nn_step (t : List Nat) (h : t ≠ []) : nn t = 1 + nn (t.drop (max 1 (bestOf t))) := by
  show (R t).length = _
  rw [R_step t h, List.length_cons, Nat.add_comm]
theorem best_le (t : List Nat) : bestOf t ≤ 3 := by
  by_cases q : 0 < bestOf t
  · have h := (best t).ok q
    have := (key_len _ h.2).2
    rw [List.length_take] at this; lia
  · lia
noncomputable def Opt (t : List Nat) : Prop := ∀ s, 1 ≤ s → s ≤ t.length → t.take s ∈ keys → nn t ≤ 1 + nn (t.drop s)
theorem gen1 {c : Nat} {r : List Nat} (h : Opt (c :: r)) : nn (c :: r) ≤ 1 + nn r := by
  by_cases q : [c] ∈ keys
  · exact h 1 (Nat.le_refl _) (by simp) q
  · have hb : bestOf (c :: r) = 0 := by
      by_cases z : 0 < bestOf (c :: r)
      · have h1 := ((best (c :: r)).ok z).2
        have h2 := key_head _ h1
        rw [List.take_take, Nat.min_eq_left (by lia)] at h2
        exact absurd h2 q
      · lia
    rw [nn_step _ (by simp), hb]
    exact Nat.le_refl _
theorem lemA {c : Nat} {r : List Nat} (hc : c ≠ 46) (h : Opt r) : nn r ≤ nn (c :: r) := by
  rw [nn_step (c :: r) (by simp)]
  by_cases z : bestOf (c :: r) ≤ 1
  · rw [Nat.max_eq_left z]
    show nn r ≤ 1 + nn r
    lia
  · obtain ⟨b, hb⟩ : ∃ b, bestOf (c :: r) = b + 2 := ⟨bestOf (c :: r) - 2, by lia⟩
    have h1 := (best (c :: r)).ok (by lia)
    rw [hb] at h1 ⊢
    rw [Nat.max_eq_right (by lia)]
    have h2 : (c :: r).take (b + 2) = c :: r.take (b + 1) := rfl
    rw [h2] at h1
    rw [List.length_cons] at h1
    have hne : c :: r.take (b + 1) ≠ [46, 46, 46] := fun e => hc (List.cons.inj e).1
    have h3 := key_tail _ h1.2 hne (by rw [List.length_cons, List.length_take]; lia)
    have h4 : r.take (b + 1) ∈ keys := h3
    have := h (b + 1) (by lia) (by lia) h4
    show nn r ≤ 1 + nn (r.drop (b + 1))
    exact this
theorem dotBest {x : List Nat} : bestOf (46 :: x) = 1 ∨ ∃ y, x = 46 :: 46 :: y ∧ bestOf (46 :: x) = 3 := by
  have hB := best (46 :: x)
  have h0 : 1 ≤ bestOf (46 :: x) := hB.top 1 (Nat.le_refl _) (by simp) (show [46] ∈ keys from by decide +kernel)
  have h1 := hB.ok (by lia)
  have h2 := key_dot _ h1.2 (by
    obtain ⟨b, hb⟩ : ∃ b, bestOf (46 :: x) = b + 1 := ⟨bestOf (46 :: x) - 1, by lia⟩
    rw [hb]; exact .head _)
  have hl : ((46 :: x).take (bestOf (46 :: x))).length = bestOf (46 :: x) := by rw [List.length_take]; lia
  rcases h2 with h2 | h2
  · left
    rw [h2] at hl; simpa using hl.symm
  · right
    rw [h2] at hl
    have hb : bestOf (46 :: x) = 3 := by simpa using hl.symm
    rw [hb] at h2
    match x, h2 with
    | a :: b :: y, h2 =>
      have e : [46, a, b] = [46, 46, 46] := h2
      simp only [List.cons.injEq, true_and, and_true] at e
      obtain ⟨rfl, rfl⟩ := e
      exact ⟨y, rfl, hb⟩
theorem dot1 {x : List Nat} (IH : ∀ u : List Nat, u.length ≤ x.length → Opt u) : nn x ≤ 1 + nn (46 :: x) := by
  rw [nn_step (46 :: x) (by simp)]
  rcases @dotBest x with h | ⟨y, rfl, h⟩
  · rw [h]
    show nn x ≤ 1 + (1 + nn x)
    lia
  · rw [h]
    show nn (46 :: 46 :: y) ≤ 1 + (1 + nn y)
    have h1 := gen1 (IH (46 :: 46 :: y) (Nat.le_refl _))
    have h2 := gen1 (IH (46 :: y) (by simp))
    lia
theorem dot2 {r : List Nat} (IH : ∀ u : List Nat, u.length ≤ r.length → Opt u) : nn r ≤ nn (46 :: 46 :: r) := by
  rw [nn_step (46 :: 46 :: r) (by simp)]
  rcases @dotBest (46 :: r) with h | ⟨y, e, h⟩
  · rw [h]
    exact dot1 IH
  · rw [h]
    have e2 : r = 46 :: y := (List.cons.inj e).2
    subst e2
    exact gen1 (IH _ (Nat.le_refl _))
theorem opt_all : ∀ (N : Nat) (t : List Nat), t.length ≤ N → Opt t
  | 0, t, h => fun s a1 a2 _ => by lia
  | N + 1, t, h => by
    intro s a1 a2 a3
    have hne : t ≠ [] := by intro e; subst e; simp at a2; lia
    have IH : ∀ u : List Nat, u.length < t.length → Opt u := fun u hu => opt_all N u (by lia)
    have hB := best t
    have hsb := hB.top s a1 a2 a3
    have h1 := hB.ok (by lia)
    have hb3 := best_le t
    rw [nn_step t hne, Nat.max_eq_right (by lia)]
    generalize bestOf t = b at *
    suffices hh : nn (t.drop b) ≤ nn (t.drop s) by lia
    by_cases hd : t.take b = [46, 46, 46]
    · have hb : b = 3 := by
        have := congrArg List.length hd
        rw [List.length_take] at this
        simp at this; lia
      subst hb
      match t, hd with
      | a :: b :: c :: r, hd =>
        have e : [a, b, c] = [46, 46, 46] := hd
        simp only [List.cons.injEq, and_true] at e
        obtain ⟨rfl, rfl, rfl⟩ := e
        have hs : s = 1 ∨ s = 2 ∨ s = 3 := by lia
        rcases hs with rfl | rfl | rfl
        · exact dot2 fun u hu => IH u (Nat.lt_of_le_of_lt (show u.length ≤ r.length from hu) (by simp only [List.length_cons]; lia))
        · exact absurd a3 key_dd
        · exact Nat.le_refl _
    · have hnd : ∀ i (hi : i < t.length), 1 ≤ i → i < b → t[i] ≠ 46 := by
        intro i hi i1 ib e
        have hm : 46 ∈ t.take b := by
          rw [List.mem_take_iff_getElem]
          exact ⟨i, by lia, by rw [e]⟩
        rcases key_dot _ h1.2 hm with q | q
        · have := congrArg List.length q
          rw [List.length_take] at this
          simp at this; lia
        · exact hd q
      have step : ∀ i, 1 ≤ i → i < b → nn (t.drop (i + 1)) ≤ nn (t.drop i) := by
        intro i i1 ib
        have hi : i < t.length := by lia
        rw [List.drop_eq_getElem_cons hi]
        exact lemA (hnd i hi i1 ib) (IH _ (by rw [List.length_drop]; lia))
      have hs : b = s ∨ b = s + 1 ∨ b = s + 2 := by lia
      rcases hs with e | e | e
      · rw [e]; exact Nat.le_refl _
      · rw [e]; exact step s a1 (by lia)
      · rw [e]
        exact Nat.le_trans (step (s + 1) (by lia) (by lia)) (step s a1 (by lia))
theorem opt (t : List Nat) : Opt t := opt_all t.length t (Nat.le_refl _)
theorem pick_head {w : List Nat} {r : List (List Nat)} (h : ∀ x ∈ r, w.length ≤ x.length) : pick (w :: r) = w := by
  have e : w.length = leastOf (w :: r) := least_uniq (by simp) ⟨w, .head _, rfl⟩ (fun x hx => by
    rcases List.mem_cons.mp hx with rfl | hx
    · exact Nat.le_refl _
    · exact h x hx)
  unfold pick
  rw [List.filter_cons, if_pos (by simp [e])]; rfl
theorem word_key {t : List Nat} (h : 0 < bestOf t) : word t = codeOf (t.take (bestOf t)) := by unfold word; rw [if_pos h]
theorem word_none {t : List Nat} (h : bestOf t = 0) : word t = 256 + t.headD 0 := by unfold word; rw [if_neg (by lia)]
theorem ways_pick {rest : List Nat} {due : List (List Nat)} (hne : rest ≠ []) (hd : ∀ s, 1 ≤ s → s ≤ rest.length → due.getD (rest.length - s) [] = R (rest.drop s)) : pick (ways rest rest.length due) = R rest := by
  have hl : 1 ≤ rest.length := by cases rest with
    | nil => exact absurd rfl hne
    | cons _ _ => simp
  have hws : ∀ s, 1 ≤ s → wstep rest rest.length due s = if s ≤ rest.length ∧ rest.take s ∈ keys then some (codeOf (rest.take s) :: R (rest.drop s)) else none := by
    intro s hs
    unfold wstep
    by_cases q : s ≤ rest.length ∧ rest.take s ∈ keys
    · rw [if_pos q, if_pos q, hd s hs q.1]
    · rw [if_neg q, if_neg q]
  have hB := best rest
  have hb3 := best_le rest
  have hR := R_step rest hne
  by_cases hb : bestOf rest = 0
  · have hno : ∀ s, 1 ≤ s → wstep rest rest.length due s = none := fun s hs => by
      rw [hws s hs, if_neg]
      rintro ⟨q1, q2⟩
      have := hB.top s hs q1 q2; lia
    have hw : wayList rest rest.length due = [] := by
      unfold wayList
      simp only [List.filterMap_cons, hno 3 (by lia), hno 2 (by lia), hno 1 (by lia), List.filterMap_nil]
    unfold ways
    rw [if_pos hw, hd 1 (Nat.le_refl _) hl, pick_head (by simp), hR, word_none hb, hb]
    rfl
  · have hbp : 0 < bestOf rest := by lia
    have hok := hB.ok hbp
    have hRb : R rest = codeOf (rest.take (bestOf rest)) :: R (rest.drop (bestOf rest)) := by
      rw [hR, word_key hbp, Nat.max_eq_right hbp]
    have hyes : wstep rest rest.length due (bestOf rest) = some (R rest) := by
      rw [hws _ hbp, if_pos hok, ← hRb]
    have hno : ∀ s, bestOf rest < s → wstep rest rest.length due s = none := fun s hs => by
      rw [hws s (by lia), if_neg]
      rintro ⟨q1, q2⟩
      have := hB.top s (by lia) q1 q2; lia
    have hle : ∀ s x, 1 ≤ s → wstep rest rest.length due s = some x → (R rest).length ≤ x.length := fun s x hs e => by
      rw [hws s hs] at e
      split at e
      · rename_i q
        cases e
        have := opt rest s hs q.1 q.2
        rw [List.length_cons, Nat.add_comm]
        exact this
      · cases e
    obtain ⟨r, hr, hx⟩ : ∃ r, wayList rest rest.length due = R rest :: r ∧ ∀ x ∈ r, (R rest).length ≤ x.length := by
      have mem : ∀ l : List Nat, (∀ s ∈ l, 1 ≤ s) → ∀ x ∈ l.filterMap (wstep rest rest.length due), (R rest).length ≤ x.length := fun l hl x hx => by
        obtain ⟨s, hs, e⟩ := List.mem_filterMap.mp hx
        exact hle s x (hl s hs) e
      unfold wayList
      have hs : bestOf rest = 3 ∨ bestOf rest = 2 ∨ bestOf rest = 1 := by lia
      rcases hs with e | e | e
      · rw [e] at hyes
        exact ⟨_, by rw [List.filterMap_cons, hyes], mem [2, 1] (by decide)⟩
      · rw [e] at hyes
        exact ⟨_, by rw [List.filterMap_cons, hno 3 (by lia)]; simp only []; rw [List.filterMap_cons, hyes], mem [1] (by decide)⟩
      · rw [e] at hyes
        exact ⟨_, by rw [List.filterMap_cons, hno 3 (by lia)]; simp only []; rw [List.filterMap_cons, hno 2 (by lia)]; simp only []; rw [List.filterMap_cons, hyes], mem [] (by decide)⟩
    have hww : ways rest rest.length due = R rest :: r := by
      unfold ways
      rw [hr, if_neg (by simp)]
    rw [hww]
    exact pick_head hx
theorem dp_R (text : List Nat) : ∀ k, k ≤ text.length → ∀ j, j ≤ k → (dp text k)[j]? = some (R (text.drop (text.length - j)))
  | 0, _, j, hj => by
    have : j = 0 := by lia
    subst this
    rw [Nat.sub_zero, List.drop_length]
    rfl
  | k + 1, hk, j, hj => by
    have ih := dp_R text k (by lia)
    have hl := dp_len text k
    show (dp text k ++ [_])[j]? = _
    by_cases q : j ≤ k
    · rw [List.getElem?_append_left (by lia)]
      exact ih j q
    · have e : j = k + 1 := by lia
      subst e
      rw [List.getElem?_append_right (by lia), hl, Nat.sub_self]
      show some _ = _
      congr 1
      have hlen : (text.drop (text.length - (k + 1))).length = k + 1 := by rw [List.length_drop]; lia
      have := ways_pick (rest := text.drop (text.length - (k + 1))) (due := dp text k) (by intro e; rw [e] at hlen; simp at hlen) (fun s s1 s2 => by
        rw [hlen] at s2 ⊢
        rw [List.getD_eq_getElem?_getD, ih (k + 1 - s) (by lia), List.drop_drop]
        show R _ = R _
        congr 2
        lia)
      rw [hlen] at this
      exact this
theorem F_R (t : List Nat) : F t = R t := by
  have h := dp_R t t.length (Nat.le_refl _) t.length (Nat.le_refl _)
  have hl := dp_len t t.length
  unfold F
  rw [List.getLastD_eq_getLast?, List.getLast?_eq_getElem?, hl, Nat.add_sub_cancel, h, Nat.sub_self]
  rfl
end Mine
end

section
open PySem PySem.W PySem.Calls PyProof.Rows
set_option autoImplicit false
set_option maxRecDepth 100000
namespace Mine
noncomputable def Pc (p : List Nat) : Prop := p ∈ keys ∨ p ∈ [[97], [63], [92], [10]]
noncomputable def numOf (p : List Nat) : Nat := if p ∈ keys then codeOf p else 256 + p.headD 0
noncomputable def OK (l : List (List Nat)) : Prop := R l.flatten = l.map numOf
theorem word_lt (t : List Nat) (h : 0 < bestOf t) : word t < 256 := by
  rw [word_key h]; exact key_lt _ ((best t).ok h).2
theorem pc_ne {p : List Nat} (h : Pc p) : 1 ≤ p.length := by
  rcases h with h | h
  · exact (key_len p h).1
  · simp only [List.mem_cons, List.not_mem_nil, or_false] at h
    rcases h with rfl | rfl | rfl | rfl <;> exact Nat.le_refl _
theorem pc_other {p : List Nat} (h : Pc p) (hk : p ∉ keys) : ∃ c, p = [c] ∧ c ≠ 32 := by
  rcases h with h | h
  · exact absurd h hk
  · simp only [List.mem_cons, List.not_mem_nil, or_false] at h
    rcases h with rfl | rfl | rfl | rfl <;> exact ⟨_, rfl, by decide⟩
theorem pc_blank {p : List Nat} (h : Pc p) : 32 ∉ p := by
  by_cases q : p ∈ keys
  · exact key_blank p q
  · obtain ⟨c, rfl, hc⟩ := pc_other h q
    simpa using Ne.symm hc
/-- the reader tells the piece p at the head of t -/
noncomputable def Hit (p t : List Nat) : Prop := max 1 (bestOf t) = p.length ∧ word t = numOf p
theorem hit_of {p r : List Nat} (h : Pc p) (e : word (p ++ r) = numOf p) : Hit p (p ++ r) := by
  refine ⟨?_, e⟩
  unfold numOf at e
  by_cases q : p ∈ keys
  · rw [if_pos q] at e
    by_cases z : 0 < bestOf (p ++ r)
    · rw [word_key z] at e
      have h1 := (best (p ++ r)).ok z
      have h2 := key_inj _ h1.2 _ q e
      have h3 := congrArg List.length h2
      rw [List.length_take] at h3
      have := pc_ne h
      lia
    · rw [word_none (by lia)] at e
      have := key_lt p q
      lia
  · rw [if_neg q] at e
    by_cases z : 0 < bestOf (p ++ r)
    · have := word_lt _ z; lia
    · obtain ⟨c, rfl, _⟩ := pc_other h q
      have : bestOf ([c] ++ r) = 0 := by lia
      rw [this]; rfl
theorem ok_cons {p : List Nat} {l : List (List Nat)} (h : Pc p) : OK (p :: l) ↔ Hit p (p ++ l.flatten) ∧ OK l := by
  have hne : p ++ l.flatten ≠ [] := by
    intro e
    have := pc_ne h
    rw [(List.append_eq_nil_iff.mp e).1] at this; simp at this
  have e0 : OK (p :: l) ↔ R (p ++ l.flatten) = numOf p :: l.map numOf := by
    unfold OK; rw [List.flatten_cons, List.map_cons]
  rw [e0, R_step _ hne, List.cons.injEq]
  constructor
  · rintro ⟨e1, e2⟩
    have hh := hit_of h e1
    rw [hh.1, List.drop_left] at e2
    exact ⟨hh, e2⟩
  · rintro ⟨hh, e2⟩
    rw [hh.1, List.drop_left]
    exact ⟨hh.2, e2⟩
theorem ok_nil : OK [] := rfl
theorem best_self {p : List Nat} (h : p ∈ keys) : bestOf p = p.length :=
  (best p).uniq ⟨fun _ => ⟨Nat.le_refl _, by rw [List.take_length]; exact h⟩, fun s _ h2 _ => h2⟩
theorem hit_self {p : List Nat} (h : Pc p) : Hit p p := by
  unfold Hit numOf
  by_cases q : p ∈ keys
  · have := key_len p q
    rw [if_pos q, word_key (by rw [best_self q]; lia), best_self q, List.take_length]
    exact ⟨by lia, rfl⟩
  · obtain ⟨c, rfl, _⟩ := pc_other h q
    have hb : bestOf [c] = 0 := by
      by_cases z : 0 < bestOf [c]
      · have h1 := (best [c]).ok z
        rw [List.take_of_length_le (by simp at h1 ⊢; lia)] at h1
        exact absurd h1.2 q
      · lia
    rw [if_neg q, word_none hb, hb]
    exact ⟨rfl, rfl⟩
theorem ok_one {p : List Nat} (h : Pc p) : OK [p] := (ok_cons h).mpr ⟨by rw [List.flatten_nil, List.append_nil]; exact hit_self h, ok_nil⟩
/-- what begins alike is read alike -/
theorem best_front {t u : List Nat} (hb : bestOf (t ++ u) ≤ t.length) : bestOf t = bestOf (t ++ u) := by
  have hB := best (t ++ u)
  refine (best t).uniq ⟨fun z => ⟨hb, ?_⟩, fun s s1 s2 s3 => ?_⟩
  · have := (hB.ok z).2
    rwa [List.take_append_of_le_length hb] at this
  · refine hB.top s s1 (by rw [List.length_append]; lia) ?_
    rwa [List.take_append_of_le_length s2]
theorem word_front {t u : List Nat} (hne : t ≠ []) (hb : bestOf (t ++ u) ≤ t.length) : word t = word (t ++ u) := by
  have e := best_front hb
  unfold word
  rw [e]
  cases t with
  | nil => exact absurd rfl hne
  | cons c r =>
    by_cases z : 0 < bestOf (c :: r ++ u)
    · rw [if_pos z, if_pos z, List.take_append_of_le_length hb]
    · rw [if_neg z, if_neg z]; rfl
theorem ok_front : ∀ {l r : List (List Nat)}, (∀ p ∈ l, Pc p) → OK (l ++ r) → OK l
  | [], _, _, _ => ok_nil
  | p :: l, r, hp, h => by
    have hpp := hp p (.head _)
    rw [List.cons_append, ok_cons hpp] at h
    rw [ok_cons hpp]
    refine ⟨?_, ok_front (fun x hx => hp x (.tail _ hx)) h.2⟩
    obtain ⟨h1, h2⟩ := h.1
    rw [List.flatten_append, ← List.append_assoc] at h1 h2
    have hle : bestOf (p ++ l.flatten ++ r.flatten) ≤ (p ++ l.flatten).length := by rw [List.length_append]; lia
    have hne : p ++ l.flatten ≠ [] := by
      intro e
      have := pc_ne hpp
      rw [(List.append_eq_nil_iff.mp e).1] at this; simp at this
    exact ⟨by rw [best_front hle]; exact h1, by rw [word_front hne hle]; exact h2⟩
theorem ok_tail {p : List Nat} {l : List (List Nat)} (h : Pc p) (g : OK (p :: l)) : OK l := ((ok_cons h).mp g).2
/-- blanks -/
theorem best_blank (a b : List Nat) : bestOf (a ++ 32 :: b) ≤ a.length := by
  have hB := best (a ++ 32 :: b)
  by_cases z : 0 < bestOf (a ++ 32 :: b)
  · have h1 := hB.ok z
    by_cases q : bestOf (a ++ 32 :: b) ≤ a.length
    · exact q
    · exfalso
      refine key_blank _ h1.2 ?_
      rw [List.take_append, List.mem_append]
      right
      obtain ⟨k, hk⟩ : ∃ k, bestOf (a ++ 32 :: b) - a.length = k + 1 := ⟨bestOf (a ++ 32 :: b) - a.length - 1, by lia⟩
      rw [hk]; exact .head _
  · lia
theorem R_blank : ∀ (N : Nat) (a b : List Nat), a.length ≤ N → R (a ++ 32 :: b) = R a ++ 288 :: R b
  | N, [], b, _ => by
    have h0 : bestOf ([] ++ 32 :: b) = 0 := by have := best_blank [] b; simpa using this
    rw [R_step _ (by simp), word_none h0, h0]
    rfl
  | 0, c :: r, b, h => by simp at h
  | N + 1, c :: r, b, h => by
    have hle := best_blank (c :: r) b
    have e := best_front hle
    have ew := word_front (t := c :: r) (by simp) hle
    have hm : max 1 (bestOf (c :: r)) ≤ (c :: r).length := by rw [e, List.length_cons] at *; lia
    rw [R_step (c :: r ++ 32 :: b) (by simp), R_step (c :: r) (by simp), ← e, ← ew, List.drop_append_of_le_length hm, R_blank N, List.cons_append]
    rw [List.length_drop]
    simp only [List.length_cons] at *
    lia
theorem R_no288 : ∀ (N : Nat) (t : List Nat), t.length ≤ N → 32 ∉ t → 288 ∉ R t
  | _, [], _, _ => by rw [R_nil]; simp
  | 0, c :: r, h, _ => by simp at h
  | N + 1, c :: r, h, hb => by
    rw [R_step _ (by simp), List.mem_cons]
    rintro (e | e)
    · by_cases z : 0 < bestOf (c :: r)
      · have := word_lt _ z; lia
      · rw [word_none (by lia)] at e
        apply hb
        have : c = 32 := by simp at e; lia
        rw [this]; exact .head _
    · refine R_no288 N _ ?_ (fun q => hb (List.mem_of_mem_drop q)) e
      rw [List.length_drop]; simp only [List.length_cons] at *; lia
/-- what a number stands for -/
noncomputable def textOf (n : Nat) : List Nat := if n < 256 then ((keys.find? fun o => decide (codeOf o = n)).getD []) else [n - 256]
theorem text_code : ∀ o ∈ keys, textOf (codeOf o) = o := by decide +kernel
theorem text_num {p : List Nat} (h : Pc p) : textOf (numOf p) = p := by
  unfold numOf
  by_cases q : p ∈ keys
  · rw [if_pos q]; exact text_code p q
  · obtain ⟨c, rfl, _⟩ := pc_other h q
    rw [if_neg q]
    unfold textOf
    rw [if_neg (by lia)]
    show [256 + c - 256] = [c]
    rw [Nat.add_sub_cancel_left]
theorem text_R : ∀ (N : Nat) (t : List Nat), t.length ≤ N → ((R t).map textOf).flatten = t
  | _, [], _ => rfl
  | 0, c :: r, h => by simp at h
  | N + 1, c :: r, h => by
    rw [R_step _ (by simp), List.map_cons, List.flatten_cons, text_R N]
    · by_cases z : 0 < bestOf (c :: r)
      · rw [word_key z, text_code _ ((best (c :: r)).ok z).2, Nat.max_eq_right z, List.take_append_drop]
      · have h0 : bestOf (c :: r) = 0 := by lia
        rw [word_none h0, h0]
        unfold textOf
        rw [if_neg (by lia)]
        show [256 + c - 256] ++ r = c :: r
        rw [Nat.add_sub_cancel_left]; rfl
    · rw [List.length_drop]; simp only [List.length_cons] at *; lia
theorem flat_pos {x : List (List Nat)} (h : ∀ p ∈ x, Pc p) (e : x.flatten = []) : x = [] := by
  cases x with
  | nil => rfl
  | cons p r =>
    have := pc_ne (h p (.head _))
    rw [List.flatten_cons] at e
    rw [(List.append_eq_nil_iff.mp e).1] at this; simp at this
theorem take_inj {ps : List (List Nat)} (h : ∀ p ∈ ps, Pc p) {i k : Nat} (hik : k ≤ i) (e : (ps.take k).flatten = (ps.take i).flatten) : ps.take k = ps.take i := by
  have e1 : ps.take i = ps.take k ++ (ps.drop k).take (i - k) := by
    rw [← List.take_append_drop k (ps.take i), List.take_take, Nat.min_eq_left hik, List.drop_take]
  rw [e1, List.flatten_append] at e
  have e2 : ((ps.drop k).take (i - k)).flatten = [] := by simpa using e
  have e3 := flat_pos (fun p hp => h p (List.mem_of_mem_drop (List.mem_of_mem_take hp))) e2
  rw [e1, e3, List.append_nil]
theorem split_ok {l r : List (List Nat)} {X : List Nat} (h : ∀ p ∈ l ++ r, Pc p) (e : R l.flatten ++ X = (l ++ r).map numOf) : OK l ∧ X = r.map numOf := by
  have hk : R l.flatten = ((l ++ r).take (R l.flatten).length).map numOf := by
    rw [List.map_take, ← e, List.take_left]
  have ht : ((l ++ r).take (R l.flatten).length).flatten = l.flatten := by
    have e1 : ((R l.flatten).map textOf).flatten = l.flatten := text_R _ _ (Nat.le_refl _)
    rw [hk, List.map_map] at e1
    have e2 : ((l ++ r).take (R l.flatten).length).map (textOf ∘ numOf) = (l ++ r).take (R l.flatten).length := by
      conv => rhs; rw [← List.map_id ((l ++ r).take (R l.flatten).length)]
      exact List.map_congr_left fun p hp => text_num (h p (List.mem_of_mem_take hp))
    rw [e2] at e1
    exact e1
  have hl : (l ++ r).take l.length = l := List.take_left
  have hee : (l ++ r).take (R l.flatten).length = l := by
    rcases Nat.le_total (R l.flatten).length l.length with q | q
    · have := take_inj (ps := l ++ r) h (i := l.length) (k := (R l.flatten).length) q (by rw [ht, hl])
      rw [this, hl]
    · have := take_inj (ps := l ++ r) h (k := l.length) (i := (R l.flatten).length) q (by rw [ht, hl])
      rw [← this, hl]
  rw [hee] at hk
  refine ⟨hk, ?_⟩
  rw [hk, List.map_append] at e
  exact List.append_cancel_left e
noncomputable def textS : List (List (List Nat)) → List Nat
  | [] => []
  | [a] => a.flatten
  | a :: b :: r => a.flatten ++ 32 :: textS (b :: r)
theorem flat_blank {l : List (List Nat)} (h : ∀ p ∈ l, Pc p) : 32 ∉ l.flatten := by
  intro q
  obtain ⟨p, hp, hq⟩ := List.mem_flatten.mp q
  exact pc_blank (h p hp) hq
theorem filt {l : List (List Nat)} (h : ∀ p ∈ l, Pc p) : (R l.flatten).filter (fun n => decide (n ≠ 288)) = R l.flatten := by
  rw [List.filter_eq_self]
  intro n hn
  rw [decide_eq_true_eq]
  intro e
  subst e
  exact R_no288 _ _ (Nat.le_refl _) (flat_blank h) hn
theorem seg_ok : ∀ (ss : List (List (List Nat))), (∀ s ∈ ss, ∀ p ∈ s, Pc p) → ((R (textS ss)).filter (fun n => decide (n ≠ 288)) = ss.flatten.map numOf ↔ ∀ s ∈ ss, OK s)
  | [], _ => by simp [textS, R_nil]
  | [a], h => by
    have ha := h a (.head _)
    show (R a.flatten).filter _ = _ ↔ _
    rw [filt ha]
    simp [OK]
  | a :: b :: r, h => by
    have ha := h a (.head _)
    have ih := seg_ok (b :: r) (fun s hs => h s (.tail _ hs))
    show (R (a.flatten ++ 32 :: textS (b :: r))).filter _ = _ ↔ _
    rw [R_blank _ _ _ (Nat.le_refl _), List.filter_append, filt ha, List.filter_cons, if_neg (by simp), List.flatten_cons]
    constructor
    · intro e
      have hall : ∀ p ∈ a ++ (b :: r).flatten, Pc p := by
        intro p hp
        rcases List.mem_append.mp hp with hp | hp
        · exact ha p hp
        · obtain ⟨s, hs, hp⟩ := List.mem_flatten.mp hp
          exact h s (.tail _ hs) p hp
      have h2 := split_ok hall e
      intro s hs
      rcases List.mem_cons.mp hs with rfl | hs
      · exact h2.1
      · exact ih.mp h2.2 s hs
    · intro e
      rw [ih.mpr fun s hs => e s (.tail _ hs), List.map_append]
      congr 1
      exact e a (.head _)
noncomputable def sg {α : Type} (l : List α) (a b : Nat) : List α := (l.drop a).take (b - a)
noncomputable def toldStep (ps : List (List Nat)) (row : List Nat) (st : List Nat × Nat) (k : Nat) : List Nat × Nat := if R (sg ps st.2 (k + 1)).flatten = sg row st.2 (k + 1) then (st.1 ++ [0], st.2) else (st.1 ++ [1], k)
noncomputable def toldOf (ps : List (List Nat)) (row : List Nat) : List Nat := ([1, 2, 3].foldl (toldStep ps row) ([], 0)).1
noncomputable def apart (ps : List (List Nat)) (marks : List Nat) : List Nat := ps.headD [] ++ ((marks.zip ps.tail).map fun q => List.replicate q.1 32 ++ q.2).flatten
noncomputable def marks8 : List (List Nat) := [[0, 0, 0], [0, 0, 1], [0, 1, 0], [1, 0, 0], [0, 1, 1], [1, 0, 1], [1, 1, 0], [1, 1, 1]]
noncomputable def dueStep (ps : List (List Nat)) (row due marks : List Nat) : List Nat := if due = [] ∧ (F (apart ps marks)).filter (fun n => decide (n ≠ 288)) = row then marks else due
noncomputable def dueOf (ps : List (List Nat)) (row : List Nat) : List Nat := marks8.foldl (dueStep ps row) []
theorem due_seg {ps : List (List Nat)} {ss : List (List (List Nat))} {marks : List Nat} (h : ∀ p ∈ ps, Pc p) (hs : ss.flatten = ps) (ha : apart ps marks = textS ss) : ((F (apart ps marks)).filter (fun n => decide (n ≠ 288)) = ps.map numOf) = ∀ s ∈ ss, OK s := by
  have := seg_ok ss (fun s q p hp => h p (hs ▸ List.mem_flatten.mpr ⟨s, q, hp⟩))
  rw [hs, ← ha, ← F_R] at this
  exact propext this
theorem told_due {a b c d : List Nat} (ha : Pc a) (hb : Pc b) (hc : Pc c) (hd : Pc d) : toldOf [a, b, c, d] ([a, b, c, d].map numOf) = dueOf [a, b, c, d] ([a, b, c, d].map numOf) := by
  have hall : ∀ p ∈ [a, b, c, d], Pc p := by
    intro p hp
    simp only [List.mem_cons, List.not_mem_nil, or_false] at hp
    rcases hp with rfl | rfl | rfl | rfl <;> assumption
  have oa := ok_one ha
  have ob := ok_one hb
  have oc := ok_one hc
  have od := ok_one hd
  have i1 : OK [a, b, c, d] → OK [a, b, c] := ok_front (l := [a, b, c]) (r := [d]) (fun p hp => hall p (by simp at hp ⊢; rcases hp with rfl | rfl | rfl <;> simp))
  have i2 : OK [a, b, c] → OK [a, b] := ok_front (l := [a, b]) (r := [c]) (fun p hp => hall p (by simp at hp ⊢; rcases hp with rfl | rfl <;> simp))
  have i3 : OK [b, c, d] → OK [b, c] := ok_front (l := [b, c]) (r := [d]) (fun p hp => hall p (by simp at hp ⊢; rcases hp with rfl | rfl <;> simp))
  have i4 : OK [a, b, c, d] → OK [b, c, d] := ok_tail ha
  have i5 : OK [a, b, c] → OK [b, c] := ok_tail ha
  have i6 : OK [b, c, d] → OK [c, d] := ok_tail hb
  have d0 := due_seg (ss := [[a, b, c, d]]) (marks := [0, 0, 0]) hall rfl (by simp [apart, textS])
  have d1 := due_seg (ss := [[a, b, c], [d]]) (marks := [0, 0, 1]) hall rfl (by simp [apart, textS])
  have d2 := due_seg (ss := [[a, b], [c, d]]) (marks := [0, 1, 0]) hall rfl (by simp [apart, textS])
  have d3 := due_seg (ss := [[a], [b, c, d]]) (marks := [1, 0, 0]) hall rfl (by simp [apart, textS])
  have d4 := due_seg (ss := [[a, b], [c], [d]]) (marks := [0, 1, 1]) hall rfl (by simp [apart, textS])
  have d5 := due_seg (ss := [[a], [b, c], [d]]) (marks := [1, 0, 1]) hall rfl (by simp [apart, textS])
  have d6 := due_seg (ss := [[a], [b], [c, d]]) (marks := [1, 1, 0]) hall rfl (by simp [apart, textS])
  have d7 := due_seg (ss := [[a], [b], [c], [d]]) (marks := [1, 1, 1]) hall rfl (by simp [apart, textS])
  have ht : ∀ (st : List Nat × Nat) (k : Nat), toldStep [a, b, c, d] ([a, b, c, d].map numOf) st k = @ite _ (OK (sg [a, b, c, d] st.2 (k + 1))) (Classical.propDecidable _) (st.1 ++ [0], st.2) (st.1 ++ [1], k) := by
    intro st k
    unfold toldStep
    have e : sg ([a, b, c, d].map numOf) st.2 (k + 1) = (sg [a, b, c, d] st.2 (k + 1)).map numOf := by unfold sg; rw [List.map_take, List.map_drop]
    rw [e]
    by_cases q : OK (sg [a, b, c, d] st.2 (k + 1))
    · rw [if_pos q]; exact if_pos q
    · rw [if_neg q]; exact if_neg q
  have s1 : sg [a, b, c, d] 0 2 = [a, b] := rfl
  have s2 : sg [a, b, c, d] 0 3 = [a, b, c] := rfl
  have s3 : sg [a, b, c, d] 0 4 = [a, b, c, d] := rfl
  have s4 : sg [a, b, c, d] 1 3 = [b, c] := rfl
  have s5 : sg [a, b, c, d] 1 4 = [b, c, d] := rfl
  have s6 : sg [a, b, c, d] 2 4 = [c, d] := rfl
  simp only [List.forall_mem_cons, List.not_mem_nil, false_implies, implies_true, and_true, oa, ob, oc, od, true_and] at d0 d1 d2 d3 d4 d5 d6 d7
  have hds : ∀ (due marks : List Nat) (P : Prop), ((F (apart [a, b, c, d] marks)).filter (fun n => decide (n ≠ 288)) = [a, b, c, d].map numOf) = P → dueStep [a, b, c, d] ([a, b, c, d].map numOf) due marks = @ite _ (due = [] ∧ P) (Classical.propDecidable _) marks due := by
    intro due marks P e
    unfold dueStep
    by_cases q : due = [] ∧ P
    · rw [if_pos (by rw [e]; exact q)]; exact (if_pos q).symm
    · rw [if_neg (by rw [e]; exact q)]; exact (if_neg q).symm
  unfold toldOf dueOf marks8
  simp only [List.foldl_cons, List.foldl_nil, ht, hds _ _ _ d0, hds _ _ _ d1, hds _ _ _ d2, hds _ _ _ d3, hds _ _ _ d4, hds _ _ _ d5, hds _ _ _ d6, hds _ _ _ d7]
  clear d0 d1 d2 d3 d4 d5 d6 d7 ht hds
  by_cases p1 : OK [a, b] <;> by_cases p2 : OK [b, c] <;> by_cases p3 : OK [c, d] <;> by_cases p4 : OK [a, b, c] <;> by_cases p5 : OK [b, c, d] <;> by_cases p6 : OK [a, b, c, d] <;>
    first
    | (exfalso; simp_all; done)
    | simp [s1, s2, s3, s4, s5, s6, p1, p2, p3, p4, p5, p6]
end Mine
end

section
open PySem PySem.W PySem.Calls PyProof.Rows
set_option Elab.async false
set_option maxRecDepth 100000
set_option autoImplicit false
set_option maxHeartbeats 1000000
namespace Mine
/-- lists of written texts or ints, all items at once -/
noncomputable def EvS (prog : Program) (w : World) (A : Around) (env : Env) (e : Expr) (l : List Nat) : Prop := ∀ (Q : Value → Shared → Prop) (s : Shared), (∀ t tk, Q (.str (S l) t) { s with toks := tk }) → wpAny (model prog w) A (eval e env) Q NoE s
noncomputable def EvI (prog : Program) (w : World) (A : Around) (env : Env) (e : Expr) (n : Nat) : Prop := ∀ (Q : Value → Shared → Prop) (s : Shared), (∀ t tk, Q (.int (n : Int) t) { s with toks := tk }) → wpAny (model prog w) A (eval e env) Q NoE s
inductive EvAll (P : Expr → List Nat → Prop) (env : Env) : List Expr → List (List Nat) → Prop
  | nil : EvAll P env [] []
  | cons {e : Expr} {es : List Expr} {l : List Nat} {ls : List (List Nat)} : starEach (e :: es) env = (false, eval e env) :: starEach es env → P e l → EvAll P env es ls → EvAll P env (e :: es) (l :: ls)
inductive EvAllI (P : Expr → Nat → Prop) (env : Env) : List Expr → List Nat → Prop
  | nil : EvAllI P env [] []
  | cons {e : Expr} {es : List Expr} {l : Nat} {ls : List Nat} : starEach (e :: es) env = (false, eval e env) :: starEach es env → P e l → EvAllI P env es ls → EvAllI P env (e :: es) (l :: ls)
section
variable {prog : Program} {w : World} {A : Around} {s : Shared} {env : Env}
theorem evS_cst {x : Str} {l : List Nat} {k : Nat} {pos : Pos} (hx : x = S l) : EvS prog w A env (.Constant (.str x) k pos) l := fun _ _ h => cst_S hx h
theorem evS_add {x y : Str} {a b : List Nat} {k k' : Nat} {p p' pos : Pos} (hx : x = S a) (hy : y = S b) (hz : a.length + b.length ≤ 1000000) : EvS prog w A env (.BinOp (.Constant (.str x) k p) .Add (.Constant (.str y) k' p') pos) (a ++ b) :=
  fun _ _ h => wpAny_BinOp (cst_S hx fun _ _ => cst_S hy fun _ _ => add_S (fun t' tk => h t' tk) hz)
theorem evI_cst {n k : Nat} {pos : Pos} : EvI prog w A env (.Constant (.int (n : Int)) k pos) n := fun _ _ h => cst_int h
theorem evI_add {m n k k' : Nat} {p p' pos : Pos} : EvI prog w A env (.BinOp (.Constant (.int (m : Int)) k p) .Add (.Constant (.int (n : Int)) k' p') pos) (m + n) :=
  fun _ _ h => wpAny_BinOp (cst_int fun _ _ => cst_int fun _ _ => add_I (fun t' tk => h t' tk))
theorem strs_sd {es : List Expr} {ls : List (List Nat)} {pos : Pos} {Q : List Value → Shared → Prop} (hE : EvAll (EvS prog w A env) env es ls) (h : ∀ vs tk, SVs vs ls → Q vs { s with toks := tk }) : wpAny (model prog w) A (spliced (backTo pos (starEach es env))) Q NoE s := by
  induction hE generalizing Q s with
  | nil => exact spliced_none (h [] s.toks .nil)
  | cons he hp _ ih => exact spliced_more (hp _ _ fun t tk => ih fun vs tk' hv => h _ tk' (.cons ⟨t, rfl⟩ hv)) he
theorem ints_sd {es : List Expr} {ls : List Nat} {pos : Pos} {Q : List Value → Shared → Prop} (hE : EvAllI (EvI prog w A env) env es ls) (h : ∀ vs tk, IVs vs ls → Q vs { s with toks := tk }) : wpAny (model prog w) A (spliced (backTo pos (starEach es env))) Q NoE s := by
  induction hE generalizing Q s with
  | nil => exact spliced_none (h [] s.toks .nil)
  | cons he hp _ ih => exact spliced_more (hp _ _ fun t tk => ih fun vs tk' hv => h _ tk' (.cons _ t hv)) he
end
end Mine
end

open PySem PySem.W PySem.Calls PyProof.Rows
set_option Elab.async false
set_option maxRecDepth 100000
set_option autoImplicit false
set_option maxHeartbeats 4000000
namespace Mine
section
variable {w : World} {A : Around} {s : Shared} {H : Heap} {fs : Ledg} {L : Addr} {m mg mb : Vm} {led : Ledg} {pp : Program} {loose : List Str}
theorem ct_apart {pl ml : Addr} {pv mv : List Value} {np nm : Nat} {ps : List (List Nat)} {ms : List Nat} {Q : Value → Shared → Prop} (X : (Mine.KK0 w.params).In H) (TR : TopRead pp loose mg mb H) (hh : A.handled = none) (hdp : A.depth + 3 < recursionLimit)
    (D : Sd H fs L m s.heap led) (hpl : (pl, listOf pv.toArray np) ∈ led) (hml : (ml, listOf mv.toArray nm) ∈ led) (hp : SVs pv ps) (hm : IVs mv ms) (hne : ps ≠ []) (hps : ∀ p ∈ ps, p.length ≤ 3) (hms : ∀ k ∈ ms, k ≤ 1) (hn : ps.length ≤ 4)
    (h : ∀ t h' tk, Sd H fs L m h' led → Q (.str (S (apart ps ms)) t) { s with heap := h', toks := tk }) :
    wpAny (model PR w) A (call (.ref 113) [.ref pl, .ref ml]) Q NoE s := by
  obtain ⟨p0, ps, rfl⟩ : ∃ p0 r, ps = p0 :: r := by
    cases ps with
    | nil => exact absurd rfl hne
    | cons a r => exact ⟨a, r, rfl⟩
  obtain ⟨t0, hv0⟩ := hp.get (i := 0) (l := p0) rfl
  have hpn := hp.len
  have hp0 := hps p0 (.head _)
  have hcut : (slicePick pv.toArray (some 1) none none).toList = pv.drop 1 := by rw [pick_cut]; exact cut_from pv 1
  have hpvl : pv.length ≤ 1000 := by simp only [List.length_cons] at hpn hn; lia
  have hfl : ∀ l : List (Nat × List Nat), (∀ q ∈ l, q ∈ ms.zip ps) → ((l.map fun q => List.replicate q.1 32 ++ q.2).flatten).length ≤ 4 * l.length := by
    intro l
    induction l with
    | nil => intro _; simp
    | cons a r ih =>
      intro hz
      have h1 := ih fun q hq => hz q (.tail _ hq)
      have h2 := List.of_mem_zip (hz a (.head _))
      have h3 := hms _ h2.1
      have h4 := hps _ (.tail _ h2.2)
      simp only [List.map_cons, List.flatten_cons, List.length_append, List.length_replicate, List.length_cons]
      lia
  have hfl2 := hfl (ms.zip ps) fun _ hq => hq
  have hzl : (ms.zip ps).length ≤ 3 := by rw [List.length_zip]; simp only [List.length_cons] at hn; lia
  refine' call_sdL (hh := hh) (K := Mine.KK0 w.params) (binds := [("pieces", .ref pl), ("marks", .ref ml)]) D X TR.nolimit ?ho ?hcd ?hroom ?hbind ?hloc ?hcell ?_ ?hco ?hgen ?hk
  walk_at "enter"
  intro C oL h1 tk1 D1 lv
  intro env kR A1 hA1 hA2 hA3
  clear D
  (with_reducible show wpAny _ _ (execs _ _) _ _ _); (try clear kS); with_reducible refine ex_cons ?_; intro kS
  try dsimp only
  refine @wpAny_Return_some _ _ _ _ _ _ _ _ ?_
  try dsimp only
  refine @wpAny_BinOp _ _ _ _ _ _ _ _ _ _ ?_
  try dsimp only
  refine @Subscript_ _ _ _ _ _ _ _ _ _ ?_
  try dsimp only
  refine @nm_local _ _ _ _ _ _ _ _ _ _ _ _ _ (by assumption) (by walk_at "dv") ?_ (by rfl) (by rfl) (by decide)
  try dsimp only
  refine @cst_int _ _ _ _ _ _ _ _ _ ?_; intro _ _
  try dsimp only
  refine @tail_list _ _ _ _ _ _ _ _ _ _ _ _ _ _ _ _ _ _ _ (by assumption) (by walk_at "mem") (by rfl) (by first | assumption | exact rfl) (by walk_at "sz") ?_ (by rfl)
  try dsimp only
  refine @meth1_str _ _ _ _ _ _ _ _ _ _ _ _ F.slot_str_join F.type_str_join ?_ (by rfl) (by rfl) (by rfl)
  try dsimp only
  refine @cst_S _ _ _ _ _ _ _ _ _ _ (by exact lit11) ?_; intro _ _
  try dsimp only
  refine ⟨⟨_, _, rfl⟩, ?_⟩
  try dsimp only
  refine @listCompT _ _ _ _ _ _ _ _ _ _ _ _ _ _ _ _ _ _ _ _ _ (by assumption) (by walk_at "hh") rfl (by decide) rfl (by decide) rfl rfl ?_ (by intro _; rfl)
  try dsimp only
  refine @call_ty _ _ _ _ _ _ _ _ _ _ _ _ _ _ _ _ _ _ _ _ _ (by assumption) (by assumption) (by assumption) (by k_is) (by boot_by_name) ?_ (by decide) (by rfl) (by rfl) (by rfl) (by rfl) (by decide) (by rfl) (by rfl)
  try dsimp only
  refine @spliced_more _ _ _ _ _ _ _ _ _ ?_ (by rfl)
  try dsimp only
  refine @nm_local _ _ _ _ _ _ _ _ _ _ _ _ _ (by assumption) (by walk_at "dv") ?_ (by rfl) (by rfl) (by decide)
  try dsimp only
  refine @spliced_more _ _ _ _ _ _ _ _ _ ?_ (by rfl)
  try dsimp only
  refine @Subscript_ _ _ _ _ _ _ _ _ _ ?_
  try dsimp only
  refine @nm_local _ _ _ _ _ _ _ _ _ _ _ _ _ (by assumption) (by walk_at "dv") ?_ (by rfl) (by rfl) (by decide)
  try dsimp only
  refine @wpAny_Slice _ _ _ _ _ _ _ _ _ _ ?_
  try dsimp only
  refine @evalPart_some_step _ _ _ _ _ _ _ ?_
  try dsimp only
  refine @cst_int _ _ _ _ _ _ _ _ _ ?_; intro _ _
  try dsimp only
  refine @evalPart_none_step _ _ _ _ _ _ ?_
  try dsimp only
  refine @evalPart_none_step _ _ _ _ _ _ ?_
  try dsimp only
  refine @sliceG _ _ _ _ _ _ _ _ _ _ _ _ _ _ _ _ _ _ _ _ _ _ _ _ _ _ _ _ (by assumption) (by walk_at "mem") (by walk_at "part") (by walk_at "part") (by walk_at "part") (by simp) (by first | assumption | exact rfl) (by walk_at "sz") ?_ (by with_unfolding_all rfl); intro _ _ _ _
  try dsimp only
  refine @spliced_none _ _ _ _ _ _ _ ?_
  try dsimp only
  refine @zip_sd _ _ _ _ _ _ _ _ _ _ _ _ _ _ _ _ (by walk_at "hh") (by assumption) (by walk_at "mem") (by walk_at "mem") ?_; intro _ _ _ _ _ _ _ _
  try dsimp only
  rename_i t3 tk3 t2 tk2 t1 tk1' r h2 tk4 D2 e T oT its h3 tk5 D3 PI
  clear D1 D2
  obtain ⟨fp, wr, St, Mid, W, hwr, hat, hst, hP, hheld⟩ := PI.ex
  have hmn := hm.len
  have hlen : min mv.length (List.drop 1 pv).length = (ms.zip ps).length := by rw [List.length_drop, List.length_zip, hmn, hpn, List.length_cons]; rfl
  refine ⟨h3, tk5, _, _, its, e, fp, wr, _, _, St, Mid, _, rfl, rfl, W, hwr, hat, hst, D3, hP, hheld, by lia,
    (fun i ys led' => led' = (T, oT) :: (r, listOf (List.drop 1 pv).toArray 0) :: led ∧ SVs ys (((ms.zip ps).take i).map fun q => List.replicate q.1 32 ++ q.2)), ⟨rfl, .nil⟩, (fun i ys led' hj p hp => ?_), ?_, ?_⟩
  · rw [hj.1]
    simp only [List.mem_cons, List.not_mem_nil, or_false] at hp
    rcases hp with rfl | rfl | rfl
    · exact .head _
    · exact .tail _ (.tail _ hml)
    · exact .tail _ (.head _)
  · rintro i a b its ys k m₁ led₁ h₁ tk₁ acc C1 fs₁ hi ⟨x, y, hx, hy, hab⟩ ⟨rfl, hys⟩ D4
    clear D3
    have hi2 : i < (ms.zip ps).length := by lia
    have hiz := List.length_zip (l₁ := ms) (l₂ := ps)
    have him : i < ms.length := by lia
    have hip : i < ps.length := by lia
    have hab2 : [a, b] = [x, y] := congrArg Array.toList hab
    cases hab2
    obtain ⟨tx, ex⟩ := IntsAre.get hm i (ms[i] : Int) (by unfold zs; rw [List.getElem?_map, List.getElem?_eq_getElem him]; rfl)
    obtain ⟨ty, ey⟩ := hp.get (i := i + 1) (l := ps[i]) (by rw [List.getElem?_cons_succ, List.getElem?_eq_getElem hip])
    rw [ex] at hx
    rw [List.getElem?_drop, Nat.add_comm 1 i, ey] at hy
    cases hx
    cases hy
    have hmk := hms _ (List.getElem_mem him)
    have hpk := hps _ (.tail _ (List.getElem_mem hip))
    have hmq : ((ms.zip ps).take (i + 1)).map (fun q => List.replicate q.1 32 ++ q.2) = ((ms.zip ps).take i).map (fun q => List.replicate q.1 32 ++ q.2) ++ [List.replicate ms[i] 32 ++ ps[i]] := by
      rw [List.take_add_one, List.getElem?_eq_getElem hi2, List.getElem_zip]; simp
    have hrl : (List.replicate ms[i] 32).length ≤ 1 := by rw [List.length_replicate]; exact hmk
    refine @wpAny_BinOp _ _ _ _ _ _ _ _ _ _ ?_
    try dsimp only
    refine @wpAny_BinOp _ _ _ _ _ _ _ _ _ _ ?_
    try dsimp only
    refine @cst_S _ _ _ _ _ _ _ _ _ _ (by exact lit20) ?_; intro _ _
    try dsimp only
    refine @nm_local _ _ _ _ _ _ _ _ _ _ _ _ _ (by assumption) (by walk_at "dv") ?_ (by rfl) (by rfl) (by decide)
    try dsimp only
    refine @mul_blank _ _ _ _ _ _ _ _ (by assumption) ?_; intro _ _
    try dsimp only
    refine @nm_local _ _ _ _ _ _ _ _ _ _ _ _ _ (by assumption) (by walk_at "dv") ?_ (by rfl) (by rfl) (by decide)
    try dsimp only
    refine @add_S _ _ _ _ _ _ _ _ _ ?_ (by walk_at "sz"); intro _ _
    try dsimp only
    exact ⟨_, _, _, _, rfl, by assumption, rfl, by rw [hmq]; exact hys.snoc ⟨_, rfl⟩⟩
  · rintro ys k acc led₁ h₁ tk₁ ⟨rfl, hys⟩ D4
    clear D3
    rw [hlen, List.take_length] at hys
    have hfl3 : ((ms.zip ps).map (fun q => List.replicate q.1 32 ++ q.2)).flatten.length ≤ 20 := by lia
    refine @join_S _ _ _ _ _ _ _ _ _ _ _ _ _ _ _ (by assumption) (by walk_at "mem") (by assumption) (by walk_at "sz") ?_; intro _ _
    try dsimp only
    refine @add_S _ _ _ _ _ _ _ _ _ ?_ (by walk_at "sz"); intro _ _
    try dsimp only
    exact h _ _ _ (lv _ _ _ _ D4.tail.tail.tail)
end
end Mine

section
open PySem PySem.W PySem.Calls PyProof.Rows
set_option autoImplicit false
set_option maxRecDepth 100000
namespace Mine
noncomputable def opsL : List (List Nat) := [[40], [41], [91], [93], [58], [44], [59], [43], [45], [42], [47], [124], [38], [60], [62], [61], [46], [37], [123], [125], [61, 61], [33, 61], [60, 61], [62, 61], [126], [94], [60, 60], [62, 62], [42, 42], [43, 61], [45, 61], [42, 61], [47, 61], [37, 61], [38, 61], [124, 61], [94, 61], [60, 60, 61], [62, 62, 61], [42, 42, 61], [47, 47], [47, 47, 61], [64], [64, 61], [45, 62], [46, 46, 46], [58, 61], [33]]
theorem opsL_keys : ∀ o ∈ opsL, o ∈ keys := by decide +kernel
theorem opsL_all : ∀ o ∈ keys, ∃ j, j < 48 ∧ opsL[j]? = some o ∧ codeOf o = 7 + j := by decide +kernel
theorem opsL_nd : opsL.Nodup := by decide +kernel
theorem opsL_len : ∀ o ∈ opsL, o.length ≤ 3 := by decide +kernel
/-- what the comprehension of _law_operators has laid by the turn i -/
noncomputable def OJ (i : Nat) (kv : Kv) : Prop := kv.map (·.1) = opsL.take i ∧ ∀ (j : Nat) (p : List Nat × Value), kv[j]? = some p → ∃ t : Tok, p.2 = .int ((7 + j : Nat) : Int) t
theorem OJ.nil : OJ 0 [] := ⟨rfl, fun j p e => by simp at e⟩
theorem vat_none {kv : Kv} {k : List Nat} (h : k ∉ kv.map (·.1)) : vat kv k = none := by
  unfold vat
  rw [Option.map_eq_none_iff, List.find?_eq_none]
  intro p hp e
  exact h (by rw [← of_decide_eq_true e]; exact List.mem_map_of_mem hp)
theorem OJ.fresh {i : Nat} {kv : Kv} {k : List Nat} (h : OJ i kv) (hk : opsL[i]? = some k) : vat kv k = none := by
  refine vat_none ?_
  rw [h.1]
  intro hm
  obtain ⟨j, hj, e⟩ := List.mem_take_iff_getElem.mp hm
  have hi := (List.getElem?_eq_some_iff.mp hk)
  have := (List.getElem_inj opsL_nd (i := j) (j := i) (h₀ := by lia) (h₁ := hi.1)).mp (by rw [e, hi.2])
  lia
theorem OJ.len {i : Nat} {kv : Kv} (h : OJ i kv) (hi : i ≤ opsL.length) : kv.length = i := by
  have := congrArg List.length h.1
  rw [List.length_map, List.length_take] at this; lia
theorem OJ.add {i : Nat} {kv : Kv} {k : List Nat} (h : OJ i kv) (hk : opsL[i]? = some k) (t : Tok) : OJ (i + 1) (kv ++ [(k, .int ((7 + i : Nat) : Int) t)]) := by
  have hi := (List.getElem?_eq_some_iff.mp hk).1
  have hl := h.len (by lia)
  refine ⟨?_, fun j p e => ?_⟩
  · rw [List.map_append, h.1, List.take_add_one, hk]; rfl
  · by_cases q : j < kv.length
    · rw [List.getElem?_append_left q] at e
      exact h.2 j p e
    · rw [List.getElem?_append_right (by lia)] at e
      have : j = i := by
        have := (List.getElem?_eq_some_iff.mp e).1
        simp at this; lia
      subst this
      rw [hl, Nat.sub_self] at e
      cases e
      exact ⟨t, rfl⟩
theorem OJ.own {kv : Kv} (h : OJ 48 kv) : OwnInv kv := by
  have hk : kv.map (·.1) = opsL := h.1
  intro x
  refine ⟨fun hx => ?_, fun hx => vat_none (by rw [hk]; exact fun q => hx (opsL_keys x q))⟩
  obtain ⟨j, hj, e, hc⟩ := opsL_all x hx
  have hlen : kv.length = 48 := h.len (by decide)
  have hjl : j < kv.length := by lia
  obtain ⟨t, ht⟩ := h.2 j _ (List.getElem?_eq_getElem hjl)
  have hkx : kv[j].1 = x := by
    have : (kv.map (·.1))[j]? = some x := by rw [hk]; exact e
    rw [List.getElem?_map, List.getElem?_eq_getElem hjl] at this
    exact Option.some.inj this
  refine ⟨t, ?_⟩
  unfold vat
  cases q : kv.find? fun p => decide (p.1 = x) with
  | none =>
    rw [List.find?_eq_none] at q
    exact absurd (decide_eq_true hkx) (q _ (List.getElem_mem hjl))
  | some p =>
    have hp1 : p.1 = x := by simpa using List.find?_some q
    obtain ⟨i, hi, ep⟩ := List.getElem_of_mem (List.mem_of_find?_eq_some q)
    have hij : i = j := by
      have hnd : (kv.map (·.1)).Nodup := by rw [hk]; exact opsL_nd
      refine (List.getElem_inj hnd (h₀ := by rw [List.length_map]; exact hi) (h₁ := by rw [List.length_map]; exact hjl)).mp ?_
      rw [List.getElem_map, List.getElem_map, ep, hp1, hkx]
    subst hij
    rw [← ep, Option.map_some, ht, hc]
end Mine
end

open PySem PySem.W PySem.Calls PyProof.Rows
set_option Elab.async false
set_option maxRecDepth 100000
set_option autoImplicit false
set_option maxHeartbeats 1000000
namespace Mine
section
variable {w : World} {A : Around} {s : Shared} {H : Heap} {fs : Ledg} {L : Addr} {m mg mb : Vm} {led : Ledg} {pp : Program} {loose : List Str}
theorem SVs.app {vs us : List Value} {ls ks : List (List Nat)} (h : SVs vs ls) (g : SVs us ks) : SVs (vs ++ us) (ls ++ ks) := by
  induction h with
  | nil => exact g
  | cons h _ ih => exact .cons h ih
theorem ct_operators {Q : Value → Shared → Prop} (X : (Mine.KK0 w.params).In H) (TR : TopRead pp loose mg mb H) (hh : A.handled = none) (hdp : A.depth + 3 < recursionLimit)
    (D : Sd H fs L m s.heap led)
    (h : ∀ d o kv h' tk, Sd H fs L m h' ((d, o) :: led) → (d == sysModules) = false → DO PR w kv o → OwnInv kv → Q (.ref d) { s with heap := h', toks := tk }) :
    wpAny (model PR w) A (call (.ref 84) []) Q NoE s := by
  refine' call_sdL (hh := hh) (K := Mine.KK0 w.params) (binds := []) D X TR.nolimit ?ho ?hcd ?hroom ?hbind ?hloc ?hcell ?_ ?hco ?hgen ?hk
  walk_at "enter"
  intro C oL h1 tk1 D1 lv
  intro env kR A1 hA1 hA2 hA3
  clear D
  (with_reducible show wpAny _ _ (execs _ _) _ _ _); (try clear kS); with_reducible refine ex_cons ?_; intro kS
  try dsimp only
  refine @wpAny_Assign_Name _ _ _ _ _ _ _ _ _ _ ?_ (by rfl)
  try dsimp only
  refine @List_ _ _ _ _ _ _ _ _ ?_
  try dsimp only
  refine strs_sd (ls := [[40], [41], [91], [93], [58], [44], [59], [43], [45], [42], [47], [124], [38], [60], [62], [61], [46], [37], [123], [125], [61, 61], [33, 61], [60, 61], [62, 61]]) ?_ ?_
  · refine EvAll.cons rfl (evS_cst (by exact lit22)) ?_
    refine EvAll.cons rfl (evS_cst (by exact lit23)) ?_
    refine EvAll.cons rfl (evS_cst (by exact lit3)) ?_
    refine EvAll.cons rfl (evS_cst (by exact lit5)) ?_
    refine EvAll.cons rfl (evS_cst (by exact lit24)) ?_
    refine EvAll.cons rfl (evS_cst (by exact lit25)) ?_
    refine EvAll.cons rfl (evS_cst (by exact lit26)) ?_
    refine EvAll.cons rfl (evS_cst (by exact lit27)) ?_
    refine EvAll.cons rfl (evS_cst (by exact lit7)) ?_
    refine EvAll.cons rfl (evS_cst (by exact lit1)) ?_
    refine EvAll.cons rfl (evS_cst (by exact lit28)) ?_
    refine EvAll.cons rfl (evS_cst (by exact lit29)) ?_
    refine EvAll.cons rfl (evS_cst (by exact lit30)) ?_
    refine EvAll.cons rfl (evS_cst (by exact lit31)) ?_
    refine EvAll.cons rfl (evS_cst (by exact lit32)) ?_
    refine EvAll.cons rfl (evS_cst (by exact lit33)) ?_
    refine EvAll.cons rfl (evS_cst (by exact lit0)) ?_
    refine EvAll.cons rfl (evS_cst (by exact lit34)) ?_
    refine EvAll.cons rfl (evS_cst (by exact lit35)) ?_
    refine EvAll.cons rfl (evS_cst (by exact lit36)) ?_
    refine EvAll.cons rfl (evS_cst (by exact lit37)) ?_
    refine EvAll.cons rfl (evS_cst (by exact lit38)) ?_
    refine EvAll.cons rfl (evS_cst (by exact lit39)) ?_
    refine EvAll.cons rfl (evS_cst (by exact lit40)) ?_
    exact EvAll.nil
  intro vs1 tk2 hv1
  have hl1 : vs1.length = 24 := hv1.len
  refine newList_sd D1 ?_ (by rw [sizeLine_eq, hl1]; decide)
  intro l1 h2 tk3 D2
  clear D1
  refine @st_localL _ _ _ _ _ _ _ _ _ _ _ _ (by assumption) ?_ (by rfl) (by rfl); intro _ _ _ _
  try dsimp only
  rename_i h3 tk4 _ D3
  clear D2
  (with_reducible show wpAny _ _ (execs _ _) _ _ _); (try clear kS); with_reducible refine ex_cons ?_; intro kS
  try dsimp only
  refine @wpAny_Assign_Name _ _ _ _ _ _ _ _ _ _ ?_ (by rfl)
  try dsimp only
  refine @wpAny_BinOp _ _ _ _ _ _ _ _ _ _ ?_
  try dsimp only
  refine @nm_local _ _ _ _ _ _ _ _ _ _ _ _ _ (by assumption) (by walk_at "dv") ?_ (by rfl) (by rfl) (by decide)
  try dsimp only
  refine @List_ _ _ _ _ _ _ _ _ ?_
  try dsimp only
  refine strs_sd (ls := [[126], [94], [60, 60], [62, 62], [42, 42], [43, 61], [45, 61], [42, 61], [47, 61], [37, 61], [38, 61], [124, 61], [94, 61], [60, 60, 61], [62, 62, 61], [42, 42, 61], [47, 47], [47, 47, 61]]) ?_ ?_
  · refine EvAll.cons rfl (evS_cst (by exact lit41)) ?_
    refine EvAll.cons rfl (evS_cst (by exact lit10)) ?_
    refine EvAll.cons rfl (evS_cst (by exact lit42)) ?_
    refine EvAll.cons rfl (evS_cst (by exact lit43)) ?_
    refine EvAll.cons rfl (evS_cst (by exact lit44)) ?_
    refine EvAll.cons rfl (evS_cst (by exact lit45)) ?_
    refine EvAll.cons rfl (evS_cst (by exact lit46)) ?_
    refine EvAll.cons rfl (evS_cst (by exact lit47)) ?_
    refine EvAll.cons rfl (evS_cst (by exact lit48)) ?_
    refine EvAll.cons rfl (evS_cst (by exact lit49)) ?_
    refine EvAll.cons rfl (evS_cst (by exact lit50)) ?_
    refine EvAll.cons rfl (evS_cst (by exact lit51)) ?_
    refine EvAll.cons rfl (evS_cst (by exact lit52)) ?_
    refine EvAll.cons rfl (evS_cst (by exact lit53)) ?_
    refine EvAll.cons rfl (evS_cst (by exact lit54)) ?_
    refine EvAll.cons rfl (evS_cst (by exact lit55)) ?_
    refine EvAll.cons rfl (evS_cst (by exact lit56)) ?_
    refine EvAll.cons rfl (evS_cst (by exact lit57)) ?_
    exact EvAll.nil
  intro vs2 tk5 hv2
  have hl2 : vs2.length = 18 := hv2.len
  refine newList_sd D3 ?_ (by rw [sizeLine_eq, hl2]; decide)
  intro l2 h4 tk6 D4
  clear D3
  refine @add_LL _ _ _ _ _ _ _ _ _ _ _ _ _ _ _ _ (by assumption) (by walk_at "mem") (by walk_at "mem") ?_ (by walk_at "sz"); intro _ _ _ _
  try dsimp only
  refine @st_localL _ _ _ _ _ _ _ _ _ _ _ _ (by assumption) ?_ (by rfl) (by rfl); intro _ _ _ _
  try dsimp only
  rename_i l3 h5 tk7 D5 h6 tk8 _ D6
  clear D4 D5
  (with_reducible show wpAny _ _ (execs _ _) _ _ _); (try clear kS); with_reducible refine ex_cons ?_; intro kS
  try dsimp only
  refine @wpAny_Assign_Name _ _ _ _ _ _ _ _ _ _ ?_ (by rfl)
  try dsimp only
  refine @wpAny_BinOp _ _ _ _ _ _ _ _ _ _ ?_
  try dsimp only
  refine @nm_local _ _ _ _ _ _ _ _ _ _ _ _ _ (by assumption) (by walk_at "dv") ?_ (by rfl) (by rfl) (by decide)
  try dsimp only
  refine @List_ _ _ _ _ _ _ _ _ ?_
  try dsimp only
  refine strs_sd (ls := [[64], [64, 61], [45, 62], [46, 46, 46], [58, 61], [33]]) ?_ ?_
  · refine EvAll.cons rfl (evS_cst (by exact lit58)) ?_
    refine EvAll.cons rfl (evS_cst (by exact lit59)) ?_
    refine EvAll.cons rfl (evS_cst (by exact lit60)) ?_
    refine EvAll.cons rfl (evS_cst (by exact lit61)) ?_
    refine EvAll.cons rfl (evS_add (a := [58]) (b := [61]) (by exact lit24) (by exact lit33) (by decide)) ?_
    refine EvAll.cons rfl (evS_cst (by exact lit4)) ?_
    exact EvAll.nil
  intro vs3 tk9 hv3
  have hl3 : vs3.length = 6 := hv3.len
  refine newList_sd D6 ?_ (by rw [sizeLine_eq, hl3]; decide)
  intro l4 h7 tk10 D7
  clear D6
  refine @add_LL _ _ _ _ _ _ _ _ _ _ _ _ _ _ _ _ (by assumption) (by walk_at "mem") (by walk_at "mem") ?_ (by walk_at "sz"); intro _ _ _ _
  try dsimp only
  refine @st_localL _ _ _ _ _ _ _ _ _ _ _ _ (by assumption) ?_ (by rfl) (by rfl); intro _ _ _ _
  try dsimp only
  rename_i l5 h8 tk11 D8 h9 tk12 _ D9
  clear D7 D8
  (with_reducible show wpAny _ _ (execs _ _) _ _ _); (try clear kS); with_reducible refine ex_cons ?_; intro kS
  try dsimp only
  refine @wpAny_Return_some _ _ _ _ _ _ _ _ ?_
  try dsimp only
  refine @dictCompT _ _ _ _ _ _ _ _ _ _ _ _ _ _ _ _ _ _ _ _ _ _ (by assumption) (by rename TopRead _ _ _ _ _ => hTR; exact hTR.nolimit) (by walk_at "hh") rfl (by decide) rfl (by decide) rfl rfl ?_ (by intro _; rfl)
  try dsimp only
  refine @call_ty _ _ _ _ _ _ _ _ _ _ _ _ _ _ _ _ _ _ _ _ _ (by assumption) (by assumption) (by assumption) (by k_is) (by boot_by_name) ?_ (by decide) (by rfl) (by rfl) (by rfl) (by rfl) (by decide) (by rfl) (by rfl)
  try dsimp only
  refine @spliced_more _ _ _ _ _ _ _ _ _ ?_ (by rfl)
  try dsimp only
  refine @nm_local _ _ _ _ _ _ _ _ _ _ _ _ _ (by assumption) (by walk_at "dv") ?_ (by rfl) (by rfl) (by decide)
  try dsimp only
  refine @spliced_none _ _ _ _ _ _ _ ?_
  try dsimp only
  refine @enum_sd _ _ _ _ _ _ _ _ _ _ _ _ _ (by walk_at "hh") (by assumption) (by walk_at "mem") ?_; intro _ _ _ _ _ _
  try dsimp only
  rename_i e its h10 tk13 D10 PI
  clear D9
  have hvs : SVs (vs1 ++ vs2 ++ vs3) opsL := (hv1.app hv2).app hv3
  have hvl := hvs.len
  have hol : opsL.length = 48 := rfl
  generalize vs1 ++ vs2 ++ vs3 = vs at *
  obtain ⟨fp, wr, St, Mid, W, hwr, hat, hst, hP, hheld⟩ := PI.ex
  refine ⟨h10, tk13, _, _, its, e, fp, wr, _, _, St, Mid, _, rfl, rfl, W, hwr, hat, hst, D10, hP, hheld, by lia,
    (fun i kv led' => led' = (l5, listOf vs.toArray 0) :: (l4, listOf vs3.toArray 0) :: (l3, listOf (vs1 ++ vs2).toArray 0) :: (l2, listOf vs2.toArray 0) :: (l1, listOf vs1.toArray 0) :: led ∧ OJ i kv), ⟨rfl, OJ.nil⟩, (fun i ys led' hj p hp => ?_), ?_, ?_⟩
  · rw [hj.1, List.mem_singleton.mp hp]
    exact .head _
  · rintro i a b its kv o m₁ led₁ h₁ tk₁ d C1 fs₁ hi ⟨x, y, hy, hab⟩ ⟨rfl, hys⟩ ho D4
    clear D10
    have hi2 : i < opsL.length := by lia
    have hab2 : [a, b] = [.int i x, y] := congrArg Array.toList hab
    cases hab2
    obtain ⟨ty, ey⟩ := hvs.get (List.getElem?_eq_getElem hi2)
    rw [ey] at hy
    cases hy
    have hfr := hys.fresh (List.getElem?_eq_getElem hi2)
    have hadd := fun t => hys.add (List.getElem?_eq_getElem hi2) t
    have e7 : (7 : Int) + (i : Int) = ((7 + i : Nat) : Int) := by lia
    refine @nm_local _ _ _ _ _ _ _ _ _ _ _ _ _ (by assumption) (by walk_at "dv") ?_ (by rfl) (by rfl) (by decide)
    try dsimp only
    refine @wpAny_BinOp _ _ _ _ _ _ _ _ _ _ ?_
    try dsimp only
    refine @cst_int _ _ _ _ _ _ _ _ _ ?_; intro _ _
    try dsimp only
    refine @nm_local _ _ _ _ _ _ _ _ _ _ _ _ _ (by assumption) (by walk_at "dv") ?_ (by rfl) (by rfl) (by decide)
    try dsimp only
    refine @add_I _ _ _ _ _ _ _ _ _ ?_; intro _ _
    try dsimp only
    rw [e7]
    exact ⟨_, _, _, _, _, _, rfl, hfr, rfl, D4, rfl, hadd _⟩
  · rintro kv o d led₁ h₁ tk₁ hpa ⟨rfl, hys⟩ ho D4
    clear D10
    rw [hvl] at hys
    exact h d o kv h₁ tk₁ (lv _ _ _ _ (((((D4.drop 1).drop 1).drop 1).drop 1).drop 1)) hpa ho hys.own
end
end Mine

section
open PySem PySem.W PySem.Calls PyProof.Rows
set_option Elab.async false
set_option maxRecDepth 100000
set_option autoImplicit false
set_option maxHeartbeats 1000000
namespace Mine
inductive EvAllLL (P : Expr → Nat → Prop) (env : Env) : List Expr → List (List Nat) → Prop
  | nil : EvAllLL P env [] []
  | cons {es' es : List Expr} {p : Pos} {ns : List Nat} {nss : List (List Nat)} : starEach (.List es' p :: es) env = (false, eval (.List es' p) env) :: starEach es env → EvAllI P env es' ns → ns.length ≤ 1000 → EvAllLL P env es nss → EvAllLL P env (.List es' p :: es) (ns :: nss)
section
variable {prog : Program} {w : World} {A : Around} {s : Shared} {env : Env} {H : Heap} {fs : Ledg} {m : Vm} {led its : Ledg} {L : Addr}
theorem sliceO {h : Heap} {base : Expr} {e1 e2 e3 : Option Expr} {p : Pos} {l : Addr} {vs us : List Value} {tk0 : Nat} {vl vu vk : Value} {lo hi st : Option Int} {ops : List Value} {Q : Value → Shared → Prop} (D : Sd H fs L m h led) (hL0 : H.IsList l vs.toArray)
    (pl : IsPart vl lo) (pu : IsPart vu hi) (pk : IsPart vk st) (h0 : st ≠ some 0) (hr : (slicePick vs.toArray lo hi st).toList = us) (hsz : vs.length ≤ 1000000)
    (k : ∀ r h' tk, Sd H fs L m h' ((r, listOf us.toArray 0) :: led) → Q (.ref r) { s with heap := h', toks := tk })
    (hs : subscripted (.Slice e1 e2 e3 p) false (.ref l) (.ref h.objs.size) = operate ops (getItem (.ref l) (.ref h.objs.size)) := by with_unfolding_all rfl) :
    wpAny (model prog w) A (subscriptTail base (.Slice e1 e2 e3 p) (.ref l) (.ref h.objs.size)) Q NoE { s with heap := h.push (sl3 vl vu vk), toks := tk0 } := by
  have hL : h.IsList l vs.toArray := let ⟨o, e, r⟩ := hL0; ⟨o, D.old e, r⟩
  subst hr
  refine tail_any (T := "list") (s := { s with heap := h.push (sl3 vl vu vk), toks := tk0 }) (Heap.IsList.typeIs (s := { s with heap := h.push (sl3 vl vu vk), toks := tk0 }) (hL.push _)) list_getitem_lookup
    (wpAny_getItem_list_slice (hL.push _) (Heap.IsSliceOf.new ..) pl pu pk h0 ?_ (by rw [sizeLine_eq, List.size_toArray]; lia)) hs
  have D1 := ((D.push (sl3 vl vu vk)).push (listOf (slicePick vs.toArray lo hi st) 0)).drop 1
  refine k _ _ _ ?_
  simpa using D1
theorem chr_I {c : Nat} {i : Int} {t : Tok} {Q : Value → Shared → Prop} (hi : i = (c : Int)) (hc : c < 128) (h : ∀ t' tk, Q (.str (S [c]) t') { s with toks := tk }) : wpAny (model prog w) A (call (.builtin "chr") [.int i t]) Q NoE s := by
  subst hi
  refine chr_of_range (by lia) (by lia) ?_
  have := h s.toks (s.toks + 1)
  simpa using this
theorem lists_sd {es : List Expr} {nss : List (List Nat)} {pos : Pos} {Q : List Value → Shared → Prop} (hE : EvAllLL (EvI prog w A env) env es nss) (D : Sd H fs L m s.heap led)
    (h : ∀ vs kl h' tk, Sd H fs L m h' (kl ++ led) → LLs kl vs nss → Q vs { s with heap := h', toks := tk }) : wpAny (model prog w) A (spliced (backTo pos (starEach es env))) Q NoE s := by
  induction hE generalizing Q s led with
  | nil => exact spliced_none (h [] [] s.heap s.toks D .nil)
  | @cons es' es p ns nss he hI hn _ ih =>
    refine spliced_more (List_ (ints_sd hI fun vs tk hv => ?_)) he
    refine newList_sd (s := { s with toks := tk }) D (fun l h' tk' D' => ?_) (by rw [sizeLine_eq, hv.len]; lia)
    refine ih (s := { s with heap := h', toks := tk' }) D' fun vs' kl h'' tk'' D'' hk => ?_
    refine h (.ref l :: vs') (kl ++ [(l, listOf vs.toArray 0)]) h'' tk'' (by rw [List.append_assoc]; exact D'') ?_
    exact .cons ⟨l, vs, 0, rfl, List.mem_append_right _ (.head _), hv⟩ (hk.mono fun p hp => List.mem_append_left _ hp)
theorem dictE_sd {pos : Pos} {Q : Value → Shared → Prop} (hlim : H.NoLimit) (D : Sd H fs L m s.heap led) (h : ∀ d h' tk, Sd H fs L m h' ((d, dict0) :: led) → (d == sysModules) = false → Q (.ref d) { s with heap := h', toks := tk }) : wpAny (model prog w) A (eval (.Dict [] [] pos) env) Q NoE s := by
  rw [eval_Dict_empty]
  exact wpAny_bind (wpAny_standAt (newDict_sdP hlim D h))
theorem tail_DI {value slice : Expr} {d : Addr} {o : Obj} {kvs : List (Int × Value)} {k : Int} {t : Tok} {v : Value} {Q : Value → Shared → Prop} (hd : s.heap.get? d = some o) (ho : o.IsDictOf (intKind prog w) kvs) (hv : valueAt kvs k = some v) (h : ∀ tk, Q v { s with toks := tk })
    (hs : subscripted slice false (.ref d) (.int k t) = operate [.ref d, .int k t] (getItem (.ref d) (.int k t)) := by with_unfolding_all rfl) :
    wpAny (model prog w) A (subscriptTail value slice (.ref d) (.int k t)) Q NoE s :=
  tail_any (Heap.dictOf_iff.mpr ⟨o, hd, ho⟩).typeIs slot_dict_getitem.lookup (wpAny_getItem_of (intKind_is prog w _ _) (Heap.dictOf_iff.mpr ⟨o, hd, ho⟩).mapOf hv (h _)) hs
end
end Mine
end

section
open PySem PySem.W PySem.Calls PyProof.Rows
set_option autoImplicit false
set_option maxRecDepth 100000
namespace Mine
noncomputable def othersN : List Nat := [16, 20, 21, 17, 15, 23, 22, 22, 353, 319, 348, 266]
noncomputable def rowN (p : Nat) : Nat := if p < 48 then 7 + p else othersN.getD (p - 48) 0
theorem rowN_ok : ∀ p < 60, (textOf (rowN p) ∈ keys ∨ textOf (rowN p) ∈ [[97], [63], [92], [10]]) ∧ numOf (textOf (rowN p)) = rowN p ∧ (rowN p < 256 → textOf (rowN p) ∈ keys ∧ codeOf (textOf (rowN p)) = rowN p) ∧ rowN p < 256 + 128 := by decide +kernel
noncomputable def IsRow (n : Nat) : Prop := ∃ p, p < 60 ∧ n = rowN p
theorem IsRow.pc {n : Nat} (h : IsRow n) : Pc (textOf n) := by obtain ⟨p, hp, rfl⟩ := h; exact (rowN_ok p hp).1
theorem IsRow.num {n : Nat} (h : IsRow n) : numOf (textOf n) = n := by obtain ⟨p, hp, rfl⟩ := h; exact (rowN_ok p hp).2.1
theorem IsRow.key {n : Nat} (h : IsRow n) (g : n < 256) : textOf n ∈ keys ∧ codeOf (textOf n) = n := by obtain ⟨p, hp, rfl⟩ := h; exact (rowN_ok p hp).2.2.1 g
theorem IsRow.lt {n : Nat} (h : IsRow n) : n < 256 + 128 := by obtain ⟨p, hp, rfl⟩ := h; exact (rowN_ok p hp).2.2.2
theorem textOf_chr {n : Nat} (h : ¬ n < 256) : textOf n = [n - 256] := by unfold textOf; rw [if_neg h]
theorem key_ascii : ∀ o ∈ keys, ∀ c ∈ o, c < 128 := by decide +kernel
theorem pc_ascii {p : List Nat} (h : Pc p) : ∀ c ∈ p, c < 128 := by
  rcases h with h | h
  · exact key_ascii p h
  · simp only [List.mem_cons, List.not_mem_nil, or_false] at h
    rcases h with rfl | rfl | rfl | rfl <;> (intro c hc; simp only [List.mem_cons, List.not_mem_nil, or_false] at hc; lia)
theorem pc_len {p : List Nat} (h : Pc p) : p.length ≤ 3 := by
  rcases h with h | h
  · exact (key_len p h).2
  · simp only [List.mem_cons, List.not_mem_nil, or_false] at h
    rcases h with rfl | rfl | rfl | rfl <;> decide
theorem ops_code : ∀ p ∈ ops70, codeOf p.1 = p.2 := by decide +kernel
theorem ops_nd : (ops70.map (·.2)).Nodup := by decide +kernel
/-- what the comprehension of texts has laid by the turn i -/
noncomputable def TJ (i : Nat) (kvs : List (Int × Value)) : Prop := kvs.map (·.1) = (ops70.take i).map (fun p => (p.2 : Int)) ∧ ∀ (j : Nat) (p : Int × Value), kvs[j]? = some p → ∃ (t : Tok) (q : List Nat × Nat), ops70[j]? = some q ∧ p.2 = .str (S q.1) t
theorem TJ.nil : TJ 0 [] := ⟨rfl, fun j p e => by simp at e⟩
theorem TJ.len {i : Nat} {kvs : List (Int × Value)} (h : TJ i kvs) (hi : i ≤ ops70.length) : kvs.length = i := by
  have := congrArg List.length h.1
  rw [List.length_map, List.length_map, List.length_take] at this; lia
theorem TJ.add {i : Nat} {kvs : List (Int × Value)} {q : List Nat × Nat} (h : TJ i kvs) (hq : ops70[i]? = some q) (t : Tok) : TJ (i + 1) (stored kvs (q.2 : Int) (.str (S q.1) t)) ∧ (stored kvs (q.2 : Int) (.str (S q.1) t)).length ≤ i + 1 := by
  have hi := (List.getElem?_eq_some_iff.mp hq)
  obtain ⟨hil, hiq⟩ := hi
  have hl := h.len (by lia)
  have hfresh : ¬ ((kvs.any fun kv => kv.1 = (q.2 : Int)) = true) := by
    intro ha
    rw [List.any_eq_true] at ha
    obtain ⟨p, hp, e⟩ := ha
    have hm : (q.2 : Int) ∈ kvs.map (·.1) := by rw [← of_decide_eq_true e]; exact List.mem_map_of_mem hp
    rw [h.1] at hm
    obtain ⟨r, hr, e2⟩ := List.mem_map.mp hm
    obtain ⟨j, hj, e3⟩ := List.mem_take_iff_getElem.mp hr
    have e4 : r.2 = q.2 := Int.ofNat_inj.mp e2
    have hjl : j < ops70.length := by lia
    have := (List.getElem_inj ops_nd (h₀ := by rw [List.length_map]; exact hjl) (h₁ := by rw [List.length_map]; exact hil)).mp (by rw [List.getElem_map, List.getElem_map, e3, hiq, e4])
    lia
  have hs : stored kvs (q.2 : Int) (.str (S q.1) t) = kvs ++ [((q.2 : Int), .str (S q.1) t)] := by
    unfold stored
    rw [if_neg hfresh]
  rw [hs]
  refine ⟨⟨?_, fun j p e => ?_⟩, by simp; lia⟩
  · rw [List.map_append, h.1, List.take_add_one, hq, Option.toList_some, List.map_append]; rfl
  · by_cases z : j < kvs.length
    · rw [List.getElem?_append_left z] at e
      exact h.2 j p e
    · rw [List.getElem?_append_right (by lia)] at e
      have : j = i := by
        have := (List.getElem?_eq_some_iff.mp e).1
        simp at this; lia
      subst this
      rw [hl, Nat.sub_self] at e
      cases e
      exact ⟨t, q, hq, rfl⟩
theorem TJ.at {kvs : List (Int × Value)} (h : TJ 48 kvs) {n : Nat} (hn : IsRow n) (g : n < 256) : ∃ t, valueAt kvs (n : Int) = some (.str (S (textOf n)) t) := by
  obtain ⟨hk, hc⟩ := hn.key g
  obtain ⟨q, hq, e⟩ := List.mem_map.mp (show textOf n ∈ ops70.map (·.1) from hk)
  obtain ⟨i, hi, ei⟩ := List.getElem_of_mem hq
  have h2 : q.2 = n := by rw [← ops_code q hq, e, hc]
  have hl : kvs.length = 48 := h.len (by decide)
  have hol : ops70.length = 48 := by decide
  have hik : i < kvs.length := by lia
  obtain ⟨t, q', eq', ev⟩ := h.2 i _ (List.getElem?_eq_getElem hik)
  rw [List.getElem?_eq_getElem hi, ei] at eq'
  cases eq'
  have hkey : kvs[i].1 = (n : Int) := by
    have e1 : (kvs.map (·.1))[i]? = some (n : Int) := by
      rw [h.1, List.getElem?_map, List.getElem?_take, if_pos (by lia), List.getElem?_eq_getElem hi, ei, ← h2]; rfl
    rw [List.getElem?_map, List.getElem?_eq_getElem hik] at e1
    exact Option.some.inj e1
  have hnd : (kvs.map (·.1)).Nodup := by
    rw [h.1, List.take_of_length_le (by lia)]
    have := ops_nd
    rw [show (ops70.map fun p => (p.2 : Int)) = (ops70.map (·.2)).map (fun n : Nat => (n : Int)) from by rw [List.map_map]; rfl]
    exact List.Pairwise.map _ (fun a b hab q => hab (Int.ofNat_inj.mp q)) this
  refine ⟨t, ?_⟩
  unfold valueAt
  cases z : kvs.find? fun kv => decide (kv.1 = (n : Int)) with
  | none =>
    rw [List.find?_eq_none] at z
    exact absurd (decide_eq_true hkey) (z _ (List.getElem_mem hik))
  | some p =>
    have hp1 : p.1 = (n : Int) := by simpa using List.find?_some z
    obtain ⟨j, hj, ep⟩ := List.getElem_of_mem (List.mem_of_find?_eq_some z)
    have hij : j = i := by
      refine (List.getElem_inj hnd (h₀ := by rw [List.length_map]; exact hj) (h₁ := by rw [List.length_map]; exact hik)).mp ?_
      rw [List.getElem_map, List.getElem_map, ep, hp1, hkey]
    subst hij
    rw [← ep, Option.map_some, ev, e]
end Mine
end

open PySem PySem.W PySem.Calls PyProof.Rows
set_option Elab.async false
set_option maxRecDepth 100000
set_option autoImplicit false
set_option maxHeartbeats 4000000
namespace Mine
section
variable {w : World} {A : Around} {s : Shared} {H : Heap} {fs : Ledg} {L : Addr} {m mg mb : Vm} {led : Ledg} {pp : Program} {loose : List Str}
theorem ct_isterm {n : Nat} {t : Tok} {Q : Value → Shared → Prop} (X : (Mine.KK0 w.params).In H) (TR : TopRead pp loose mg mb H) (hh : A.handled = none) (hdp : A.depth + 3 < recursionLimit)
    (D : Sd H fs L m s.heap led)
    (h : ∀ h' tk, Sd H fs L m h' led → Q (.bool (decide (n < 256))) { s with heap := h', toks := tk }) :
    wpAny (model PR w) A (call (.ref 79) [.int (n : Int) t]) Q NoE s := by
  refine' call_sdL (hh := hh) (K := Mine.KK0 w.params) (binds := [("x", .int (n : Int) t)]) D X TR.nolimit ?ho ?hcd ?hroom ?hbind ?hloc ?hcell ?_ ?hco ?hgen ?hk
  walk_at "enter"
  intro C oL h1 tk1 D1 lv
  intro env KF A1 hA1 hA2 hA3
  clear D
  (with_reducible show wpAny _ _ (execs _ _) _ _ _); (try clear kS); with_reducible refine ex_cons ?_; intro kS
  try dsimp only
  refine @wpAny_Return_some _ _ _ _ _ _ _ _ ?_
  try dsimp only
  refine @wpAny_Compare1 _ _ _ _ _ _ _ _ _ _ ?_ (by with_unfolding_all rfl)
  try dsimp only
  refine @nm_local _ _ _ _ _ _ _ _ _ _ _ _ _ (by assumption) (by walk_at "dv") ?_ (by rfl) (by rfl) (by decide)
  try dsimp only
  refine @nm_glob _ _ _ _ _ _ _ _ _ _ _ _ _ _ _ _ _ _ (by assumption) (by assumption) (by assumption) (by k_is) ?_ (by rfl) (by rfl) (by rfl) (by decide)
  try dsimp only
  with_reducible refine lt_I ?_
  try dsimp only
  have e : decide ((n : Int) < 256) = decide (n < 256) := by
    by_cases q : n < 256
    · rw [decide_eq_true q, decide_eq_true (by lia)]
    · rw [decide_eq_false q, decide_eq_false (by lia)]
  rw [e]
  exact h _ _ (lv _ _ _ _ D1)
end
end Mine

section
open PySem PySem.W PySem.Calls PyProof.Rows
set_option autoImplicit false
set_option maxRecDepth 100000
namespace Mine
theorem SVs.drop {vs : List Value} {ls : List (List Nat)} (h : SVs vs ls) : ∀ n, SVs (vs.drop n) (ls.drop n) := by
  induction h with
  | nil => intro n; rw [List.drop_nil, List.drop_nil]; exact .nil
  | cons h t ih => intro n; cases n with
    | zero => exact .cons h t
    | succ n => exact ih n
theorem SVs.sg {vs : List Value} {ls : List (List Nat)} (h : SVs vs ls) (a b : Nat) : SVs (Mine.sg vs a b) (Mine.sg ls a b) := (h.drop a).take (b - a)
theorem IVs.sg {vs : List Value} {ns : List Nat} (h : IVs vs ns) (a b : Nat) : IVs (Mine.sg vs a b) (Mine.sg ns a b) := by
  show IntsAre _ (zs (Mine.sg ns a b))
  unfold zs Mine.sg
  rw [List.map_take, List.map_drop]
  exact IntsAre.take (IntsAre.drop h a) (b - a)
theorem sg_mem {α : Type} {l : List α} {a b : Nat} {x : α} (h : x ∈ sg l a b) : x ∈ l := List.mem_of_mem_drop (List.mem_of_mem_take h)
theorem flat_take (l : List (List Nat)) (n : Nat) : (l.take n).flatten.length ≤ l.flatten.length := by
  have e : l.flatten.length = ((l.take n).flatten ++ (l.drop n).flatten).length := by rw [← List.flatten_append, List.take_append_drop]
  rw [e, List.length_append]; lia
theorem flat_drop (l : List (List Nat)) (n : Nat) : (l.drop n).flatten.length ≤ l.flatten.length := by
  have e : l.flatten.length = ((l.take n).flatten ++ (l.drop n).flatten).length := by rw [← List.flatten_append, List.take_append_drop]
  rw [e, List.length_append]; lia
theorem sg_flat (l : List (List Nat)) (a b : Nat) : (sg l a b).flatten.length ≤ l.flatten.length := Nat.le_trans (flat_take _ _) (flat_drop _ _)
theorem pick_sg (vs : List Value) {a b : Nat} {z : Int} (hz : z = (b : Int)) (hb : b ≤ vs.length) (hab : a ≤ b) : (slicePick vs.toArray (some (a : Int)) (some z) none).toList = sg vs a b := by
  subst hz
  rw [pick_cut]
  exact cut_nat vs a b hb hab
theorem told_step (ps : List (List Nat)) (row : List Nat) {i : Nat} {td : List Nat} {f : Nat} (hi : i < 3) (h : ([1, 2, 3].take i).foldl (toldStep ps row) ([], 0) = (td, f)) :
    ([1, 2, 3].take (i + 1)).foldl (toldStep ps row) ([], 0) = if R (sg ps f (i + 2)).flatten = sg row f (i + 2) then (td ++ [0], f) else (td ++ [1], i + 1) := by
  have e : ([1, 2, 3] : List Nat).take (i + 1) = ([1, 2, 3] : List Nat).take i ++ [i + 1] := by
    match i, hi with
    | 0, _ => rfl
    | 1, _ => rfl
    | 2, _ => rfl
  rw [e, List.foldl_append, h]
  rfl
theorem due_step (ps : List (List Nat)) (row : List Nat) {j : Nat} {ms du : List Nat} (hj : marks8[j]? = some ms) (h : (marks8.take j).foldl (dueStep ps row) [] = du) :
    (marks8.take (j + 1)).foldl (dueStep ps row) [] = if du = [] ∧ (F (apart ps ms)).filter (fun n => decide (n ≠ 288)) = row then ms else du := by
  rw [List.take_add_one, hj, List.foldl_append, h]
  rfl
theorem marks_ok : ∀ ms ∈ marks8, ms.length = 3 ∧ ∀ k ∈ ms, k ≤ 1 := by decide +kernel
theorem apart_mem {ps : List (List Nat)} {ms : List Nat} {x : Nat} (h : x ∈ apart ps ms) : x = 32 ∨ ∃ p ∈ ps, x ∈ p := by
  unfold apart at h
  rcases List.mem_append.mp h with h | h
  · cases ps with
    | nil => simp at h
    | cons p r => exact .inr ⟨p, .head _, h⟩
  · obtain ⟨l, hl, hx⟩ := List.mem_flatten.mp h
    obtain ⟨q, hq, rfl⟩ := List.mem_map.mp hl
    rcases List.mem_append.mp hx with hx | hx
    · exact .inl (List.eq_of_mem_replicate hx)
    · exact .inr ⟨q.2, List.mem_of_mem_tail (List.of_mem_zip hq).2, hx⟩
theorem apart_len {a b c d ms : List Nat} (h : ms.length = 3) (h1 : ∀ k ∈ ms, k ≤ 1) : (apart [a, b, c, d] ms).length ≤ a.length + b.length + c.length + d.length + 3 := by
  match ms, h with
  | [x, y, z], _ =>
    have hx := h1 x (by simp)
    have hy := h1 y (by simp)
    have hz := h1 z (by simp)
    simp [apart]; lia
theorem R_len : ∀ (N : Nat) (t : List Nat), t.length ≤ N → (R t).length ≤ t.length
  | _, [], _ => Nat.zero_le _
  | 0, c :: r, h => by simp at h
  | N + 1, c :: r, h => by
    rw [R_step _ (by simp), List.length_cons]
    have := R_len N ((c :: r).drop (max 1 (bestOf (c :: r)))) (by rw [List.length_drop]; simp only [List.length_cons] at *; lia)
    rw [List.length_drop] at this
    simp only [List.length_cons] at *; lia
theorem F_len (t : List Nat) : (F t).length ≤ t.length := by rw [F_R]; exact R_len _ t (Nat.le_refl _)
theorem filt_step (fl : List Nat) {i : Nat} (hi : i < fl.length) : (fl.take (i + 1)).filter (fun n => decide (n ≠ 288)) = (fl.take i).filter (fun n => decide (n ≠ 288)) ++ (if fl[i] ≠ 288 then [fl[i]] else []) := by
  rw [List.take_add_one, List.getElem?_eq_getElem hi, List.filter_append]
  congr 1
  by_cases q : fl[i] = 288 <;> simp [q]
end Mine
end

open PySem PySem.W PySem.Calls PyProof.Rows
set_option Elab.async false
set_option maxRecDepth 100000
set_option autoImplicit false
set_option maxHeartbeats 16000000
namespace Mine
inductive JLW1 (sl od lo lr ls : Addr) (vst vo : List Value) (tl : Ledg) (i : Nat) (m : Vm) (led' : Ledg) : Prop
  | mk (n : Nat) (vs : List Value) (ns : List Nat) (f0 : Has [("script", .ref sl), ("own", .ref od), ("others", .ref lo), ("row", .ref lr)] m) (f1 : led' = (ls, listOf vst.toArray 0) :: (lr, listOf vs.toArray n) :: (lo, listOf vo.toArray 0) :: tl) (f2 : IVs vs ns) (f3 : ns.length = i) (f4 : ∀ x ∈ ns, IsRow x)
inductive JLW2 (w : World) (lt lp dT lr od dk L : Addr) (pv vs : List Value) (np n : Nat) (oTx oo oK2 oT2 : Obj) (a b c d : List Nat) (i : Nat) (m : Vm) (led' : Ledg) : Prop
  | mk (f : Nat) (tf : Tok) (nt : Nat) (tv : List Value) (td : List Nat) (ps' : Array Value) (ko' : Obj) (kv' : Kv) (kl' : Ledg) (f0 : Has [("told", .ref lt), ("first", .int (f : Int) tf), ("pieces", .ref lp), ("own", .ref od), ("row", .ref lr)] m) (f1 : led' = (lt, listOf tv.toArray nt) :: (lp, listOf pv.toArray np) :: (dT, oTx) :: (lr, listOf vs.toArray n) :: (od, oo) :: (L + 1 + 1, oK2) :: (L + 1, oT2) :: (57, tabObj ps') :: (dk, ko') :: kl') (f2 : TriplesOk ps'.toList) (f3 : DO PR w kv' ko') (f4 : KInv kv' kl') (f5 : kv'.length ≤ 1000 * (i + 1)) (f6 : IVs tv td) (f7 : td.length = i) (f8 : f ≤ i) (f9 : ([1, 2, 3].take i).foldl (toldStep [a, b, c, d] ([a, b, c, d].map numOf)) ([], 0) = (td, f))
inductive JLW3 (lt lp od lr : Addr) (BL : Ledg) (a b c d : List Nat) (j : Nat) (m : Vm) (led' : Ledg) : Prop
  | mk (dl : Addr) (nd : Nat) (dv : List Value) (du : List Nat) (f0 : Has [("due", .ref dl), ("told", .ref lt), ("pieces", .ref lp), ("own", .ref od), ("row", .ref lr)] m) (f1 : led' = BL) (f2 : (dl, listOf dv.toArray nd) ∈ BL) (f3 : IVs dv du) (f4 : (marks8.take j).foldl (dueStep [a, b, c, d] ([a, b, c, d].map numOf)) [] = du)
theorem post_true (a b : List WData) : PySem.Challenge.rw_ij0176_01.row.claim.post a (.bool true) b = true := by
  have e : PySem.Challenge.rw_ij0176_01.row.claim.post = fun args d ds => WShape.has [] d .bool && (WTm.eq .res (.lit (.bool true))).holds [] { args := args, res := some d, after := ds } := rfl
  rw [e]
  simp [WShape.has, WShape.arms, WTm.holds, WTm.value, same]
theorem tri0 : TriplesOk (#[] : Array Value).toList := by first | trivial | exact .nil | simp [TriplesOk]
namespace based
noncomputable def tw10440944796223390479 : Unit := ()
noncomputable def tw12624519915735437618 : Unit := ()
noncomputable def tw17687008577960955207 : Unit := ()
noncomputable def tw10197142520636610413 : Unit := ()
noncomputable def tw13106768363645719374 : Unit := ()
noncomputable def tw18197061939786078796 : Unit := ()
noncomputable def tw17368239660108234337 : Unit := ()
noncomputable def tw3707601113663389746 : Unit := ()
noncomputable def tw7379465899184166946 : Unit := ()
noncomputable def tw11243766397821385998 : Unit := ()
noncomputable def tw9849254290647631762 : Unit := ()
noncomputable def tw5833683268730835274 : Unit := ()
noncomputable def tw3185613625038105226 : Unit := ()
noncomputable def tw14538901923568245357 : Unit := ()
noncomputable def tw3797936101703519725 : Unit := ()
noncomputable def tw2169509190557669248 : Unit := ()
noncomputable def tw1014563389544168762 : Unit := ()
noncomputable def tw2840527828920814406 : Unit := ()
noncomputable def tw5955631468296379819 : Unit := ()
noncomputable def tw1976872318531116525 : Unit := ()
noncomputable def tw360879213342976328 : Unit := ()
noncomputable def tw3768090033295751768 : Unit := ()
noncomputable def tw13428428884267717126 : Unit := ()
noncomputable def tw11111817471145952236 : Unit := ()
noncomputable def tw679659739956129557 : Unit := ()
noncomputable def tw6073843698535977301 : Unit := ()
noncomputable def tw3891012486646660639 : Unit := ()
noncomputable def tw6156642058820285275 : Unit := ()
noncomputable def tw3145185878295106036 : Unit := ()
noncomputable def tw14819689654611391155 : Unit := ()
noncomputable def tw2161149634790054704 : Unit := ()
noncomputable def tw340876782415517580 : Unit := ()
noncomputable def tw16456370207380740584 : Unit := ()
noncomputable def tw8975118565953945407 : Unit := ()
noncomputable def tw8883511355585015268 : Unit := ()
noncomputable def tw5745740690011040650 : Unit := ()
noncomputable def tw5266211116753660096 : Unit := ()
noncomputable def tw12590414938689629805 : Unit := ()
noncomputable def tw4235551518208326840 : Unit := ()
noncomputable def tw4281847262507194023 : Unit := ()
noncomputable def tw4910587769866744049 : Unit := ()
noncomputable def tw10981279849602447222 : Unit := ()
noncomputable def tw1725636220163789927 : Unit := ()
noncomputable def tw11934109600814798973 : Unit := ()
noncomputable def tw9892586294193124728 : Unit := ()
noncomputable def tw13744451066477182908 : Unit := ()
noncomputable def tw11930308893208822743 : Unit := ()
noncomputable def tw16499788655135794178 : Unit := ()
noncomputable def tw17400847706649201827 : Unit := ()
noncomputable def tw5817208802032230576 : Unit := ()
noncomputable def tw12388375860453188825 : Unit := ()
noncomputable def tw10571549997115043225 : Unit := ()
noncomputable def tw5813326853551441094 : Unit := ()
noncomputable def tw18212074257576834902 : Unit := ()
noncomputable def tw15015213205801587108 : Unit := ()
noncomputable def tw8644389992671973691 : Unit := ()
noncomputable def tw15260300877187610291 : Unit := ()
noncomputable def tw15240512996985731401 : Unit := ()
noncomputable def tw9611704253012981712 : Unit := ()
noncomputable def tw15991426069769974877 : Unit := ()
noncomputable def tw5076882320726923814 : Unit := ()
noncomputable def tw2976566850942008278 : Unit := ()
noncomputable def tw11188521379363279031 : Unit := ()
noncomputable def tw6232061884677748850 : Unit := ()
noncomputable def tw10446916222442876490 : Unit := ()
noncomputable def tw17042188310981593798 : Unit := ()
noncomputable def tw14649294383739805367 : Unit := ()
noncomputable def tw1753593230332814117 : Unit := ()
noncomputable def tw13455382440289182383 : Unit := ()
noncomputable def tw9305120138986444991 : Unit := ()
noncomputable def tw1437277157175693951 : Unit := ()
noncomputable def tw12475984826065687572 : Unit := ()
noncomputable def tw17710423173942722779 : Unit := ()
noncomputable def tw1032047493158194691 : Unit := ()
noncomputable def tw16688471514637898459 : Unit := ()
noncomputable def tw4506082314796735835 : Unit := ()
noncomputable def tw11281521109866872735 : Unit := ()
noncomputable def tw241801731579102979 : Unit := ()
noncomputable def tw8501694629563783723 : Unit := ()
noncomputable def tw10688327986346411941 : Unit := ()
end based
set_option Elab.async true in
theorem based : PySem.Challenge.rw_ij0176_01.Holds := by
  (w_on; o_law; o_head (kmHook Mine.KK0 [2, 3, 6, 11, 12, 35, 36, 37, 39, 40, 42, 43, 45, 49, 51, 52, 54, 55, 56, 58, 59, 61, 62, 63, 65, 66, 68, 69, 70, 73, 75, 76, 78, 79, 80, 83, 84, 85, 87, 88, 90, 91, 92, 95, 96, 97, 99, 100, 102, 103, 104, 107, 108, 109, 112, 113, 114, 117, 118] (fun _ => by kernel_rfl) [57]); (case hw => w_witness2))
  k_go0
  dsimp only
  rename World => w
  rename Frag.In _ _ => X
  rename Top topProg _ _ _ _ _ => T
  rename Fr _ _ _ _ => F
  rename News _ _ _ _ => N
  rename IntsAre _ _ => hI
  rename ¬ _ < _ => hlen
  rename _ = #[] => hgens
  rename 57 < _ => h57
  rename_i h₁ tk₁ oK oT d1 d2 X0 K0
  obtain ⟨vK, dK⟩ : ∃ v, oK.data = .cell v := ⟨_, d1⟩
  obtain ⟨vT, dT⟩ : ∃ v, oT.data = .cell v := ⟨_, d2⟩
  clear d1 d2 X0 K0
  rename_i sa sb mg mb G0 Y0 fa ofa pm cd doc ho hcd X1 V0 T0 B0 TE0 TW0 script hs1 hs2 hs3 hs4 hs5 as1 as2 sl svs as3 hL0 ra w1 r0 hr hc hD0
  clear G0 Y0 ho hcd X1 V0 T0 B0 TE0 TW0 hs1 hs2 hs3 hs4 hs5 ra w1 r0 hr hc hD0 hL0 hT8 hT9
  refine wpAny_mono (Q := fun f s' => ∃ m' h' tk ps led', f = Flow.ret (.bool true) ∧ s' = { sb with heap := h', toks := tk } ∧ Sd (ghostOf sb.heap [(61, 57)]) [] sb.heap.objs.size m' h' ((57, tabObj ps) :: led')) (E := NoE) ?_ ?_ (fun _ _ x => x.elim)
  · have D0 : Sd (ghostOf sb.heap [(61, 57)]) [] sb.heap.objs.size _ h₁ [(sb.heap.objs.size + 1 + 1, oK), (sb.heap.objs.size + 1, oT), (57, tabObj #[])] := ⟨F, by rw [List.append_nil]; exact N, by simp; lia⟩
    clear F N
    generalize hH : ghostOf sb.heap [(61, 57)] = H at *
    generalize sb.heap.objs.size = L at *
    obtain ⟨A, hA, hh, hdp, hu⟩ : ∃ A, A = callerA ∧ A.handled = none ∧ A.depth + 30 < recursionLimit ∧ A.units + 200 < cLine := ⟨callerA, rfl, rfl, by decide, by decide⟩
    rw [← hA]
    clear hA hH hgens
    have TR := topRead_of T
    have CH : CodeHd H 61 57 := codeHd
    have hsl : svs.length ≤ 63 := by have := hI.length; lia
    obtain ⟨us1, ns1, hu1, hI1, hul1⟩ : ∃ us1 ns1, (slicePick svs.toArray none (some 60) none).toList = us1 ∧ IntsAre us1 ns1 ∧ us1.length ≤ 63 := ⟨_, _, rfl, hI.pick none (some 60) none, by
      have := slicePick_size_le svs.toArray none (some 60) none
      rw [Array.length_toList]; simp only [List.size_toArray] at this; lia⟩
    have hk4 : ∀ k : Nat, ∃ us2 ns2, (slicePick us1.toArray (some (k : Int)) none (some 4)).toList = us2 ∧ IntsAre us2 ns2 ∧ us2.length ≤ 63 := fun k => ⟨_, _, rfl, hI1.pick (some (k : Int)) none (some 4), by
      have := slicePick_size_le us1.toArray (some (k : Int)) none (some 4)
      rw [Array.length_toList]; simp only [List.size_toArray] at this; lia⟩
    (with_reducible show wpAny _ _ (execs _ _) _ _ _); (try clear kS); with_reducible refine ex_cons ?_; intro kS
    try dsimp only
    refine @wpAny_Assign_Name _ _ _ _ _ _ _ _ _ _ ?_ (by rfl)
    try dsimp only
    refine @call_name0 _ _ _ _ _ _ _ _ _ _ _ _ _ _ _ _ _ _ _ (by assumption) (by assumption) (by assumption) (by k_is) (by k_is) ?_ (by rfl) (by rfl) (by rfl) (by decide)
    try dsimp only
    refine ct_operators X TR (by walk_at "hh") (by walk_at "dp") D0 ?_
    intro od oo kvo h2 tk2 D1 hsO hoO hIO
    clear D0
    refine @st_localL _ _ _ _ _ _ _ _ _ _ _ _ (by assumption) ?_ (by rfl) (by rfl); intro _ _ _ _
    try dsimp only
    (with_reducible show wpAny _ _ (execs _ _) _ _ _); (try clear kS); with_reducible refine ex_cons ?_; intro kS
    try dsimp only
    refine @wpAny_Assign_Name _ _ _ _ _ _ _ _ _ _ ?_ (by rfl)
    try dsimp only
    refine @List_ _ _ _ _ _ _ _ _ ?_
    try dsimp only
    rename_i h3 tk3 _ D2
    clear D1
    refine ints_sd (ls := othersN) ?_ ?_
    · (repeat (first | exact EvAllI.nil | refine EvAllI.cons rfl evI_cst ?_ | refine EvAllI.cons rfl evI_add ?_))
    intro vo tk4 hvo
    have hvol : vo.length = 12 := hvo.len
    refine newList_sd D2 ?_ (by rw [sizeLine_eq, hvol]; decide)
    intro lo h4 tk5 D3
    clear D2
    refine @st_localL _ _ _ _ _ _ _ _ _ _ _ _ (by assumption) ?_ (by rfl) (by rfl); intro _ _ _ _
    try dsimp only
    (with_reducible show wpAny _ _ (execs _ _) _ _ _); (try clear kS); with_reducible refine ex_cons ?_; intro kS
    try dsimp only
    refine @wpAny_Assign_Name _ _ _ _ _ _ _ _ _ _ ?_ (by rfl)
    try dsimp only
    refine @List_ _ _ _ _ _ _ _ _ ?_
    try dsimp only
    refine @spliced_none _ _ _ _ _ _ _ ?_
    try dsimp only
    try dsimp only
    rename_i h5 tk6 _ D4
    clear D3
    refine @newList_sdL _ _ _ _ _ _ _ _ _ _ _ (by assumption) ?_ (by exact sz_lit rfl); intro _ _ _ _ _
    try dsimp only
    refine @st_localL _ _ _ _ _ _ _ _ _ _ _ _ (by assumption) ?_ (by rfl) (by rfl); intro _ _ _ _
    try dsimp only
    (with_reducible show wpAny _ _ (execs _ _) _ _ _); (try clear kS); with_reducible refine ex_cons ?_; intro kS
    try dsimp only
    refine @wpAny_For _ _ _ _ _ _ _ _ _ _ _ ?_ (by intro _; rfl)
    try dsimp only
    refine @call_ty _ _ _ _ _ _ _ _ _ _ _ _ _ _ _ _ _ _ _ _ _ (by assumption) (by assumption) (by assumption) (by k_is) (by boot_by_name) ?_ (by decide) (by rfl) (by rfl) (by rfl) (by rfl) (by decide) (by rfl) (by rfl)
    try dsimp only
    rename_i lr h6 tk7 _ D5 h7 tk8 _ D6
    clear D4 D5
    refine @spliced_more _ _ _ _ _ _ _ _ _ ?_ (by rfl)
    try dsimp only
    try dsimp only
    refine @List_ _ _ _ _ _ _ _ _ ?_
    try dsimp only
    refine ints_sd (ls := [16, 16, 16, 31]) ?_ ?_
    · (repeat (first | exact EvAllI.nil | refine EvAllI.cons rfl evI_cst ?_ | refine EvAllI.cons rfl evI_add ?_))
    intro vst tk9 hvst
    have hvstl : vst.length = 4 := hvst.len
    refine newList_sd D6 ?_ (by rw [sizeLine_eq, hvstl]; decide)
    intro ls h8 tk10 D7
    clear D6
    refine @spliced_none _ _ _ _ _ _ _ ?_
    try dsimp only
    refine @enum_sd _ _ _ _ _ _ _ _ _ _ _ _ _ (by walk_at "hh") (by assumption) (by walk_at "mem") ?_; intro _ _ _ _ _ _
    try dsimp only
    rename_i e its h9 tk11 D8 PI
    clear D7
    obtain ⟨fp, wr, St, Mid, W, hwr, hat, hst, hP, hheld⟩ := PI.ex
    rw [hvstl] at W
    generalize htl : ((od, oo) :: (L + 1 + 1, oK) :: (L + 1, oT) :: [(57, tabObj #[])] : Ledg) = tl at D8
    refine for_TL (by walk_at "hh") W hwr hat hst (D8.lo (l := [("script", .ref sl), ("own", .ref od), ("others", .ref lo), ("row", .ref lr)]) ⟨rfl, rfl, rfl, rfl, trivial⟩) hP hheld
      (JLW1 sl od lo lr ls vst vo tl)
      ⟨_, [], [], ⟨rfl, rfl, rfl, rfl, trivial⟩, rfl, .nil, rfl, fun x hx => by cases hx⟩ (fun i m led' hj p hp => by obtain ⟨_, _, _, _, rfl, _⟩ := hj; rw [List.mem_singleton.mp hp]; exact .head _) ?_ ?_
    --A
    · clear D8
      rintro i its KB a b m led' h tk hi ⟨x, y, hy, hab⟩ ⟨n, vs, ns, hm, rfl, hv, hnl, hrow⟩ D9
      have hab2 : [a, b] = [.int i x, y] := congrArg Array.toList hab
      cases hab2
      have hsi : i < ([16, 16, 16, 31] : List Nat).length := hi
      obtain ⟨ty, ey⟩ := IntsAre.get hvst i ((([16, 16, 16, 31] : List Nat)[i] : Nat) : Int) (by unfold zs; rw [List.getElem?_map, List.getElem?_eq_getElem hsi]; rfl)
      rw [ey] at hy
      cases hy
      generalize ([16, 16, 16, 31] : List Nat)[i] = st at *
      have D10 := D9.lo (l := [("start", .int ((st : Nat) : Int) ty), ("k", .int (i : Int) x), ("script", .ref sl), ("own", .ref od), ("others", .ref lo), ("row", .ref lr)]) ⟨rfl, rfl, hm⟩
      clear D9
      obtain ⟨us2, ns2, hu2, hI2, hul2⟩ := hk4 i
      (with_reducible show wpAny _ _ (execs _ _) _ _ _); (try clear kS); with_reducible refine ex_cons ?_; intro kS
      try dsimp only
      refine @wpAny_Assign_Name _ _ _ _ _ _ _ _ _ _ ?_ (by rfl)
      try dsimp only
      refine @wpAny_BinOp _ _ _ _ _ _ _ _ _ _ ?_
      try dsimp only
      refine @wpAny_BinOp _ _ _ _ _ _ _ _ _ _ ?_
      try dsimp only
      refine @nm_local _ _ _ _ _ _ _ _ _ _ _ _ _ (by assumption) (by walk_at "dv") ?_ (by rfl) (by rfl) (by decide)
      try dsimp only
      refine @call_bi _ _ _ _ _ _ _ _ _ _ _ _ _ _ _ _ _ _ _ _ _ (by assumption) (by assumption) (by assumption) (by k_is) (by boot_by_name) ?_ (by decide) (by rfl) (by rfl) (by rfl) (by rfl) (by decide) (by rfl) (by rfl)
      try dsimp only
      refine @spliced_more _ _ _ _ _ _ _ _ _ ?_ (by rfl)
      try dsimp only
      refine @listComp_sdL _ _ _ _ _ _ _ _ _ _ _ _ _ _ _ _ _ _ (by assumption) rfl (by decide) rfl (by decide) rfl ?_ (by intro _; rfl); intro _
      try dsimp only
      refine @Subscript_ _ _ _ _ _ _ _ _ _ ?_
      try dsimp only
      refine @Subscript_ _ _ _ _ _ _ _ _ _ ?_
      try dsimp only
      refine @nm_local _ _ _ _ _ _ _ _ _ _ _ _ _ (by assumption) (by walk_at "dv") ?_ (by rfl) (by rfl) (by decide)
      try dsimp only
      refine @wpAny_Slice _ _ _ _ _ _ _ _ _ _ ?_
      try dsimp only
      refine @evalPart_none_step _ _ _ _ _ _ ?_
      try dsimp only
      refine @evalPart_some_step _ _ _ _ _ _ _ ?_
      try dsimp only
      refine @cst_int _ _ _ _ _ _ _ _ _ ?_; intro _ _
      try dsimp only
      refine @evalPart_none_step _ _ _ _ _ _ ?_
      try dsimp only
      refine sliceO D10 lifted .none (.int _ _) .none (by simp) hu1 (by lia) ?_
      clear D10
      intro r1 h1 tk1 D11
      refine @wpAny_Slice _ _ _ _ _ _ _ _ _ _ ?_
      try dsimp only
      refine @evalPart_some_step _ _ _ _ _ _ _ ?_
      try dsimp only
      refine @nm_local _ _ _ _ _ _ _ _ _ _ _ _ _ (by assumption) (by walk_at "dv") ?_ (by rfl) (by rfl) (by decide)
      try dsimp only
      refine @evalPart_none_step _ _ _ _ _ _ ?_
      try dsimp only
      refine @evalPart_some_step _ _ _ _ _ _ _ ?_
      try dsimp only
      refine @cst_int _ _ _ _ _ _ _ _ _ ?_; intro _ _
      try dsimp only
      refine @sliceG _ _ _ _ _ _ _ _ _ _ _ _ _ _ _ _ _ _ _ _ _ _ _ _ _ _ _ _ (by assumption) (by walk_at "mem") (by walk_at "part") (by walk_at "part") (by walk_at "part") (by simp) (by first | assumption | exact rfl) (by walk_at "sz") ?_ (by with_unfolding_all rfl); intro _ _ _ _
      try dsimp only
      rename_i tq tkq r2 h2 tk2 D12
      clear D11
      refine lc_anyL (s := sb) (it_L (by walk_at "hh") (D12.get (.head _))) (by lia) D12
        (fun j ys led' => led' = (r2, listOf us2.toArray 0) :: (r1, listOf us1.toArray 0) :: (((ls, listOf vst.toArray 0) :: (lr, listOf vs.toArray n) :: (lo, listOf vo.toArray 0) :: tl) ++ its) ∧ ∃ zs, IntsAre ys zs ∧ ys.length = j)
        ⟨rfl, [], .nil, rfl⟩ (fun j ys led' hj p hp => by rw [List.mem_singleton.mp hp, hj.1]; exact .head _) ?_ ?_
      · clear D12
        rintro I j ys k oI acc C1 fs₁ env1 KE KT v m₁ led₁ h₁ tk₁ hj hPv ⟨rfl, zq, hz, hzl⟩ D13
        have hj2 : j < ns2.length := by rw [← hI2.length]; exact hj
        obtain ⟨tv, ev⟩ := IntsAre.get hI2 j ns2[j] (List.getElem?_eq_getElem hj2)
        have e4 := Option.some.inj (hPv.symm.trans ev)
        subst e4
        refine @tests_nil _ _ _ _ _ _ ?_
        try dsimp only
        (with_reducible show (if _ = true then _ else _)); refine @iteY _ _ _ (by walk_at "yes") ?_
        try dsimp only
        refine @wpAny_BinOp _ _ _ _ _ _ _ _ _ _ ?_
        try dsimp only
        refine @nm_local _ _ _ _ _ _ _ _ _ _ _ _ _ (by assumption) (by walk_at "dv") ?_ (by rfl) (by rfl) (by decide)
        try dsimp only
        refine @cst_int _ _ _ _ _ _ _ _ _ ?_; intro _ _
        try dsimp only
        refine @mod_N _ _ _ _ _ _ _ _ ?_; intro _ _ _ _
        try dsimp only
        exact ⟨_, _, _, _, rfl, D13, rfl, _, IntsAre.snoc' hz _ _, by rw [List.length_append, hzl]; rfl⟩
      · clear D12
        rintro ys k acc led₁ h₁ tk₁ ⟨rfl, zq, hz, hzl⟩ D13
        refine @spliced_none _ _ _ _ _ _ _ ?_
        try dsimp only
        refine @sum_sd _ _ _ _ _ _ _ _ _ _ _ _ _ _ (by walk_at "hh") (by assumption) (by walk_at "mem") (by assumption) ?_; intro _ _ _ _
        try dsimp only
        refine @add_I _ _ _ _ _ _ _ _ _ ?_; intro _ _
        try dsimp only
        refine @cst_int _ _ _ _ _ _ _ _ _ ?_; intro _ _
        try dsimp only
        rename_i tsm h3 tk3 D14 tad tka
        clear D13
        refine mod_N ?_
        intro p hp60 tp tkp
        have hir : IsRow (rowN p) := ⟨p, hp60, rfl⟩
        have hrow2 : ∀ x ∈ ns ++ [rowN p], IsRow x := fun x hx => (List.mem_append.mp hx).elim (hrow x) fun q => by rw [List.mem_singleton.mp q]; exact hir
        have hvl := hv.len
        by_cases hp48 : p < 48
        · have er : rowN p = 7 + p := by unfold rowN; rw [if_pos hp48]
          refine @st_localL _ _ _ _ _ _ _ _ _ _ _ _ (by assumption) ?_ (by rfl) (by rfl); intro _ _ _ _
          try dsimp only
          (with_reducible show wpAny _ _ (execs _ _) _ _ _); (try clear kS); with_reducible refine ex_cons ?_; intro kS
          try dsimp only
          refine @wpAny_Expr _ _ _ _ _ _ _ _ ?_ (by rfl) (by rfl)
          try dsimp only
          refine @meth1_list _ _ _ _ _ _ _ _ _ _ _ _ F.slot_list_append F.type_list_append ?_ (by rfl) (by rfl) (by rfl)
          try dsimp only
          refine @nm_local _ _ _ _ _ _ _ _ _ _ _ _ _ (by assumption) (by walk_at "dv") ?_ (by rfl) (by rfl) (by decide)
          try dsimp only
          refine ⟨⟨_, _, _, rfl, Sd.get (by assumption) (by walk_at "mem")⟩, ?_⟩
          try dsimp only
          refine @IfExp_ _ _ _ _ _ _ _ _ _ _ ?_
          try dsimp only
          refine @wpAny_isTrue_Compare1 _ _ _ _ _ _ _ _ _ _ _ ?_ (by with_unfolding_all rfl)
          try dsimp only
          refine @nm_local _ _ _ _ _ _ _ _ _ _ _ _ _ (by assumption) (by walk_at "dv") ?_ (by rfl) (by rfl) (by decide)
          try dsimp only
          refine @cst_int _ _ _ _ _ _ _ _ _ ?_; intro _ _
          try dsimp only
          with_reducible refine lt_I ?_
          try dsimp only
          refine @wpAny_truthy_bool _ _ _ _ _ _ ?_
          try dsimp only
          (with_reducible show (if _ = true then _ else _)); refine @iteY _ _ _ (by walk_at "yes") ?_
          try dsimp only
          refine @wpAny_BinOp _ _ _ _ _ _ _ _ _ _ ?_
          try dsimp only
          refine @cst_int _ _ _ _ _ _ _ _ _ ?_; intro _ _
          try dsimp only
          refine @nm_local _ _ _ _ _ _ _ _ _ _ _ _ _ (by assumption) (by walk_at "dv") ?_ (by rfl) (by rfl) (by decide)
          try dsimp only
          refine @add_I _ _ _ _ _ _ _ _ _ ?_; intro _ _
          try dsimp only
          refine @list_appendL _ _ _ _ _ _ _ _ _ _ _ _ _ _ (by assumption) 4 (by rfl) ?_ (by walk_at "sz"); walk_at "ap"
          try dsimp only
          (with_reducible show wpAny _ _ (execs _ _) _ _ _); (try clear kS); with_reducible refine wpAny_execs_nil ?_
          try dsimp only
          rename Sd H _ _ _ _ _ => D15
          exact ⟨_, _, _, _, rfl, D15.tail.tail.tail, _, _, _, ⟨rfl, rfl, rfl, rfl, trivial⟩, rfl, hv.snocZ (k := rowN p) (by rw [er]; lia) _, by rw [List.length_append, hnl]; rfl, hrow2⟩
        · have hp12 : p - 48 < othersN.length := by show p - 48 < 12; lia
          obtain ⟨tv, ev⟩ := IntsAre.get hvo (p - 48) ((othersN[p - 48] : Nat) : Int) (by unfold zs; rw [List.getElem?_map, List.getElem?_eq_getElem hp12]; rfl)
          have er : othersN[p - 48] = rowN p := by unfold rowN; rw [if_neg hp48, List.getD_eq_getElem?_getD, List.getElem?_eq_getElem hp12]; rfl
          rw [er] at ev
          refine @st_localL _ _ _ _ _ _ _ _ _ _ _ _ (by assumption) ?_ (by rfl) (by rfl); intro _ _ _ _
          try dsimp only
          (with_reducible show wpAny _ _ (execs _ _) _ _ _); (try clear kS); with_reducible refine ex_cons ?_; intro kS
          try dsimp only
          refine @wpAny_Expr _ _ _ _ _ _ _ _ ?_ (by rfl) (by rfl)
          try dsimp only
          refine @meth1_list _ _ _ _ _ _ _ _ _ _ _ _ F.slot_list_append F.type_list_append ?_ (by rfl) (by rfl) (by rfl)
          try dsimp only
          refine @nm_local _ _ _ _ _ _ _ _ _ _ _ _ _ (by assumption) (by walk_at "dv") ?_ (by rfl) (by rfl) (by decide)
          try dsimp only
          refine ⟨⟨_, _, _, rfl, Sd.get (by assumption) (by walk_at "mem")⟩, ?_⟩
          try dsimp only
          refine @IfExp_ _ _ _ _ _ _ _ _ _ _ ?_
          try dsimp only
          refine @wpAny_isTrue_Compare1 _ _ _ _ _ _ _ _ _ _ _ ?_ (by with_unfolding_all rfl)
          try dsimp only
          refine @nm_local _ _ _ _ _ _ _ _ _ _ _ _ _ (by assumption) (by walk_at "dv") ?_ (by rfl) (by rfl) (by decide)
          try dsimp only
          refine @cst_int _ _ _ _ _ _ _ _ _ ?_; intro _ _
          try dsimp only
          with_reducible refine lt_I ?_
          try dsimp only
          refine @wpAny_truthy_bool _ _ _ _ _ _ ?_
          try dsimp only
          (with_reducible show (if _ = true then _ else _)); refine @iteN _ _ _ (by walk_at "yes") ?_
          try dsimp only
          refine @Subscript_ _ _ _ _ _ _ _ _ _ ?_
          try dsimp only
          refine @nm_local _ _ _ _ _ _ _ _ _ _ _ _ _ (by assumption) (by walk_at "dv") ?_ (by rfl) (by rfl) (by decide)
          try dsimp only
          refine @wpAny_BinOp _ _ _ _ _ _ _ _ _ _ ?_
          try dsimp only
          refine @nm_local _ _ _ _ _ _ _ _ _ _ _ _ _ (by assumption) (by walk_at "dv") ?_ (by rfl) (by rfl) (by decide)
          try dsimp only
          refine @cst_int _ _ _ _ _ _ _ _ _ ?_; intro _ _
          try dsimp only
          refine @sub_I _ _ _ _ _ _ _ _ _ ?_; intro _ _
          try dsimp only
          refine' tail_list ?ta ?tb ?tc ?td ?te ?_ ?tf; (case ta => assumption); (case tb => walk_at "mem"); (case td => assumption); (case tc => lia); (case te => walk_at "sz"); (case tf => rfl)
          try dsimp only
          refine @list_appendL _ _ _ _ _ _ _ _ _ _ _ _ _ _ (by assumption) 4 (by rfl) ?_ (by walk_at "sz"); walk_at "ap"
          try dsimp only
          (with_reducible show wpAny _ _ (execs _ _) _ _ _); (try clear kS); with_reducible refine wpAny_execs_nil ?_
          try dsimp only
          rename Sd H _ _ _ _ _ => D15
          exact ⟨_, _, _, _, rfl, D15.tail.tail.tail, _, _, _, ⟨rfl, rfl, rfl, rfl, trivial⟩, rfl, hv.snocZ (k := rowN p) rfl _, by rw [List.length_append, hnl]; rfl, hrow2⟩
    --B
    · clear D8
      rintro m led' h tk ⟨n, vs, ns, hm, rfl, hv, hnl, hrow⟩ D9
      subst htl
      have D10 := D9.tail.lo hm
      clear D9
      dsimp only
      have hvl := hv.len
      (with_reducible show wpAny _ _ (execs _ _) _ _ _); (try clear kS); with_reducible refine ex_cons ?_; intro kS
      try dsimp only
      refine @wpAny_Assign_Name _ _ _ _ _ _ _ _ _ _ ?_ (by rfl)
      try dsimp only
      refine dictComp1 (intKind PR w) D10 rfl (by decide) rfl (by decide) rfl ?_
      refine @nm_glob _ _ _ _ _ _ _ _ _ _ _ _ _ _ _ _ _ _ (by assumption) (by assumption) (by assumption) (by k_is) ?_ (by rfl) (by rfl) (by rfl) (by decide)
      try dsimp only
      refine ⟨_, _, _, _, [], _, _, rfl, it_D (prog := PR) (w := w) (held := []) (by walk_at "hh") (D10.old (X _ _ (KF.k70 w))) do70 (by decide) (.inr (X _ _ (KF.k70 w))), D10, by decide,
        (fun i kvs led' => led' = (lr, listOf vs.toArray n) :: (lo, listOf vo.toArray 0) :: (od, oo) :: (L + 1 + 1, oK) :: (L + 1, oT) :: [(57, tabObj #[])] ∧ TJ i kvs), ⟨rfl, TJ.nil⟩, (fun _ _ _ _ _ hp => by cases hp), ?_, ?_⟩
      --A
      · clear D10
        rintro i v kvs o m₁ led₁ h₁ tk₁ I oI d C1 fs₁ hi ⟨k, x, t, e1, rfl⟩ ⟨rfl, hT⟩ ho D11
        obtain ⟨q, hq, rfl⟩ : ∃ q, ops70[i]? = some q ∧ k = q.1 := by
          unfold kv70 at e1
          rw [List.getElem?_map] at e1
          cases z : ops70[i]? with
          | none => rw [z] at e1; cases e1
          | some p => rw [z] at e1; cases e1; exact ⟨p, rfl, rfl⟩
        have hqm := List.mem_of_getElem? hq
        obtain ⟨t2, hv2⟩ := vat70 (x := q.1) (List.mem_map_of_mem hqm)
        rw [ops_code q hqm] at hv2
        refine @Subscript_ _ _ _ _ _ _ _ _ _ ?_
        try dsimp only
        refine @nm_glob _ _ _ _ _ _ _ _ _ _ _ _ _ _ _ _ _ _ (by assumption) (by assumption) (by assumption) (by k_is) ?_ (by rfl) (by rfl) (by rfl) (by decide)
        try dsimp only
        refine @nm_local _ _ _ _ _ _ _ _ _ _ _ _ _ (by assumption) (by walk_at "dv") ?_ (by rfl) (by rfl) (by decide)
        try dsimp only
        refine @tail_D _ _ _ _ _ _ _ _ _ _ _ _ _ (Sd.old (by assumption) (by rename Frag.In _ _ => hX; exact hX _ _ (KF.k70 _))) do70 (by assumption) ?_ (by with_unfolding_all rfl); intro _
        try dsimp only
        refine @nm_local _ _ _ _ _ _ _ _ _ _ _ _ _ (by assumption) (by walk_at "dv") ?_ (by rfl) (by rfl) (by decide)
        try dsimp only
        exact ⟨(q.2 : Int), _, _, _, _, intKind_is _ _ _ _, rfl, D11, (hT.add hq _).2, rfl, (hT.add hq _).1⟩
      --B
      · clear D10
        rintro kvs oTx dT led₁ h₁ tk₁ ⟨rfl, hT⟩ hoT D11
        have D12 : Sd H [] L _ h₁ ((dT, oTx) :: (lr, listOf vs.toArray n) :: (od, oo) :: (L + 1 + 1, oK) :: (L + 1, oT) :: [(57, tabObj #[])]) := D11.drop 2
        clear D11
        refine @st_cell _ _ _ _ _ _ _ _ _ _ _ _ (4) _ _ _ (by assumption) (by exact rfl) (by exact rfl) (by assumption) ?_ (by rfl) (by rfl); walk_at "cl"
        try dsimp only
        (with_reducible show wpAny _ _ (execs _ _) _ _ _); (try clear kS); with_reducible refine ex_cons ?_; intro kS
        try dsimp only
        refine @assignComp_sdL _ _ _ _ _ _ _ _ _ _ _ _ _ _ _ _ _ _ _ _ _ (by assumption) rfl rfl (by decide) rfl (by decide) rfl rfl rfl ?_ (by intro _; rfl); intro _
        try dsimp only
        refine @nm_local _ _ _ _ _ _ _ _ _ _ _ _ _ (by assumption) (by walk_at "dv") ?_ (by rfl) (by rfl) (by decide)
        try dsimp only
        rename_i h2 oT2 tk2 D13 dT2 _
        clear D12
        have hsmall : vs.length ≤ 1000000 := by lia
        refine lc_anyL (s := sb) (it_L (by walk_at "hh") (D13.get (.tail _ (.head _)))) hsmall D13
          (fun j ys led' => led' = (dT, oTx) :: (lr, listOf vs.toArray n) :: (od, oo) :: (L + 1 + 1, oK) :: (L + 1, oT2) :: [(57, tabObj #[])] ∧ SVs ys ((ns.take j).map textOf))
          ⟨rfl, .nil⟩ (fun j ys led' hj p hp => by rw [List.mem_singleton.mp hp, hj.1]; exact .tail _ (.head _)) ?_ ?_
        --A
        · clear D13
          rintro I j ys k oI acc C1 fs₁ env1 KE KT v m₁ led₁ h₁ tk₁ hj hPv ⟨rfl, hys⟩ D14
          have hj2 : j < ns.length := by lia
          obtain ⟨tv, ev⟩ := IntsAre.get hv j ((ns[j] : Nat) : Int) (by unfold zs; rw [List.getElem?_map, List.getElem?_eq_getElem hj2]; rfl)
          have e4 := Option.some.inj (hPv.symm.trans ev)
          subst e4
          have hir := hrow _ (List.getElem_mem hj2)
          have hmq : (ns.take (j + 1)).map textOf = (ns.take j).map textOf ++ [textOf ns[j]] := by rw [List.take_add_one, List.getElem?_eq_getElem hj2, Option.toList_some, List.map_append]; rfl
          generalize ns[j] = N at *
          refine @tests_nil _ _ _ _ _ _ ?_
          try dsimp only
          (with_reducible show (if _ = true then _ else _)); refine @iteY _ _ _ (by walk_at "yes") ?_
          try dsimp only
          refine @IfExp_ _ _ _ _ _ _ _ _ _ _ ?_
          try dsimp only
          refine @isTrue_plain _ _ _ _ _ _ _ _ ?_ (by rfl)
          try dsimp only
          refine @call_name _ _ _ _ _ _ _ _ _ _ _ _ _ _ _ _ _ _ _ _ _ (by assumption) (by assumption) (by assumption) (by k_is) (by k_is) ?_ (by rfl) (by rfl) (by rfl) (by decide) (by rfl) (by rfl)
          try dsimp only
          refine @spliced_more _ _ _ _ _ _ _ _ _ ?_ (by rfl)
          try dsimp only
          refine @nm_local _ _ _ _ _ _ _ _ _ _ _ _ _ (by assumption) (by walk_at "dv") ?_ (by rfl) (by rfl) (by decide)
          try dsimp only
          refine @spliced_none _ _ _ _ _ _ _ ?_
          try dsimp only
          refine ⟨Sd.kIn (by assumption) (by assumption), ?_⟩
          try dsimp only
          refine ct_isterm X TR (by walk_at "hh") (by walk_at "dp") D14 ?_
          clear D14
          intro h3 tk3 D15
          by_cases hN : N < 256
          · obtain ⟨tN, eN⟩ := hT.at hir hN
            refine @wpAny_truthy_bool _ _ _ _ _ _ ?_
            try dsimp only
            (with_reducible show (if _ = true then _ else _)); refine @iteY _ _ _ (by walk_at "yes") ?_
            try dsimp only
            refine @Subscript_ _ _ _ _ _ _ _ _ _ ?_
            try dsimp only
            refine @nm_cell _ _ _ _ _ _ _ _ _ _ _ _ _ _ _ (by assumption) (by walk_at "dv") (by walk_at "mem") (by assumption) ?_ (by rfl) (by rfl) (by decide)
            try dsimp only
            refine @nm_local _ _ _ _ _ _ _ _ _ _ _ _ _ (by assumption) (by walk_at "dv") ?_ (by rfl) (by rfl) (by decide)
            try dsimp only
            refine tail_DI (D15.get (.tail _ (.tail _ (.head _)))) hoT eN ?_
            intro tk4
            exact ⟨_, _, _, _, rfl, D15, rfl, by rw [hmq]; exact hys.snoc ⟨_, rfl⟩⟩
          · refine @wpAny_truthy_bool _ _ _ _ _ _ ?_
            try dsimp only
            (with_reducible show (if _ = true then _ else _)); refine @iteN _ _ _ (by walk_at "yes") ?_
            try dsimp only
            refine @call_bi _ _ _ _ _ _ _ _ _ _ _ _ _ _ _ _ _ _ _ _ _ (by assumption) (by assumption) (by assumption) (by k_is) (by boot_by_name) ?_ (by decide) (by rfl) (by rfl) (by rfl) (by rfl) (by decide) (by rfl) (by rfl)
            try dsimp only
            refine @spliced_more _ _ _ _ _ _ _ _ _ ?_ (by rfl)
            try dsimp only
            refine @wpAny_BinOp _ _ _ _ _ _ _ _ _ _ ?_
            try dsimp only
            refine @nm_local _ _ _ _ _ _ _ _ _ _ _ _ _ (by assumption) (by walk_at "dv") ?_ (by rfl) (by rfl) (by decide)
            try dsimp only
            refine @nm_glob _ _ _ _ _ _ _ _ _ _ _ _ _ _ _ _ _ _ (by assumption) (by assumption) (by assumption) (by k_is) ?_ (by rfl) (by rfl) (by rfl) (by decide)
            try dsimp only
            refine @sub_I _ _ _ _ _ _ _ _ _ ?_; intro _ _
            try dsimp only
            refine @spliced_none _ _ _ _ _ _ _ ?_
            try dsimp only
            refine chr_I (c := N - 256) (by lia) (by have := hir.lt; lia) ?_
            intro t4 tk4
            exact ⟨_, _, _, _, rfl, D15, rfl, by rw [hmq, textOf_chr hN]; exact hys.snoc ⟨_, rfl⟩⟩
        --B
        · clear D13
          rintro pv np lp led₁ h₁ tk₁ ⟨rfl, hys⟩ D14
          rw [hvl, List.take_length] at hys
          have hpc : ∀ p ∈ ns.map textOf, Pc p := fun p hp => by obtain ⟨x, hx, rfl⟩ := List.mem_map.mp hp; exact (hrow x hx).pc
          have hnum : ns = (ns.map textOf).map numOf := by
            rw [List.map_map]
            conv => lhs; rw [← List.map_id ns]
            exact List.map_congr_left fun x hx => ((hrow x hx).num).symm
          have hpl : (ns.map textOf).length = 4 := by rw [List.length_map, hnl]
          generalize ns.map textOf = pcs at *
          subst hnum
          clear hrow hnl
          have hpn := hys.len
          obtain ⟨a, b, c, d, rfl⟩ : ∃ a b c d, pcs = [a, b, c, d] := by
            match pcs, hpl with
            | [a, b, c, d], _ => exact ⟨a, b, c, d, rfl⟩
          have pa := hpc a (by simp)
          have pb := hpc b (by simp)
          have pc := hpc c (by simp)
          have pd := hpc d (by simp)
          have la := pc_len pa
          have lb := pc_len pb
          have lc := pc_len pc
          have ld := pc_len pd
          have hfl : ([a, b, c, d] : List (List Nat)).flatten.length ≤ 12 := by simp; lia
          have hasc : ∀ x ∈ ([a, b, c, d] : List (List Nat)).flatten, x < 128 := fun x hx => by
            obtain ⟨p, hp, hx⟩ := List.mem_flatten.mp hx
            exact pc_ascii (hpc p hp) x hx
          (with_reducible show wpAny _ _ (execs _ _) _ _ _); (try clear kS); with_reducible refine ex_cons ?_; intro kS
          try dsimp only
          refine @wpAny_Assign_Name _ _ _ _ _ _ _ _ _ _ ?_ (by rfl)
          try dsimp only
          refine dictE_sd TR.nolimit D14 ?_
          intro dk h2 tk2 D15 hsK
          have D16 := D15.lo (l := [("pieces", .ref lp), ("own", .ref od), ("row", .ref lr)]) ⟨rfl, rfl, rfl, trivial⟩
          clear D14 D15
          refine @st_cell _ _ _ _ _ _ _ _ _ _ _ _ (5) _ _ _ (by assumption) (by exact rfl) (by exact rfl) (by assumption) ?_ (by rfl) (by rfl); walk_at "cl"
          try dsimp only
          rename_i h3 oK2 tk3 D17 dK2
          clear D16
          have D18 : Sd H [] L _ h3 ((lp, listOf pv.toArray np) :: (dT, oTx) :: (lr, listOf vs.toArray n) :: (od, oo) :: (L + 1 + 1, oK2) :: (L + 1, oT2) :: (57, tabObj #[]) :: [(dk, dict0)]) := D17.perm (List.perm_append_singleton (dk, dict0) ((lp, listOf pv.toArray np) :: (dT, oTx) :: (lr, listOf vs.toArray n) :: (od, oo) :: (L + 1 + 1, oK2) :: (L + 1, oT2) :: [(57, tabObj #[])]))
          clear D17
          (with_reducible show wpAny _ _ (execs _ _) _ _ _); (try clear kS); with_reducible refine ex_cons ?_; intro kS
          try dsimp only
          refine @wpAny_If _ _ _ _ _ _ _ _ _ _ ?_
          try dsimp only
          refine @wpAny_isTrue_Compare1 _ _ _ _ _ _ _ _ _ _ _ ?_ (by with_unfolding_all rfl)
          try dsimp only
          refine @call_name _ _ _ _ _ _ _ _ _ _ _ _ _ _ _ _ _ _ _ _ _ (by assumption) (by assumption) (by assumption) (by k_is) (by k_is) ?_ (by rfl) (by rfl) (by rfl) (by decide) (by rfl) (by rfl)
          try dsimp only
          refine @spliced_more _ _ _ _ _ _ _ _ _ ?_ (by rfl)
          try dsimp only
          refine @meth1_str _ _ _ _ _ _ _ _ _ _ _ _ F.slot_str_join F.type_str_join ?_ (by rfl) (by rfl) (by rfl)
          try dsimp only
          refine @cst_S _ _ _ _ _ _ _ _ _ _ (by exact lit11) ?_; intro _ _
          try dsimp only
          refine ⟨⟨_, _, rfl⟩, ?_⟩
          try dsimp only
          refine @nm_local _ _ _ _ _ _ _ _ _ _ _ _ _ (by assumption) (by walk_at "dv") ?_ (by rfl) (by rfl) (by decide)
          try dsimp only
          refine @join_S _ _ _ _ _ _ _ _ _ _ _ _ _ _ _ (by assumption) (by walk_at "mem") (by assumption) (by walk_at "sz") ?_; intro _ _
          try dsimp only
          refine @spliced_more _ _ _ _ _ _ _ _ _ ?_ (by rfl)
          try dsimp only
          refine @nm_cell _ _ _ _ _ _ _ _ _ _ _ _ _ _ _ (by assumption) (by walk_at "dv") (by walk_at "mem") (by assumption) ?_ (by rfl) (by rfl) (by decide)
          try dsimp only
          refine @spliced_none _ _ _ _ _ _ _ ?_
          try dsimp only
          refine ⟨Sd.kIn (by assumption) (by assumption), ?_⟩
          try dsimp only
          refine ct_read (own := [(lp, listOf pv.toArray np), (dT, oTx), (lr, listOf vs.toArray n), (od, oo), (L + 1 + 1, oK2), (L + 1, oT2)]) X T CH (by walk_at "hh") (by walk_at "dp") (by walk_at "un") D18 tri0 (dict0_of _) KInv.nil hasc (by lia) (by show 0 ≤ 6000; lia) hsK ?_
          clear D18
          intro r1 v1 n1 ps1 ko1 kv1 kl1 h4 tk4 D19 ht1 ho1 hI1 hk1 hv1
          have D20 : Sd H [] L _ h4 ((r1, listOf v1.toArray n1) :: (lp, listOf pv.toArray np) :: (dT, oTx) :: (lr, listOf vs.toArray n) :: (od, oo) :: (L + 1 + 1, oK2) :: (L + 1, oT2) :: (57, tabObj ps1) :: (dk, ko1) :: kl1) := D19
          clear D19
          refine @call_name _ _ _ _ _ _ _ _ _ _ _ _ _ _ _ _ _ _ _ _ _ (by assumption) (by assumption) (by assumption) (by k_is) (by k_is) ?_ (by rfl) (by rfl) (by rfl) (by decide) (by rfl) (by rfl)
          try dsimp only
          refine @spliced_more _ _ _ _ _ _ _ _ _ ?_ (by rfl)
          try dsimp only
          refine @meth1_str _ _ _ _ _ _ _ _ _ _ _ _ F.slot_str_join F.type_str_join ?_ (by rfl) (by rfl) (by rfl)
          try dsimp only
          refine @cst_S _ _ _ _ _ _ _ _ _ _ (by exact lit11) ?_; intro _ _
          try dsimp only
          refine ⟨⟨_, _, rfl⟩, ?_⟩
          try dsimp only
          refine @nm_local _ _ _ _ _ _ _ _ _ _ _ _ _ (by assumption) (by walk_at "dv") ?_ (by rfl) (by rfl) (by decide)
          try dsimp only
          refine @join_S _ _ _ _ _ _ _ _ _ _ _ _ _ _ _ (by assumption) (by walk_at "mem") (by assumption) (by walk_at "sz") ?_; intro _ _
          try dsimp only
          refine @spliced_more _ _ _ _ _ _ _ _ _ ?_ (by rfl)
          try dsimp only
          refine @nm_local _ _ _ _ _ _ _ _ _ _ _ _ _ (by assumption) (by walk_at "dv") ?_ (by rfl) (by rfl) (by decide)
          try dsimp only
          refine @spliced_none _ _ _ _ _ _ _ ?_
          try dsimp only
          refine ⟨Sd.kIn (by assumption) (by assumption), ?_⟩
          try dsimp only
          refine ct_fewest X TR (by walk_at "hh") (by walk_at "dp") (by walk_at "un") D20 (by walk_at "mem") hoO hIO hasc (by lia) hsO ?_
          clear D20
          intro r2 v2 n2 h5 tk5 D21 hv2
          refine ne_IV D21 (.tail _ (.head _)) (.head _) hv1 hv2 (by walk_at "un") ?_
          have D22 := D21.tail.tail
          clear D21 hv1 hv2
          rw [show (!decide (R ([a, b, c, d] : List (List Nat)).flatten = F ([a, b, c, d] : List (List Nat)).flatten)) = false from by rw [F_R]; simp]
          refine @wpAny_truthy_bool _ _ _ _ _ _ ?_
          try dsimp only
          (with_reducible show (if _ = true then _ else _)); refine @iteN _ _ _ (by walk_at "yes") ?_
          try dsimp only
          (with_reducible show wpAny _ _ (execs _ _) _ _ _); (try clear kS); with_reducible refine wpAny_execs_nil ?_
          try dsimp only
          (with_reducible show wpAny _ _ (execs _ _) _ _ _); (try clear kS); with_reducible refine ex_cons ?_; intro kS
          try dsimp only
          refine @Assign_Tuple_swapped _ _ _ _ _ _ _ _ _ _ ([_, _]) _ ?_ (by rfl) (by rfl)
          try dsimp only
          refine @Tuple_ _ _ _ _ _ _ _ _ _ ?_
          try dsimp only
          refine @spliced_more _ _ _ _ _ _ _ _ _ ?_ (by rfl)
          try dsimp only
          refine @List_ _ _ _ _ _ _ _ _ ?_
          try dsimp only
          refine @spliced_none _ _ _ _ _ _ _ ?_
          try dsimp only
          refine @newList_sdL _ _ _ _ _ _ _ _ _ _ _ (by assumption) ?_ (by exact sz_lit rfl); intro _ _ _ _ _
          try dsimp only
          refine @spliced_more _ _ _ _ _ _ _ _ _ ?_ (by rfl)
          try dsimp only
          refine @cst_int _ _ _ _ _ _ _ _ _ ?_; intro _ _
          try dsimp only
          refine @spliced_none _ _ _ _ _ _ _ ?_
          try dsimp only
          refine @pair_swL _ _ _ _ _ _ _ _ _ _ _ _ _ _ (by assumption) (by assumption) ?_ (by rfl) (by rfl) (by rfl); intro _ _ _ _
          try dsimp only
          (with_reducible show wpAny _ _ (execs _ _) _ _ _); (try clear kS); with_reducible refine ex_cons ?_; intro kS
          try dsimp only
          refine @wpAny_For _ _ _ _ _ _ _ _ _ _ _ ?_ (by intro _; rfl)
          try dsimp only
          refine @call_ty _ _ _ _ _ _ _ _ _ _ _ _ _ _ _ _ _ _ _ _ _ (by assumption) (by assumption) (by assumption) (by k_is) (by boot_by_name) ?_ (by decide) (by rfl) (by rfl) (by rfl) (by rfl) (by decide) (by rfl) (by rfl)
          try dsimp only
          refine @spliced_more _ _ _ _ _ _ _ _ _ ?_ (by rfl)
          try dsimp only
          refine @cst_int _ _ _ _ _ _ _ _ _ ?_; intro _ _
          try dsimp only
          refine @spliced_more _ _ _ _ _ _ _ _ _ ?_ (by rfl)
          try dsimp only
          refine @cst_int _ _ _ _ _ _ _ _ _ ?_; intro _ _
          try dsimp only
          refine @spliced_none _ _ _ _ _ _ _ ?_
          try dsimp only
          refine @range2_sd _ _ _ _ _ _ _ _ _ _ _ _ _ _ (by assumption) ?_; intro _ _ _ _ _
          try dsimp only
          rename_i lt h6 tk6 _ D23 tf0 tkf h7 tk7 _ D24 t1 tk8 t4 tk9 rg v4 h8 tk10 D25
          clear D22 D23 D24
          have hr := D25.get (.head _)
          have D26 := D25.tail.lo (l := [("told", .ref lt), ("first", .int ((0 : Nat) : Int) tf0), ("pieces", .ref lp), ("own", .ref od), ("row", .ref lr)]) ⟨rfl, rfl, rfl, rfl, rfl, trivial⟩
          clear D25
          have hk0 : kv1.length ≤ 1000 := by simpa using hk1
          refine for_anyL (s := { sb with heap := h8, toks := _ }) (it_R (n := 3) (by walk_at "hh") hr (by lia) (by lia) (by lia) (by lia) (by lia)) D26
            (JLW2 w lt lp dT lr od dk L pv vs np n oTx oo oK2 oT2 a b c d)
            ⟨0, tf0, 0, [], [], ps1, ko1, kv1, kl1, ⟨rfl, rfl, rfl, rfl, rfl, trivial⟩, rfl, ht1, ho1, hI1, hk0, .nil, rfl, Nat.le_refl _, rfl⟩ (fun _ _ _ _ _ hp => by cases hp) ?_ ?_
          --A
          · clear D26 hr
            rintro I oI i KB v m1 led1 h9 tk11 hi ⟨tv1, rfl⟩ ⟨f, tf, nt, tv, td, ps2, ko2, kv2, kl2, hm1, rfl, ht2, ho2, hI2, hk2, htv, htl, hfi, hfold⟩ D27
            rw [show (1 : Int) + (i : Int) * 1 = ((i + 1 : Nat) : Int) from by lia] at D27
            have D28 := D27.lo (l := [("k", .int ((i + 1 : Nat) : Int) tv1), ("told", .ref lt), ("first", .int (f : Int) tf), ("pieces", .ref lp), ("own", .ref od), ("row", .ref lr)]) ⟨rfl, hm1⟩
            clear D27
            have hst := told_step [a, b, c, d] ([a, b, c, d].map numOf) hi hfold
            have hpv4 : pv.length = 4 := hpn
            have hvs4 : vs.length = 4 := hvl
            have hs1 := pick_sg pv (a := f) (b := i + 2) (z := ((i + 1 : Nat) : Int) + 1) (by lia) (by lia) (by lia)
            have hs2 := pick_sg vs (a := f) (b := i + 2) (z := ((i + 1 : Nat) : Int) + 1) (by lia) (by lia) (by lia)
            have hsv := hys.sg f (i + 2)
            have hiv := hv.sg f (i + 2)
            have hsf := sg_flat [a, b, c, d] f (i + 2)
            have hsa : ∀ x ∈ (sg [a, b, c, d] f (i + 2)).flatten, x < 128 := fun x hx => by
              obtain ⟨p, hp, hx⟩ := List.mem_flatten.mp hx
              exact pc_ascii (hpc p (sg_mem hp)) x hx
            have htvl := htv.len
            generalize sg [a, b, c, d] f (i + 2) = sp at *
            generalize sg (List.map numOf [a, b, c, d]) f (i + 2) = sr at *
            generalize sg pv f (i + 2) = spv at *
            generalize sg vs f (i + 2) = svv at *
            (with_reducible show wpAny _ _ (execs _ _) _ _ _); (try clear kS); with_reducible refine ex_cons ?_; intro kS
            try dsimp only
            refine @wpAny_If _ _ _ _ _ _ _ _ _ _ ?_
            try dsimp only
            refine @wpAny_isTrue_Compare1 _ _ _ _ _ _ _ _ _ _ _ ?_ (by with_unfolding_all rfl)
            try dsimp only
            refine @call_name _ _ _ _ _ _ _ _ _ _ _ _ _ _ _ _ _ _ _ _ _ (by assumption) (by assumption) (by assumption) (by k_is) (by k_is) ?_ (by rfl) (by rfl) (by rfl) (by decide) (by rfl) (by rfl)
            try dsimp only
            refine @spliced_more _ _ _ _ _ _ _ _ _ ?_ (by rfl)
            try dsimp only
            refine @meth1_str _ _ _ _ _ _ _ _ _ _ _ _ F.slot_str_join F.type_str_join ?_ (by rfl) (by rfl) (by rfl)
            try dsimp only
            refine @cst_S _ _ _ _ _ _ _ _ _ _ (by exact lit11) ?_; intro _ _
            try dsimp only
            refine ⟨⟨_, _, rfl⟩, ?_⟩
            try dsimp only
            refine @Subscript_ _ _ _ _ _ _ _ _ _ ?_
            try dsimp only
            refine @nm_local _ _ _ _ _ _ _ _ _ _ _ _ _ (by assumption) (by walk_at "dv") ?_ (by rfl) (by rfl) (by decide)
            try dsimp only
            refine @wpAny_Slice _ _ _ _ _ _ _ _ _ _ ?_
            try dsimp only
            refine @evalPart_some_step _ _ _ _ _ _ _ ?_
            try dsimp only
            refine @nm_local _ _ _ _ _ _ _ _ _ _ _ _ _ (by assumption) (by walk_at "dv") ?_ (by rfl) (by rfl) (by decide)
            try dsimp only
            refine @evalPart_some_step _ _ _ _ _ _ _ ?_
            try dsimp only
            refine @wpAny_BinOp _ _ _ _ _ _ _ _ _ _ ?_
            try dsimp only
            refine @nm_local _ _ _ _ _ _ _ _ _ _ _ _ _ (by assumption) (by walk_at "dv") ?_ (by rfl) (by rfl) (by decide)
            try dsimp only
            refine @cst_int _ _ _ _ _ _ _ _ _ ?_; intro _ _
            try dsimp only
            refine @add_I _ _ _ _ _ _ _ _ _ ?_; intro _ _
            try dsimp only
            refine @evalPart_none_step _ _ _ _ _ _ ?_
            try dsimp only
            refine @sliceG _ _ _ _ _ _ _ _ _ _ _ _ _ _ _ _ _ _ _ _ _ _ _ _ _ _ _ _ (by assumption) (by walk_at "mem") (by walk_at "part") (by walk_at "part") (by walk_at "part") (by simp) (by first | assumption | exact rfl) (by walk_at "sz") ?_ (by with_unfolding_all rfl); intro _ _ _ _
            try dsimp only
            refine @join_S _ _ _ _ _ _ _ _ _ _ _ _ _ _ _ (by assumption) (by walk_at "mem") (by assumption) (by walk_at "sz") ?_; intro _ _
            try dsimp only
            refine @spliced_more _ _ _ _ _ _ _ _ _ ?_ (by rfl)
            try dsimp only
            refine @nm_cell _ _ _ _ _ _ _ _ _ _ _ _ _ _ _ (by assumption) (by walk_at "dv") (by walk_at "mem") (by assumption) ?_ (by rfl) (by rfl) (by decide)
            try dsimp only
            refine @spliced_none _ _ _ _ _ _ _ ?_
            try dsimp only
            refine ⟨Sd.kIn (by assumption) (by assumption), ?_⟩
            try dsimp only
            rename_i tz1 tkz1 tz2 tkz2 tz3 tkz3 rs h10 tkz4 D29 tz4 tkz5
            clear D28
            have hfl2 : sp.flatten.length ≤ 30 := Nat.le_trans hsf (by lia)
            refine ct_read (own := [(rs, listOf spv.toArray 0), (I, oI), (lt, listOf tv.toArray nt), (lp, listOf pv.toArray np), (dT, oTx), (lr, listOf vs.toArray n), (od, oo), (L + 1 + 1, oK2), (L + 1, oT2)]) X T CH (by walk_at "hh") (by walk_at "dp") (by walk_at "un") D29 ht2 ho2 hI2 hsa hfl2 (by lia) hsK ?_
            clear D29
            intro r1 v1 n1 ps3 ko3 kv3 kl3 h11 tk12 D30 ht3 ho3 hI3 hk3 hv1
            have D31 : Sd H [] L _ h11 ((r1, listOf v1.toArray n1) :: (rs, listOf spv.toArray 0) :: (I, oI) :: (lt, listOf tv.toArray nt) :: (lp, listOf pv.toArray np) :: (dT, oTx) :: (lr, listOf vs.toArray n) :: (od, oo) :: (L + 1 + 1, oK2) :: (L + 1, oT2) :: (57, tabObj ps3) :: (dk, ko3) :: kl3) := D30
            clear D30
            refine @Subscript_ _ _ _ _ _ _ _ _ _ ?_
            try dsimp only
            refine @nm_local _ _ _ _ _ _ _ _ _ _ _ _ _ (by assumption) (by walk_at "dv") ?_ (by rfl) (by rfl) (by decide)
            try dsimp only
            refine @wpAny_Slice _ _ _ _ _ _ _ _ _ _ ?_
            try dsimp only
            refine @evalPart_some_step _ _ _ _ _ _ _ ?_
            try dsimp only
            refine @nm_local _ _ _ _ _ _ _ _ _ _ _ _ _ (by assumption) (by walk_at "dv") ?_ (by rfl) (by rfl) (by decide)
            try dsimp only
            refine @evalPart_some_step _ _ _ _ _ _ _ ?_
            try dsimp only
            refine @wpAny_BinOp _ _ _ _ _ _ _ _ _ _ ?_
            try dsimp only
            refine @nm_local _ _ _ _ _ _ _ _ _ _ _ _ _ (by assumption) (by walk_at "dv") ?_ (by rfl) (by rfl) (by decide)
            try dsimp only
            refine @cst_int _ _ _ _ _ _ _ _ _ ?_; intro _ _
            try dsimp only
            refine @add_I _ _ _ _ _ _ _ _ _ ?_; intro _ _
            try dsimp only
            refine @evalPart_none_step _ _ _ _ _ _ ?_
            try dsimp only
            refine @sliceG _ _ _ _ _ _ _ _ _ _ _ _ _ _ _ _ _ _ _ _ _ _ _ _ _ _ _ _ (by assumption) (by walk_at "mem") (by walk_at "part") (by walk_at "part") (by walk_at "part") (by simp) (by first | assumption | exact rfl) (by walk_at "sz") ?_ (by with_unfolding_all rfl); intro _ _ _ _
            try dsimp only
            rename Sd H _ _ _ _ _ => D32
            clear D31
            refine eq_IV D32 (.tail _ (.head _)) (.head _) hv1 hiv (by walk_at "un") ?_
            by_cases hq : R sp.flatten = sr
            · rw [if_pos hq] at hst
              rw [decide_eq_true hq]
              refine @wpAny_truthy_bool _ _ _ _ _ _ ?_
              try dsimp only
              (with_reducible show (if _ = true then _ else _)); refine @iteY _ _ _ (by walk_at "yes") ?_
              try dsimp only
              (with_reducible show wpAny _ _ (execs _ _) _ _ _); (try clear kS); with_reducible refine ex_cons ?_; intro kS
              try dsimp only
              refine @wpAny_Expr _ _ _ _ _ _ _ _ ?_ (by rfl) (by rfl)
              try dsimp only
              refine @meth1_list _ _ _ _ _ _ _ _ _ _ _ _ F.slot_list_append F.type_list_append ?_ (by rfl) (by rfl) (by rfl)
              try dsimp only
              refine @nm_local _ _ _ _ _ _ _ _ _ _ _ _ _ (by assumption) (by walk_at "dv") ?_ (by rfl) (by rfl) (by decide)
              try dsimp only
              refine ⟨⟨_, _, _, rfl, Sd.get (by assumption) (by walk_at "mem")⟩, ?_⟩
              try dsimp only
              refine @cst_int _ _ _ _ _ _ _ _ _ ?_; intro _ _
              try dsimp only
              refine @list_appendL _ _ _ _ _ _ _ _ _ _ _ _ _ _ (by assumption) 4 (by rfl) ?_ (by walk_at "sz"); walk_at "ap"
              try dsimp only
              (with_reducible show wpAny _ _ (execs _ _) _ _ _); (try clear kS); with_reducible refine wpAny_execs_nil ?_
              try dsimp only
              (with_reducible show wpAny _ _ (execs _ _) _ _ _); (try clear kS); with_reducible refine wpAny_execs_nil ?_
              try dsimp only
              rename Sd H _ _ _ _ _ => D33
              have D34 := ((D33.drop 0).drop 0).drop 0
              exact ⟨_, _, _, _, rfl, D34, ⟨f, tf, _, _, td ++ [0], ps3, ko3, kv3, kl3, ⟨rfl, rfl, rfl, rfl, rfl, trivial⟩, rfl, ht3, ho3, hI3, by lia, htv.snocZ (k := 0) rfl _, by rw [List.length_append, htl]; rfl, by lia, hst⟩⟩
            · rw [if_neg hq] at hst
              rw [decide_eq_false hq]
              refine @wpAny_truthy_bool _ _ _ _ _ _ ?_
              try dsimp only
              (with_reducible show (if _ = true then _ else _)); refine @iteN _ _ _ (by walk_at "yes") ?_
              try dsimp only
              (with_reducible show wpAny _ _ (execs _ _) _ _ _); (try clear kS); with_reducible refine ex_cons ?_; intro kS
              try dsimp only
              refine @wpAny_Expr _ _ _ _ _ _ _ _ ?_ (by rfl) (by rfl)
              try dsimp only
              refine @meth1_list _ _ _ _ _ _ _ _ _ _ _ _ F.slot_list_append F.type_list_append ?_ (by rfl) (by rfl) (by rfl)
              try dsimp only
              refine @nm_local _ _ _ _ _ _ _ _ _ _ _ _ _ (by assumption) (by walk_at "dv") ?_ (by rfl) (by rfl) (by decide)
              try dsimp only
              refine ⟨⟨_, _, _, rfl, Sd.get (by assumption) (by walk_at "mem")⟩, ?_⟩
              try dsimp only
              refine @cst_int _ _ _ _ _ _ _ _ _ ?_; intro _ _
              try dsimp only
              refine @list_appendL _ _ _ _ _ _ _ _ _ _ _ _ _ _ (by assumption) 4 (by rfl) ?_ (by walk_at "sz"); walk_at "ap"
              try dsimp only
              (with_reducible show wpAny _ _ (execs _ _) _ _ _); (try clear kS); with_reducible refine ex_cons ?_; intro kS
              try dsimp only
              refine @wpAny_Assign_Name _ _ _ _ _ _ _ _ _ _ ?_ (by rfl)
              try dsimp only
              refine @nm_local _ _ _ _ _ _ _ _ _ _ _ _ _ (by assumption) (by walk_at "dv") ?_ (by rfl) (by rfl) (by decide)
              try dsimp only
              refine @st_localL _ _ _ _ _ _ _ _ _ _ _ _ (by assumption) ?_ (by rfl) (by rfl); intro _ _ _ _
              try dsimp only
              (with_reducible show wpAny _ _ (execs _ _) _ _ _); (try clear kS); with_reducible refine wpAny_execs_nil ?_
              try dsimp only
              (with_reducible show wpAny _ _ (execs _ _) _ _ _); (try clear kS); with_reducible refine wpAny_execs_nil ?_
              try dsimp only
              rename Sd H _ _ _ _ _ => D33
              have D34 := ((D33.drop 0).drop 0).drop 0
              exact ⟨_, _, _, _, rfl, D34, ⟨i + 1, tv1, _, _, td ++ [1], ps3, ko3, kv3, kl3, ⟨rfl, rfl, rfl, rfl, rfl, trivial⟩, rfl, ht3, ho3, hI3, by lia, htv.snocZ (k := 1) rfl _, by rw [List.length_append, htl]; rfl, Nat.le_refl _, hst⟩⟩
          --B
          · clear D26 hr
            rintro m1 led1 h9 tk11 ⟨f, tf, nt, tv, td, ps2, ko2, kv2, kl2, hm1, rfl, ht2, ho2, hI2, hk2, htv, htl, hfi, hfold⟩ D27
            have htold : td = toldOf [a, b, c, d] ([a, b, c, d].map numOf) := (congrArg Prod.fst hfold).symm
            have hvs4 : vs.length = 4 := hvl
            clear hfold hfi
            have D28 := D27.lo (l := [("told", .ref lt), ("pieces", .ref lp), ("own", .ref od), ("row", .ref lr)]) ⟨hm1.1, hm1.2.2.1, hm1.2.2.2.1, hm1.2.2.2.2.1, trivial⟩
            clear D27
            dsimp only
            (with_reducible show wpAny _ _ (execs _ _) _ _ _); (try clear kS); with_reducible refine ex_cons ?_; intro kS
            try dsimp only
            refine @wpAny_Assign_Name _ _ _ _ _ _ _ _ _ _ ?_ (by rfl)
            try dsimp only
            refine @List_ _ _ _ _ _ _ _ _ ?_
            try dsimp only
            refine @spliced_none _ _ _ _ _ _ _ ?_
            try dsimp only
            try dsimp only
            refine @newList_sdL _ _ _ _ _ _ _ _ _ _ _ (by assumption) ?_ (by exact sz_lit rfl); intro _ _ _ _ _
            try dsimp only
            refine @st_localL _ _ _ _ _ _ _ _ _ _ _ _ (by assumption) ?_ (by rfl) (by rfl); intro _ _ _ _
            try dsimp only
            (with_reducible show wpAny _ _ (execs _ _) _ _ _); (try clear kS); with_reducible refine ex_cons ?_; intro kS
            try dsimp only
            refine @wpAny_For _ _ _ _ _ _ _ _ _ _ _ ?_ (by intro _; rfl)
            try dsimp only
            refine @List_ _ _ _ _ _ _ _ _ ?_
            try dsimp only
            rename_i ld h12 tk13 _ D29 h13 tk14 _ D30
            clear D28 D29
            refine' lists_sd (nss := [[0, 0, 0], [0, 0, 1], [0, 1, 0], [1, 0, 0], [0, 1, 1], [1, 0, 1], [1, 1, 0], [1, 1, 1]]) ?hE ?hD ?_
            case hD => exact D30
            case hE => (repeat (first | exact EvAllLL.nil | ((refine' EvAllLL.cons ?la ?lb ?lc ?_); (case la => rfl); (case lb => (repeat (first | exact EvAllI.nil | refine EvAllI.cons rfl evI_cst ?_ | refine EvAllI.cons rfl evI_add ?_))); (case lc => decide))))
            intro mv kl8 h14 tk15 D31 hml
            clear D30
            have hml8 : LLs kl8 mv marks8 := hml
            have hmvl : mv.length = 8 := hml.len
            clear hml
            refine newList_sd D31 ?_ (by rw [sizeLine_eq, hmvl]; decide)
            intro lm h15 tk16 D32
            clear D31
            dsimp only
            have D33 := D32.lo (l := [("due", .ref ld), ("told", .ref lt), ("pieces", .ref lp), ("own", .ref od), ("row", .ref lr)]) ⟨rfl, rfl, rfl, rfl, rfl, trivial⟩
            clear D32
            generalize hBL : ((lm, listOf mv.toArray 0) :: (kl8 ++ (ld, listOf #[] 0) :: (lt, listOf tv.toArray nt) :: (lp, listOf pv.toArray np) :: (dT, oTx) :: (lr, listOf vs.toArray n) :: (od, oo) :: (L + 1 + 1, oK2) :: (L + 1, oT2) :: (57, tabObj ps2) :: (dk, ko2) :: kl2) : Ledg) = BL at *
            have hbl : ∀ p ∈ ((ld, listOf #[] 0) :: (lt, listOf tv.toArray nt) :: (lp, listOf pv.toArray np) :: (dT, oTx) :: (lr, listOf vs.toArray n) :: (od, oo) :: (L + 1 + 1, oK2) :: (L + 1, oT2) :: (57, tabObj ps2) :: (dk, ko2) :: kl2 : Ledg), p ∈ BL := fun p hp => by rw [← hBL]; exact .tail _ (List.mem_append_right _ hp)
            have hbk : ∀ p ∈ kl8, p ∈ BL := fun p hp => by rw [← hBL]; exact .tail _ (List.mem_append_left _ hp)
            have hbm : (lm, listOf mv.toArray 0) ∈ BL := by rw [← hBL]; exact .head _
            have hbd : (ld, listOf ([] : List Value).toArray 0) ∈ BL := hbl _ (.head _)
            have hbp : (lp, listOf pv.toArray np) ∈ BL := hbl _ (.tail _ (.tail _ (.head _)))
            have hbr : (lr, listOf vs.toArray n) ∈ BL := hbl _ (by walk_at "mem")
            have hbo : (od, oo) ∈ BL := hbl _ (by walk_at "mem")
            refine for_anyL (s := { sb with heap := h15, toks := _ }) (it_L (by walk_at "hh") (D33.get hbm)) D33
              (JLW3 lt lp od lr BL a b c d)
              ⟨ld, 0, [], [], ⟨rfl, rfl, rfl, rfl, rfl, trivial⟩, rfl, hbd, .nil, rfl⟩ (fun j m led' hj p hp => by obtain ⟨_, _, _, _, _, rfl, _⟩ := hj; rw [List.mem_singleton.mp hp]; exact hbm) ?_ ?_
            --A
            · clear D33 hBL hbl hbm hbd
              rintro I oI j KB v m2 led2 h16 tk17 hj hP8 ⟨dl, nd, dv, du, hm2, rfl, hdl, hdv, hfold⟩ D34
              have hj8 : j < marks8.length := by show j < 8; lia
              obtain ⟨am, um, nm, e1, e2, e3⟩ := hml8.get (List.getElem?_eq_getElem hj8)
              have e4 := Option.some.inj (hP8.symm.trans e1)
              subst e4
              have hst := due_step [a, b, c, d] ([a, b, c, d].map numOf) (List.getElem?_eq_getElem hj8) hfold
              obtain ⟨hms3, hms1⟩ := marks_ok _ (List.getElem_mem hj8)
              generalize marks8[j] = ms at *
              have D35 := D34.lo (l := [("marks", .ref am), ("due", .ref dl), ("told", .ref lt), ("pieces", .ref lp), ("own", .ref od), ("row", .ref lr)]) ⟨rfl, hm2⟩
              clear D34 hP8 e1
              have hdvl := hdv.len
              by_cases hdu : du = []
              · have hde : dv.isEmpty = true := by
                  cases dv with
                  | nil => rfl
                  | cons _ _ => rw [hdu] at hdvl; simp at hdvl
                have hal := apart_len (a := a) (b := b) (c := c) (d := d) hms3 hms1
                have hasc2 : ∀ x ∈ apart [a, b, c, d] ms, x < 128 := fun x hx => by
                  rcases apart_mem hx with rfl | ⟨p, hp, hx⟩
                  · decide
                  · exact pc_ascii (hpc p hp) x hx
                (with_reducible show wpAny _ _ (execs _ _) _ _ _); (try clear kS); with_reducible refine ex_cons ?_; intro kS
                try dsimp only
                refine @wpAny_If _ _ _ _ _ _ _ _ _ _ ?_
                try dsimp only
                refine @isTrue_and _ _ _ _ _ _ _ _ _ _ ?_
                try dsimp only
                refine @wpAny_isTrue_Compare1 _ _ _ _ _ _ _ _ _ _ _ ?_ (by with_unfolding_all rfl)
                try dsimp only
                refine @nm_local _ _ _ _ _ _ _ _ _ _ _ _ _ (by assumption) (by walk_at "dv") ?_ (by rfl) (by rfl) (by decide)
                try dsimp only
                refine @List_ _ _ _ _ _ _ _ _ ?_
                try dsimp only
                refine @spliced_none _ _ _ _ _ _ _ ?_
                try dsimp only
                refine @newList_sdL _ _ _ _ _ _ _ _ _ _ _ (by assumption) ?_ (by exact sz_lit rfl); intro _ _ _ _ _
                try dsimp only
                refine @eq_nil _ _ _ _ _ _ _ _ _ _ _ _ _ _ _ (by assumption) (by walk_at "mem") (by walk_at "mem") (by walk_at "un") ?_
                try dsimp only
                refine @wpAny_truthy_bool _ _ _ _ _ _ ?_
                try dsimp only
                (with_reducible show (if _ = true then _ else _)); refine @iteY _ _ _ (by walk_at "yes") ?_
                try dsimp only
                refine @isTrue_and _ _ _ _ _ _ _ _ _ _ ?_
                try dsimp only
                refine @wpAny_isTrue_Compare1 _ _ _ _ _ _ _ _ _ _ _ ?_ (by with_unfolding_all rfl)
                try dsimp only
                refine @listComp_sdL _ _ _ _ _ _ _ _ _ _ _ _ _ _ _ _ _ _ (by assumption) rfl (by decide) rfl (by decide) rfl ?_ (by intro _; rfl); intro _
                try dsimp only
                refine @call_name _ _ _ _ _ _ _ _ _ _ _ _ _ _ _ _ _ _ _ _ _ (by assumption) (by assumption) (by assumption) (by k_is) (by k_is) ?_ (by rfl) (by rfl) (by rfl) (by decide) (by rfl) (by rfl)
                try dsimp only
                refine @spliced_more _ _ _ _ _ _ _ _ _ ?_ (by rfl)
                try dsimp only
                refine @call_name _ _ _ _ _ _ _ _ _ _ _ _ _ _ _ _ _ _ _ _ _ (by assumption) (by assumption) (by assumption) (by k_is) (by k_is) ?_ (by rfl) (by rfl) (by rfl) (by decide) (by rfl) (by rfl)
                try dsimp only
                refine @spliced_more _ _ _ _ _ _ _ _ _ ?_ (by rfl)
                try dsimp only
                refine @nm_local _ _ _ _ _ _ _ _ _ _ _ _ _ (by assumption) (by walk_at "dv") ?_ (by rfl) (by rfl) (by decide)
                try dsimp only
                refine @spliced_more _ _ _ _ _ _ _ _ _ ?_ (by rfl)
                try dsimp only
                refine @nm_local _ _ _ _ _ _ _ _ _ _ _ _ _ (by assumption) (by walk_at "dv") ?_ (by rfl) (by rfl) (by decide)
                try dsimp only
                refine @spliced_none _ _ _ _ _ _ _ ?_
                try dsimp only
                refine ⟨Sd.kIn (by assumption) (by assumption), ?_⟩
                try dsimp only
                rename_i t0 h17 tk18 _ D36 _
                clear D35
                refine ct_apart X TR (by walk_at "hh") (by walk_at "dp") D36 (.tail _ (.tail _ hbp)) (.tail _ (.tail _ (hbk _ e2))) hys e3 (by simp) (fun p hp => pc_len (hpc p hp)) hms1 (Nat.le_refl _) ?_
                clear D36
                intro ta h18 tk19 D37
                refine @spliced_more _ _ _ _ _ _ _ _ _ ?_ (by rfl)
                try dsimp only
                refine @nm_local _ _ _ _ _ _ _ _ _ _ _ _ _ (by assumption) (by walk_at "dv") ?_ (by rfl) (by rfl) (by decide)
                try dsimp only
                refine @spliced_none _ _ _ _ _ _ _ ?_
                try dsimp only
                refine ⟨Sd.kIn (by assumption) (by assumption), ?_⟩
                try dsimp only
                refine ct_fewest X TR (by walk_at "hh") (by walk_at "dp") (by walk_at "un") D37 (.tail _ (.tail _ hbo)) hoO hIO hasc2 (by lia) hsO ?_
                clear D37
                intro r2 v2 n2 h19 tk20 D38 hv2
                have hfl2 := F_len (apart [a, b, c, d] ms)
                generalize F (apart [a, b, c, d] ms) = fl at *
                have hv2l := hv2.len
                skip
                refine lc_anyL (s := sb) (it_L (by walk_at "hh") (D38.get (.head _))) (by lia) D38
                  (fun i ys led' => led' = (r2, listOf v2.toArray n2) :: (t0, listOf #[] 0) :: (I, oI) :: led2 ∧ IVs ys ((fl.take i).filter (fun n => decide (n ≠ 288))))
                  ⟨rfl, .nil⟩ (fun i ys led' hj p hp => by rw [List.mem_singleton.mp hp, hj.1]; exact .head _) ?_ ?_
                · clear D38
                  rintro I2 i ys k oI2 acc C1 fs₁ env1 KE KT v m₁ led₁ h₁ tk₁ hi hPv ⟨rfl, hyz⟩ D39
                  have hi2 : i < fl.length := by lia
                  obtain ⟨tv3, ev3⟩ := IntsAre.get hv2 i ((fl[i] : Nat) : Int) (by unfold zs; rw [List.getElem?_map, List.getElem?_eq_getElem hi2]; rfl)
                  have e5 := Option.some.inj (hPv.symm.trans ev3)
                  subst e5
                  have hfs := filt_step fl hi2
                  generalize fl[i] = N at *
                  by_cases hN : N = 288
                  · rw [if_neg (fun q => q hN), List.append_nil] at hfs
                    refine @tests_one _ _ _ _ _ _ _ ?_
                    try dsimp only
                    refine @wpAny_isTrue_Compare1 _ _ _ _ _ _ _ _ _ _ _ ?_ (by with_unfolding_all rfl)
                    try dsimp only
                    refine @nm_local _ _ _ _ _ _ _ _ _ _ _ _ _ (by assumption) (by walk_at "dv") ?_ (by rfl) (by rfl) (by decide)
                    try dsimp only
                    refine @cst_int _ _ _ _ _ _ _ _ _ ?_; intro _ _
                    try dsimp only
                    with_reducible refine ne_I ?_
                    try dsimp only
                    refine @wpAny_truthy_bool _ _ _ _ _ _ ?_
                    try dsimp only
                    (with_reducible show (if _ = true then _ else _)); refine @iteN _ _ _ (by walk_at "yes") ?_
                    try dsimp only
                    exact ⟨_, _, _, _, rfl, D39, rfl, by rw [hfs]; exact hyz⟩
                  · rw [if_pos hN] at hfs
                    refine @tests_one _ _ _ _ _ _ _ ?_
                    try dsimp only
                    refine @wpAny_isTrue_Compare1 _ _ _ _ _ _ _ _ _ _ _ ?_ (by with_unfolding_all rfl)
                    try dsimp only
                    refine @nm_local _ _ _ _ _ _ _ _ _ _ _ _ _ (by assumption) (by walk_at "dv") ?_ (by rfl) (by rfl) (by decide)
                    try dsimp only
                    refine @cst_int _ _ _ _ _ _ _ _ _ ?_; intro _ _
                    try dsimp only
                    with_reducible refine ne_I ?_
                    try dsimp only
                    refine @wpAny_truthy_bool _ _ _ _ _ _ ?_
                    try dsimp only
                    (with_reducible show (if _ = true then _ else _)); refine @iteY _ _ _ (by walk_at "yes") ?_
                    try dsimp only
                    refine @nm_local _ _ _ _ _ _ _ _ _ _ _ _ _ (by assumption) (by walk_at "dv") ?_ (by rfl) (by rfl) (by decide)
                    try dsimp only
                    exact ⟨_, _, _, _, rfl, D39, rfl, by rw [hfs]; exact hyz.snoc _ _⟩
                · clear D38
                  rintro ys k acc led₁ h₁ tk₁ ⟨rfl, hyz⟩ D39
                  rw [hv2l, List.take_length] at hyz
                  refine @nm_local _ _ _ _ _ _ _ _ _ _ _ _ _ (by assumption) (by walk_at "dv") ?_ (by rfl) (by rfl) (by decide)
                  try dsimp only
                  refine eq_IV D39 (.head _) (.tail _ (.tail _ (.tail _ (.tail _ hbr)))) hyz hv (by walk_at "un") ?_
                  by_cases hq : fl.filter (fun n => decide (n ≠ 288)) = [a, b, c, d].map numOf
                  · rw [if_pos ⟨hdu, hq⟩] at hst
                    rw [decide_eq_true hq]
                    refine @wpAny_truthy_bool _ _ _ _ _ _ ?_
                    try dsimp only
                    (with_reducible show (if _ = true then _ else _)); refine @iteY _ _ _ (by walk_at "yes") ?_
                    try dsimp only
                    refine @isTrue_and_nil _ _ _ _ _ _ _ _ ?_
                    try dsimp only
                    (with_reducible show (if _ = true then _ else _)); refine @iteY _ _ _ (by walk_at "yes") ?_
                    try dsimp only
                    (with_reducible show wpAny _ _ (execs _ _) _ _ _); (try clear kS); with_reducible refine ex_cons ?_; intro kS
                    try dsimp only
                    refine @wpAny_Assign_Name _ _ _ _ _ _ _ _ _ _ ?_ (by rfl)
                    try dsimp only
                    refine @nm_local _ _ _ _ _ _ _ _ _ _ _ _ _ (by assumption) (by walk_at "dv") ?_ (by rfl) (by rfl) (by decide)
                    try dsimp only
                    refine @st_localL _ _ _ _ _ _ _ _ _ _ _ _ (by assumption) ?_ (by rfl) (by rfl); intro _ _ _ _
                    try dsimp only
                    (with_reducible show wpAny _ _ (execs _ _) _ _ _); (try clear kS); with_reducible refine wpAny_execs_nil ?_
                    try dsimp only
                    (with_reducible show wpAny _ _ (execs _ _) _ _ _); (try clear kS); with_reducible refine wpAny_execs_nil ?_
                    try dsimp only
                    rename Sd H _ _ _ _ _ => D40
                    exact ⟨_, _, _, _, rfl, ((D40.drop 0).drop 0).drop 0, ⟨am, nm, um, ms, ⟨rfl, rfl, rfl, rfl, rfl, trivial⟩, rfl, hbk _ e2, e3, hst⟩⟩
                  · rw [if_neg fun q => hq q.2] at hst
                    rw [decide_eq_false hq]
                    refine @wpAny_truthy_bool _ _ _ _ _ _ ?_
                    try dsimp only
                    (with_reducible show (if _ = true then _ else _)); refine @iteN _ _ _ (by walk_at "yes") ?_
                    try dsimp only
                    (with_reducible show (if _ = true then _ else _)); refine @iteN _ _ _ (by walk_at "yes") ?_
                    try dsimp only
                    (with_reducible show wpAny _ _ (execs _ _) _ _ _); (try clear kS); with_reducible refine wpAny_execs_nil ?_
                    try dsimp only
                    (with_reducible show wpAny _ _ (execs _ _) _ _ _); (try clear kS); with_reducible refine wpAny_execs_nil ?_
                    try dsimp only
                    rename Sd H _ _ _ _ _ => D40
                    exact ⟨_, _, _, _, rfl, ((D40.drop 0).drop 0).drop 0, ⟨dl, nd, dv, du, ⟨rfl, rfl, rfl, rfl, rfl, trivial⟩, rfl, hdl, hdv, hst⟩⟩
              · have hde : dv.isEmpty = false := by
                  cases dv with
                  | nil => exact absurd (List.eq_nil_of_length_eq_zero hdvl.symm) hdu
                  | cons _ _ => rfl
                rw [if_neg fun q => hdu q.1] at hst
                (with_reducible show wpAny _ _ (execs _ _) _ _ _); (try clear kS); with_reducible refine ex_cons ?_; intro kS
                try dsimp only
                refine @wpAny_If _ _ _ _ _ _ _ _ _ _ ?_
                try dsimp only
                refine @isTrue_and _ _ _ _ _ _ _ _ _ _ ?_
                try dsimp only
                refine @wpAny_isTrue_Compare1 _ _ _ _ _ _ _ _ _ _ _ ?_ (by with_unfolding_all rfl)
                try dsimp only
                refine @nm_local _ _ _ _ _ _ _ _ _ _ _ _ _ (by assumption) (by walk_at "dv") ?_ (by rfl) (by rfl) (by decide)
                try dsimp only
                refine @List_ _ _ _ _ _ _ _ _ ?_
                try dsimp only
                refine @spliced_none _ _ _ _ _ _ _ ?_
                try dsimp only
                refine @newList_sdL _ _ _ _ _ _ _ _ _ _ _ (by assumption) ?_ (by exact sz_lit rfl); intro _ _ _ _ _
                try dsimp only
                refine @eq_nil _ _ _ _ _ _ _ _ _ _ _ _ _ _ _ (by assumption) (by walk_at "mem") (by walk_at "mem") (by walk_at "un") ?_
                try dsimp only
                refine @wpAny_truthy_bool _ _ _ _ _ _ ?_
                try dsimp only
                (with_reducible show (if _ = true then _ else _)); refine @iteN _ _ _ (by walk_at "yes") ?_
                try dsimp only
                (with_reducible show (if _ = true then _ else _)); refine @iteN _ _ _ (by walk_at "yes") ?_
                try dsimp only
                (with_reducible show wpAny _ _ (execs _ _) _ _ _); (try clear kS); with_reducible refine wpAny_execs_nil ?_
                try dsimp only
                (with_reducible show wpAny _ _ (execs _ _) _ _ _); (try clear kS); with_reducible refine wpAny_execs_nil ?_
                try dsimp only
                rename Sd H _ _ _ _ _ => D36
                exact ⟨_, _, _, _, rfl, D36.drop 0, ⟨dl, nd, dv, du, ⟨rfl, rfl, rfl, rfl, rfl, trivial⟩, rfl, hdl, hdv, hst⟩⟩
            --B
            · rintro m2 led2 h16 tk17 ⟨dl, nd, dv, du, hm2, hB, hdl, hdv, hfold⟩ D34
              rw [hmvl] at hfold
              have hdue : du = dueOf [a, b, c, d] ([a, b, c, d].map numOf) := hfold.symm
              have heq : td = du := htold.trans ((told_due pa pb pc pd).trans hdue.symm)
              have hbt : (lt, listOf tv.toArray nt) ∈ BL := hbl _ (.tail _ (.head _))
              have D35 := D34.lo (l := [("due", .ref dl), ("told", .ref lt)]) ⟨hm2.1, hm2.2.1, trivial⟩
              rw [hB] at D35
              clear D33 D34 hfold hdue htold hml8 hbk hbm hbd hbp hbr hbo
              dsimp only
              (with_reducible show wpAny _ _ (execs _ _) _ _ _); (try clear kS); with_reducible refine ex_cons ?_; intro kS
              try dsimp only
              refine @wpAny_Return_some _ _ _ _ _ _ _ _ ?_
              try dsimp only
              refine BoolOp_and ?_
              refine @wpAny_Compare1 _ _ _ _ _ _ _ _ _ _ ?_ (by with_unfolding_all rfl)
              try dsimp only
              refine @nm_local _ _ _ _ _ _ _ _ _ _ _ _ _ (by assumption) (by walk_at "dv") ?_ (by rfl) (by rfl) (by decide)
              try dsimp only
              refine @nm_local _ _ _ _ _ _ _ _ _ _ _ _ _ (by assumption) (by walk_at "dv") ?_ (by rfl) (by rfl) (by decide)
              try dsimp only
              refine eq_IV D35 hbt hdl htv hdv (by walk_at "un") ?_
              rw [decide_eq_true heq]
              subst hBL
              refine @wpAny_truthy_bool _ _ _ _ _ _ ?_
              try dsimp only
              (with_reducible show (if _ = true then _ else _)); refine @iteY _ _ _ (by walk_at "yes") ?_
              try dsimp only
              refine BoolOp_one ?_
              refine @wpAny_Compare1 _ _ _ _ _ _ _ _ _ _ ?_ (by with_unfolding_all rfl)
              try dsimp only
              refine @listComp_sdL _ _ _ _ _ _ _ _ _ _ _ _ _ _ _ _ _ _ (by assumption) rfl (by decide) rfl (by decide) rfl ?_ (by intro _; rfl); intro _
              try dsimp only
              refine @nm_cell _ _ _ _ _ _ _ _ _ _ _ _ _ _ _ (by assumption) (by walk_at "dv") (by walk_at "mem") (by assumption) ?_ (by rfl) (by rfl) (by decide)
              try dsimp only
              refine lc_anyL (s := sb) (it_D (prog := PR) (w := w) (held := [(dk, ko2)]) (by walk_at "hh") (D35.get (by walk_at "mem")) ho2 hsK (.inl (.head _))) (by lia) D35
                (fun i ys led' => led' = (lm, listOf mv.toArray 0) :: (kl8 ++ (ld, listOf #[] 0) :: (lt, listOf tv.toArray nt) :: (lp, listOf pv.toArray np) :: (dT, oTx) :: (lr, listOf vs.toArray n) :: (od, oo) :: (L + 1 + 1, oK2) :: (L + 1, oT2) :: (57, tabObj ps2) :: (dk, ko2) :: kl2) ∧ ys = [])
                ⟨rfl, rfl⟩ (fun i ys led' hj p hp => by rw [List.mem_singleton.mp hp, hj.1]; walk_at "mem") ?_ ?_
              · clear D35
                rintro I2 i ys k oI2 acc C1 fs₁ env1 KE KT v m₁ led₁ h₁ tk₁ hi ⟨kk, x, tkk, ek, rfl⟩ ⟨rfl, rfl⟩ D39
                obtain ⟨y, hy⟩ : ∃ y, vat kv2 kk = some y := by
                  cases q : vat kv2 kk with
                  | some y => exact ⟨y, rfl⟩
                  | none =>
                    unfold vat at q
                    rw [Option.map_eq_none_iff, List.find?_eq_none] at q
                    exact absurd (decide_eq_true rfl) (q _ (List.mem_of_getElem? ek))
                obtain ⟨tp, t9, l9, vs9, n9, rfl, m9, m10, m11⟩ := hI2 kk y hy
                refine @tests_one _ _ _ _ _ _ _ ?_
                try dsimp only
                refine @wpAny_isTrue_Compare1 _ _ _ _ _ _ _ _ _ _ _ ?_ (by with_unfolding_all rfl)
                try dsimp only
                refine @Subscript_ _ _ _ _ _ _ _ _ _ ?_
                try dsimp only
                refine @Subscript_ _ _ _ _ _ _ _ _ _ ?_
                try dsimp only
                refine @nm_cell _ _ _ _ _ _ _ _ _ _ _ _ _ _ _ (by assumption) (by walk_at "dv") (by walk_at "mem") (by assumption) ?_ (by rfl) (by rfl) (by decide)
                try dsimp only
                refine @nm_local _ _ _ _ _ _ _ _ _ _ _ _ _ (by assumption) (by walk_at "dv") ?_ (by rfl) (by rfl) (by decide)
                try dsimp only
                refine @tail_D _ _ _ _ _ _ _ _ _ _ _ _ _ (Sd.get (by assumption) (by walk_at "mem")) (by assumption) (by assumption) ?_ (by with_unfolding_all rfl); intro _
                try dsimp only
                refine @cst_int _ _ _ _ _ _ _ _ _ ?_; intro _ _
                try dsimp only
                refine @tail_tup _ _ _ _ _ _ _ _ _ _ _ _ _ _ (0) _ _ _ (by assumption) (by walk_at "mem") (by rfl) (by exact rfl) (by walk_at "sz") ?_ (by rfl)
                try dsimp only
                refine @nm_local _ _ _ _ _ _ _ _ _ _ _ _ _ (by assumption) (by walk_at "dv") ?_ (by rfl) (by rfl) (by decide)
                try dsimp only
                with_reducible refine ne_S ?_
                try dsimp only
                refine @wpAny_truthy_bool _ _ _ _ _ _ ?_
                try dsimp only
                (with_reducible show (if _ = true then _ else _)); refine @iteN _ _ _ (by walk_at "yes") ?_
                try dsimp only
                rename Sd H _ _ _ _ _ => D40
                exact ⟨_, _, _, _, rfl, D40, rfl, rfl⟩
              · clear D35
                rintro ys k acc led₁ h₁ tk₁ ⟨rfl, rfl⟩ D39
                refine @List_ _ _ _ _ _ _ _ _ ?_
                try dsimp only
                refine @spliced_none _ _ _ _ _ _ _ ?_
                try dsimp only
                refine @newList_sdL _ _ _ _ _ _ _ _ _ _ _ (by assumption) ?_ (by exact sz_lit rfl); intro _ _ _ _ _
                try dsimp only
                refine @eq_nil _ _ _ _ _ _ _ _ _ _ _ _ _ _ _ (by assumption) (by walk_at "mem") (by walk_at "mem") (by walk_at "un") ?_
                try dsimp only
                rename Sd H _ _ _ _ _ => D40
                exact ⟨_, _, _, ps2, _, rfl, rfl, D40.sub (led' := [(57, tabObj ps2)]) (fun p hp => by rw [List.mem_singleton.mp hp]; walk_at "mem") (by simp)⟩
  · rintro f s' ⟨m', h', tk, ps, led', rfl, rfl, D9⟩
    refine ⟨goodW_bool D9.fr hgens (by intro _; rfl) (post_true _ _), ⟨_, D9.get (.head _)⟩, trivial⟩
end Mine

end

theorem PySem.Challenge.cw_ij0176_01_holds : PySem.Challenge.rw_ij0176_01.Holds := by
  exact Mine.based
