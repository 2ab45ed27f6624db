import PyProof.Rows.All
import Wide.All
import OpenK.AllK
import Wide.FinOn
import PySem.Challenge.RW_rw0099_01

set_option Elab.async false
set_option linter.unusedVariables false
open PySem PySem.W PyProof.Rows

section
set_option maxRecDepth 10000
namespace Mine
/-! the written part of the heap; the trees are the program's own -/
noncomputable def stm (n : Nat) : Stmt := PySem.Challenge.pw_rw0099_01.main.body.getD n default
noncomputable def cst (n : Nat) : Stmt := match stm 3 with
  | .ClassDef _ _ _ b _ _ _ _ _ _ _ => b.getD n default
  | s => s
noncomputable def fdP : Stmt → Arguments
  | .FunctionDef _ p _ _ _ _ _ _ _ _ => p
  | _ => { posonlyargs := [], args := [], vararg := none, kwonlyargs := [], kw_defaults := [], kwarg := none, defaults := [] }
noncomputable def fdB : Stmt → List Stmt
  | .FunctionDef _ _ b _ _ _ _ _ _ _ => b
  | _ => []
noncomputable def fdS : Stmt → Scope
  | .FunctionDef _ _ _ _ _ _ s _ _ _ => s
  | _ => { kind := .function, names := [], isGenerator := false, isCoroutine := false, more := [] }
noncomputable def fdPos : Stmt → Pos
  | .FunctionDef _ _ _ _ _ _ _ _ _ p => p
  | s => s.pos
abbrev sv (x : String) (t : Tok) : Value := .str (Str.ofString x) t
abbrev en (P : Params) (x : String) (t : Tok) (v : Value) : DictEntry := { hash := PyData.keyHash P (Str.ofString x), key := .str (Str.ofString x) t, val := v }
noncomputable def kHeap : Params → Frag := fun P => [
  (2, { cls := .none, data := .dict #[en P "\x69mport.loaded._sre" 183 (.bool true), en P "class._frozen_\x69mportlib.BuiltinImporter" 185 (.ref 14), en P "watched.\x69mport" 206 (.ref 18), en P "class._frozen_\x69mportlib.ModuleSpec" 216 (.ref 22), en P "sys.modules.booked-epoch" 245 (.int 3 0), en P "\x69mport.later-laid._sre" 270 (.bool true), en P "watched.library" 272 (.ref 27), en P "watched.library-objects" 0 (sv "\x0c" 0), en P "watched.library-deep._sre" 273 (sv "\x04\x00\x00\x0b\x04\x00\x00\x0b\x04\x00\x00\x03\x04\x00\x00\x0b\x08\x04dict\x02" 0)] 9 }),
  (3, { cls := .type "dict", data := .dict #[en P "__name__" 165 (sv "law_rw0099_01" 664), en P "__doc__" 166 (.none), en P "__package__" 167 (.none), en P "__loader__" 168 (.builtin "__main__.__loader__#opaque"), en P "__spec__" 169 (.none), en P "__annotations__" 170 (.ref 6), en P "__builtins__" 171 (.ref 4), en P "__file__" 173 (sv "/claim/cut.py" 172), en P "__cached__" 174 (.none), en P "_sre" 275 (.ref 12), en P "_wall" 288 (.ref 38), en P "Whitespace" 390 (.ref 100), en P "_twin_re_1" 408 (.ref 109), en P "_twin_re_2" 450 (.ref 114), en P "CRLF" 452 (sv "\x0d\n" 451), en P "quotedata" 459 (.ref 121), en P "LPAR" 463 (.int 7 462), en P "RPAR" 465 (.int 8 464), en P "LSQB" 467 (.int 9 466), en P "RSQB" 469 (.int 10 468), en P "COLON" 471 (.int 11 470), en P "COMMA" 473 (.int 12 472), en P "SEMI" 475 (.int 13 474), en P "PLUS" 477 (.int 14 476), en P "MINUS" 479 (.int 15 478), en P "STAR" 481 (.int 16 480), en P "SLASH" 483 (.int 17 482), en P "VBAR" 485 (.int 18 484), en P "AMPER" 487 (.int 19 486), en P "LESS" 489 (.int 20 488), en P "GREATER" 491 (.int 21 490), en P "EQUAL" 493 (.int 22 492), en P "DOT" 495 (.int 23 494), en P "PERCENT" 497 (.int 24 496), en P "LBRACE" 499 (.int 25 498), en P "RBRACE" 501 (.int 26 500), en P "EQEQUAL" 503 (.int 27 502), en P "NOTEQUAL" 505 (.int 28 504), en P "LESSEQUAL" 507 (.int 29 506), en P "GREATEREQUAL" 509 (.int 30 508), en P "TILDE" 511 (.int 31 510), en P "CIRCUMFLEX" 513 (.int 32 512), en P "LEFTSHIFT" 515 (.int 33 514), en P "RIGHTSHIFT" 517 (.int 34 516), en P "DOUBLESTAR" 519 (.int 35 518), en P "PLUSEQUAL" 521 (.int 36 520), en P "MINEQUAL" 523 (.int 37 522), en P "STAREQUAL" 525 (.int 38 524), en P "SLASHEQUAL" 527 (.int 39 526), en P "PERCENTEQUAL" 529 (.int 40 528), en P "AMPEREQUAL" 531 (.int 41 530), en P "VBAREQUAL" 533 (.int 42 532), en P "CIRCUMFLEXEQUAL" 535 (.int 43 534), en P "LEFTSHIFTEQUAL" 537 (.int 44 536), en P "RIGHTSHIFTEQUAL" 539 (.int 45 538), en P "DOUBLESTAREQUAL" 541 (.int 46 540), en P "DOUBLESLASH" 543 (.int 47 542), en P "DOUBLESLASHEQUAL" 545 (.int 48 544), en P "AT" 547 (.int 49 546), en P "ATEQUAL" 549 (.int 50 548), en P "RARROW" 551 (.int 51 550), en P "ELLIPSIS" 553 (.int 52 552), en P "COLONEQUAL" 555 (.int 53 554), en P "EXCLAMATION" 557 (.int 54 556), en P "NT_OFFSET" 559 (.int 256 558), en P "EXACT_TOKEN_TYPES" 656 (.ref 122), en P "ISTERMINAL" 663 (.ref 131), en P "_law_columns" 676 (.ref 138), en P "_law_times" 686 (.ref 145), en P "_law_lead" 693 (.ref 152), en P "law" 699 (.ref 157)] 71 }),
  (6, { cls := .type "dict", data := .dict #[]  }),
  (11, { cls := .type "dict", data := .dict #[en P "__name__" 247 (sv "_sre" 246), en P "__doc__" 248 (.none), en P "__package__" 250 (sv "" 249), en P "__loader__" 251 (.builtin "off-the-table:_sre.__loader__:shared#opaque"), en P "__spec__" 252 (.builtin "off-the-table:_sre.__spec__:shared#opaque"), en P "compile" 253 (.builtin "_sre.compile"), en P "template" 254 (.builtin "off-the-table:_sre.template:shared#opaque"), en P "getcodesize" 255 (.builtin "off-the-table:_sre.getcodesize:shared#opaque"), en P "ascii_iscased" 256 (.builtin "off-the-table:_sre.ascii_iscased:shared#opaque"), en P "unicode_iscased" 257 (.builtin "off-the-table:_sre.unicode_iscased:shared#opaque"), en P "ascii_tolower" 258 (.builtin "off-the-table:_sre.ascii_tolower:shared#opaque"), en P "unicode_tolower" 259 (.builtin "off-the-table:_sre.unicode_tolower:shared#opaque"), en P "MAGIC" 261 (.int 20230612 260), en P "CODESIZE" 263 (.int 4 262), en P "MAXREPEAT" 265 (.int 4294967295 264), en P "MAXGROUPS" 267 (.int 1073741823 266), en P "copyright" 269 (sv " SRE 2.2.2 Copyright (c) 1997-2002 by Secret Labs AB " 268)] 17 }),
  (12, { cls := .type "module", dict := some 11 }),
  (32, { cls := .type "tuple", data := .seq #[] }),
  (34, { cls := .type "tuple", data := .seq #[sv "k" 285] }),
  (35, { cls := .type "tuple", data := .seq #[] }),
  (37, { cls := .type "code", data := .fields #[sv "_wall" 282, sv "_wall" 283, sv "/claim/cut.py" 284, .int 2 0, .int 1 0, .int 0 0, .int 0 0, .int 3 0, .ref 32, .bool true, .int 276 0, .ref 33, .none, .ref 34, .ref 35, .ref 36, .int 286 0, .int 2 0, sv "/claim/cut.py" 287] }),
  (38, { cls := .type "function", data := .func { name := Str.ofString "_wall", qualname := Str.ofString "_wall", params := fdP (stm 1), body := .stmts (fdB (stm 1)), scope := fdS (stm 1), globals := 3, closure := [], defaults := .none, kwdefaults := .none, pyModule := sv "__main__" 164, code := .ref 37 } }),
  (49, { cls := .type "tuple", data := .seq #[] }),
  (51, { cls := .type "tuple", data := .seq #[sv "self" 311, sv "ws" 312, sv "S" 313, sv "T" 314, sv "count" 315, sv "b" 316, sv "n" 317, sv "nt" 318, sv "ch" 319] }),
  (52, { cls := .type "tuple", data := .seq #[] }),
  (54, { cls := .type "code", data := .fields #[sv "__init__" 308, sv "Whitespace.__init__" 309, sv "/claim/cut.py" 310, .int 9 0, .int 2 0, .int 0 0, .int 0 0, .int 3 0, .ref 49, .bool true, .int 276 0, .ref 50, .none, .ref 51, .ref 52, .ref 53, .int 320 0, .int 9 0, sv "/claim/cut.py" 321] }),
  (55, { cls := .type "function", data := .func { name := Str.ofString "__init__", qualname := Str.ofString "Whitespace.__init__", params := fdP (cst 1), body := .stmts (fdB (cst 1)), scope := fdS (cst 1), globals := 3, closure := [], defaults := .none, kwdefaults := .none, pyModule := sv "cpy313.tabnanny" 289, code := .ref 54 } }),
  (56, { cls := .type "tuple", data := .seq #[] }),
  (58, { cls := .type "tuple", data := .seq #[sv "self" 326, sv "count" 327, sv "trailing" 328] }),
  (59, { cls := .type "tuple", data := .seq #[] }),
  (61, { cls := .type "code", data := .fields #[sv "longest_run_of_spaces" 323, sv "Whitespace.longest_run_of_spaces" 324, sv "/claim/cut.py" 325, .int 32 0, .int 1 0, .int 0 0, .int 0 0, .int 3 0, .ref 56, .bool true, .int 276 0, .ref 57, .none, .ref 58, .ref 59, .ref 60, .int 329 0, .int 32 0, sv "/claim/cut.py" 330] }),
  (62, { cls := .type "function", data := .func { name := Str.ofString "longest_run_of_spaces", qualname := Str.ofString "Whitespace.longest_run_of_spaces", params := fdP (cst 2), body := .stmts (fdB (cst 2)), scope := fdS (cst 2), globals := 3, closure := [], defaults := .none, kwdefaults := .none, pyModule := sv "cpy313.tabnanny" 289, code := .ref 61 } }),
  (63, { cls := .type "tuple", data := .seq #[] }),
  (65, { cls := .type "tuple", data := .seq #[sv "self" 335, sv "tabsize" 336, sv "count" 337, sv "trailing" 338, sv "il" 339, sv "i" 340] }),
  (66, { cls := .type "tuple", data := .seq #[] }),
  (68, { cls := .type "code", data := .fields #[sv "indent_level" 332, sv "Whitespace.indent_level" 333, sv "/claim/cut.py" 334, .int 36 0, .int 2 0, .int 0 0, .int 0 0, .int 3 0, .ref 63, .bool true, .int 276 0, .ref 64, .none, .ref 65, .ref 66, .ref 67, .int 341 0, .int 36 0, sv "/claim/cut.py" 342] }),
  (69, { cls := .type "function", data := .func { name := Str.ofString "indent_level", qualname := Str.ofString "Whitespace.indent_level", params := fdP (cst 3), body := .stmts (fdB (cst 3)), scope := fdS (cst 3), globals := 3, closure := [], defaults := .none, kwdefaults := .none, pyModule := sv "cpy313.tabnanny" 289, code := .ref 68 } }),
  (70, { cls := .type "tuple", data := .seq #[] }),
  (72, { cls := .type "tuple", data := .seq #[sv "self" 347, sv "other" 348] }),
  (73, { cls := .type "tuple", data := .seq #[] }),
  (75, { cls := .type "code", data := .fields #[sv "equal" 344, sv "Whitespace.equal" 345, sv "/claim/cut.py" 346, .int 43 0, .int 2 0, .int 0 0, .int 0 0, .int 3 0, .ref 70, .bool true, .int 276 0, .ref 71, .none, .ref 72, .ref 73, .ref 74, .int 349 0, .int 43 0, sv "/claim/cut.py" 350] }),
  (76, { cls := .type "function", data := .func { name := Str.ofString "equal", qualname := Str.ofString "Whitespace.equal", params := fdP (cst 4), body := .stmts (fdB (cst 4)), scope := fdS (cst 4), globals := 3, closure := [], defaults := .none, kwdefaults := .none, pyModule := sv "cpy313.tabnanny" 289, code := .ref 75 } }),
  (77, { cls := .type "tuple", data := .seq #[] }),
  (79, { cls := .type "tuple", data := .seq #[sv "self" 355, sv "other" 356] }),
  (80, { cls := .type "tuple", data := .seq #[] }),
  (82, { cls := .type "code", data := .fields #[sv "not_equal_witness" 352, sv "Whitespace.not_equal_witness" 353, sv "/claim/cut.py" 354, .int 46 0, .int 2 0, .int 0 0, .int 0 0, .int 3 0, .ref 77, .bool true, .int 276 0, .ref 78, .none, .ref 79, .ref 80, .ref 81, .int 357 0, .int 46 0, sv "/claim/cut.py" 358] }),
  (83, { cls := .type "function", data := .func { name := Str.ofString "not_equal_witness", qualname := Str.ofString "Whitespace.not_equal_witness", params := fdP (cst 5), body := .stmts (fdB (cst 5)), scope := fdS (cst 5), globals := 3, closure := [], defaults := .none, kwdefaults := .none, pyModule := sv "cpy313.tabnanny" 289, code := .ref 82 } }),
  (84, { cls := .type "tuple", data := .seq #[] }),
  (86, { cls := .type "tuple", data := .seq #[sv "self" 363, sv "other" 364, sv "n" 365, sv "ts" 366] }),
  (87, { cls := .type "tuple", data := .seq #[] }),
  (89, { cls := .type "code", data := .fields #[sv "less" 360, sv "Whitespace.less" 361, sv "/claim/cut.py" 362, .int 49 0, .int 2 0, .int 0 0, .int 0 0, .int 3 0, .ref 84, .bool true, .int 276 0, .ref 85, .none, .ref 86, .ref 87, .ref 88, .int 367 0, .int 49 0, sv "/claim/cut.py" 368] }),
  (90, { cls := .type "function", data := .func { name := Str.ofString "less", qualname := Str.ofString "Whitespace.less", params := fdP (cst 6), body := .stmts (fdB (cst 6)), scope := fdS (cst 6), globals := 3, closure := [], defaults := .none, kwdefaults := .none, pyModule := sv "cpy313.tabnanny" 289, code := .ref 89 } }),
  (91, { cls := .type "tuple", data := .seq #[] }),
  (93, { cls := .type "tuple", data := .seq #[sv "self" 373, sv "other" 374] }),
  (94, { cls := .type "tuple", data := .seq #[] }),
  (96, { cls := .type "code", data := .fields #[sv "not_less_witness" 370, sv "Whitespace.not_less_witness" 371, sv "/claim/cut.py" 372, .int 60 0, .int 2 0, .int 0 0, .int 0 0, .int 3 0, .ref 91, .bool true, .int 276 0, .ref 92, .none, .ref 93, .ref 94, .ref 95, .int 375 0, .int 60 0, sv "/claim/cut.py" 376] }),
  (97, { cls := .type "function", data := .func { name := Str.ofString "not_less_witness", qualname := Str.ofString "Whitespace.not_less_witness", params := fdP (cst 7), body := .stmts (fdB (cst 7)), scope := fdS (cst 7), globals := 3, closure := [], defaults := .none, kwdefaults := .none, pyModule := sv "cpy313.tabnanny" 289, code := .ref 96 } }),
  (98, { cls := .type "tuple", data := .seq #[sv "is_simple" 378, sv "n" 379, sv "norm" 380, sv "nt" 381, sv "raw" 382] }),
  (99, { cls := .type "dict", data := .dict #[en P "__module__" 298 (sv "cpy313.tabnanny" 289), en P "__firstlineno__" 302 (.int 6 301), en P "S" 306 (sv " " 304), en P "T" 307 (sv "\t" 305), en P "__init__" 322 (.ref 55), en P "longest_run_of_spaces" 331 (.ref 62), en P "indent_level" 343 (.ref 69), en P "equal" 351 (.ref 76), en P "not_equal_witness" 359 (.ref 83), en P "less" 369 (.ref 90), en P "not_less_witness" 377 (.ref 97), en P "__static_attributes__" 383 (.ref 98), en P "__dict__" 385 (.ref 101), en P "__weakref__" 387 (.ref 102), en P "__doc__" 388 (.none)] 4 }),
  (100, { cls := .type "type", data := .cls {name := Str.ofString "Whitespace", bases := [Value.type "object"], mro := [Value.ref 100, Value.type "object"], ns := 99, qualname := Str.ofString "Whitespace"}, slots := #[none, none, some (Value.str (Str.ofString "Whitespace") 291), some (Value.str (Str.ofString "Whitespace") 299), some (Value.builtin "object.__new__"), some (Value.bool true)] }),
  (101, { cls := .type "getset_descriptor", data := .fields #[sv "__dict__" 384, .ref 100, .builtin "function.__dict__", .builtin "function.__dict__#set"] }),
  (102, { cls := .type "getset_descriptor", data := .fields #[sv "__weakref__" 386, .ref 100, .builtin "ExceptionGroup.__weakref__", .none] }),
  (108, { cls := .type "tuple", data := .seq #[.int 14 0, .int 4 0, .int 0 0, .int 1 0, .int 1 0, .int 6 0, .int 1 0, .int 16 0, .int 46 0, .int 1 0] }),
  (109, { cls := .type "re.Pattern", data := .fields #[sv "(?m)^\\." 394, .int 40 407, .int 0 0, .none, .none, .ref 108, .int 0 0] }),
  (113, { cls := .type "tuple", data := .seq #[.int 14 0, .int 9 0, .int 4 0, .int 1 0, .int 2 0, .int 16 0, .int 10 0, .int 16 0, .int 13 0, .int 0 0, .int 7 0, .int 7 0, .int 16 0, .int 13 0, .int 16 0, .int 10 0, .int 15 0, .int 18 0, .int 5 0, .int 16 0, .int 10 0, .int 15 0, .int 13 0, .int 11 0, .int 16 0, .int 13 0, .int 5 0, .int 5 0, .int 0 0, .int 16 0, .int 10 0, .int 1 0, .int 15 0, .int 2 0, .int 0 0, .int 1 0] }),
  (114, { cls := .type "re.Pattern", data := .fields #[sv "(?:\\r\\n|\\n|\\r(?!\\n))" 410, .int 32 449, .int 0 0, .none, .none, .ref 113, .int 0 0] }),
  (115, { cls := .type "tuple", data := .seq #[] }),
  (117, { cls := .type "tuple", data := .seq #[sv "data" 456] }),
  (118, { cls := .type "tuple", data := .seq #[] }),
  (120, { cls := .type "code", data := .fields #[sv "quotedata" 453, sv "quotedata" 454, sv "/claim/cut.py" 455, .int 66 0, .int 1 0, .int 0 0, .int 0 0, .int 3 0, .ref 115, .bool true, .int 276 0, .ref 116, .none, .ref 117, .ref 118, .ref 119, .int 457 0, .int 66 0, sv "/claim/cut.py" 458] }),
  (121, { cls := .type "function", data := .func { name := Str.ofString "quotedata", qualname := Str.ofString "quotedata", params := fdP (stm 8), body := .stmts (fdB (stm 8)), scope := fdS (stm 8), globals := 3, closure := [], defaults := .none, kwdefaults := .none, pyModule := sv "cpy313.smtplib" 391, code := .ref 120 } }),
  (122, { cls := .type "dict", data := .dict #[en P "!" 560 (.int 54 556), en P "!=" 562 (.int 28 504), en P "%" 564 (.int 24 496), en P "%=" 566 (.int 40 528), en P "&" 568 (.int 19 486), en P "&=" 570 (.int 41 530), en P "(" 572 (.int 7 462), en P ")" 574 (.int 8 464), en P "*" 576 (.int 16 480), en P "**" 578 (.int 35 518), en P "**=" 580 (.int 46 540), en P "*=" 582 (.int 38 524), en P "+" 584 (.int 14 476), en P "+=" 586 (.int 36 520), en P "," 588 (.int 12 472), en P "-" 590 (.int 15 478), en P "-=" 592 (.int 37 522), en P "->" 594 (.int 51 550), en P "." 596 (.int 23 494), en P "..." 598 (.int 52 552), en P "/" 600 (.int 17 482), en P "//" 602 (.int 47 542), en P "//=" 604 (.int 48 544), en P "/=" 606 (.int 39 526), en P ":" 608 (.int 11 470), en P ":=" 610 (.int 53 554), en P ";" 612 (.int 13 474), en P "<" 614 (.int 20 488), en P "<<" 616 (.int 33 514), en P "<<=" 618 (.int 44 536), en P "<=" 620 (.int 29 506), en P "=" 622 (.int 22 492), en P "==" 624 (.int 27 502), en P ">" 626 (.int 21 490), en P ">=" 628 (.int 30 508), en P ">>" 629 (.int 34 516), en P ">>=" 630 (.int 45 538), en P "@" 631 (.int 49 546), en P "@=" 632 (.int 50 548), en P "[" 633 (.int 9 466), en P "]" 634 (.int 10 468), en P "^" 635 (.int 32 512), en P "^=" 636 (.int 43 534), en P "{" 637 (.int 25 498), en P "|" 638 (.int 18 484), en P "|=" 639 (.int 42 532), en P "}" 640 (.int 26 500), en P "~" 641 (.int 31 510)] 48 }),
  (125, { cls := .type "tuple", data := .seq #[] }),
  (127, { cls := .type "tuple", data := .seq #[sv "x" 660] }),
  (128, { cls := .type "tuple", data := .seq #[] }),
  (130, { cls := .type "code", data := .fields #[sv "ISTERMINAL" 657, sv "ISTERMINAL" 658, sv "/claim/cut.py" 659, .int 119 0, .int 1 0, .int 0 0, .int 0 0, .int 3 0, .ref 125, .bool true, .int 276 0, .ref 126, .none, .ref 127, .ref 128, .ref 129, .int 661 0, .int 119 0, sv "/claim/cut.py" 662] }),
  (131, { cls := .type "function", data := .func { name := Str.ofString "ISTERMINAL", qualname := Str.ofString "ISTERMINAL", params := fdP (stm 60), body := .stmts (fdB (stm 60)), scope := fdS (stm 60), globals := 3, closure := [], defaults := .none, kwdefaults := .none, pyModule := sv "cpy313.token" 460, code := .ref 130 } }),
  (132, { cls := .type "tuple", data := .seq #[] }),
  (134, { cls := .type "tuple", data := .seq #[sv "lead" 669, sv "columns" 670, sv "size" 671, sv "column" 672, sv "sign" 673] }),
  (135, { cls := .type "tuple", data := .seq #[] }),
  (137, { cls := .type "code", data := .fields #[sv "_law_columns" 666, sv "_law_columns" 667, sv "/claim/cut.py" 668, .int 122 0, .int 1 0, .int 0 0, .int 0 0, .int 3 0, .ref 132, .bool true, .int 276 0, .ref 133, .none, .ref 134, .ref 135, .ref 136, .int 674 0, .int 122 0, sv "/claim/cut.py" 675] }),
  (138, { cls := .type "function", data := .func { name := Str.ofString "_law_columns", qualname := Str.ofString "_law_columns", params := fdP (stm 62), body := .stmts (fdB (stm 62)), scope := fdS (stm 62), globals := 3, closure := [], defaults := .none, kwdefaults := .none, pyModule := sv "law_rw0099_01" 664, code := .ref 137 } }),
  (139, { cls := .type "tuple", data := .seq #[] }),
  (141, { cls := .type "tuple", data := .seq #[sv "mail" 680, sv "size" 681, sv "whole" 682, sv "turn" 683] }),
  (142, { cls := .type "tuple", data := .seq #[] }),
  (144, { cls := .type "code", data := .fields #[sv "_law_times" 677, sv "_law_times" 678, sv "/claim/cut.py" 679, .int 130 0, .int 2 0, .int 0 0, .int 0 0, .int 3 0, .ref 139, .bool true, .int 276 0, .ref 140, .none, .ref 141, .ref 142, .ref 143, .int 684 0, .int 130 0, sv "/claim/cut.py" 685] }),
  (145, { cls := .type "function", data := .func { name := Str.ofString "_law_times", qualname := Str.ofString "_law_times", params := fdP (stm 63), body := .stmts (fdB (stm 63)), scope := fdS (stm 63), globals := 3, closure := [], defaults := .none, kwdefaults := .none, pyModule := sv "law_rw0099_01" 664, code := .ref 144 } }),
  (146, { cls := .type "tuple", data := .seq #[] }),
  (148, { cls := .type "tuple", data := .seq #[sv "mail" 690] }),
  (149, { cls := .type "tuple", data := .seq #[] }),
  (151, { cls := .type "code", data := .fields #[sv "_law_lead" 687, sv "_law_lead" 688, sv "/claim/cut.py" 689, .int 136 0, .int 1 0, .int 0 0, .int 0 0, .int 3 0, .ref 146, .bool true, .int 276 0, .ref 147, .none, .ref 148, .ref 149, .ref 150, .int 691 0, .int 136 0, sv "/claim/cut.py" 692] }),
  (152, { cls := .type "function", data := .func { name := Str.ofString "_law_lead", qualname := Str.ofString "_law_lead", params := fdP (stm 64), body := .stmts (fdB (stm 64)), scope := fdS (stm 64), globals := 3, closure := [], defaults := .none, kwdefaults := .none, pyModule := sv "law_rw0099_01" 664, code := .ref 151 } }),
  (153, { cls := .type "tuple", data := .seq #[] }),
  (156, { cls := .type "code", data := .fields #[sv "law" 694, sv "law" 695, sv "/claim/cut.py" 696, .int 138 0, .int 1 0, .int 0 0, .int 0 0, .int 3 0, .ref 153, .bool true, .int 276 0, .ref 154, .none, .none, .none, .ref 155, .int 697 0, .int 138 0, sv "/claim/cut.py" 698] }),
  (157, { cls := .type "function", data := .func { name := Str.ofString "law", qualname := Str.ofString "law", params := fdP (stm 65), body := .stmts (fdB (stm 65)), scope := fdS (stm 65), globals := 3, closure := [], defaults := .none, kwdefaults := .none, pyModule := sv "law_rw0099_01" 664, code := .ref 156 } })]
end Mine
end

section
set_option maxRecDepth 100000
set_option maxHeartbeats 0


namespace Mine
/-! the head: what the top leaves behind, by the kernel, world by world -/
noncomputable abbrev pwR : OpenRow := PySem.Challenge.rw_rw0099_01.row
def keepL : List Nat := (List.range 66).filter fun i => i != 3 && i != 5 && i != 6 && i != 59
noncomputable def vw : Program := view PySem.Challenge.pw_rw0099_01 keepL
abbrev looseL : List Str := [Str.ofString "Whitespace", Str.ofString "_twin_re_1", Str.ofString "_twin_re_2", Str.ofString "EXACT_TOKEN_TYPES"]
abbrev adrs : List Addr := [2, 3, 6, 11, 12, 32, 34, 35, 37, 38, 49, 51, 52, 54, 55, 56, 58, 59, 61, 62, 63, 65, 66, 68, 69, 70, 72, 73, 75, 76, 77, 79, 80, 82, 83, 84, 86, 87, 89, 90, 91, 93, 94, 96, 97, 98, 99, 100, 101, 102, 108, 109, 113, 114, 115, 117, 118, 120, 121, 122, 125, 127, 128, 130, 131, 132, 134, 135, 137, 138, 139, 141, 142, 144, 145, 146, 148, 149, 151, 152, 153, 156, 157]
noncomputable abbrev lawDef : DefRec := ⟨Str.ofString "law", fdP (stm 65), fdB (stm 65), fdS (stm 65), fdPos (stm 65)⟩
abbrev st (l : List Nat) : Str := ⟨⟨l⟩⟩
abbrev sN (l : List Nat) (t : Tok) : Value := .str ⟨⟨l⟩⟩ t
abbrev eN (P : Params) (l : List Nat) (t : Tok) (v : Value) : DictEntry := { hash := PyData.keyHash P ⟨⟨l⟩⟩, key := .str ⟨⟨l⟩⟩ t, val := v }
noncomputable def z0 (P : Params) : Obj := { cls := .type "dict", data := .dict #[eN P [95,95,110,97,109,101,95,95] 1 (sN [98,117,105,108,116,105,110,115] 160), eN P [95,95,100,111,99,95,95] 2 (.builtin "builtins.__doc__:str#opaque"), eN P [95,95,112,97,99,107,97,103,101,95,95] 3 (.builtin "builtins.__package__:str#opaque"), eN P [95,95,108,111,97,100,101,114,95,95] 4 (.builtin "builtins.__loader__:shared#opaque"), eN P [95,95,115,112,101,99,95,95] 5 (.builtin "builtins.__spec__#opaque"), eN P [95,95,98,117,105,108,100,95,99,108,97,115,115,95,95] 6 (.builtin "__build_class__"), eN P [95,95,105,109,112,111,114,116,95,95] 7 (.builtin "__\x69mport__"), eN P [97,98,115] 8 (.builtin "abs"), eN P [97,108,108] 9 (.builtin "all"), eN P [97,110,121] 10 (.builtin "any"), eN P [97,115,99,105,105] 11 (.builtin "ascii"), eN P [98,105,110] 12 (.builtin "bin"), eN P [98,114,101,97,107,112,111,105,110,116] 13 (.builtin "breakpoint"), eN P [99,97,108,108,97,98,108,101] 14 (.builtin "callable"), eN P [99,104,114] 15 (.builtin "chr"), eN P [99,111,109,112,105,108,101] 16 (.builtin "compile"), eN P [100,101,108,97,116,116,114] 17 (.builtin "delattr"), eN P [100,105,114] 18 (.builtin "dir"), eN P [100,105,118,109,111,100] 19 (.builtin "divmod"), eN P [101,118,97,108] 20 (.builtin "eval"), eN P [101,120,101,99] 21 (.builtin "exec"), eN P [102,111,114,109,97,116] 22 (.builtin "format"), eN P [103,101,116,97,116,116,114] 23 (.builtin "getattr"), eN P [103,108,111,98,97,108,115] 24 (.builtin "globals"), eN P [104,97,115,97,116,116,114] 25 (.builtin "hasattr"), eN P [104,97,115,104] 26 (.builtin "hash"), eN P [104,101,120] 27 (.builtin "hex"), eN P [105,100] 28 (.builtin "id"), eN P [105,110,112,117,116] 29 (.builtin "input"), eN P [105,115,105,110,115,116,97,110,99,101] 30 (.builtin "isinstance"), eN P [105,115,115,117,98,99,108,97,115,115] 31 (.builtin "issubclass"), eN P [105,116,101,114] 32 (.builtin "iter"), eN P [97,105,116,101,114] 33 (.builtin "aiter"), eN P [108,101,110] 34 (.builtin "len"), eN P [108,111,99,97,108,115] 35 (.builtin "locals"), eN P [109,97,120] 36 (.builtin "max"), eN P [109,105,110] 37 (.builtin "min"), eN P [110,101,120,116] 38 (.builtin "next"), eN P [97,110,101,120,116] 39 (.builtin "anext"), eN P [111,99,116] 40 (.builtin "oct"), eN P [111,114,100] 41 (.builtin "ord"), eN P [112,111,119] 42 (.builtin "pow"), eN P [112,114,105,110,116] 43 (.builtin "print"), eN P [114,101,112,114] 44 (.builtin "repr"), eN P [114,111,117,110,100] 45 (.builtin "round"), eN P [115,101,116,97,116,116,114] 46 (.builtin "setattr"), eN P [115,111,114,116,101,100] 47 (.builtin "sorted"), eN P [115,117,109] 48 (.builtin "sum"), eN P [118,97,114,115] 49 (.builtin "vars"), eN P [78,111,110,101] 50 (.none), eN P [69,108,108,105,112,115,105,115] 51 (Value.ellipsis), eN P [78,111,116,73,109,112,108,101,109,101,110,116,101,100] 52 (Value.notImplemented), eN P [70,97,108,115,101] 53 (.bool false), eN P [84,114,117,101] 54 (.bool true), eN P [98,111,111,108] 55 (.type "bool"), eN P [109,101,109,111,114,121,118,105,101,119] 56 (.type "memoryview"), eN P [98,121,116,101,97,114,114,97,121] 57 (.type "bytearray"), eN P [98,121,116,101,115] 58 (.type "bytes"), eN P [99,108,97,115,115,109,101,116,104,111,100] 59 (.type "classmethod"), eN P [99,111,109,112,108,101,120] 60 (.type "complex"), eN P [100,105,99,116] 61 (.type "dict"), eN P [101,110,117,109,101,114,97,116,101] 62 (.type "enumerate"), eN P [102,105,108,116,101,114] 63 (.type "filter"), eN P [102,108,111,97,116] 64 (.type "float"), eN P [102,114,111,122,101,110,115,101,116] 65 (.type "frozenset"), eN P [112,114,111,112,101,114,116,121] 66 (.type "property"), eN P [105,110,116] 67 (.type "int"), eN P [108,105,115,116] 68 (.type "list"), eN P [109,97,112] 69 (.type "map"), eN P [111,98,106,101,99,116] 70 (.type "object"), eN P [114,97,110,103,101] 71 (.type "range"), eN P [114,101,118,101,114,115,101,100] 72 (.type "reversed"), eN P [115,101,116] 73 (.type "set"), eN P [115,108,105,99,101] 74 (.type "slice"), eN P [115,116,97,116,105,99,109,101,116,104,111,100] 75 (.type "staticmethod"), eN P [115,116,114] 76 (.type "str"), eN P [115,117,112,101,114] 77 (.type "super"), eN P [116,117,112,108,101] 78 (.type "tuple"), eN P [116,121,112,101] 79 (.type "type"), eN P [122,105,112] 80 (.type "zip"), eN P [95,95,100,101,98,117,103,95,95] 81 (.bool true), eN P [66,97,115,101,69,120,99,101,112,116,105,111,110] 82 (.type "BaseException"), eN P [66,97,115,101,69,120,99,101,112,116,105,111,110,71,114,111,117,112] 83 (.type "BaseExceptionGroup"), eN P [69,120,99,101,112,116,105,111,110] 84 (.type "Exception"), eN P [71,101,110,101,114,97,116,111,114,69,120,105,116] 85 (.type "GeneratorExit"), eN P [75,101,121,98,111,97,114,100,73,110,116,101,114,114,117,112,116] 86 (.type "KeyboardInterrupt"), eN P [83,121,115,116,101,109,69,120,105,116] 87 (.type "SystemExit"), eN P [65,114,105,116,104,109,101,116,105,99,69,114,114,111,114] 88 (.type "ArithmeticError"), eN P [65,115,115,101,114,116,105,111,110,69,114,114,111,114] 89 (.type "AssertionError"), eN P [65,116,116,114,105,98,117,116,101,69,114,114,111,114] 90 (.type "AttributeError"), eN P [66,117,102,102,101,114,69,114,114,111,114] 91 (.type "BufferError"), eN P [69,79,70,69,114,114,111,114] 92 (.type "EOFError"), eN P [73,109,112,111,114,116,69,114,114,111,114] 93 (.type "ImportError"), eN P [76,111,111,107,117,112,69,114,114,111,114] 94 (.type "LookupError"), eN P [77,101,109,111,114,121,69,114,114,111,114] 95 (.type "MemoryError"), eN P [78,97,109,101,69,114,114,111,114] 96 (.type "NameError"), eN P [79,83,69,114,114,111,114] 97 (.type "OSError"), eN P [82,101,102,101,114,101,110,99,101,69,114,114,111,114] 98 (.type "ReferenceError"), eN P [82,117,110,116,105,109,101,69,114,114,111,114] 99 (.type "RuntimeError"), eN P [83,116,111,112,65,115,121,110,99,73,116,101,114,97,116,105,111,110] 100 (.type "StopAsyncIteration"), eN P [83,116,111,112,73,116,101,114,97,116,105,111,110] 101 (.type "StopIteration"), eN P [83,121,110,116,97,120,69,114,114,111,114] 102 (.type "SyntaxError"), eN P [83,121,115,116,101,109,69,114,114,111,114] 103 (.type "SystemError"), eN P [84,121,112,101,69,114,114,111,114] 104 (.type "TypeError"), eN P [86,97,108,117,101,69,114,114,111,114] 105 (.type "ValueError"), eN P [87,97,114,110,105,110,103] 106 (.type "Warning"), eN P [70,108,111,97,116,105,110,103,80,111,105,110,116,69,114,114,111,114] 107 (.type "FloatingPointError"), eN P [79,118,101,114,102,108,111,119,69,114,114,111,114] 108 (.type "OverflowError"), eN P [90,101,114,111,68,105,118,105,115,105,111,110,69,114,114,111,114] 109 (.type "ZeroDivisionError"), eN P [66,121,116,101,115,87,97,114,110,105,110,103] 110 (.type "BytesWarning"), eN P [68,101,112,114,101,99,97,116,105,111,110,87,97,114,110,105,110,103] 111 (.type "DeprecationWarning"), eN P [69,110,99,111,100,105,110,103,87,97,114,110,105,110,103] 112 (.type "EncodingWarning"), eN P [70,117,116,117,114,101,87,97,114,110,105,110,103] 113 (.type "FutureWarning"), eN P [73,109,112,111,114,116,87,97,114,110,105,110,103] 114 (.type "ImportWarning"), eN P [80,101,110,100,105,110,103,68,101,112,114,101,99,97,116,105,111,110,87,97,114,110,105,110,103] 115 (.type "PendingDeprecationWarning"), eN P [82,101,115,111,117,114,99,101,87,97,114,110,105,110,103] 116 (.type "ResourceWarning"), eN P [82,117,110,116,105,109,101,87,97,114,110,105,110,103] 117 (.type "RuntimeWarning"), eN P [83,121,110,116,97,120,87,97,114,110,105,110,103] 118 (.type "SyntaxWarning"), eN P [85,110,105,99,111,100,101,87,97,114,110,105,110,103] 119 (.type "UnicodeWarning"), eN P [85,115,101,114,87,97,114,110,105,110,103] 120 (.type "UserWarning"), eN P [66,108,111,99,107,105,110,103,73,79,69,114,114,111,114] 121 (.type "BlockingIOError"), eN P [67,104,105,108,100,80,114,111,99,101,115,115,69,114,114,111,114] 122 (.type "ChildProcessError"), eN P [67,111,110,110,101,99,116,105,111,110,69,114,114,111,114] 123 (.type "ConnectionError"), eN P [70,105,108,101,69,120,105,115,116,115,69,114,114,111,114] 124 (.type "FileExistsError"), eN P [70,105,108,101,78,111,116,70,111,117,110,100,69,114,114,111,114] 125 (.type "FileNotFoundError"), eN P [73,110,116,101,114,114,117,112,116,101,100,69,114,114,111,114] 126 (.type "InterruptedError"), eN P [73,115,65,68,105,114,101,99,116,111,114,121,69,114,114,111,114] 127 (.type "IsADirectoryError"), eN P [78,111,116,65,68,105,114,101,99,116,111,114,121,69,114,114,111,114] 128 (.type "NotADirectoryError"), eN P [80,101,114,109,105,115,115,105,111,110,69,114,114,111,114] 129 (.type "PermissionError"), eN P [80,114,111,99,101,115,115,76,111,111,107,117,112,69,114,114,111,114] 130 (.type "ProcessLookupError"), eN P [84,105,109,101,111,117,116,69,114,114,111,114] 131 (.type "TimeoutError"), eN P [73,110,100,101,110,116,97,116,105,111,110,69,114,114,111,114] 132 (.type "IndentationError"), eN P [95,73,110,99,111,109,112,108,101,116,101,73,110,112,117,116,69,114,114,111,114] 133 (.type "_IncompleteInputError"), eN P [73,110,100,101,120,69,114,114,111,114] 134 (.type "IndexError"), eN P [75,101,121,69,114,114,111,114] 135 (.type "KeyError"), eN P [77,111,100,117,108,101,78,111,116,70,111,117,110,100,69,114,114,111,114] 136 (.type "ModuleNotFoundError"), eN P [78,111,116,73,109,112,108,101,109,101,110,116,101,100,69,114,114,111,114] 137 (.type "NotImplementedError"), eN P [80,121,116,104,111,110,70,105,110,97,108,105,122,97,116,105,111,110,69,114,114,111,114] 138 (.type "PythonFinalizationError"), eN P [82,101,99,117,114,115,105,111,110,69,114,114,111,114] 139 (.type "RecursionError"), eN P [85,110,98,111,117,110,100,76,111,99,97,108,69,114,114,111,114] 140 (.type "UnboundLocalError"), eN P [85,110,105,99,111,100,101,69,114,114,111,114] 141 (.type "UnicodeError"), eN P [66,114,111,107,101,110,80,105,112,101,69,114,114,111,114] 142 (.type "BrokenPipeError"), eN P [67,111,110,110,101,99,116,105,111,110,65,98,111,114,116,101,100,69,114,114,111,114] 143 (.type "ConnectionAbortedError"), eN P [67,111,110,110,101,99,116,105,111,110,82,101,102,117,115,101,100,69,114,114,111,114] 144 (.type "ConnectionRefusedError"), eN P [67,111,110,110,101,99,116,105,111,110,82,101,115,101,116,69,114,114,111,114] 145 (.type "ConnectionResetError"), eN P [84,97,98,69,114,114,111,114] 146 (.type "TabError"), eN P [85,110,105,99,111,100,101,68,101,99,111,100,101,69,114,114,111,114] 147 (.type "UnicodeDecodeError"), eN P [85,110,105,99,111,100,101,69,110,99,111,100,101,69,114,114,111,114] 148 (.type "UnicodeEncodeError"), eN P [85,110,105,99,111,100,101,84,114,97,110,115,108,97,116,101,69,114,114,111,114] 149 (.type "UnicodeTranslateError"), eN P [69,120,99,101,112,116,105,111,110,71,114,111,117,112] 150 (.type "ExceptionGroup"), eN P [69,110,118,105,114,111,110,109,101,110,116,69,114,114,111,114] 151 (.type "OSError"), eN P [73,79,69,114,114,111,114] 152 (.type "OSError"), eN P [111,112,101,110] 153 (.builtin "open"), eN P [113,117,105,116] 154 (.builtin "builtins.quit#opaque"), eN P [101,120,105,116] 155 (.builtin "builtins.exit#opaque"), eN P [99,111,112,121,114,105,103,104,116] 156 (.builtin "builtins.copyright#opaque"), eN P [99,114,101,100,105,116,115] 157 (.builtin "builtins.credits#opaque"), eN P [108,105,99,101,110,115,101] 158 (.builtin "builtins.license#opaque"), eN P [104,101,108,112] 159 (.builtin "builtins.help#opaque")] 159 }
noncomputable def z1 (P : Params) : Obj := { cls := .type "dict", data := .dict #[eN P [98,117,105,108,116,105,110,115] 162 (.ref 4), eN P [95,95,109,97,105,110,95,95] 163 (.ref 5), eN P [95,115,114,101] 244 (.ref 12)] 3 }
noncomputable def z2 (P : Params) : Obj := { cls := .none, data := .dict #[eN P [105,109,112,111,114,116,46,108,111,97,100,101,100,46,95,115,114,101] 183 (.bool true), eN P [99,108,97,115,115,46,95,102,114,111,122,101,110,95,105,109,112,111,114,116,108,105,98,46,66,117,105,108,116,105,110,73,109,112,111,114,116,101,114] 185 (.ref 14), eN P [119,97,116,99,104,101,100,46,105,109,112,111,114,116] 206 (.ref 18), eN P [99,108,97,115,115,46,95,102,114,111,122,101,110,95,105,109,112,111,114,116,108,105,98,46,77,111,100,117,108,101,83,112,101,99] 216 (.ref 22), eN P [115,121,115,46,109,111,100,117,108,101,115,46,98,111,111,107,101,100,45,101,112,111,99,104] 245 (.int 3 0), eN P [105,109,112,111,114,116,46,108,97,116,101,114,45,108,97,105,100,46,95,115,114,101] 270 (.bool true), eN P [119,97,116,99,104,101,100,46,108,105,98,114,97,114,121] 272 (.ref 27), eN P [119,97,116,99,104,101,100,46,108,105,98,114,97,114,121,45,111,98,106,101,99,116,115] 0 (sN [12] 0), eN P [119,97,116,99,104,101,100,46,108,105,98,114,97,114,121,45,100,101,101,112,46,95,115,114,101] 273 (sN [4,0,0,11,4,0,0,11,4,0,0,3,4,0,0,11,8,4,100,105,99,116,2] 0)] 9 }
noncomputable def z3 (P : Params) : Obj := { cls := .type "dict", data := .dict #[eN P [95,95,110,97,109,101,95,95] 165 (sN [95,95,109,97,105,110,95,95] 164), eN P [95,95,100,111,99,95,95] 166 (.none), eN P [95,95,112,97,99,107,97,103,101,95,95] 167 (.none), eN P [95,95,108,111,97,100,101,114,95,95] 168 (.builtin "__main__.__loader__#opaque"), eN P [95,95,115,112,101,99,95,95] 169 (.none), eN P [95,95,97,110,110,111,116,97,116,105,111,110,115,95,95] 170 (.ref 6), eN P [95,95,98,117,105,108,116,105,110,115,95,95] 171 (.ref 4), eN P [95,95,102,105,108,101,95,95] 173 (sN [47,99,108,97,105,109,47,99,117,116,46,112,121] 172), eN P [95,95,99,97,99,104,101,100,95,95] 174 (.none), eN P [95,115,114,101] 275 (.ref 12)] 10 }
noncomputable def z4 (P : Params) : Obj := { cls := .type "module", dict := some 0 }
noncomputable def z5 (P : Params) : Obj := { cls := .type "module", dict := some 3 }
noncomputable def z6 (P : Params) : Obj := { cls := .type "dict", data := .dict #[]  }
noncomputable def z7 (P : Params) : Obj := { cls := .type "tuple", data := .seq #[] }
noncomputable def z8 (P : Params) : Obj := { cls := .none, data := .fields #[] }
noncomputable def z9 (P : Params) : Obj := { cls := .type "code", data := .fields #[sN [60,109,111,100,117,108,101,62] 176, sN [60,109,111,100,117,108,101,62] 177, sN [47,99,108,97,105,109,47,99,117,116,46,112,121] 178, .int 1 0, .int 0 0, .int 0 0, .int 0 0, .int 0 0, .ref 7, .bool false, .int 175 0, .ref 8, .none, .none, .none, .none, .int 179 0, .int 1 0, sN [47,99,108,97,105,109,47,99,117,116,46,112,121] 180] }
noncomputable def z10 (P : Params) : Obj := { cls := .type "frame", slots := #[some (Value.ref 9), some (Value.ref 3), some (Value.ref 3), none, some (Value.str (st [95,95,109,97,105,110,95,95]) 164), none, some (Value.ref 0)] }
noncomputable def z11 (P : Params) : Obj := { cls := .type "dict", data := .dict #[eN P [95,95,110,97,109,101,95,95] 247 (sN [95,115,114,101] 246), eN P [95,95,100,111,99,95,95] 248 (.none), eN P [95,95,112,97,99,107,97,103,101,95,95] 250 (sN [] 249), eN P [95,95,108,111,97,100,101,114,95,95] 251 (.builtin "off-the-table:_sre.__loader__:shared#opaque"), eN P [95,95,115,112,101,99,95,95] 252 (.builtin "off-the-table:_sre.__spec__:shared#opaque"), eN P [99,111,109,112,105,108,101] 253 (.builtin "_sre.compile"), eN P [116,101,109,112,108,97,116,101] 254 (.builtin "off-the-table:_sre.template:shared#opaque"), eN P [103,101,116,99,111,100,101,115,105,122,101] 255 (.builtin "off-the-table:_sre.getcodesize:shared#opaque"), eN P [97,115,99,105,105,95,105,115,99,97,115,101,100] 256 (.builtin "off-the-table:_sre.ascii_iscased:shared#opaque"), eN P [117,110,105,99,111,100,101,95,105,115,99,97,115,101,100] 257 (.builtin "off-the-table:_sre.unicode_iscased:shared#opaque"), eN P [97,115,99,105,105,95,116,111,108,111,119,101,114] 258 (.builtin "off-the-table:_sre.ascii_tolower:shared#opaque"), eN P [117,110,105,99,111,100,101,95,116,111,108,111,119,101,114] 259 (.builtin "off-the-table:_sre.unicode_tolower:shared#opaque"), eN P [77,65,71,73,67] 261 (.int 20230612 260), eN P [67,79,68,69,83,73,90,69] 263 (.int 4 262), eN P [77,65,88,82,69,80,69,65,84] 265 (.int 4294967295 264), eN P [77,65,88,71,82,79,85,80,83] 267 (.int 1073741823 266), eN P [99,111,112,121,114,105,103,104,116] 269 (sN [32,83,82,69,32,50,46,50,46,50,32,67,111,112,121,114,105,103,104,116,32,40,99,41,32,49,57,57,55,45,50,48,48,50,32,98,121,32,83,101,99,114,101,116,32,76,97,98,115,32,65,66,32] 268)] 17 }
noncomputable def z12 (P : Params) : Obj := { cls := .type "module", dict := some 11 }
noncomputable def z13 (P : Params) : Obj := { cls := .type "dict", data := .dict #[eN P [95,95,109,111,100,117,108,101,95,95] 189 (sN [95,102,114,111,122,101,110,95,105,109,112,111,114,116,108,105,98] 186), eN P [95,95,102,105,114,115,116,108,105,110,101,110,111,95,95] 190 (.int 971 187), eN P [95,95,100,111,99,95,95] 191 (.builtin "_frozen_\x69mportlib.BuiltinImporter.__doc__:str#opaque"), eN P [95,79,82,73,71,73,78] 192 (sN [98,117,105,108,116,45,105,110] 188), eN P [102,105,110,100,95,115,112,101,99] 193 (.builtin "_frozen_\x69mportlib.BuiltinImporter.find_spec#opaque"), eN P [99,114,101,97,116,101,95,109,111,100,117,108,101] 194 (.builtin "_frozen_\x69mportlib.BuiltinImporter.create_module#opaque"), eN P [101,120,101,99,95,109,111,100,117,108,101] 195 (.builtin "_frozen_\x69mportlib.BuiltinImporter.exec_module#opaque"), eN P [103,101,116,95,99,111,100,101] 196 (.builtin "_frozen_\x69mportlib.BuiltinImporter.get_code#opaque"), eN P [103,101,116,95,115,111,117,114,99,101] 197 (.builtin "_frozen_\x69mportlib.BuiltinImporter.get_source#opaque"), eN P [105,115,95,112,97,99,107,97,103,101] 198 (.builtin "_frozen_\x69mportlib.BuiltinImporter.is_package#opaque"), eN P [108,111,97,100,95,109,111,100,117,108,101] 199 (.builtin "_frozen_\x69mportlib.BuiltinImporter.load_module#opaque"), eN P [95,95,115,116,97,116,105,99,95,97,116,116,114,105,98,117,116,101,115,95,95] 200 (.ref 15), eN P [95,95,100,105,99,116,95,95] 202 (.ref 16), eN P [95,95,119,101,97,107,114,101,102,95,95] 204 (.ref 17)] 14 }
noncomputable def z14 (P : Params) : Obj := { cls := .type "type", data := .cls {name := st [66,117,105,108,116,105,110,73,109,112,111,114,116,101,114], bases := [Value.type "object"], mro := [Value.ref 14, Value.type "object"], ns := 13, qualname := st [66,117,105,108,116,105,110,73,109,112,111,114,116,101,114]} }
noncomputable def z15 (P : Params) : Obj := { cls := .type "tuple", data := .seq #[] }
noncomputable def z16 (P : Params) : Obj := { cls := .type "getset_descriptor", data := .fields #[sN [95,95,100,105,99,116,95,95] 201, .ref 14, .builtin "function.__dict__", .builtin "function.__dict__#set"] }
noncomputable def z17 (P : Params) : Obj := { cls := .type "getset_descriptor", data := .fields #[sN [95,95,119,101,97,107,114,101,102,95,95] 203, .ref 14, .builtin "ExceptionGroup.__weakref__", .none] }
noncomputable def z18 (P : Params) : Obj := { cls := .none, data := .seq #[.int 13 0, sN [6,189,10,95,95,109,111,100,117,108,101,95,95,6,186,17,95,102,114,111,122,101,110,95,105,109,112,111,114,116,108,105,98,6,190,15,95,95,102,105,114,115,116,108,105,110,101,110,111,95,95,4,187,0,971,6,191,7,95,95,100,111,99,95,95,9,52,95,102,114,111,122,101,110,95,105,109,112,111,114,116,108,105,98,46,66,117,105,108,116,105,110,73,109,112,111,114,116,101,114,46,95,95,100,111,99,95,95,58,115,116,114,35,111,112,97,113,117,101,6,192,7,95,79,82,73,71,73,78,6,188,8,98,117,105,108,116,45,105,110,6,193,9,102,105,110,100,95,115,112,101,99,9,50,95,102,114,111,122,101,110,95,105,109,112,111,114,116,108,105,98,46,66,117,105,108,116,105,110,73,109,112,111,114,116,101,114,46,102,105,110,100,95,115,112,101,99,35,111,112,97,113,117,101,6,194,13,99,114,101,97,116,101,95,109,111,100,117,108,101,9,54,95,102,114,111,122,101,110,95,105,109,112,111,114,116,108,105,98,46,66,117,105,108,116,105,110,73,109,112,111,114,116,101,114,46,99,114,101,97,116,101,95,109,111,100,117,108,101,35,111,112,97,113,117,101,6,195,11,101,120,101,99,95,109,111,100,117,108,101,9,52,95,102,114,111,122,101,110,95,105,109,112,111,114,116,108,105,98,46,66,117,105,108,116,105,110,73,109,112,111,114,116,101,114,46,101,120,101,99,95,109,111,100,117,108,101,35,111,112,97,113,117,101,6,196,8,103,101,116,95,99,111,100,101,9,49,95,102,114,111,122,101,110,95,105,109,112,111,114,116,108,105,98,46,66,117,105,108,116,105,110,73,109,112,111,114,116,101,114,46,103,101,116,95,99,111,100,101,35,111,112,97,113,117,101,6,197,10,103,101,116,95,115,111,117,114,99,101,9,51,95,102,114,111,122,101,110,95,105,109,112,111,114,116,108,105,98,46,66,117,105,108,116,105,110,73,109,112,111,114,116,101,114,46,103,101,116,95,115,111,117,114,99,101,35,111,112,97,113,117,101,6,198,10,105,115,95,112,97,99,107,97,103,101,9,51,95,102,114,111,122,101,110,95,105,109,112,111,114,116,108,105,98,46,66,117,105,108,116,105,110,73,109,112,111,114,116,101,114,46,105,115,95,112,97,99,107,97,103,101,35,111,112,97,113,117,101,6,199,11,108,111,97,100,95,109,111,100,117,108,101,9,52,95,102,114,111,122,101,110,95,105,109,112,111,114,116,108,105,98,46,66,117,105,108,116,105,110,73,109,112,111,114,116,101,114,46,108,111,97,100,95,109,111,100,117,108,101,35,111,112,97,113,117,101,6,200,21,95,95,115,116,97,116,105,99,95,97,116,116,114,105,98,117,116,101,115,95,95,4,0,0,15,6,202,8,95,95,100,105,99,116,95,95,4,0,0,16,6,204,11,95,95,119,101,97,107,114,101,102,95,95,4,0,0,17] 0, .bool true, .bool true, sN [] 205, .int 21 0, sN [6,227,10,95,95,109,111,100,117,108,101,95,95,6,217,17,95,102,114,111,122,101,110,95,105,109,112,111,114,116,108,105,98,6,228,15,95,95,102,105,114,115,116,108,105,110,101,110,111,95,95,4,218,0,562,6,229,7,95,95,100,111,99,95,95,9,47,95,102,114,111,122,101,110,95,105,109,112,111,114,116,108,105,98,46,77,111,100,117,108,101,83,112,101,99,46,95,95,100,111,99,95,95,58,115,116,114,35,111,112,97,113,117,101,6,230,8,95,95,105,110,105,116,95,95,9,44,95,102,114,111,122,101,110,95,105,109,112,111,114,116,108,105,98,46,77,111,100,117,108,101,83,112,101,99,46,95,95,105,110,105,116,95,95,35,111,112,97,113,117,101,6,231,8,95,95,114,101,112,114,95,95,9,44,95,102,114,111,122,101,110,95,105,109,112,111,114,116,108,105,98,46,77,111,100,117,108,101,83,112,101,99,46,95,95,114,101,112,114,95,95,35,111,112,97,113,117,101,6,232,6,95,95,101,113,95,95,9,42,95,102,114,111,122,101,110,95,105,109,112,111,114,116,108,105,98,46,77,111,100,117,108,101,83,112,101,99,46,95,95,101,113,95,95,35,111,112,97,113,117,101,6,233,6,99,97,99,104,101,100,9,42,95,102,114,111,122,101,110,95,105,109,112,111,114,116,108,105,98,46,77,111,100,117,108,101,83,112,101,99,46,99,97,99,104,101,100,35,111,112,97,113,117,101,6,234,6,112,97,114,101,110,116,9,42,95,102,114,111,122,101,110,95,105,109,112,111,114,116,108,105,98,46,77,111,100,117,108,101,83,112,101,99,46,112,97,114,101,110,116,35,111,112,97,113,117,101,6,235,12,104,97,115,95,108,111,99,97,116,105,111,110,9,48,95,102,114,111,122,101,110,95,105,109,112,111,114,116,108,105,98,46,77,111,100,117,108,101,83,112,101,99,46,104,97,115,95,108,111,99,97,116,105,111,110,35,111,112,97,113,117,101,6,236,21,95,95,115,116,97,116,105,99,95,97,116,116,114,105,98,117,116,101,115,95,95,4,0,0,23,6,238,8,95,95,100,105,99,116,95,95,4,0,0,24,6,240,11,95,95,119,101,97,107,114,101,102,95,95,4,0,0,25,6,241,8,95,95,104,97,115,104,95,95,0] 0, .bool true, .bool true, sN [] 242] 1 }
noncomputable def z19 (P : Params) : Obj := { cls := .type "list", data := .seq #[] }
noncomputable def z20 (P : Params) : Obj := { cls := .type "dict", data := .dict #[eN P [110,97,109,101] 208 (sN [95,115,114,101] 207), eN P [108,111,97,100,101,114] 209 (.ref 14), eN P [111,114,105,103,105,110] 210 (sN [98,117,105,108,116,45,105,110] 184), eN P [108,111,97,100,101,114,95,115,116,97,116,101] 211 (.none), eN P [115,117,98,109,111,100,117,108,101,95,115,101,97,114,99,104,95,108,111,99,97,116,105,111,110,115] 212 (.none), eN P [95,117,110,105,110,105,116,105,97,108,105,122,101,100,95,115,117,98,109,111,100,117,108,101,115] 213 (.ref 19), eN P [95,115,101,116,95,102,105,108,101,97,116,116,114] 214 (.bool false), eN P [95,99,97,99,104,101,100] 215 (.none), eN P [95,105,110,105,116,105,97,108,105,122,105,110,103] 243 (.bool false)] 9 }
noncomputable def z21 (P : Params) : Obj := { cls := .type "dict", data := .dict #[eN P [95,95,109,111,100,117,108,101,95,95] 227 (sN [95,102,114,111,122,101,110,95,105,109,112,111,114,116,108,105,98] 217), eN P [95,95,102,105,114,115,116,108,105,110,101,110,111,95,95] 228 (.int 562 218), eN P [95,95,100,111,99,95,95] 229 (.builtin "_frozen_\x69mportlib.ModuleSpec.__doc__:str#opaque"), eN P [95,95,105,110,105,116,95,95] 230 (.builtin "_frozen_\x69mportlib.ModuleSpec.__init__#opaque"), eN P [95,95,114,101,112,114,95,95] 231 (.builtin "_frozen_\x69mportlib.ModuleSpec.__repr__#opaque"), eN P [95,95,101,113,95,95] 232 (.builtin "_frozen_\x69mportlib.ModuleSpec.__eq__#opaque"), eN P [99,97,99,104,101,100] 233 (.builtin "_frozen_\x69mportlib.ModuleSpec.cached#opaque"), eN P [112,97,114,101,110,116] 234 (.builtin "_frozen_\x69mportlib.ModuleSpec.parent#opaque"), eN P [104,97,115,95,108,111,99,97,116,105,111,110] 235 (.builtin "_frozen_\x69mportlib.ModuleSpec.has_location#opaque"), eN P [95,95,115,116,97,116,105,99,95,97,116,116,114,105,98,117,116,101,115,95,95] 236 (.ref 23), eN P [95,95,100,105,99,116,95,95] 238 (.ref 24), eN P [95,95,119,101,97,107,114,101,102,95,95] 240 (.ref 25), eN P [95,95,104,97,115,104,95,95] 241 (.none)] 13 }
noncomputable def z22 (P : Params) : Obj := { cls := .type "type", data := .cls {name := st [77,111,100,117,108,101,83,112,101,99], bases := [Value.type "object"], mro := [Value.ref 22, Value.type "object"], ns := 21, qualname := st [77,111,100,117,108,101,83,112,101,99]} }
noncomputable def z23 (P : Params) : Obj := { cls := .type "tuple", data := .seq #[sN [95,99,97,99,104,101,100] 219, sN [95,115,101,116,95,102,105,108,101,97,116,116,114] 220, sN [95,117,110,105,110,105,116,105,97,108,105,122,101,100,95,115,117,98,109,111,100,117,108,101,115] 221, sN [108,111,97,100,101,114] 222, sN [108,111,97,100,101,114,95,115,116,97,116,101] 223, sN [110,97,109,101] 224, sN [111,114,105,103,105,110] 225, sN [115,117,98,109,111,100,117,108,101,95,115,101,97,114,99,104,95,108,111,99,97,116,105,111,110,115] 226] }
noncomputable def z24 (P : Params) : Obj := { cls := .type "getset_descriptor", data := .fields #[sN [95,95,100,105,99,116,95,95] 237, .ref 22, .builtin "function.__dict__", .builtin "function.__dict__#set"] }
noncomputable def z25 (P : Params) : Obj := { cls := .type "getset_descriptor", data := .fields #[sN [95,95,119,101,97,107,114,101,102,95,95] 239, .ref 22, .builtin "ExceptionGroup.__weakref__", .none] }
noncomputable def z26 (P : Params) : Obj := { cls := .ref 22, dict := some 20 }
noncomputable def z27 (P : Params) : Obj := { cls := .none, data := .seq #[.int 11 0, Value.str {cps := #[6, 247, 8, 95, 95, 110, 97, 109, 101, 95, 95, 6, 246, 4, 95, 115, 114, 101, 6, 248, 7, 95, 95, 100, 111, 99, 95, 95, 0, 6, 250, 11, 95, 95, 112, 97, 99, 107, 97, 103, 101, 95, 95, 6, 249, 0, 6, 251, 10, 95, 95, 108, 111, 97, 100, 101, 114, 95, 95, 4, 0, 0, 14, 6, 252, 8, 95, 95, 115, 112, 101, 99, 95, 95, 4, 0, 0, 26, 6, 253, 7, 99, 111, 109, 112, 105, 108, 101, 9, 12, 95, 115, 114, 101, 46, 99, 111, 109, 112, 105, 108, 101, 6, 254, 8, 116, 101, 109, 112, 108, 97, 116, 101, 9, 13, 95, 115, 114, 101, 46, 116, 101, 109, 112, 108, 97, 116, 101, 6, 255, 11, 103, 101, 116, 99, 111, 100, 101, 115, 105, 122, 101, 9, 16, 95, 115, 114, 101, 46, 103, 101, 116, 99, 111, 100, 101, 115, 105, 122, 101, 6, 256, 13, 97, 115, 99, 105, 105, 95, 105, 115, 99, 97, 115, 101, 100, 9, 18, 95, 115, 114, 101, 46, 97, 115, 99, 105, 105, 95, 105, 115, 99, 97, 115, 101, 100, 6, 257, 15, 117, 110, 105, 99, 111, 100, 101, 95, 105, 115, 99, 97, 115, 101, 100, 9, 20, 95, 115, 114, 101, 46, 117, 110, 105, 99, 111, 100, 101, 95, 105, 115, 99, 97, 115, 101, 100, 6, 258, 13, 97, 115, 99, 105, 105, 95, 116, 111, 108, 111, 119, 101, 114, 9, 18, 95, 115, 114, 101, 46, 97, 115, 99, 105, 105, 95, 116, 111, 108, 111, 119, 101, 114, 6, 259, 15, 117, 110, 105, 99, 111, 100, 101, 95, 116, 111, 108, 111, 119, 101, 114, 9, 20, 95, 115, 114, 101, 46, 117, 110, 105, 99, 111, 100, 101, 95, 116, 111, 108, 111, 119, 101, 114, 6, 261, 5, 77, 65, 71, 73, 67, 4, 260, 0, 20230612, 6, 263, 8, 67, 79, 68, 69, 83, 73, 90, 69, 4, 262, 0, 4, 6, 265, 9, 77, 65, 88, 82, 69, 80, 69, 65, 84, 4, 264, 0, 4294967295, 6, 267, 9, 77, 65, 88, 71, 82, 79, 85, 80, 83, 4, 266, 0, 1073741823, 6, 269, 9, 99, 111, 112, 121, 114, 105, 103, 104, 116, 6, 268, 53, 32, 83, 82, 69, 32, 50, 46, 50, 46, 50, 32, 67, 111, 112, 121, 114, 105, 103, 104, 116, 32, 40, 99, 41, 32, 49, 57, 57, 55, 45, 50, 48, 48, 50, 32, 98, 121, 32, 83, 101, 99, 114, 101, 116, 32, 76, 97, 98, 115, 32, 65, 66, 32]} 0, .bool true, .bool false, sN [95,115,114,101] 271] }
noncomputable def heap0 (P : Params) : Heap := ⟨⟨[z0 P, z1 P, z2 P, z3 P, z4 P, z5 P, z6 P, z7 P, z8 P, z9 P, z10 P, z11 P, z12 P, z13 P, z14 P, z15 P, z16 P, z17 P, z18 P, z19 P, z20 P, z21 P, z22 P, z23 P, z24 P, z25 P, z26 P, z27 P]⟩, {}⟩
noncomputable def heap1 (P : Params) : Heap := ⟨⟨[
  z0 P,
  z1 P,
  z2 P,
  { cls := .type "dict", data := .dict #[eN P [95,95,110,97,109,101,95,95] 165 (sN [108,97,119,95,114,119,48,48,57,57,95,48,49] 664), eN P [95,95,100,111,99,95,95] 166 (.none), eN P [95,95,112,97,99,107,97,103,101,95,95] 167 (.none), eN P [95,95,108,111,97,100,101,114,95,95] 168 (.builtin "__main__.__loader__#opaque"), eN P [95,95,115,112,101,99,95,95] 169 (.none), eN P [95,95,97,110,110,111,116,97,116,105,111,110,115,95,95] 170 (.ref 6), eN P [95,95,98,117,105,108,116,105,110,115,95,95] 171 (.ref 4), eN P [95,95,102,105,108,101,95,95] 173 (sN [47,99,108,97,105,109,47,99,117,116,46,112,121] 172), eN P [95,95,99,97,99,104,101,100,95,95] 174 (.none), eN P [95,115,114,101] 275 (.ref 12), eN P [95,119,97,108,108] 288 (.ref 38), eN P [87,104,105,116,101,115,112,97,99,101] 390 (.ref 100), eN P [95,116,119,105,110,95,114,101,95,49] 408 (.ref 109), eN P [95,116,119,105,110,95,114,101,95,50] 450 (.ref 114), eN P [67,82,76,70] 452 (sN [13,10] 451), eN P [113,117,111,116,101,100,97,116,97] 459 (.ref 121), eN P [76,80,65,82] 463 (.int 7 462), eN P [82,80,65,82] 465 (.int 8 464), eN P [76,83,81,66] 467 (.int 9 466), eN P [82,83,81,66] 469 (.int 10 468), eN P [67,79,76,79,78] 471 (.int 11 470), eN P [67,79,77,77,65] 473 (.int 12 472), eN P [83,69,77,73] 475 (.int 13 474), eN P [80,76,85,83] 477 (.int 14 476), eN P [77,73,78,85,83] 479 (.int 15 478), eN P [83,84,65,82] 481 (.int 16 480), eN P [83,76,65,83,72] 483 (.int 17 482), eN P [86,66,65,82] 485 (.int 18 484), eN P [65,77,80,69,82] 487 (.int 19 486), eN P [76,69,83,83] 489 (.int 20 488), eN P [71,82,69,65,84,69,82] 491 (.int 21 490), eN P [69,81,85,65,76] 493 (.int 22 492), eN P [68,79,84] 495 (.int 23 494), eN P [80,69,82,67,69,78,84] 497 (.int 24 496), eN P [76,66,82,65,67,69] 499 (.int 25 498), eN P [82,66,82,65,67,69] 501 (.int 26 500), eN P [69,81,69,81,85,65,76] 503 (.int 27 502), eN P [78,79,84,69,81,85,65,76] 505 (.int 28 504), eN P [76,69,83,83,69,81,85,65,76] 507 (.int 29 506), eN P [71,82,69,65,84,69,82,69,81,85,65,76] 509 (.int 30 508), eN P [84,73,76,68,69] 511 (.int 31 510), eN P [67,73,82,67,85,77,70,76,69,88] 513 (.int 32 512), eN P [76,69,70,84,83,72,73,70,84] 515 (.int 33 514), eN P [82,73,71,72,84,83,72,73,70,84] 517 (.int 34 516), eN P [68,79,85,66,76,69,83,84,65,82] 519 (.int 35 518), eN P [80,76,85,83,69,81,85,65,76] 521 (.int 36 520), eN P [77,73,78,69,81,85,65,76] 523 (.int 37 522), eN P [83,84,65,82,69,81,85,65,76] 525 (.int 38 524), eN P [83,76,65,83,72,69,81,85,65,76] 527 (.int 39 526), eN P [80,69,82,67,69,78,84,69,81,85,65,76] 529 (.int 40 528), eN P [65,77,80,69,82,69,81,85,65,76] 531 (.int 41 530), eN P [86,66,65,82,69,81,85,65,76] 533 (.int 42 532), eN P [67,73,82,67,85,77,70,76,69,88,69,81,85,65,76] 535 (.int 43 534), eN P [76,69,70,84,83,72,73,70,84,69,81,85,65,76] 537 (.int 44 536), eN P [82,73,71,72,84,83,72,73,70,84,69,81,85,65,76] 539 (.int 45 538), eN P [68,79,85,66,76,69,83,84,65,82,69,81,85,65,76] 541 (.int 46 540), eN P [68,79,85,66,76,69,83,76,65,83,72] 543 (.int 47 542), eN P [68,79,85,66,76,69,83,76,65,83,72,69,81,85,65,76] 545 (.int 48 544), eN P [65,84] 547 (.int 49 546), eN P [65,84,69,81,85,65,76] 549 (.int 50 548), eN P [82,65,82,82,79,87] 551 (.int 51 550), eN P [69,76,76,73,80,83,73,83] 553 (.int 52 552), eN P [67,79,76,79,78,69,81,85,65,76] 555 (.int 53 554), eN P [69,88,67,76,65,77,65,84,73,79,78] 557 (.int 54 556), eN P [78,84,95,79,70,70,83,69,84] 559 (.int 256 558), eN P [69,88,65,67,84,95,84,79,75,69,78,95,84,89,80,69,83] 656 (.ref 122), eN P [73,83,84,69,82,77,73,78,65,76] 663 (.ref 131), eN P [95,108,97,119,95,99,111,108,117,109,110,115] 676 (.ref 138), eN P [95,108,97,119,95,116,105,109,101,115] 686 (.ref 145), eN P [95,108,97,119,95,108,101,97,100] 693 (.ref 152), eN P [108,97,119] 699 (.ref 157)] 71 },
  z4 P,
  z5 P,
  z6 P,
  z7 P,
  z8 P,
  z9 P,
  z10 P,
  z11 P,
  z12 P,
  z13 P,
  z14 P,
  z15 P,
  z16 P,
  z17 P,
  z18 P,
  z19 P,
  z20 P,
  z21 P,
  z22 P,
  z23 P,
  z24 P,
  z25 P,
  z26 P,
  z27 P,
  { cls := .type "tuple", data := .seq #[] },
  { cls := .none, data := .fields #[.int 2 0, .int 0 0, .ref 37, .int 6 0, .int 0 0, .ref 44, .int 66 0, .int 0 0, .ref 120, .int 119 0, .int 0 0, .ref 130, .int 122 0, .int 0 0, .ref 137, .int 130 0, .int 0 0, .ref 144, .int 136 0, .int 0 0, .ref 151, .int 138 0, .int 0 0, .ref 156] },
  { cls := .type "code", data := .fields #[sN [60,109,111,100,117,108,101,62] 277, sN [60,109,111,100,117,108,101,62] 278, sN [47,99,108,97,105,109,47,99,117,116,46,112,121] 279, .int 1 0, .int 0 0, .int 0 0, .int 0 0, .int 0 0, .ref 28, .bool false, .int 276 0, .ref 29, .none, .none, .none, .none, .int 280 0, .int 1 0, sN [47,99,108,97,105,109,47,99,117,116,46,112,121] 281] },
  { cls := .type "frame", slots := #[some (Value.ref 30), some (Value.ref 3), some (Value.ref 3), none, some (Value.str (st [95,95,109,97,105,110,95,95]) 164), none, some (Value.ref 0)] },
  { cls := .type "tuple", data := .seq #[] },
  { cls := .none, data := .fields #[] },
  { cls := .type "tuple", data := .seq #[sN [107] 285] },
  { cls := .type "tuple", data := .seq #[] },
  { cls := .none, data := .func { name := st [95,119,97,108,108], qualname := st [95,119,97,108,108], params := fdP (stm 1), body := .stmts (fdB (stm 1)), scope := fdS (stm 1), globals := 0, closure := [], defaults := .none, kwdefaults := .none } },
  { cls := .type "code", data := .fields #[sN [95,119,97,108,108] 282, sN [95,119,97,108,108] 283, sN [47,99,108,97,105,109,47,99,117,116,46,112,121] 284, .int 2 0, .int 1 0, .int 0 0, .int 0 0, .int 3 0, .ref 32, .bool true, .int 276 0, .ref 33, .none, .ref 34, .ref 35, .ref 36, .int 286 0, .int 2 0, sN [47,99,108,97,105,109,47,99,117,116,46,112,121] 287] },
  { cls := .type "function", data := .func { name := st [95,119,97,108,108], qualname := st [95,119,97,108,108], params := fdP (stm 1), body := .stmts (fdB (stm 1)), scope := fdS (stm 1), globals := 3, closure := [], defaults := .none, kwdefaults := .none, pyModule := sN [95,95,109,97,105,110,95,95] 164, code := .ref 37 } },
  { cls := .type "tuple", data := .seq #[] },
  { cls := .type "builtin_function_or_method", data := .fields #[.builtin "type.__prepare__", .type "type"] },
  { cls := .type "dict", data := .dict #[eN P [95,95,109,111,100,117,108,101,95,95] 298 (sN [99,112,121,51,49,51,46,116,97,98,110,97,110,110,121] 289), eN P [95,95,113,117,97,108,110,97,109,101,95,95] 300 (sN [87,104,105,116,101,115,112,97,99,101] 299), eN P [95,95,102,105,114,115,116,108,105,110,101,110,111,95,95] 302 (.int 6 301), eN P [83] 306 (sN [32] 304), eN P [84] 307 (sN [9] 305), eN P [95,95,105,110,105,116,95,95] 322 (.ref 55), eN P [108,111,110,103,101,115,116,95,114,117,110,95,111,102,95,115,112,97,99,101,115] 331 (.ref 62), eN P [105,110,100,101,110,116,95,108,101,118,101,108] 343 (.ref 69), eN P [101,113,117,97,108] 351 (.ref 76), eN P [110,111,116,95,101,113,117,97,108,95,119,105,116,110,101,115,115] 359 (.ref 83), eN P [108,101,115,115] 369 (.ref 90), eN P [110,111,116,95,108,101,115,115,95,119,105,116,110,101,115,115] 377 (.ref 97), eN P [95,95,115,116,97,116,105,99,95,97,116,116,114,105,98,117,116,101,115,95,95] 383 (.ref 98)] 13 },
  { cls := .type "tuple", data := .seq #[] },
  { cls := .none, data := .fields #[.int 9 0, .int 4 0, .ref 54, .int 32 0, .int 4 0, .ref 61, .int 36 0, .int 4 0, .ref 68, .int 43 0, .int 4 0, .ref 75, .int 46 0, .int 4 0, .ref 82, .int 49 0, .int 4 0, .ref 89, .int 60 0, .int 4 0, .ref 96] },
  { cls := .type "code", data := .fields #[sN [87,104,105,116,101,115,112,97,99,101] 293, sN [87,104,105,116,101,115,112,97,99,101] 294, sN [47,99,108,97,105,109,47,99,117,116,46,112,121] 295, .int 6 0, .int 0 0, .int 0 0, .int 0 0, .int 0 0, .ref 42, .bool false, .int 276 0, .ref 43, .none, .none, .none, .none, .int 296 0, .int 6 0, sN [47,99,108,97,105,109,47,99,117,116,46,112,121] 297] },
  { cls := .type "frame", slots := #[some (Value.ref 44), some (Value.ref 3), some (Value.ref 41), none, some (Value.str (st [99,112,121,51,49,51,46,116,97,98,110,97,110,110,121]) 289), none, some (Value.ref 0)] },
  { cls := .type "str_ascii_iterator", data := .fields #[.none, .int 2 0] },
  { cls := .type "tuple", data := .seq #[] },
  { cls := .type "StopIteration", data := .fields #[.ref 47, .none, .none, .none, .bool false, .none] },
  { cls := .type "tuple", data := .seq #[] },
  { cls := .none, data := .fields #[] },
  { cls := .type "tuple", data := .seq #[sN [115,101,108,102] 311, sN [119,115] 312, sN [83] 313, sN [84] 314, sN [99,111,117,110,116] 315, sN [98] 316, sN [110] 317, sN [110,116] 318, sN [99,104] 319] },
  { cls := .type "tuple", data := .seq #[] },
  { cls := .none, data := .func { name := st [95,95,105,110,105,116,95,95], qualname := st [87,104,105,116,101,115,112,97,99,101,46,95,95,105,110,105,116,95,95], params := fdP (cst 1), body := .stmts (fdB (cst 1)), scope := fdS (cst 1), globals := 0, closure := [], defaults := .none, kwdefaults := .none } },
  { cls := .type "code", data := .fields #[sN [95,95,105,110,105,116,95,95] 308, sN [87,104,105,116,101,115,112,97,99,101,46,95,95,105,110,105,116,95,95] 309, sN [47,99,108,97,105,109,47,99,117,116,46,112,121] 310, .int 9 0, .int 2 0, .int 0 0, .int 0 0, .int 3 0, .ref 49, .bool true, .int 276 0, .ref 50, .none, .ref 51, .ref 52, .ref 53, .int 320 0, .int 9 0, sN [47,99,108,97,105,109,47,99,117,116,46,112,121] 321] },
  { cls := .type "function", data := .func { name := st [95,95,105,110,105,116,95,95], qualname := st [87,104,105,116,101,115,112,97,99,101,46,95,95,105,110,105,116,95,95], params := fdP (cst 1), body := .stmts (fdB (cst 1)), scope := fdS (cst 1), globals := 3, closure := [], defaults := .none, kwdefaults := .none, pyModule := sN [99,112,121,51,49,51,46,116,97,98,110,97,110,110,121] 289, code := .ref 54 } },
  { cls := .type "tuple", data := .seq #[] },
  { cls := .none, data := .fields #[] },
  { cls := .type "tuple", data := .seq #[sN [115,101,108,102] 326, sN [99,111,117,110,116] 327, sN [116,114,97,105,108,105,110,103] 328] },
  { cls := .type "tuple", data := .seq #[] },
  { cls := .none, data := .func { name := st [108,111,110,103,101,115,116,95,114,117,110,95,111,102,95,115,112,97,99,101,115], qualname := st [87,104,105,116,101,115,112,97,99,101,46,108,111,110,103,101,115,116,95,114,117,110,95,111,102,95,115,112,97,99,101,115], params := fdP (cst 2), body := .stmts (fdB (cst 2)), scope := fdS (cst 2), globals := 0, closure := [], defaults := .none, kwdefaults := .none } },
  { cls := .type "code", data := .fields #[sN [108,111,110,103,101,115,116,95,114,117,110,95,111,102,95,115,112,97,99,101,115] 323, sN [87,104,105,116,101,115,112,97,99,101,46,108,111,110,103,101,115,116,95,114,117,110,95,111,102,95,115,112,97,99,101,115] 324, sN [47,99,108,97,105,109,47,99,117,116,46,112,121] 325, .int 32 0, .int 1 0, .int 0 0, .int 0 0, .int 3 0, .ref 56, .bool true, .int 276 0, .ref 57, .none, .ref 58, .ref 59, .ref 60, .int 329 0, .int 32 0, sN [47,99,108,97,105,109,47,99,117,116,46,112,121] 330] },
  { cls := .type "function", data := .func { name := st [108,111,110,103,101,115,116,95,114,117,110,95,111,102,95,115,112,97,99,101,115], qualname := st [87,104,105,116,101,115,112,97,99,101,46,108,111,110,103,101,115,116,95,114,117,110,95,111,102,95,115,112,97,99,101,115], params := fdP (cst 2), body := .stmts (fdB (cst 2)), scope := fdS (cst 2), globals := 3, closure := [], defaults := .none, kwdefaults := .none, pyModule := sN [99,112,121,51,49,51,46,116,97,98,110,97,110,110,121] 289, code := .ref 61 } },
  { cls := .type "tuple", data := .seq #[] },
  { cls := .none, data := .fields #[] },
  { cls := .type "tuple", data := .seq #[sN [115,101,108,102] 335, sN [116,97,98,115,105,122,101] 336, sN [99,111,117,110,116] 337, sN [116,114,97,105,108,105,110,103] 338, sN [105,108] 339, sN [105] 340] },
  { cls := .type "tuple", data := .seq #[] },
  { cls := .none, data := .func { name := st [105,110,100,101,110,116,95,108,101,118,101,108], qualname := st [87,104,105,116,101,115,112,97,99,101,46,105,110,100,101,110,116,95,108,101,118,101,108], params := fdP (cst 3), body := .stmts (fdB (cst 3)), scope := fdS (cst 3), globals := 0, closure := [], defaults := .none, kwdefaults := .none } },
  { cls := .type "code", data := .fields #[sN [105,110,100,101,110,116,95,108,101,118,101,108] 332, sN [87,104,105,116,101,115,112,97,99,101,46,105,110,100,101,110,116,95,108,101,118,101,108] 333, sN [47,99,108,97,105,109,47,99,117,116,46,112,121] 334, .int 36 0, .int 2 0, .int 0 0, .int 0 0, .int 3 0, .ref 63, .bool true, .int 276 0, .ref 64, .none, .ref 65, .ref 66, .ref 67, .int 341 0, .int 36 0, sN [47,99,108,97,105,109,47,99,117,116,46,112,121] 342] },
  { cls := .type "function", data := .func { name := st [105,110,100,101,110,116,95,108,101,118,101,108], qualname := st [87,104,105,116,101,115,112,97,99,101,46,105,110,100,101,110,116,95,108,101,118,101,108], params := fdP (cst 3), body := .stmts (fdB (cst 3)), scope := fdS (cst 3), globals := 3, closure := [], defaults := .none, kwdefaults := .none, pyModule := sN [99,112,121,51,49,51,46,116,97,98,110,97,110,110,121] 289, code := .ref 68 } },
  { cls := .type "tuple", data := .seq #[] },
  { cls := .none, data := .fields #[] },
  { cls := .type "tuple", data := .seq #[sN [115,101,108,102] 347, sN [111,116,104,101,114] 348] },
  { cls := .type "tuple", data := .seq #[] },
  { cls := .none, data := .func { name := st [101,113,117,97,108], qualname := st [87,104,105,116,101,115,112,97,99,101,46,101,113,117,97,108], params := fdP (cst 4), body := .stmts (fdB (cst 4)), scope := fdS (cst 4), globals := 0, closure := [], defaults := .none, kwdefaults := .none } },
  { cls := .type "code", data := .fields #[sN [101,113,117,97,108] 344, sN [87,104,105,116,101,115,112,97,99,101,46,101,113,117,97,108] 345, sN [47,99,108,97,105,109,47,99,117,116,46,112,121] 346, .int 43 0, .int 2 0, .int 0 0, .int 0 0, .int 3 0, .ref 70, .bool true, .int 276 0, .ref 71, .none, .ref 72, .ref 73, .ref 74, .int 349 0, .int 43 0, sN [47,99,108,97,105,109,47,99,117,116,46,112,121] 350] },
  { cls := .type "function", data := .func { name := st [101,113,117,97,108], qualname := st [87,104,105,116,101,115,112,97,99,101,46,101,113,117,97,108], params := fdP (cst 4), body := .stmts (fdB (cst 4)), scope := fdS (cst 4), globals := 3, closure := [], defaults := .none, kwdefaults := .none, pyModule := sN [99,112,121,51,49,51,46,116,97,98,110,97,110,110,121] 289, code := .ref 75 } },
  { cls := .type "tuple", data := .seq #[] },
  { cls := .none, data := .fields #[] },
  { cls := .type "tuple", data := .seq #[sN [115,101,108,102] 355, sN [111,116,104,101,114] 356] },
  { cls := .type "tuple", data := .seq #[] },
  { cls := .none, data := .func { name := st [110,111,116,95,101,113,117,97,108,95,119,105,116,110,101,115,115], qualname := st [87,104,105,116,101,115,112,97,99,101,46,110,111,116,95,101,113,117,97,108,95,119,105,116,110,101,115,115], params := fdP (cst 5), body := .stmts (fdB (cst 5)), scope := fdS (cst 5), globals := 0, closure := [], defaults := .none, kwdefaults := .none } },
  { cls := .type "code", data := .fields #[sN [110,111,116,95,101,113,117,97,108,95,119,105,116,110,101,115,115] 352, sN [87,104,105,116,101,115,112,97,99,101,46,110,111,116,95,101,113,117,97,108,95,119,105,116,110,101,115,115] 353, sN [47,99,108,97,105,109,47,99,117,116,46,112,121] 354, .int 46 0, .int 2 0, .int 0 0, .int 0 0, .int 3 0, .ref 77, .bool true, .int 276 0, .ref 78, .none, .ref 79, .ref 80, .ref 81, .int 357 0, .int 46 0, sN [47,99,108,97,105,109,47,99,117,116,46,112,121] 358] },
  { cls := .type "function", data := .func { name := st [110,111,116,95,101,113,117,97,108,95,119,105,116,110,101,115,115], qualname := st [87,104,105,116,101,115,112,97,99,101,46,110,111,116,95,101,113,117,97,108,95,119,105,116,110,101,115,115], params := fdP (cst 5), body := .stmts (fdB (cst 5)), scope := fdS (cst 5), globals := 3, closure := [], defaults := .none, kwdefaults := .none, pyModule := sN [99,112,121,51,49,51,46,116,97,98,110,97,110,110,121] 289, code := .ref 82 } },
  { cls := .type "tuple", data := .seq #[] },
  { cls := .none, data := .fields #[] },
  { cls := .type "tuple", data := .seq #[sN [115,101,108,102] 363, sN [111,116,104,101,114] 364, sN [110] 365, sN [116,115] 366] },
  { cls := .type "tuple", data := .seq #[] },
  { cls := .none, data := .func { name := st [108,101,115,115], qualname := st [87,104,105,116,101,115,112,97,99,101,46,108,101,115,115], params := fdP (cst 6), body := .stmts (fdB (cst 6)), scope := fdS (cst 6), globals := 0, closure := [], defaults := .none, kwdefaults := .none } },
  { cls := .type "code", data := .fields #[sN [108,101,115,115] 360, sN [87,104,105,116,101,115,112,97,99,101,46,108,101,115,115] 361, sN [47,99,108,97,105,109,47,99,117,116,46,112,121] 362, .int 49 0, .int 2 0, .int 0 0, .int 0 0, .int 3 0, .ref 84, .bool true, .int 276 0, .ref 85, .none, .ref 86, .ref 87, .ref 88, .int 367 0, .int 49 0, sN [47,99,108,97,105,109,47,99,117,116,46,112,121] 368] },
  { cls := .type "function", data := .func { name := st [108,101,115,115], qualname := st [87,104,105,116,101,115,112,97,99,101,46,108,101,115,115], params := fdP (cst 6), body := .stmts (fdB (cst 6)), scope := fdS (cst 6), globals := 3, closure := [], defaults := .none, kwdefaults := .none, pyModule := sN [99,112,121,51,49,51,46,116,97,98,110,97,110,110,121] 289, code := .ref 89 } },
  { cls := .type "tuple", data := .seq #[] },
  { cls := .none, data := .fields #[] },
  { cls := .type "tuple", data := .seq #[sN [115,101,108,102] 373, sN [111,116,104,101,114] 374] },
  { cls := .type "tuple", data := .seq #[] },
  { cls := .none, data := .func { name := st [110,111,116,95,108,101,115,115,95,119,105,116,110,101,115,115], qualname := st [87,104,105,116,101,115,112,97,99,101,46,110,111,116,95,108,101,115,115,95,119,105,116,110,101,115,115], params := fdP (cst 7), body := .stmts (fdB (cst 7)), scope := fdS (cst 7), globals := 0, closure := [], defaults := .none, kwdefaults := .none } },
  { cls := .type "code", data := .fields #[sN [110,111,116,95,108,101,115,115,95,119,105,116,110,101,115,115] 370, sN [87,104,105,116,101,115,112,97,99,101,46,110,111,116,95,108,101,115,115,95,119,105,116,110,101,115,115] 371, sN [47,99,108,97,105,109,47,99,117,116,46,112,121] 372, .int 60 0, .int 2 0, .int 0 0, .int 0 0, .int 3 0, .ref 91, .bool true, .int 276 0, .ref 92, .none, .ref 93, .ref 94, .ref 95, .int 375 0, .int 60 0, sN [47,99,108,97,105,109,47,99,117,116,46,112,121] 376] },
  { cls := .type "function", data := .func { name := st [110,111,116,95,108,101,115,115,95,119,105,116,110,101,115,115], qualname := st [87,104,105,116,101,115,112,97,99,101,46,110,111,116,95,108,101,115,115,95,119,105,116,110,101,115,115], params := fdP (cst 7), body := .stmts (fdB (cst 7)), scope := fdS (cst 7), globals := 3, closure := [], defaults := .none, kwdefaults := .none, pyModule := sN [99,112,121,51,49,51,46,116,97,98,110,97,110,110,121] 289, code := .ref 96 } },
  { cls := .type "tuple", data := .seq #[sN [105,115,95,115,105,109,112,108,101] 378, sN [110] 379, sN [110,111,114,109] 380, sN [110,116] 381, sN [114,97,119] 382] },
  { cls := .type "dict", data := .dict #[eN P [95,95,109,111,100,117,108,101,95,95] 298 (sN [99,112,121,51,49,51,46,116,97,98,110,97,110,110,121] 289), eN P [95,95,102,105,114,115,116,108,105,110,101,110,111,95,95] 302 (.int 6 301), eN P [83] 306 (sN [32] 304), eN P [84] 307 (sN [9] 305), eN P [95,95,105,110,105,116,95,95] 322 (.ref 55), eN P [108,111,110,103,101,115,116,95,114,117,110,95,111,102,95,115,112,97,99,101,115] 331 (.ref 62), eN P [105,110,100,101,110,116,95,108,101,118,101,108] 343 (.ref 69), eN P [101,113,117,97,108] 351 (.ref 76), eN P [110,111,116,95,101,113,117,97,108,95,119,105,116,110,101,115,115] 359 (.ref 83), eN P [108,101,115,115] 369 (.ref 90), eN P [110,111,116,95,108,101,115,115,95,119,105,116,110,101,115,115] 377 (.ref 97), eN P [95,95,115,116,97,116,105,99,95,97,116,116,114,105,98,117,116,101,115,95,95] 383 (.ref 98), eN P [95,95,100,105,99,116,95,95] 385 (.ref 101), eN P [95,95,119,101,97,107,114,101,102,95,95] 387 (.ref 102), eN P [95,95,100,111,99,95,95] 388 (.none)] 4 },
  { cls := .type "type", data := .cls {name := st [87,104,105,116,101,115,112,97,99,101], bases := [Value.type "object"], mro := [Value.ref 100, Value.type "object"], ns := 99, qualname := st [87,104,105,116,101,115,112,97,99,101]}, slots := #[none, none, some (Value.str (st [87,104,105,116,101,115,112,97,99,101]) 291), some (Value.str (st [87,104,105,116,101,115,112,97,99,101]) 299), some (Value.builtin "object.__new__"), some (Value.bool true)] },
  { cls := .type "getset_descriptor", data := .fields #[sN [95,95,100,105,99,116,95,95] 384, .ref 100, .builtin "function.__dict__", .builtin "function.__dict__#set"] },
  { cls := .type "getset_descriptor", data := .fields #[sN [95,95,119,101,97,107,114,101,102,95,95] 386, .ref 100, .builtin "ExceptionGroup.__weakref__", .none] },
  { cls := .type "super", data := .fields #[.ref 100, .ref 100, .ref 100] },
  { cls := .type "builtin_function_or_method", data := .fields #[.builtin "object.__init_subclass__", .ref 100] },
  { cls := .type "list", data := .seq #[.int 14 396, .int 4 397, .int 0 398, .int 1 399, .int 1 400, .int 6 401, .int 1 402, .int 16 403, .int 46 404, .int 1 405] },
  { cls := .type "dict", data := .dict #[]  },
  { cls := .type "tuple", data := .seq #[.none] },
  { cls := .type "tuple", data := .seq #[.int 14 0, .int 4 0, .int 0 0, .int 1 0, .int 1 0, .int 6 0, .int 1 0, .int 16 0, .int 46 0, .int 1 0] },
  { cls := .type "re.Pattern", data := .fields #[sN [40,63,109,41,94,92,46] 394, .int 40 407, .int 0 0, .none, .none, .ref 108, .int 0 0] },
  { cls := .type "list", data := .seq #[.int 14 412, .int 9 413, .int 4 414, .int 1 415, .int 2 416, .int 16 417, .int 10 418, .int 16 419, .int 13 420, .int 0 421, .int 7 422, .int 7 423, .int 16 424, .int 13 425, .int 16 426, .int 10 427, .int 15 428, .int 18 429, .int 5 430, .int 16 431, .int 10 432, .int 15 433, .int 13 434, .int 11 435, .int 16 436, .int 13 437, .int 5 438, .int 5 439, .int 0 440, .int 16 441, .int 10 442, .int 1 443, .int 15 444, .int 2 445, .int 0 446, .int 1 447] },
  { cls := .type "dict", data := .dict #[]  },
  { cls := .type "tuple", data := .seq #[.none] },
  { cls := .type "tuple", data := .seq #[.int 14 0, .int 9 0, .int 4 0, .int 1 0, .int 2 0, .int 16 0, .int 10 0, .int 16 0, .int 13 0, .int 0 0, .int 7 0, .int 7 0, .int 16 0, .int 13 0, .int 16 0, .int 10 0, .int 15 0, .int 18 0, .int 5 0, .int 16 0, .int 10 0, .int 15 0, .int 13 0, .int 11 0, .int 16 0, .int 13 0, .int 5 0, .int 5 0, .int 0 0, .int 16 0, .int 10 0, .int 1 0, .int 15 0, .int 2 0, .int 0 0, .int 1 0] },
  { cls := .type "re.Pattern", data := .fields #[sN [40,63,58,92,114,92,110,124,92,110,124,92,114,40,63,33,92,110,41,41] 410, .int 32 449, .int 0 0, .none, .none, .ref 113, .int 0 0] },
  { cls := .type "tuple", data := .seq #[] },
  { cls := .none, data := .fields #[] },
  { cls := .type "tuple", data := .seq #[sN [100,97,116,97] 456] },
  { cls := .type "tuple", data := .seq #[] },
  { cls := .none, data := .func { name := st [113,117,111,116,101,100,97,116,97], qualname := st [113,117,111,116,101,100,97,116,97], params := fdP (stm 8), body := .stmts (fdB (stm 8)), scope := fdS (stm 8), globals := 0, closure := [], defaults := .none, kwdefaults := .none } },
  { cls := .type "code", data := .fields #[sN [113,117,111,116,101,100,97,116,97] 453, sN [113,117,111,116,101,100,97,116,97] 454, sN [47,99,108,97,105,109,47,99,117,116,46,112,121] 455, .int 66 0, .int 1 0, .int 0 0, .int 0 0, .int 3 0, .ref 115, .bool true, .int 276 0, .ref 116, .none, .ref 117, .ref 118, .ref 119, .int 457 0, .int 66 0, sN [47,99,108,97,105,109,47,99,117,116,46,112,121] 458] },
  { cls := .type "function", data := .func { name := st [113,117,111,116,101,100,97,116,97], qualname := st [113,117,111,116,101,100,97,116,97], params := fdP (stm 8), body := .stmts (fdB (stm 8)), scope := fdS (stm 8), globals := 3, closure := [], defaults := .none, kwdefaults := .none, pyModule := sN [99,112,121,51,49,51,46,115,109,116,112,108,105,98] 391, code := .ref 120 } },
  { cls := .type "dict", data := .dict #[eN P [33] 560 (.int 54 556), eN P [33,61] 562 (.int 28 504), eN P [37] 564 (.int 24 496), eN P [37,61] 566 (.int 40 528), eN P [38] 568 (.int 19 486), eN P [38,61] 570 (.int 41 530), eN P [40] 572 (.int 7 462), eN P [41] 574 (.int 8 464), eN P [42] 576 (.int 16 480), eN P [42,42] 578 (.int 35 518), eN P [42,42,61] 580 (.int 46 540), eN P [42,61] 582 (.int 38 524), eN P [43] 584 (.int 14 476), eN P [43,61] 586 (.int 36 520), eN P [44] 588 (.int 12 472), eN P [45] 590 (.int 15 478), eN P [45,61] 592 (.int 37 522), eN P [45,62] 594 (.int 51 550), eN P [46] 596 (.int 23 494), eN P [46,46,46] 598 (.int 52 552), eN P [47] 600 (.int 17 482), eN P [47,47] 602 (.int 47 542), eN P [47,47,61] 604 (.int 48 544), eN P [47,61] 606 (.int 39 526), eN P [58] 608 (.int 11 470), eN P [58,61] 610 (.int 53 554), eN P [59] 612 (.int 13 474), eN P [60] 614 (.int 20 488), eN P [60,60] 616 (.int 33 514), eN P [60,60,61] 618 (.int 44 536), eN P [60,61] 620 (.int 29 506), eN P [61] 622 (.int 22 492), eN P [61,61] 624 (.int 27 502), eN P [62] 626 (.int 21 490), eN P [62,61] 628 (.int 30 508), eN P [62,62] 629 (.int 34 516), eN P [62,62,61] 630 (.int 45 538), eN P [64] 631 (.int 49 546), eN P [64,61] 632 (.int 50 548), eN P [91] 633 (.int 9 466), eN P [93] 634 (.int 10 468), eN P [94] 635 (.int 32 512), eN P [94,61] 636 (.int 43 534), eN P [123] 637 (.int 25 498), eN P [124] 638 (.int 18 484), eN P [124,61] 639 (.int 42 532), eN P [125] 640 (.int 26 500), eN P [126] 641 (.int 31 510)] 48 },
  { cls := .type "dict", data := .dict #[eN P [45,62] 594 (.int 51 550), eN P [46] 596 (.int 23 494), eN P [46,46,46] 598 (.int 52 552), eN P [47] 600 (.int 17 482), eN P [47,47] 602 (.int 47 542), eN P [47,47,61] 604 (.int 48 544), eN P [47,61] 606 (.int 39 526), eN P [58] 608 (.int 11 470), eN P [58,61] 610 (.int 53 554), eN P [59] 612 (.int 13 474), eN P [60] 614 (.int 20 488), eN P [60,60] 616 (.int 33 514), eN P [60,60,61] 618 (.int 44 536), eN P [60,61] 620 (.int 29 506), eN P [61] 622 (.int 22 492), eN P [61,61] 624 (.int 27 502), eN P [62] 626 (.int 21 490)] 17 },
  { cls := .type "dict", data := .dict #[eN P [62,61] 628 (.int 30 508), eN P [62,62] 629 (.int 34 516), eN P [62,62,61] 630 (.int 45 538), eN P [64] 631 (.int 49 546), eN P [64,61] 632 (.int 50 548), eN P [91] 633 (.int 9 466), eN P [93] 634 (.int 10 468), eN P [94] 635 (.int 32 512), eN P [94,61] 636 (.int 43 534), eN P [123] 637 (.int 25 498), eN P [124] 638 (.int 18 484), eN P [124,61] 639 (.int 42 532), eN P [125] 640 (.int 26 500), eN P [126] 641 (.int 31 510)] 14 },
  { cls := .type "tuple", data := .seq #[] },
  { cls := .none, data := .fields #[] },
  { cls := .type "tuple", data := .seq #[sN [120] 660] },
  { cls := .type "tuple", data := .seq #[] },
  { cls := .none, data := .func { name := st [73,83,84,69,82,77,73,78,65,76], qualname := st [73,83,84,69,82,77,73,78,65,76], params := fdP (stm 60), body := .stmts (fdB (stm 60)), scope := fdS (stm 60), globals := 0, closure := [], defaults := .none, kwdefaults := .none } },
  { cls := .type "code", data := .fields #[sN [73,83,84,69,82,77,73,78,65,76] 657, sN [73,83,84,69,82,77,73,78,65,76] 658, sN [47,99,108,97,105,109,47,99,117,116,46,112,121] 659, .int 119 0, .int 1 0, .int 0 0, .int 0 0, .int 3 0, .ref 125, .bool true, .int 276 0, .ref 126, .none, .ref 127, .ref 128, .ref 129, .int 661 0, .int 119 0, sN [47,99,108,97,105,109,47,99,117,116,46,112,121] 662] },
  { cls := .type "function", data := .func { name := st [73,83,84,69,82,77,73,78,65,76], qualname := st [73,83,84,69,82,77,73,78,65,76], params := fdP (stm 60), body := .stmts (fdB (stm 60)), scope := fdS (stm 60), globals := 3, closure := [], defaults := .none, kwdefaults := .none, pyModule := sN [99,112,121,51,49,51,46,116,111,107,101,110] 460, code := .ref 130 } },
  { cls := .type "tuple", data := .seq #[] },
  { cls := .none, data := .fields #[] },
  { cls := .type "tuple", data := .seq #[sN [108,101,97,100] 669, sN [99,111,108,117,109,110,115] 670, sN [115,105,122,101] 671, sN [99,111,108,117,109,110] 672, sN [115,105,103,110] 673] },
  { cls := .type "tuple", data := .seq #[] },
  { cls := .none, data := .func { name := st [95,108,97,119,95,99,111,108,117,109,110,115], qualname := st [95,108,97,119,95,99,111,108,117,109,110,115], params := fdP (stm 62), body := .stmts (fdB (stm 62)), scope := fdS (stm 62), globals := 0, closure := [], defaults := .none, kwdefaults := .none } },
  { cls := .type "code", data := .fields #[sN [95,108,97,119,95,99,111,108,117,109,110,115] 666, sN [95,108,97,119,95,99,111,108,117,109,110,115] 667, sN [47,99,108,97,105,109,47,99,117,116,46,112,121] 668, .int 122 0, .int 1 0, .int 0 0, .int 0 0, .int 3 0, .ref 132, .bool true, .int 276 0, .ref 133, .none, .ref 134, .ref 135, .ref 136, .int 674 0, .int 122 0, sN [47,99,108,97,105,109,47,99,117,116,46,112,121] 675] },
  { cls := .type "function", data := .func { name := st [95,108,97,119,95,99,111,108,117,109,110,115], qualname := st [95,108,97,119,95,99,111,108,117,109,110,115], params := fdP (stm 62), body := .stmts (fdB (stm 62)), scope := fdS (stm 62), globals := 3, closure := [], defaults := .none, kwdefaults := .none, pyModule := sN [108,97,119,95,114,119,48,48,57,57,95,48,49] 664, code := .ref 137 } },
  { cls := .type "tuple", data := .seq #[] },
  { cls := .none, data := .fields #[] },
  { cls := .type "tuple", data := .seq #[sN [109,97,105,108] 680, sN [115,105,122,101] 681, sN [119,104,111,108,101] 682, sN [116,117,114,110] 683] },
  { cls := .type "tuple", data := .seq #[] },
  { cls := .none, data := .func { name := st [95,108,97,119,95,116,105,109,101,115], qualname := st [95,108,97,119,95,116,105,109,101,115], params := fdP (stm 63), body := .stmts (fdB (stm 63)), scope := fdS (stm 63), globals := 0, closure := [], defaults := .none, kwdefaults := .none } },
  { cls := .type "code", data := .fields #[sN [95,108,97,119,95,116,105,109,101,115] 677, sN [95,108,97,119,95,116,105,109,101,115] 678, sN [47,99,108,97,105,109,47,99,117,116,46,112,121] 679, .int 130 0, .int 2 0, .int 0 0, .int 0 0, .int 3 0, .ref 139, .bool true, .int 276 0, .ref 140, .none, .ref 141, .ref 142, .ref 143, .int 684 0, .int 130 0, sN [47,99,108,97,105,109,47,99,117,116,46,112,121] 685] },
  { cls := .type "function", data := .func { name := st [95,108,97,119,95,116,105,109,101,115], qualname := st [95,108,97,119,95,116,105,109,101,115], params := fdP (stm 63), body := .stmts (fdB (stm 63)), scope := fdS (stm 63), globals := 3, closure := [], defaults := .none, kwdefaults := .none, pyModule := sN [108,97,119,95,114,119,48,48,57,57,95,48,49] 664, code := .ref 144 } },
  { cls := .type "tuple", data := .seq #[] },
  { cls := .none, data := .fields #[] },
  { cls := .type "tuple", data := .seq #[sN [109,97,105,108] 690] },
  { cls := .type "tuple", data := .seq #[] },
  { cls := .none, data := .func { name := st [95,108,97,119,95,108,101,97,100], qualname := st [95,108,97,119,95,108,101,97,100], params := fdP (stm 64), body := .stmts (fdB (stm 64)), scope := fdS (stm 64), globals := 0, closure := [], defaults := .none, kwdefaults := .none } },
  { cls := .type "code", data := .fields #[sN [95,108,97,119,95,108,101,97,100] 687, sN [95,108,97,119,95,108,101,97,100] 688, sN [47,99,108,97,105,109,47,99,117,116,46,112,121] 689, .int 136 0, .int 1 0, .int 0 0, .int 0 0, .int 3 0, .ref 146, .bool true, .int 276 0, .ref 147, .none, .ref 148, .ref 149, .ref 150, .int 691 0, .int 136 0, sN [47,99,108,97,105,109,47,99,117,116,46,112,121] 692] },
  { cls := .type "function", data := .func { name := st [95,108,97,119,95,108,101,97,100], qualname := st [95,108,97,119,95,108,101,97,100], params := fdP (stm 64), body := .stmts (fdB (stm 64)), scope := fdS (stm 64), globals := 3, closure := [], defaults := .none, kwdefaults := .none, pyModule := sN [108,97,119,95,114,119,48,48,57,57,95,48,49] 664, code := .ref 151 } },
  { cls := .type "tuple", data := .seq #[] },
  { cls := .none, data := .fields #[] },
  { cls := .none, data := .func { name := st [108,97,119], qualname := st [108,97,119], params := fdP (stm 65), body := .stmts (fdB (stm 65)), scope := fdS (stm 65), globals := 0, closure := [], defaults := .none, kwdefaults := .none } },
  { cls := .type "code", data := .fields #[sN [108,97,119] 694, sN [108,97,119] 695, sN [47,99,108,97,105,109,47,99,117,116,46,112,121] 696, .int 138 0, .int 1 0, .int 0 0, .int 0 0, .int 3 0, .ref 153, .bool true, .int 276 0, .ref 154, .none, .none, .none, .ref 155, .int 697 0, .int 138 0, sN [47,99,108,97,105,109,47,99,117,116,46,112,121] 698] },
  { cls := .type "function", data := .func { name := st [108,97,119], qualname := st [108,97,119], params := fdP (stm 65), body := .stmts (fdB (stm 65)), scope := fdS (stm 65), globals := 3, closure := [], defaults := .none, kwdefaults := .none, pyModule := sN [108,97,119,95,114,119,48,48,57,57,95,48,49] 664, code := .ref 156 } }]⟩, {}⟩

abbrev PW : Program := PySem.Challenge.pw_rw0099_01
theorem open_0 : ∀ w : World, (fencedOpening treeTable PW w 4740).map (fun s => (s.heap, s.gens, s.drawn, s.toks)) = some (heap0 w.params, #[], {}, 276) := fun w => by
  unfold fencedOpening
  rw [PySem.W.Fast.te14364793385576792824, PySem.W.Fast.te10274390034422433532, PySem.W.Fast.te1435165496053646825, PySem.W.Fast.te14289696077712309145]
  kernel_rfl
theorem size_0 : ∀ w : World, ((heap0 w.params).isNs mainGlobals && (#[] : Array GenState).size == 0, (heap0 w.params).objs.size, (heap0 w.params).nsMap mainGlobals "__annotations__") = (true, 28, some (.ref 6)) := fun w => by kernel_rfl
abbrev RunAt (w : World) : Prop := ∀ os, topRun treeTable PW w 28 (some (.ref 6)) 4700 ⟨heap0 w.params, #[], {}, 276, os⟩ (topStub PW) = some ⟨heap1 w.params, #[], {}, 700, os⟩
theorem run_f : ∀ w : World, RunAt (w.withFollow "special-get-raises" false) := fun w os => by
  rw [PySem.W.Fast.te14364793385576792824, PySem.W.Fast.te14082659384304107361]
  kernel_rfl
theorem run_t : ∀ w : World, RunAt (w.withFollow "special-get-raises" true) := fun w os => by
  rw [PySem.W.Fast.te14364793385576792824, PySem.W.Fast.te14082659384304107361]
  kernel_rfl
theorem run_all (w : World) (os : OsState) : topRun treeTable PW w 28 (some (.ref 6)) 4700 ⟨heap0 w.params, #[], {}, 276, os⟩ (topStub PW) = some ⟨heap1 w.params, #[], {}, 700, os⟩ :=
  byRow2 (P := RunAt) "special-get-raises" run_f run_t w os
theorem looks_1 (w : World) (os : OsState) : (staticsOk (importedModules PW.main.body) (heap0 w.params) (heap1 w.params) && namesBound PW (heap1 w.params) && gensDone ⟨heap1 w.params, #[], {}, 700, os⟩ && laidKept (heap0 w.params) (heap1 w.params)) = true := by kernel_rfl
theorem looks_2 (w : World) (os : OsState) : openSeen vw looseL (importedModules PW.main.body) (fun s => xlAt vw [] s && recOk pwR.toRowW.records s) true ⟨heap1 w.params, #[], {}, 700, os⟩ = openGood vw looseL := by
  rw [PySem.W.Fast.te4187177175401517315, PySem.W.Fast.te5923862056798008813]
  kernel_rfl
theorem looks_3 (w : World) : adrs.map (heap1 w.params).get? = (kHeap w.params).map fun p => some p.2 := by kernel_rfl
theorem looks_all (w : World) (os : OsState) : ((staticsOk (importedModules PW.main.body) (heap0 w.params) (heap1 w.params) && namesBound PW (heap1 w.params) && gensDone ⟨heap1 w.params, #[], {}, 700, os⟩ && laidKept (heap0 w.params) (heap1 w.params)),
    openSeen vw looseL (importedModules PW.main.body) (fun s => xlAt vw [] s && recOk pwR.toRowW.records s) true ⟨heap1 w.params, #[], {}, 700, os⟩, adrs.map (heap1 w.params).get?) = (true, openGood vw looseL, (kHeap w.params).map fun p => some p.2) := by
  rw [looks_1, looks_2, looks_3]
theorem left_all : LeftO pwR.toRowW.prog vw looseL (fun s => xlAt vw [] s && recOk pwR.toRowW.records s) (fun s => adrs.map s.heap.get?) (fun w => (kHeap w.params).map fun p => some p.2) 4740 :=
  LeftO.of_pieces (H₀ := heap0) (H₁ := heap1) (gs₀ := #[]) (gs₁ := #[]) (d₀ := {}) (d₁ := {}) (k₀ := 276) (k₁ := 700) (m₀ := 28) (ann := some (.ref 6)) (M := 4700) open_0 size_0 run_all rfl fun w => by
    funext os
    exact looks_all w os
theorem adrs_ok : ∀ P, adrs = (kHeap P).map (·.1) := fun P => by kernel_rfl
theorem said_row : PySem.Challenge.rw_rw0099_01.row.wellSaid = true := by
  rw [PySem.W.Fast.te17960256430627541270]
  kernel_rfl
theorem said_ok : PySem.Challenge.rw_rw0099_01.wellSaid = true := by
  unfold OpenLaw.wellSaid
  rw [said_row]
  rw [PySem.W.Fast.te8179353310426384613, PySem.W.Fast.te8326940854005059898, PySem.W.Fast.te797321630700447069, PySem.W.Fast.te9572597257264208301, PySem.W.Fast.te9558739934217749035, PySem.W.Fast.te16286561074155671207, PySem.W.Fast.te6984425678791042302, PySem.W.Fast.te12879404354523853263, PySem.W.Fast.te482687673346738481, PySem.W.Fast.te17119622794617984870, PySem.W.Fast.te10792542408131684335, PySem.W.Fast.te10501279942588096481]
  kernel_rfl
theorem head (call : WalkO vw looseL (XL vw []) (kHook kHeap adrs adrs_ok).says pwR.toRowW lawDef [] fun f vs => PySem.call f vs) : PySem.Challenge.rw_rw0099_01.Holds :=
  holds_law said_ok fun said => holds_open (q := vw) (loose := looseL) (Xt := fun s => xlAt vw [] s && recOk pwR.toRowW.records s) (XP := XL vw []) (Yf := (kHook kHeap adrs adrs_ok).obs) (Ya := (kHook kHeap adrs adrs_ok).val) (YP := (kHook kHeap adrs adrs_ok).says) (N := 4740)
    left_all (kHook kHeap adrs adrs_ok).of (kHook kHeap adrs adrs_ok).keeps (fun s e => xl_of s (Bool.and_eq_true_iff.mp e).1) XL.keeps (by kernel_rfl) (by kernel_rfl) (by kernel_rfl) (fun s e => recFacts_of (Bool.and_eq_true_iff.mp e).2) (by kernel_rfl) said (by decide +kernel) ⟨rfl, rfl, rfl, rfl, rfl, by decide +kernel⟩
    ⟨[.list []], by decide +kernel, by decide +kernel⟩ call
end Mine
end

section
namespace Mine
/-! the heap never shrinks -/
theorem runs_size {M : Model} {Γ : Ctx} {p : Pos} {t : Sem Fin} {fs : List Frame} {s s' : Shared} {e : End} (h : Runs M Γ p t fs s e s') : s.heap.objs.size ≤ s'.heap.objs.size := by
  induction h <;> (try simp only [Shared.setGen, Heap.size_push, Heap.size_update] at *) <;> omega
theorem wakes_size {M : Model} {Γ : Ctx} {p : Pos} {g : Nat} {r : Resume} {s s' : Shared} {res : GenResult} (h : Wakes M Γ p g r s res s') : s.heap.objs.size ≤ s'.heap.objs.size := by
  unfold Wakes at h
  repeat' split at h
  · exact h.elim
  · obtain ⟨_, s₁, hr, _, _, rfl⟩ := h; exact (runs_size hr : (s.setGen g .running).heap.objs.size ≤ s₁.heap.objs.size)
  · rw [h.2]; exact Nat.le_refl _
  · rw [h.2]; exact Nat.le_refl _
  · obtain ⟨_, s₁, hr, _, _, rfl⟩ := h; exact (runs_size hr : (s.setGen g .running).heap.objs.size ≤ s₁.heap.objs.size)
  · rw [h.2]; exact Nat.le_refl _
  · rw [h.2]; exact Nat.le_refl _
theorem wp_size {α : Type} (M : Model) (Γ : Ctx) (n : Nat) (t : Sem α) : ∀ (Q : α → Pos → Shared → Prop) (E : Value → Pos → Shared → Prop) (p : Pos) (s : Shared), n ≤ s.heap.objs.size → Sem.wp M Γ t Q E p s →
    Sem.wp M Γ t (fun a p' s' => n ≤ s'.heap.objs.size ∧ Q a p' s') (fun e p' s' => n ≤ s'.heap.objs.size ∧ E e p' s') p s := by
  induction t with
  | pure a => exact fun Q E p s hn h => ⟨hn, h⟩
  | raise e => exact fun Q E p s hn h => ⟨hn, h⟩
  | unsupported _ => exact fun Q E p s _ h => h
  | finish _ => exact fun Q E p s _ h => h
  | rule _ k ih => exact fun Q E p s hn h => ih () Q E p s hn h
  | «at» p' k ih => exact fun Q E p s hn h => ih () Q E p' s hn h
  | load a _ k ih => exact fun Q E p s hn ⟨o, ho, h⟩ => ⟨o, ho, ih o Q E p s hn h⟩
  | update a _ f k ih => exact fun Q E p s hn h => ⟨h.1, ih () Q E p _ (by rw [Heap.size_update]; exact hn) h.2⟩
  | loadIfAlive a k ih => exact fun Q E p s hn h => ih _ Q E p s hn h
  | point _ k ih => exact fun Q E p s hn h => ih () Q E p s hn h
  | register _ _ => exact fun Q E p s _ h => h
  | alloc o k ih => exact fun Q E p s hn h => ih _ Q E p _ (by rw [Heap.size_push]; omega) h
  | fresh k ih => exact fun Q E p s hn h => ih _ Q E p _ hn h
  | ask k ih => exact fun Q E p s hn h => ih _ Q E p s hn h
  | choose src m k ih => exact fun Q E p s hn h => ⟨h.1, ih _ Q E p _ hn h.2⟩
  | os q _ k ih => exact fun Q E p s hn h => ih _ Q E p _ hn h
  | call c hd _ _ k ih => exact fun Q E p s hn ⟨r, s', hr, h⟩ => ⟨r, s', hr, ih r Q E p s' (Nat.le_trans hn (runs_size hr)) h⟩
  | handled own k ih => exact fun Q E p s hn h => ih _ Q E p s hn h
  | genState g k ih => exact fun Q E p s hn ⟨st, hs, h⟩ => ⟨st, hs, ih _ Q E p s hn h⟩
  | newGen c k ih => exact fun Q E p s hn h => ih _ Q E p _ hn h
  | resume g r _ k ih => exact fun Q E p s hn ⟨res, s', hw, h⟩ => ⟨res, s', hw, ih res Q E p s' (Nat.le_trans hn (wakes_size hw)) h⟩
  | yield _ _ _ _ => exact fun Q E p s _ h => h
  | stack k ih => exact fun Q E p s hn h => ih _ Q E p s hn h
  | fork _ _ => exact fun Q E p s _ h => h
  | thread k ih => exact fun Q E p s hn h => ih _ Q E p s hn h
  | await _ _ _ _ _ => exact fun Q E p s _ h => h
theorem with_size {α : Type} {M : Model} {A : Around} {s : Shared} {t : Sem α} {Q : α → Shared → Prop} {E : Value → Shared → Prop}
    (h : wpAny M A t (fun a s' => s.heap.objs.size ≤ s'.heap.objs.size → Q a s') E s) : wpAny M A t Q E s := fun Γ p hΓ =>
  Sem.wp_mono M Γ t (fun _ _ _ x => x.2 x.1) (fun _ _ _ x => x.2) p s (wp_size M Γ _ t _ _ p s (Nat.le_refl _) (h Γ p hΓ))
theorem code_with_size {M : Model} {A : Around} {s : Shared} {c : Code} {R : Result → Shared → Prop} (h : codeAny M A c (fun r s' => s.heap.objs.size ≤ s'.heap.objs.size → R r s') s) : codeAny M A c R s :=
  fun Γ p hc hΓ => let ⟨r, s', hr, hR⟩ := h Γ p hc hΓ; ⟨r, s', hr, hR (runs_size hr)⟩
end Mine
end

section
namespace Mine

/-- the written part of the heap -/
noncomputable abbrev KK (w : World) : Frag := kHeap w.params

/-- plain data -/
inductive D where
  | none
  | bool (b : Bool)
  | int (i : Int)
  | str (s : Str)
  | list (ds : List D)
  | tuple (ds : List D)
  | white (raw : Str) (n nt : Int) (count : List Int) (b : Int) (simple : Bool)
  | mut (ds : List D)
  | inst (a dx : Addr) (od : Obj)
  | newl (lo : Addr) (ds : List D)
  | soft (ds : List D)
deriving Inhabited
/-- a list that is written in place -/
def D.isMut : D → Bool
  | .mut _ => true
  | _ => false

abbrev V0 := Addr → Prop

/-- an instance of Whitespace as it lies behind __init__ -/
structure WhiteAt (X : V0) (h : Heap) (a : Addr) (raw : Str) (n nt : Int) (count : List Int) (b : Int) (simple : Bool) : Prop where
  ex : ∃ dx od t1 t2 t3 t4 p q vs k1 k2, h.get? a = some (instObj 100 dx) ∧ h.get? dx = some od ∧ ¬ X a ∧ ¬ X dx ∧ ¬ X p ∧ ¬ X q ∧
    lookIn "raw" od = some (some (.str raw t1)) ∧ lookIn "n" od = some (some (.int n t2)) ∧ lookIn "nt" od = some (some (.int nt t3)) ∧
    lookIn "norm" od = some (some (.ref p)) ∧ lookIn "is_simple" od = some (some (.bool simple)) ∧
    lookIn "less" od = some none ∧ lookIn "equal" od = some none ∧ lookIn "indent_level" od = some none ∧ lookIn "longest_run_of_spaces" od = some none ∧
    IsT h p #[.ref q, .int b t4] k1 ∧ IsT h q (List.toArray vs) k2 ∧ IntsAre vs count

mutual
inductive Is (X : V0) (h : Heap) : Value → D → Prop
  | none : Is X h .none .none
  | bool (b) : Is X h (.bool b) (.bool b)
  | int (i t) : Is X h (.int i t) (.int i)
  | str (x t) : Is X h (.str x t) (.str x)
  | list {a vs n ds} : ¬ X a → IsL h a (List.toArray vs) n → IsAll X h vs ds → Is X h (.ref a) (.list ds)
  | tuple {a vs n ds} : ¬ X a → IsT h a (List.toArray vs) n → IsAll X h vs ds → Is X h (.ref a) (.tuple ds)
  | newl {a lo vs n ds} : lo ≤ a → ¬ X a → IsL h a (List.toArray vs) n → IsAll X h vs ds → Is X h (.ref a) (.newl lo ds)
  | soft {a vs ds} : ¬ X a → h.IsList a (List.toArray vs) → IsAll X h vs ds → Is X h (.ref a) (.soft ds)
  | inst {a dx od} : ¬ X a → ¬ X dx → h.get? a = some (instObj 100 dx) → h.get? dx = some od → Is X h (.ref a) (.inst a dx od)
  | white {a raw n nt count b simple} : WhiteAt X h a raw n nt count b simple → Is X h (.ref a) (.white raw n nt count b simple)
inductive IsAll (X : V0) (h : Heap) : List Value → List D → Prop
  | nil : IsAll X h [] []
  | cons {v vs d ds} : Is X h v d → IsAll X h vs ds → IsAll X h (v :: vs) (d :: ds)
end

theorem WhiteAt.mono {X X' : V0} {h h' : Heap} {a raw n nt count b simple} (hx : ∀ c o, h.get? c = some o → X' c → X c) (hk : ∀ c o, ¬ X c → h.get? c = some o → h'.get? c = some o)
    (w : WhiteAt X h a raw n nt count b simple) : WhiteAt X' h' a raw n nt count b simple := by
  obtain ⟨dx, od, t1, t2, t3, t4, p, q, vs, k1, k2, e1, e2, x1, x2, x3, x4, r1, r2, r3, r4, r5, r6, r7, r8, r9, e3, e4, i⟩ := w.ex
  exact ⟨dx, od, t1, t2, t3, t4, p, q, vs, k1, k2, hk _ _ x1 e1, hk _ _ x2 e2, fun z => x1 (hx _ _ e1 z), fun z => x2 (hx _ _ e2 z), fun z => x3 (hx _ _ e3 z), fun z => x4 (hx _ _ e4 z), r1, r2, r3, r4, r5, r6, r7, r8, r9, hk _ _ x3 e3, hk _ _ x4 e4, i⟩

mutual
theorem Is.mono {X X' : V0} {h h' : Heap} (hx : ∀ c o, h.get? c = some o → X' c → X c) (hk : ∀ c o, ¬ X c → h.get? c = some o → h'.get? c = some o) :
    ∀ {v : Value} {d : D}, Is X h v d → Is X' h' v d
  | _, _, .none => .none
  | _, _, .bool b => .bool b
  | _, _, .int i t => .int i t
  | _, _, .str x t => .str x t
  | _, _, .list x e r => .list (fun z => x (hx _ _ e z)) (hk _ _ x e) (IsAll.mono hx hk r)
  | _, _, .tuple x e r => .tuple (fun z => x (hx _ _ e z)) (hk _ _ x e) (IsAll.mono hx hk r)
  | _, _, .white w => .white (w.mono hx hk)
  | _, _, .newl l x e r => .newl l (fun z => x (hx _ _ e z)) (hk _ _ x e) (IsAll.mono hx hk r)
  | _, _, .soft x l r => .soft (fun z => let ⟨_, e, _⟩ := l; x (hx _ _ e z)) (let ⟨o, e, c, n, d⟩ := l; ⟨o, hk _ _ x e, c, n, d⟩) (IsAll.mono hx hk r)
  | _, _, .inst x y e f => .inst (fun z => x (hx _ _ e z)) (fun z => y (hx _ _ f z)) (hk _ _ x e) (hk _ _ y f)
theorem IsAll.mono {X X' : V0} {h h' : Heap} (hx : ∀ c o, h.get? c = some o → X' c → X c) (hk : ∀ c o, ¬ X c → h.get? c = some o → h'.get? c = some o) :
    ∀ {vs : List Value} {ds : List D}, IsAll X h vs ds → IsAll X' h' vs ds
  | _, _, .nil => .nil
  | _, _, .cons a r => .cons (Is.mono hx hk a) (IsAll.mono hx hk r)
end

/-- all objects kept -/
abbrev Ext (h h' : Heap) : Prop := ∀ b o, h.get? b = some o → h'.get? b = some o
/-- all kept that X does not name -/
abbrev ExtX (X : V0) (h h' : Heap) : Prop := ∀ b o, ¬ X b → h.get? b = some o → h'.get? b = some o

section
variable {X X' : V0} {h h' : Heap} {v : Value} {d : D} {vs ws : List Value} {ds es : List D}
theorem Is.keeps (x : Is X h v d) (hk : Ext h h') : Is X h' v d := x.mono (fun _ _ _ z => z) fun c o _ e => hk c o e
theorem IsAll.keeps (x : IsAll X h vs ds) (hk : Ext h h') : IsAll X h' vs ds := x.mono (fun _ _ _ z => z) fun c o _ e => hk c o e
theorem Is.moves (x : Is X h v d) (hk : ExtX X h h') : Is X h' v d := x.mono (fun _ _ _ z => z) hk
theorem IsAll.moves (x : IsAll X h vs ds) (hk : ExtX X h h') : IsAll X h' vs ds := x.mono (fun _ _ _ z => z) hk
theorem Is.less (x : Is X h v d) (hx : ∀ c, X' c → X c) : Is X' h v d := x.mono (fun _ _ _ z => hx _ z) fun c o _ e => e
theorem IsAll.less (x : IsAll X h vs ds) (hx : ∀ c, X' c → X c) : IsAll X' h vs ds := x.mono (fun _ _ _ z => hx _ z) fun c o _ e => e
theorem Is.more {Y : V0} (x : Is X h v d) (hy : ∀ c, Y c → h.get? c = Option.none) : Is (fun c => X c ∨ Y c) h v d :=
  x.mono (fun c o e z => z.elim id fun y => by rw [hy c y] at e; cases e) fun c o _ e => e
theorem IsAll.more {Y : V0} (x : IsAll X h vs ds) (hy : ∀ c, Y c → h.get? c = Option.none) : IsAll (fun c => X c ∨ Y c) h vs ds :=
  x.mono (fun c o e z => z.elim id fun y => by rw [hy c y] at e; cases e) fun c o _ e => e
theorem IsAll.length (x : IsAll X h vs ds) : vs.length = ds.length := by
  induction vs generalizing ds with
  | nil => cases x; rfl
  | cons v vs ih => cases x with | cons _ r => rw [List.length_cons, List.length_cons, ih r]
theorem IsAll.append (x : IsAll X h vs ds) (y : IsAll X h ws es) : IsAll X h (vs ++ ws) (ds ++ es) := by
  induction vs generalizing ds with
  | nil => cases x; exact y
  | cons v vs ih => cases x with | cons a r => exact .cons a (ih r)
theorem IsAll.get (x : IsAll X h vs ds) {k : Nat} {d : D} (hk : ds[k]? = some d) : ∃ v, vs[k]? = some v ∧ Is X h v d := by
  induction vs generalizing ds k with
  | nil => cases x; cases hk
  | cons v vs ih =>
    cases x with
    | cons a r =>
      cases k with
      | zero => cases hk; exact ⟨v, rfl, a⟩
      | succ k => exact ih r hk
theorem IsAll.get' (x : IsAll X h vs ds) {k : Nat} {v : Value} (hk : vs[k]? = some v) : ∃ d, ds[k]? = some d ∧ Is X h v d := by
  induction vs generalizing ds k with
  | nil => cases hk
  | cons v vs ih =>
    cases x with
    | cons a r =>
      cases k with
      | zero => cases hk; exact ⟨_, rfl, a⟩
      | succ k => exact ih r hk
theorem IsAll.take (x : IsAll X h vs ds) (k : Nat) : IsAll X h (vs.take k) (ds.take k) := by
  induction vs generalizing ds k with
  | nil => cases x; simpa using IsAll.nil
  | cons v vs ih =>
    cases x with
    | cons a r => cases k with
      | zero => exact .nil
      | succ k => exact .cons a (ih r k)
theorem IsAll.drop (x : IsAll X h vs ds) (k : Nat) : IsAll X h (vs.drop k) (ds.drop k) := by
  induction vs generalizing ds k with
  | nil => cases x; simpa using IsAll.nil
  | cons v vs ih =>
    cases x with
    | cons a r => cases k with
      | zero => exact .cons a r
      | succ k => exact ih r k
theorem IsAll.ints {ns : List Int} (x : IsAll X h vs (ns.map D.int)) : IntsAre vs ns := by
  induction vs generalizing ns with
  | nil => cases ns with | nil => exact .nil | cons => cases x
  | cons v vs ih =>
    cases ns with
    | nil => cases x
    | cons n ns => cases x with | cons a r => cases a with | int i t => exact .cons n t (ih r)
theorem isAll_ints {ns : List Int} (x : IntsAre vs ns) : IsAll X h vs (ns.map D.int) := by
  induction x with
  | nil => exact .nil
  | cons n t _ ih => exact .cons (.int n t) ih
theorem IsAll.flat {k : Nat} (x : IsAll X h vs ds) : IsAll X h (List.replicate k vs).flatten (List.replicate k ds).flatten := by
  induction k with
  | zero => exact .nil
  | succ k ih => rw [List.replicate_succ, List.replicate_succ, List.flatten_cons, List.flatten_cons]; exact x.append ih
end

/-- all is kept -/
structure Kp (s s' : Shared) : Prop where
  eq : ∃ h' tk, s' = { s with heap := h', toks := tk }
  heap : Ext s.heap s'.heap
  size : s.heap.objs.size ≤ s'.heap.objs.size
theorem Kp.refl (s : Shared) : Kp s s := ⟨⟨s.heap, s.toks, rfl⟩, fun _ _ e => e, Nat.le_refl _⟩
theorem Kp.trans {s s' s'' : Shared} (x : Kp s s') (y : Kp s' s'') : Kp s s'' := by
  refine ⟨?_, fun b o e => y.heap b o (x.heap b o e), Nat.le_trans x.size y.size⟩
  obtain ⟨h, tk, rfl⟩ := x.eq
  obtain ⟨h', tk', rfl⟩ := y.eq
  exact ⟨h', tk', rfl⟩
theorem Kp.tok (s : Shared) (n : Nat) : Kp s { s with toks := n } := ⟨⟨s.heap, n, rfl⟩, fun _ _ e => e, Nat.le_refl _⟩
theorem Kp.push (s : Shared) (o : Obj) : Kp s { s with heap := s.heap.push o } := ⟨⟨_, s.toks, rfl⟩, fun _ _ e => Heap.get?_push_of_some _ e, by show _ ≤ (s.heap.push o).objs.size; rw [Heap.size_push]; omega⟩
theorem Kp.of {s : Shared} {h : Heap} {n : Nat} (k : Ext s.heap h) (z : s.heap.objs.size ≤ h.objs.size) : Kp s { s with heap := h, toks := n } := ⟨⟨h, n, rfl⟩, k, z⟩

/-- what is moved: only what W names, and the counters -/
structure Moves (W : V0) (s s' : Shared) : Prop where
  eq : ∃ h' tk, s' = { s with heap := h', toks := tk }
  heap : ExtX W s.heap s'.heap
  size : s.heap.objs.size ≤ s'.heap.objs.size
theorem Kp.moves {W : V0} {s s' : Shared} (x : Kp s s') : Moves W s s' := ⟨x.eq, fun b o _ e => x.heap b o e, x.size⟩
theorem Moves.refl (W : V0) (s : Shared) : Moves W s s := (Kp.refl s).moves
theorem Moves.trans {W : V0} {s s' s'' : Shared} (x : Moves W s s') (y : Moves W s' s'') : Moves W s s'' := by
  refine ⟨?_, fun b o n e => y.heap b o n (x.heap b o n e), Nat.le_trans x.size y.size⟩
  obtain ⟨h, tk, rfl⟩ := x.eq
  obtain ⟨h', tk', rfl⟩ := y.eq
  exact ⟨h', tk', rfl⟩
theorem Moves.mono {W W' : V0} {s s' : Shared} (x : Moves W s s') (hw : ∀ c, W c → W' c) : Moves W' s s' := ⟨x.eq, fun b o n e => x.heap b o (fun z => n (hw _ z)) e, x.size⟩
theorem Moves.of {W : V0} {s : Shared} {h : Heap} {n : Nat} (k : ExtX W s.heap h) (z : s.heap.objs.size ≤ h.objs.size) : Moves W s { s with heap := h, toks := n } := ⟨⟨h, n, rfl⟩, k, z⟩
/-- what is new may be moved -/
theorem Moves.news {W N : V0} {s s' s'' : Shared} (x : Kp s s') (y : Moves (fun c => W c ∨ N c) s' s'') (hn : ∀ c, N c → s.heap.get? c = Option.none) : Moves W s s'' := by
  refine ⟨?_, fun b o n e => y.heap b o (fun z => z.elim n fun z => by rw [hn b z] at e; cases e) (x.heap b o e), Nat.le_trans x.size y.size⟩
  obtain ⟨h, tk, rfl⟩ := x.eq
  obtain ⟨h', tk', rfl⟩ := y.eq
  exact ⟨h', tk', rfl⟩
theorem Moves.keeps {N : V0} {s s' s'' : Shared} (x : Kp s s') (y : Moves N s' s'') (hn : ∀ c, N c → s.heap.get? c = Option.none) : Kp s s'' := by
  refine ⟨?_, fun b o e => y.heap b o (fun z => by rw [hn b z] at e; cases e) (x.heap b o e), Nat.le_trans x.size y.size⟩
  obtain ⟨h, tk, rfl⟩ := x.eq
  obtain ⟨h', tk', rfl⟩ := y.eq
  exact ⟨h', tk', rfl⟩

/-- what the top has left -/
structure Gr0 (w : World) (h : Heap) : Prop where
  X : (KK w).In h
  b : ∃ mb, h.Ns builtinsNs mb ∧ ∀ x : Str, x ≠ "__name__" → mb x = bootBuiltins x
  lim : h.NoLimit
theorem Gr0.keeps {w : World} {h h' : Heap} (x : Gr0 w h) (k : Ext h h') : Gr0 w h' := ⟨x.X.keeps k, let ⟨mb, a, b⟩ := x.b; ⟨mb, a.keeps k, b⟩, x.lim.keeps k⟩
def Gr (w : World) (X : V0) (h : Heap) : Prop := ∃ g, Gr0 w g ∧ (∀ c o, X c → g.get? c = some o → False) ∧ Ext g h
theorem Gr.gr0 {w : World} {X : V0} {h : Heap} (x : Gr w X h) : Gr0 w h := let ⟨_, a, _, c⟩ := x; a.keeps c
theorem Gr.moves {w : World} {X : V0} {h h' : Heap} (x : Gr w X h) (k : ExtX X h h') : Gr w X h' :=
  let ⟨g, a, b, c⟩ := x; ⟨g, a, b, fun u o e => k u o (fun z => b u o z e) (c u o e)⟩
theorem Gr.keeps {w : World} {X : V0} {h h' : Heap} (x : Gr w X h) (k : Ext h h') : Gr w X h' := x.moves fun b o _ e => k b o e
theorem Gr.less {w : World} {X X' : V0} {h : Heap} (x : Gr w X h) (k : ∀ c, X' c → X c) : Gr w X' h :=
  let ⟨g, a, b, c⟩ := x; ⟨g, a, fun u o z => b u o (k u z), c⟩
theorem Gr.more {w : World} {X Y : V0} {h h' : Heap} (x : Gr w X h) (k : Ext h h') (hy : ∀ c, Y c → h.get? c = Option.none) : Gr w (fun c => X c ∨ Y c) h' :=
  let ⟨g, a, b, c⟩ := x; ⟨g, a, (fun u o z e => z.elim (fun z => b u o z e) fun z => by have := c u o e; rw [hy u z] at this; cases this), fun u o e => k u o (c u o e)⟩

/-- the shape of an environment: its names, the names that have cells -/
structure Sh (sc : Scope) (cn : List Str) (env : Env) : Prop where
  scope : env.scope = sc
  cells : env.cells.map (·.1) = cn
  globals : env.globals = mainGlobals
  builtins : env.builtins = builtinsNs
  kind : sc.kind = .function
theorem Sh.fk {sc : Scope} {cn : List Str} {env : Env} (h : Sh sc cn env) : env.scope.kind = .function := by rw [h.scope]; exact h.kind
theorem Sh.kindOf {sc : Scope} {cn : List Str} {env : Env} (h : Sh sc cn env) {x : Str} {k : Option NameKind} (e : sc.names.lookup x = k) : env.kindOf x = k := by unfold Env.kindOf; rw [h.scope]; exact e

/-- the name x reads as v -/
inductive NameAt (env : Env) (h : Heap) (x : Str) (v : Value) : Prop
  | loc (m : Str → Option Value) : env.kindOf x = some .local → h.Ns env.locals m → m x = some v → NameAt env h x v
  | cel (c : Addr) : (env.kindOf x = some .cell ∨ env.kindOf x = some .free) → env.cells.lookup x = some c → h.IsCell c (some v) → NameAt env h x v
theorem NameAt.keeps {env : Env} {h h' : Heap} {x : Str} {v : Value} (n : NameAt env h x v) (k : Ext h h') : NameAt env h' x v := by
  cases n with
  | loc m a b c => exact .loc m a (b.keeps k) c
  | cel c a b d => exact .cel c a b (d.keeps k)

abbrev Rho := List (Str × D)

/-- what an expression may lean on -/
structure Sees (w : World) (X : V0) (env : Env) (ρ : Rho) (s : Shared) : Prop where
  gr : Gr w X s.heap
  xs : ∀ c, X c → c < s.heap.objs.size
  vals : ∀ x d, ρ.lookup x = some d → d.isMut = false → ∃ v, NameAt env s.heap x v ∧ Is X s.heap v d
  cel : ∀ n c, env.cells.lookup n = some c → ∃ v, s.heap.IsCell c v
  inj : ∀ n n' c, env.cells.lookup n = some c → env.cells.lookup n' = some c → n = n'
theorem Sees.keeps {w : World} {X : V0} {env : Env} {ρ : Rho} {s s' : Shared} (x : Sees w X env ρ s) (k : Kp s s') : Sees w X env ρ s' where
  gr := x.gr.keeps k.heap
  xs := fun c z => Nat.lt_of_lt_of_le (x.xs c z) k.size
  vals := fun y d e z => let ⟨v, a, b⟩ := x.vals y d e z; ⟨v, a.keeps k.heap, b.keeps k.heap⟩
  cel := fun n c e => let ⟨v, b⟩ := x.cel n c e; ⟨v, b.keeps k.heap⟩
  inj := x.inj
theorem Sees.fresh {w : World} {X : V0} {env : Env} {ρ : Rho} {s : Shared} (x : Sees w X env ρ s) {a : Addr} (h : s.heap.objs.size ≤ a) : ¬ X a := fun z => absurd (x.xs a z) (Nat.not_lt.mpr h)

/-- room below -/
def Ok (n : Nat) (A : Around) : Prop := A.handled = none ∧ A.depth + n ≤ 900 ∧ A.units + 20 * n ≤ 9000
theorem Ok.le {n m : Nat} {A : Around} (h : Ok n A) (hm : m ≤ n) : Ok m A := ⟨h.1, by have := h.2.1; omega, by have := h.2.2; omega⟩
theorem Ok.in1 {n : Nat} {A : Around} (h : Ok (n + 1) A) : Ok n A.in1 := ⟨h.1, by have := h.2.1; show A.depth + n ≤ 900; omega, by have := h.2.2; show A.units + 1 + 20 * n ≤ 9000; omega⟩
theorem Ok.deeper {n : Nat} {A : Around} (h : Ok (n + 1) A) (env : Env) : Ok n (A.deeper env) := ⟨h.1, by have := h.2.1; show A.depth + 1 + n ≤ 900; omega, by have := h.2.2; show A.units + 3 + 20 * n ≤ 9000; omega⟩
theorem Ok.hh {n : Nat} {A : Around} (h : Ok n A) : A.handled = none := h.1
theorem Ok.room {n : Nat} {A : Around} (h : Ok n A) : A.depth < recursionLimit := by have := h.2.1; show A.depth < 1000; omega
theorem Ok.units {n : Nat} {A : Around} (h : Ok n A) : A.units < cLine := by have := h.2.2; show A.units < 9900; omega

/-- the tree gives the datum d, all is kept -/
def Gives (prog : Program) (w : World) (A : Around) (X : V0) (t : Sem Value) (d : D) (s : Shared) : Prop :=
  ∀ (Q : Value → Shared → Prop) (E : Value → Shared → Prop), (∀ v s', Kp s s' → Is X s'.heap v d → Q v s') → wpAny (model prog w) A t Q E s

/-- the expression means d -/
def Ev (prog : Program) (w : World) (A : Around) (sc : Scope) (cn : List Str) (ρ : Rho) (e : Expr) (d : D) : Prop :=
  ∀ env X s, Sh sc cn env → Sees w X env ρ s → Gives prog w A X (eval e env) d s

/-- the test means b -/
def Te (prog : Program) (w : World) (A : Around) (sc : Scope) (cn : List Str) (ρ : Rho) (e : Expr) (b : Bool) : Prop :=
  ∀ env X s, Sh sc cn env → Sees w X env ρ s → ∀ (Q : Bool → Shared → Prop) (E : Value → Shared → Prop), (∀ s', Kp s s' → Q b s') → wpAny (model prog w) A (isTrue e env (eval e env)) Q E s

end Mine
end

section
namespace Mine

section
variable {prog : Program} {w : World} {A : Around} {X : V0} {env : Env} {ρ : Rho} {s : Shared} {sc : Scope} {cn : List Str}

/-- what a result may lean on: X is of objects that stand -/
def Std (X : V0) (s : Shared) : Prop := ∀ c, X c → c < s.heap.objs.size
theorem Std.fresh (x : Std X s) {a : Addr} (h : s.heap.objs.size ≤ a) : ¬ X a := fun z => absurd (x a z) (Nat.not_lt.mpr h)

theorem Gives.newList {vs : List Value} {ds : List D} (hx : Std X s) (h : IsAll X s.heap vs ds) (hl : ds.length ≤ 1048576) : Gives prog w A X (newList vs) (.list ds) s := fun Q E q => by
  refine wpAny_newObj_type (q _ _ (Kp.push _ _) ?_) ?_
  · exact .list (hx.fresh (Nat.le_refl _)) (Heap.get?_push_size _ rfl) (h.keeps fun _ _ e => Heap.get?_push_of_some _ e)
  · show vs.toArray.size ≤ sizeLine
    rw [List.size_toArray, h.length, sizeLine_eq]; omega
theorem Gives.newTuple {vs : List Value} {ds : List D} (hx : Std X s) (h : IsAll X s.heap vs ds) (hl : ds.length ≤ 1048576) : Gives prog w A X (newTuple vs) (.tuple ds) s := fun Q E q => by
  refine wpAny_newObj_type (q _ _ (Kp.push _ _) ?_) ?_
  · exact .tuple (hx.fresh (Nat.le_refl _)) (Heap.get?_push_size _ rfl) (h.keeps fun _ _ e => Heap.get?_push_of_some _ e)
  · show vs.toArray.size ≤ sizeLine
    rw [List.size_toArray, h.length, sizeLine_eq]; omega

/-- the operator on data -/
def Bin (prog : Program) (w : World) (A : Around) (op : Operator) (a b d : D) : Prop :=
  ∀ X s va vb, Std X s → Is X s.heap va a → Is X s.heap vb b → Gives prog w A X (binaryOp op va vb) d s
theorem Bin.addI {a b : Int} : Bin prog w A .Add (.int a) (.int b) (.int (a + b)) := fun X s va vb _ ha hb Q E q => by
  cases ha; cases hb; exact PyProof.Rows.add_int (q _ _ (Kp.tok _ _) (.int _ _))
theorem Bin.subI {a b : Int} : Bin prog w A .Sub (.int a) (.int b) (.int (a - b)) := fun X s va vb _ ha hb Q E q => by
  cases ha; cases hb; exact PyProof.Rows.sub_int (q _ _ (Kp.tok _ _) (.int _ _))
theorem Bin.mulI {a b : Int} (h : IntMulOk a b) : Bin prog w A .Mult (.int a) (.int b) (.int (a * b)) := fun X s va vb _ ha hb Q E q => by
  cases ha; cases hb; exact PyProof.Rows.mul_int (q _ _ (Kp.tok _ _) (.int _ _)) h
theorem Bin.divI {a b : Int} (h : b ≠ 0) (h2 : b.natAbs < 1073741824) : Bin prog w A .FloorDiv (.int a) (.int b) (.int (a.fdiv b)) := fun X s va vb _ ha hb Q E q => by
  cases ha; cases hb; exact PyProof.Rows.floordiv_int h (q _ _ (Kp.tok _ _) (.int _ _)) (.inl (PyProof.noPylong_small h2))
theorem Bin.modI {a b : Int} (h : b ≠ 0) : Bin prog w A .Mod (.int a) (.int b) (.int (a.fmod b)) := fun X s va vb _ ha hb Q E q => by
  cases ha; cases hb; exact PyProof.Rows.mod_int' h (q _ _ (Kp.tok _ _) (.int _ _))
theorem Bin.powI {a n : Int} (h0 : 0 ≤ n) (h1 : n ≤ 1000000) (h2 : a.natAbs < 2 ^ 64) : Bin prog w A .Pow (.int a) (.int n) (.int (a ^ n.toNat)) := fun X s va vb _ ha hb Q E q => by
  cases ha; cases hb; exact PyProof.Rows.pow_int_small h0 h1 h2 (q _ _ (Kp.tok _ _) (.int _ _))
theorem Bin.addS {a b : Str} (h : a.length + b.length ≤ 1048576) : Bin prog w A .Add (.str a) (.str b) (.str (a ++ b)) := fun X s va vb _ ha hb Q E q => by
  cases ha; cases hb; exact PyProof.Rows.add_str (fun t' tk => q _ _ (Kp.tok _ _) (.str _ _)) (by rw [sizeLine_eq]; omega)
theorem Bin.mulS {a : Str} {n : Int} (h0 : n ≤ 1048576) (h1 : -1048576 ≤ n) (h2 : a.length * n.toNat ≤ 1048576) (h3 : a.length = 1) : Bin prog w A .Mult (.str a) (.int n) (.str (Txt.mul a n)) := fun X s va vb _ ha hb Q E q => by
  cases ha; cases hb
  refine SB.mul ⟨by simp; omega, fun h _ => ?_, fun h _ => ?_⟩ (fun t' k => q _ _ (Kp.tok _ _) (.str _ _))
  · rw [h3]
    have : 1 ≤ (2 ^ 63 - 1) / n := by
      have := Int.le_ediv_of_mul_le (a := 1) (b := 2 ^ 63 - 1) (c := n) (by omega) (by omega)
      exact this
    show ¬ (1 : Int) > _
    omega
  · rw [Builtin.Str.tooLong]; simp [sizeLine_eq]; omega
theorem Bin.addL {a b : List D} (h : a.length + b.length ≤ 1048576) : Bin prog w A .Add (.list a) (.list b) (.list (a ++ b)) := fun X s va vb hx ha hb Q E q => by
  cases ha with | list x1 l1 r1 =>
  cases hb with | list x2 l2 r2 =>
  refine P.add_list l1 l2 (q _ _ (Kp.push _ _) ?_) ?_
  · rw [List.append_toArray]
    exact .list (hx.fresh (Nat.le_refl _)) (Heap.get?_push_size _ rfl) ((r1.append r2).keeps fun _ _ e => Heap.get?_push_of_some _ e)
  · rw [List.size_toArray, List.size_toArray, r1.length, r2.length, sizeLine_eq]; omega
theorem flat_arrays (vs : List Value) : ∀ (k : Nat) (acc : Array Value), List.foldl (fun x1 x2 => x1 ++ x2) acc (List.replicate k vs.toArray) = acc ++ (List.replicate k vs).flatten.toArray
  | 0, acc => by simp
  | k + 1, acc => by rw [List.replicate_succ, List.foldl_cons, flat_arrays vs k, List.replicate_succ, List.flatten_cons]; simp [Array.append_assoc]
theorem Bin.mulL {a : List D} {n : Int} (h0 : n ≤ 1048576) (h1 : -1048576 ≤ n) (h2 : a.length * n.toNat ≤ 1048576) (h3 : a ≠ []) : Bin prog w A .Mult (.list a) (.int n) (.list (List.replicate n.toNat a).flatten) := fun X s va vb hx ha hb Q E q => by
  cases ha with | list x1 l1 r1 =>
  cases hb
  rename_i vs k _
  have hne : ¬ vs.toArray.isEmpty = true := by
    rw [List.isEmpty_toArray]; intro z
    have := r1.length
    cases vs with
    | nil => (cases a with | nil => exact h3 rfl | cons => cases this)
    | cons => cases z
  refine wpAny_binaryOp_repeat_ref (T := "list") (U := "int") (by decide) ⟨_, l1, rfl⟩ (fun s' => typeIs_int s' _ _) noFill_list_mul F.fills_int_mul F.slot_int_rmul repeat_list F.slot_int_index.lookup
    (call_meets F.slot_int_rmul (typeIs_int s _ _) F.entry_int_rmul (F.args_int_rmul_2 _ _) (int___rmul___int_list _ _ _ vs.toArray k)
      ⟨l1, rfl, ⟨_, l1, rfl⟩, call_meets F.slot_list_mul ⟨_, l1, rfl⟩ F.entry_list_mul (F.args_list_mul_2 _ _)
        (AutoListH.list___mul___list_int_3 _ vs.toArray k _ _ (by simp [Builtin.List.listFitsIndex]; omega) ?_ ?_)
        ⟨l1, q _ _ (Kp.push _ _) ?_⟩⟩)
  · rw [List.size_toArray, r1.length]; omega
  · simp [Builtin.List.listTooLong, sizeLine_eq, r1.length]; omega
  · rw [if_neg hne, flat_arrays]
    have e : (#[] : Array Value) ++ (List.replicate n.toNat vs).flatten.toArray = (List.replicate n.toNat vs).flatten.toArray := by simp
    rw [e]
    exact .list (hx.fresh (Nat.le_refl _)) (Heap.get?_push_size _ rfl) (r1.flat.keeps fun _ _ e => Heap.get?_push_of_some _ e)
end

section
variable {prog : Program} {w : World} {A : Around} {X : V0} {env : Env} {ρ : Rho} {s : Shared} {sc : Scope} {cn : List Str}

theorem Sees.std (x : Sees w X env ρ s) : Std X s := x.xs
theorem Std.keeps {s s' : Shared} (x : Std X s) (k : Kp s s') : Std X s' := fun c z => Nat.lt_of_lt_of_le (x c z) k.size

theorem Ev.bin {l r : Expr} {op : Operator} {pos : Pos} {a b d : D} (hl : Ev prog w A sc cn ρ l a) (hr : Ev prog w A sc cn ρ r b) (ho : Bin prog w A op a b d) : Ev prog w A sc cn ρ (.BinOp l op r pos) d :=
  fun env X s H S _ E q => wpAny_BinOp (hl env X s H S _ E fun _ _ k1 i1 => hr env X _ H (S.keeps k1) _ E fun _ _ k2 i2 => ho X _ _ _ ((S.keeps k1).keeps k2).std (i1.keeps k2.heap) i2 _ E fun _ _ k3 i3 => q _ _ ((k1.trans k2).trans k3) i3)
theorem Ev.int {i : Int} {k : Nat} {pos : Pos} : Ev prog w A sc cn ρ (.Constant (.int i) k pos) (.int i) := fun _ _ _ _ _ _ _ q => wpAny_Constant_int (q _ _ (Kp.tok _ _) (.int _ _))
theorem Ev.str {x : Str} {k : Nat} {pos : Pos} : Ev prog w A sc cn ρ (.Constant (.str x) k pos) (.str x) := fun _ _ _ _ _ _ _ q => Calls.Constant_str (q _ _ (Kp.tok _ _) (.str _ _))
theorem Ev.bool {b : Bool} {k : Nat} {pos : Pos} : Ev prog w A sc cn ρ (.Constant (.bool b) k pos) (.bool b) := fun _ _ _ _ _ _ _ q => Constant_bool (q _ _ (Kp.refl _) (.bool _))
theorem loadName_at {n : Str} {v : Value} {Q : Value → Shared → Prop} {E : Value → Shared → Prop} {M : Model} (hf : env.scope.kind = .function) (h : NameAt env s.heap n v) (q : Q v s) (hc : (n == ("__classdict__" : Str)) = false) : wpAny M A (loadName env n) Q E s := by
  cases h with
  | loc m a b c => exact wpAny_loadName_local hf a b c q
  | cel c a b d =>
    rcases a with a | a
    · exact wpAny_loadName_cell hf a b d q
    · exact wpAny_loadName_free hf a b d q hc
theorem Ev.name {x : Str} {pos : Pos} {d : D} (h : ρ.lookup x = some d) (hm : d.isMut = false := by rfl) (hd : (x == ("__debug__" : Str)) = false := by decide) (hc : (x == ("__classdict__" : Str)) = false := by decide) : Ev prog w A sc cn ρ (.Name x pos) d :=
  fun env X s H S _ E q => by
    obtain ⟨v, n, i⟩ := S.vals _ _ h hm
    exact wpAny_Name (loadName_at H.fk n (q _ _ (Kp.refl _) i) hc) hd

/-- a global's value -/
theorem global_val {x : Str} {pos : Pos} {v : Value} {Q : Value → Shared → Prop} {E : Value → Shared → Prop} (H : Sh sc cn env) (S : Sees w X env ρ s) (hk : sc.names.lookup x = some .globalImplicit) (e : nsIn (KK w) mainGlobals x = some (some v)) (q : Q v s)
    (hd : (x == ("__debug__" : Str)) = false := by decide) : wpAny (model prog w) A (eval (.Name x pos) env) Q E s := by
  refine Calls.Name_function_global H.fk (H.kindOf hk) ?_ hd
  unfold loadGlobal
  rw [H.globals]
  refine wpAny_bind ((looks_nsIn S.gr.gr0.X e).here ?_)
  exact wpAny_pure q
theorem builtin_val {x : Str} {pos : Pos} {v : Value} {Q : Value → Shared → Prop} {E : Value → Shared → Prop} (H : Sh sc cn env) (S : Sees w X env ρ s) (hk : sc.names.lookup x = some .globalImplicit) (e : nsIn (KK w) mainGlobals x = some none) (hb : bootBuiltins x = some v) (q : Q v s)
    (hn : x ≠ "__name__" := by decide) (hd : (x == ("__debug__" : Str)) = false := by decide) : wpAny (model prog w) A (eval (.Name x pos) env) Q E s := by
  refine Calls.Name_function_global H.fk (H.kindOf hk) ?_ hd
  obtain ⟨mb, b1, b2⟩ := S.gr.gr0.b
  unfold loadGlobal
  rw [H.globals, H.builtins]
  refine wpAny_bind ((looks_nsIn S.gr.gr0.X e).here ?_)
  refine wpAny_bind (wpAny_nsGet b1 ?_)
  rw [b2 _ hn, hb]
  exact wpAny_pure q
theorem Ev.globalI {x : Str} {pos : Pos} {i : Int} {t : Tok} (hk : sc.names.lookup x = some .globalImplicit) (e : nsIn (KK w) mainGlobals x = some (some (.int i t))) (hd : (x == ("__debug__" : Str)) = false := by decide) : Ev prog w A sc cn ρ (.Name x pos) (.int i) :=
  fun _ _ _ H S _ _ q => global_val H S hk e (q _ _ (Kp.refl _) (.int _ _)) hd
theorem Ev.globalS {x y : Str} {pos : Pos} {t : Tok} (hk : sc.names.lookup x = some .globalImplicit) (e : nsIn (KK w) mainGlobals x = some (some (.str y t))) (hd : (x == ("__debug__" : Str)) = false := by decide) : Ev prog w A sc cn ρ (.Name x pos) (.str y) :=
  fun _ _ _ H S _ _ q => global_val H S hk e (q _ _ (Kp.refl _) (.str _ _)) hd

theorem Ev.neg {x : Expr} {pos : Pos} {i : Int} (h : Ev prog w A sc cn ρ x (.int i)) : Ev prog w A sc cn ρ (.UnaryOp .USub x pos) (.int (-i)) :=
  fun env X s H S _ E q => UnaryOp_ (h env X s H S _ E fun _ _ k i => by cases i; exact P.neg_int (q _ _ (k.trans (Kp.tok _ _)) (.int _ _)))

/-- displays -/
def Evs (prog : Program) (w : World) (A : Around) (sc : Scope) (cn : List Str) (ρ : Rho) (es : List Expr) (ds : List D) : Prop :=
  ∀ env X pos s, Sh sc cn env → Sees w X env ρ s → ∀ (Q : List Value → Shared → Prop) (E : Value → Shared → Prop), (∀ vs s', Kp s s' → IsAll X s'.heap vs ds → Q vs s') → wpAny (model prog w) A (spliced (backTo pos (starEach es env))) Q E s
theorem Evs.nil : Evs prog w A sc cn ρ [] [] := fun _ _ _ _ _ _ _ _ q => spliced_none (q _ _ (Kp.refl _) .nil)
theorem Evs.cons {e : Expr} {es : List Expr} {d : D} {ds : List D} (h : Ev prog w A sc cn ρ e d) (r : Evs prog w A sc cn ρ es ds) (hs : ∀ env, starEach (e :: es) env = (false, eval e env) :: starEach es env := by intro _; rfl) :
    Evs prog w A sc cn ρ (e :: es) (d :: ds) := fun env X pos s H S Q E q => by
  rw [hs]
  refine Calls.spliced_cons (h env X s H S _ E fun v s1 k1 i1 => r env X pos s1 H (S.keeps k1) _ E fun vs s2 k2 i2 => q _ _ (k1.trans k2) (.cons (i1.keeps k2.heap) i2))
theorem Ev.list {es : List Expr} {pos : Pos} {ds : List D} (h : Evs prog w A sc cn ρ es ds) (hl : ds.length ≤ 1048576 := by decide) : Ev prog w A sc cn ρ (.List es pos) (.list ds) :=
  fun env X s H S _ E q => List_ (h env X pos s H S _ E fun _ _ k i => Gives.newList (S.keeps k).std i hl _ E fun _ _ k' i' => q _ _ (k.trans k') i')
theorem Ev.tuple {es : List Expr} {n : Nat} {pos : Pos} {ds : List D} (h : Evs prog w A sc cn ρ es ds) (hl : ds.length ≤ 1048576 := by decide) : Ev prog w A sc cn ρ (.Tuple es n pos) (.tuple ds) :=
  fun env X s H S _ E q => Tuple_ (h env X pos s H S _ E fun _ _ k i => Gives.newTuple (S.keeps k).std i hl _ E fun _ _ k' i' => q _ _ (k.trans k') i')

theorem Ev.ifExp {test body orelse : Expr} {pos : Pos} {b : Bool} {d : D} (ht : Te prog w A sc cn ρ test b) (hb : b = true → Ev prog w A sc cn ρ body d) (ho : b = false → Ev prog w A sc cn ρ orelse d) : Ev prog w A sc cn ρ (.IfExp test body orelse pos) d :=
  fun env X s H S _ E q => IfExp_ (ht env X s H S _ E fun s1 k1 => by
    cases b with
    | true => exact hb rfl env X s1 H (S.keeps k1) _ E fun _ _ k i => q _ _ (k1.trans k) i
    | false => exact ho rfl env X s1 H (S.keeps k1) _ E fun _ _ k i => q _ _ (k1.trans k) i)

/-- comparisons -/
def Cmp (prog : Program) (w : World) (A : Around) (op : CmpOp) (a b : D) (r : Bool) : Prop :=
  ∀ X s va vb, Is X s.heap va a → Is X s.heap vb b → ∀ (Q : Value → Shared → Prop) (E : Value → Shared → Prop), (∀ s', Kp s s' → Q (.bool r) s') → wpAny (model prog w) A (compareOp op va vb) Q E s
theorem Ev.cmp {l r : Expr} {op : CmpOp} {pos : Pos} {a b : D} {c : Bool} (hl : Ev prog w A sc cn ρ l a) (hr : Ev prog w A sc cn ρ r b) (ho : Cmp prog w A op a b c) (hm : behindInMarks op r = false := by with_unfolding_all rfl) :
    Ev prog w A sc cn ρ (.Compare l [op] [r] pos) (.bool c) :=
  fun env X s H S _ E q => wpAny_Compare1 (hl env X s H S _ E fun _ _ k1 i1 => hr env X _ H (S.keeps k1) _ E fun _ _ k2 i2 => ho X _ _ _ (i1.keeps k2.heap) i2 _ E fun _ k3 => q _ _ ((k1.trans k2).trans k3) (.bool _)) hm
theorem Te.cmp {l r : Expr} {op : CmpOp} {pos : Pos} {a b : D} {c : Bool} (hl : Ev prog w A sc cn ρ l a) (hr : Ev prog w A sc cn ρ r b) (ho : Cmp prog w A op a b c) (hm : behindInMarks op r = false := by with_unfolding_all rfl) :
    Te prog w A sc cn ρ (.Compare l [op] [r] pos) c :=
  fun env X s H S _ E q => wpAny_isTrue_Compare1 (hl env X s H S _ E fun _ _ k1 i1 => hr env X _ H (S.keeps k1) _ E fun _ _ k2 i2 => ho X _ _ _ (i1.keeps k2.heap) i2 _ E fun _ k3 => wpAny_truthy_bool (q _ ((k1.trans k2).trans k3))) hm
theorem Te.and2 {x y : Expr} {pos : Pos} {a b : Bool} (hx : Te prog w A sc cn ρ x a) (hy : a = true → Te prog w A sc cn ρ y b) : Te prog w A sc cn ρ (.BoolOp .And [x, y] pos) (a && b) :=
  fun env X s H S _ E q => PyProof.Rows.isTrue_and (hx env X s H S _ E fun s1 k1 => by
    cases a with
    | false => exact q _ k1
    | true => exact PyProof.Rows.isTrue_and (hy rfl env X s1 H (S.keeps k1) _ E fun s2 k2 => by
        cases b with
        | false => exact q _ (k1.trans k2)
        | true => exact PyProof.Rows.isTrue_and_nil (q _ (k1.trans k2))))
theorem Te.or2 {x y : Expr} {pos : Pos} {a b : Bool} (hx : Te prog w A sc cn ρ x a) (hy : a = false → Te prog w A sc cn ρ y b) : Te prog w A sc cn ρ (.BoolOp .Or [x, y] pos) (a || b) :=
  fun env X s H S _ E q => PyProof.Rows.isTrue_or (hx env X s H S _ E fun s1 k1 => by
    cases a with
    | true => exact q _ k1
    | false => exact PyProof.Rows.isTrue_or (hy rfl env X s1 H (S.keeps k1) _ E fun s2 k2 => by
        cases b with
        | true => exact q _ (k1.trans k2)
        | false => exact PyProof.Rows.isTrue_or_nil (q _ (k1.trans k2))))

theorem Cmp.ltI {a b : Int} : Cmp prog w A .Lt (.int a) (.int b) (decide (a < b)) := fun X s va vb ha hb Q E q => by cases ha; cases hb; exact P.lt_int (q _ (Kp.refl _))
theorem Cmp.leI {a b : Int} : Cmp prog w A .LtE (.int a) (.int b) (decide (a ≤ b)) := fun X s va vb ha hb Q E q => by cases ha; cases hb; exact P.le_int (q _ (Kp.refl _))
theorem Cmp.gtI {a b : Int} : Cmp prog w A .Gt (.int a) (.int b) (decide (a > b)) := fun X s va vb ha hb Q E q => by cases ha; cases hb; exact P.gt_int (q _ (Kp.refl _))
theorem Cmp.geI {a b : Int} : Cmp prog w A .GtE (.int a) (.int b) (decide (a ≥ b)) := fun X s va vb ha hb Q E q => by cases ha; cases hb; exact P.ge_int (q _ (Kp.refl _))
theorem Cmp.eqI {a b : Int} : Cmp prog w A .Eq (.int a) (.int b) (a == b) := fun X s va vb ha hb Q E q => by cases ha; cases hb; exact P.eq_int (q _ (Kp.refl _))
theorem Cmp.eqS {a b : Str} : Cmp prog w A .Eq (.str a) (.str b) (a == b) := fun X s va vb ha hb Q E q => by cases ha; cases hb; exact PyProof.Rows.eq_str (q _ (Kp.refl _))
theorem Cmp.isB {a b : Bool} : Cmp prog w A .Is (.bool a) (.bool b) (a == b) := fun X s va vb ha hb Q E q => by
  cases ha; cases hb
  refine wpAny_is_plain rfl ?_
  have e : ((Value.bool a == Value.bool b) = (a == b)) := by cases a <;> cases b <;> rfl
  rw [e]; exact q _ (Kp.refl _)

mutual
def D.py : D → PyData
  | .none => .none
  | .bool b => .bool b
  | .int i => .int i
  | .str x => .str x
  | .list ds => .list (D.pys ds)
  | .tuple ds => .tuple (D.pys ds)
  | .white .. => .none
  | .inst .. => .none
  | .newl .. => .none
  | .soft .. => .none
  | .mut .. => .none
def D.pys : List D → List PyData
  | [] => []
  | d :: ds => d.py :: D.pys ds
end
mutual
def D.plain : D → Bool
  | .list ds => D.plains ds
  | .tuple ds => D.plains ds
  | .white .. => false
  | .inst .. => false
  | .newl .. => false
  | .soft .. => false
  | .mut .. => false
  | .str x => PyData.strOk x
  | _ => true
def D.plains : List D → Bool
  | [] => true
  | d :: ds => d.plain && D.plains ds
end
mutual
theorem reads_of {X : V0} {h : Heap} : ∀ (d : D) {v : Value}, Is X h v d → d.plain = true → ∃ as, Reads h v d.py as
  | .none, _, i, _ => by cases i; exact ⟨_, .none⟩
  | .bool b, _, i, _ => by cases i; exact ⟨_, .bool b⟩
  | .int n, _, i, _ => by cases i; exact ⟨_, .int n _⟩
  | .str x, _, i, _ => by cases i; exact ⟨_, .str x _⟩
  | .list ds, _, i, p => by
    cases i with | list x e r =>
    obtain ⟨_, q⟩ := reads_all ds r (by rw [D.plain] at p; exact p)
    rw [D.py]
    exact ⟨_, reads_list_at e rfl rfl q⟩
  | .tuple ds, _, i, p => by
    cases i with | tuple x e r =>
    obtain ⟨_, q⟩ := reads_all ds r (by rw [D.plain] at p; exact p)
    rw [D.py]
    exact ⟨_, reads_tuple_at e rfl rfl q⟩
  | .white .., _, _, p => by rw [D.plain] at p; cases p
  | .inst .., _, _, p => by rw [D.plain] at p; cases p
  | .newl .., _, _, p => by rw [D.plain] at p; cases p
  | .soft .., _, _, p => by rw [D.plain] at p; cases p
  | .mut .., _, _, p => by rw [D.plain] at p; cases p
theorem reads_all {X : V0} {h : Heap} : ∀ (ds : List D) {vs : List Value}, IsAll X h vs ds → D.plains ds = true → ∃ as, ReadsAll h vs (D.pys ds) as
  | [], _, i, _ => by cases i; exact ⟨_, .nil⟩
  | d :: ds, _, i, p => by
    cases i with | cons a r =>
    rw [D.plains, Bool.and_eq_true] at p
    obtain ⟨as, q⟩ := reads_of d a p.1
    obtain ⟨bs, q'⟩ := reads_all ds r p.2
    rw [D.pys]
    exact ⟨_, .cons q q'⟩
end
mutual
theorem canLay_of : ∀ (d : D), d.plain = true → d.py.canLay0 = true
  | .none, _ => rfl
  | .bool _, _ => rfl
  | .int _, _ => rfl
  | .str x, p => by rw [D.plain] at p; rw [D.py, PyData.canLay0]; exact p
  | .list ds, p => by rw [D.plain] at p; rw [D.py, PyData.canLay0]; exact canLays_of ds p
  | .tuple ds, p => by rw [D.plain] at p; rw [D.py, PyData.canLay0]; exact canLays_of ds p
  | .white .., p => by rw [D.plain] at p; cases p
  | .inst .., p => by rw [D.plain] at p; cases p
  | .newl .., p => by rw [D.plain] at p; cases p
  | .soft .., p => by rw [D.plain] at p; cases p
  | .mut .., p => by rw [D.plain] at p; cases p
theorem canLays_of : ∀ (ds : List D), D.plains ds = true → PyData.canLayAll0 (D.pys ds) = true
  | [], _ => rfl
  | d :: ds, p => by rw [D.plains, Bool.and_eq_true] at p; rw [D.pys, PyData.canLayAll0, canLay_of d p.1, canLays_of ds p.2]; rfl
end
theorem Cmp.eqD {n : Nat} {a b : D} (hA : Ok n A) (pa : a.plain = true) (pb : b.plain = true) (da : a.py.depth ≤ 64) (db : b.py.depth ≤ 64) : Cmp prog w A .Eq a b (PyData.eqv a.py b.py) := fun X s va vb ha hb Q E q => by
  obtain ⟨as, ra⟩ := reads_of a ha pa
  obtain ⟨bs, rb⟩ := reads_of b hb pb
  exact eq_dataH ra rb (by unfold SeqAt.shaped; rw [canLay_of a pa, Bool.true_and]; exact decide_eq_true da) (by unfold SeqAt.shaped; rw [canLay_of b pb, Bool.true_and]; exact decide_eq_true db)
    (by have := hA.2.2; show A.units + 64 < 9900; omega) (q _ (Kp.refl _))
theorem Cmp.neD {n : Nat} {a b : D} (hA : Ok n A) (pa : a.plain = true) (pb : b.plain = true) (da : a.py.depth ≤ 64) (db : b.py.depth ≤ 64) : Cmp prog w A .NotEq a b (!PyData.eqv a.py b.py) := fun X s va vb ha hb Q E q => by
  obtain ⟨as, ra⟩ := reads_of a ha pa
  obtain ⟨bs, rb⟩ := reads_of b hb pb
  exact ne_dataH ra rb (by unfold SeqAt.shaped; rw [canLay_of a pa, Bool.true_and]; exact decide_eq_true da) (by unfold SeqAt.shaped; rw [canLay_of b pb, Bool.true_and]; exact decide_eq_true db)
    (by have := hA.2.2; show A.units + 64 < 9900; omega) (q _ (Kp.refl _))
theorem any_ints {vs : List Value} {ns : List Int} {i : Int} (h : IntsAre vs ns) : (vs.toArray.any fun v => match v with | .int a _ => a == i | _ => false) = ns.contains i := by
  have e : (vs.toArray.any fun v => match v with | .int a _ => a == i | _ => false) = vs.any fun v => match v with | .int a _ => a == i | _ => false := by simp
  rw [e]
  induction h with
  | nil => rfl
  | cons n t _ ih => rw [List.any_cons, List.contains_cons, ih (by simp)]; simp only [Bool.beq_comm (a := n)]
theorem mem_ints {vs : List Value} {ns : List Int} (h : IntsAre vs ns) {v : Value} (hv : v ∈ vs) : ∃ n t, v = .int n t := by
  induction h with
  | nil => cases hv
  | cons n t _ ih =>
    rcases List.mem_cons.mp hv with rfl | hv
    · exact ⟨_, _, rfl⟩
    · exact ih hv
theorem Cmp.inI {i : Int} {ns : List Int} : Cmp prog w A .In (.int i) (.list (ns.map D.int)) (ns.contains i) := fun X s va vb ha hb Q E q => by
  cases ha
  cases hb with | list x l r =>
  have hi := r.ints
  refine SeqAt.in_listAt (fun v => match v with | .int a _ => a == i | _ => false) l.isList (fun y hy => ?_) (by rw [any_ints hi]; exact q _ (Kp.refl _))
  obtain ⟨n, t, rfl⟩ := mem_ints hi (by simpa using hy)
  exact SeqAt.EqAt.int_int _ _ _ _
theorem Cmp.notInI {i : Int} {ns : List Int} : Cmp prog w A .NotIn (.int i) (.list (ns.map D.int)) (!ns.contains i) := fun X s va vb ha hb Q E q => by
  cases ha
  cases hb with | list x l r =>
  have hi := r.ints
  refine SeqAt.notIn_listAt (fun v => match v with | .int a _ => a == i | _ => false) l.isList (fun y hy => ?_) (by rw [any_ints hi]; exact q _ (Kp.refl _))
  obtain ⟨n, t, rfl⟩ := mem_ints hi (by simpa using hy)
  exact SeqAt.EqAt.int_int _ _ _ _
end
end Mine
end

section
namespace Mine

/-- what a frame writes: its table and its own cells -/
structure Own where
  names : List Str
  adr : List (Str × Addr)
/-- the lists that it writes in place -/
def Own.mu (o : Own) : V0 := fun c => ∃ x, o.adr.lookup x = some c
theorem noMu {l : List Str} {c : Addr} (h : Own.mu ⟨l, []⟩ c) : False := let ⟨_, h⟩ := h; nomatch h
instance : Membership Str Own := ⟨fun o x => x ∈ o.names⟩
instance : Coe (List Str) Own := ⟨fun l => ⟨l, []⟩⟩
abbrev noOwn : Own := ⟨[], []⟩
instance (x : Str) (o : Own) : Decidable (x ∈ o) := inferInstanceAs (Decidable (x ∈ o.names))
def Wr (own : Own) (env : Env) : V0 := fun c => c = env.locals ∨ (∃ n ∈ own, env.cells.lookup n = some c) ∨ own.mu c

structure FrOk (own : Own) (w : World) (X : V0) (env : Env) (ρ : Rho) (s : Shared) : Prop where
  sees : Sees w X env ρ s
  wl : X env.locals
  ns : ∃ m, s.heap.Ns env.locals m
  wc : ∀ n ∈ own, ∀ c, env.cells.lookup n = some c → X c
  cell : ∀ n c, env.cells.lookup n = some c → c ≠ env.locals ∧ ∃ v, s.heap.IsCell c v
  inj : ∀ n n' c, env.cells.lookup n = some c → env.cells.lookup n' = some c → n = n'
  wm : ∀ c, own.mu c → X c
  mi : ∀ x y c, own.adr.lookup x = some c → own.adr.lookup y = some c → x = y
  muts : ∀ x a ds, own.adr.lookup x = some a → ρ.lookup x = some (.mut ds) → NameAt env s.heap x (.ref a) ∧ ∃ vs n, IsL s.heap a (List.toArray vs) n ∧ IsAll X s.heap vs ds

def Sub (ρ' ρ : Rho) : Prop := ∀ x d, ρ'.lookup x = some d → ρ.lookup x = some d
theorem Sub.refl (ρ : Rho) : Sub ρ ρ := fun _ _ h => h
theorem Sub.trans {a b c : Rho} (x : Sub a b) (y : Sub b c) : Sub a c := fun u d h => y u d (x u d h)

theorem ns_unique {h : Heap} {a : Addr} {m m' : Str → Option Value} (x : h.Ns a m) (y : h.Ns a m') (n : Str) : m n = m' n := by
  obtain ⟨o, es, ep, e, d, _, f⟩ := x
  obtain ⟨o', es', ep', e', d', _, f'⟩ := y
  rw [e] at e'
  cases e'
  rw [d] at d'
  cases d'
  rw [← f n, ← f' n]

section
variable {prog : Program} {w : World} {A : Around} {X : V0} {env : Env} {ρ ρ' : Rho} {s s' : Shared} {sc : Scope} {cn : List Str} {own : Own}

theorem Sees.sub (x : Sees w X env ρ s) (h : Sub ρ' ρ) : Sees w X env ρ' s := ⟨x.gr, x.xs, fun y d e => x.vals y d (h y d e), x.cel, x.inj⟩
theorem FrOk.sub (x : FrOk own w X env ρ s) (h : Sub ρ' ρ) : FrOk own w X env ρ' s := { x with sees := x.sees.sub h, muts := fun y a ds z e => x.muts y a ds z (h y _ e) }
theorem FrOk.keeps (x : FrOk own w X env ρ s) (k : Kp s s') : FrOk own w X env ρ s' where
  sees := x.sees.keeps k
  wl := x.wl
  ns := let ⟨m, h⟩ := x.ns; ⟨m, h.keeps k.heap⟩
  wc := x.wc
  cell := fun n c h => let ⟨a, v, b⟩ := x.cell n c h; ⟨a, v, b.keeps k.heap⟩
  inj := x.inj
  wm := x.wm
  mi := x.mi
  muts := fun y a ds e z => let ⟨n, vs, m, l, i⟩ := x.muts y a ds e z; ⟨n.keeps k.heap, vs, m, k.heap _ _ l, i.keeps k.heap⟩
theorem FrOk.wr (x : FrOk own w X env ρ s) : ∀ c, Wr own env c → X c := fun c h => by
  rcases h with rfl | ⟨n, hn, e⟩ | h
  · exact x.wl
  · exact x.wc n hn c e
  · exact x.wm c h
theorem NameAt.moved {h h' : Heap} {x : Str} {v : Value} (n : NameAt env h x v) (kl : ∀ o, h.get? env.locals = some o → h'.get? env.locals = some o) (kc : ∀ c, env.cells.lookup x = some c → ∀ o, h.get? c = some o → h'.get? c = some o) : NameAt env h' x v := by
  cases n with
  | loc m a b c => exact .loc m a (b.at' kl) c
  | cel c a b d => exact .cel c a b (let ⟨o, ho, hd⟩ := d; ⟨o, kc c b o ho, hd⟩)
/-- another's writing -/
theorem FrOk.other {N : V0} (x : FrOk own w X env ρ s) (k : Moves N s s') (hN : ∀ c, N c → X c) (hl : ¬ N env.locals) (hc : ∀ n c, env.cells.lookup n = some c → ¬ N c) (hm : ∀ c, own.mu c → ¬ N c) : FrOk own w X env ρ s' where
  sees := {
    gr := x.sees.gr.moves fun b o n e => k.heap b o (fun z => n (hN b z)) e
    xs := fun c z => Nat.lt_of_lt_of_le (x.sees.xs c z) k.size
    vals := fun y d e z => let ⟨v, a, b⟩ := x.sees.vals y d e z
      ⟨v, a.moved (k.heap _ · hl) (fun c h o => k.heap c o (hc y c h)), b.moves fun c o n e => k.heap c o (fun z => n (hN c z)) e⟩
    cel := fun n c h => let ⟨_, v, o, b, d⟩ := x.cell n c h; ⟨v, o, k.heap c o (hc n c h) b, d⟩
    inj := x.inj }
  wl := x.wl
  ns := let ⟨m, h⟩ := x.ns; ⟨m, h.at' fun o e => k.heap _ o hl e⟩
  wc := x.wc
  cell := fun n c h => let ⟨a, v, o, b, d⟩ := x.cell n c h; ⟨a, v, o, k.heap c o (hc n c h) b, d⟩
  inj := x.inj
  wm := x.wm
  mi := x.mi
  muts := fun y a ds e z => let ⟨n, vs, m, l, i⟩ := x.muts y a ds e z
    ⟨n.moved (k.heap _ · hl) (fun c h o => k.heap c o (hc y c h)), vs, m, k.heap _ _ (hm a ⟨y, e⟩) l, i.moves fun c o n e => k.heap c o (fun z => n (hN c z)) e⟩

theorem lookup_cons_of {x y : Str} {d : D} {ρ : Rho} : List.lookup y ((x, d) :: ρ) = if y = x then some d else ρ.lookup y := by
  rw [List.lookup_cons]
  by_cases h : y = x
  · subst h; simp
  · rw [if_neg h]; have : (y == x) = false := by simpa using h
    rw [this]

/-- a name is stored -/
def Val (own : Own) (X : V0) (h : Heap) (x : Str) (v : Value) (d : D) : Prop :=
  (d.isMut = false → Is X h v d) ∧ ∀ a ds, d = .mut ds → own.adr.lookup x = some a → v = .ref a ∧ ∃ vs n, IsL h a (List.toArray vs) n ∧ IsAll X h vs ds
theorem Is.val {h : Heap} {v : Value} {d : D} {x : Str} (i : Is X h v d) : Val own X h x v d := ⟨fun _ => i, fun a ds e => by subst e; cases i⟩
theorem FrOk.storeV (H : Sh sc cn env) (F : FrOk own w X env ρ s) {x : Str} {v : Value} {d : D} (hk : sc.names.lookup x = some .local ∨ (sc.names.lookup x = some .cell ∧ x ∈ own ∧ x ∈ cn)) (i : Val own X s.heap x v d)
    {Q : Unit → Shared → Prop} {E : Value → Shared → Prop} {M : Model} (q : ∀ s', Moves (Wr own env) s s' → (∀ c vs m, IsL s.heap c vs m → IsL s'.heap c vs m) → FrOk own w X env ((x, d) :: ρ) s' → Q () s') : wpAny M A (storeName env x v) Q E s := by
  have fin : ∀ (a : Addr) (s' : Shared), Wr own env a → Moves (fun c => c = a) s s' →
      (∃ m, s'.heap.Ns env.locals m) → (∀ n c, env.cells.lookup n = some c → ∃ v, s'.heap.IsCell c v) →
      NameAt env s'.heap x v → (∀ c vs m, IsL s.heap c vs m → c ≠ a) → (∀ y u, y ≠ x → NameAt env s.heap y u → NameAt env s'.heap y u) → Q () s' := by
    intro a s' wa mv hns hcell hx hL hy
    have mv' : Moves (Wr own env) s s' := mv.mono fun c h => h ▸ wa
    have hX : ∀ c, c = a → X c := fun c h => h ▸ F.wr a wa
    have mx : ExtX X s.heap s'.heap := fun b o n e => mv.heap b o (fun z => n (hX b z)) e
    refine q s' mv' (fun c vs m l => mv.heap c _ (hL c vs m l) l) ⟨⟨F.sees.gr.moves mx, fun c z => Nat.lt_of_lt_of_le (F.sees.xs c z) mv.size, fun y e hl he => ?_, hcell, F.inj⟩, F.wl, hns, F.wc, fun n c h => ⟨(F.cell n c h).1, hcell n c h⟩, F.inj, F.wm, F.mi, fun y b ds hb hl => ?_⟩
    rotate_left
    · rw [lookup_cons_of] at hl
      by_cases hyx : y = x
      · rw [if_pos hyx] at hl
        subst hyx
        obtain ⟨rfl, vs, m, l, j⟩ := i.2 b ds (Option.some.inj hl) hb
        exact ⟨hx, vs, m, mv.heap b _ (hL b _ _ l) l, j.moves mx⟩
      · rw [if_neg hyx] at hl
        obtain ⟨n, vs, m, l, j⟩ := F.muts y b ds hb hl
        exact ⟨hy y _ hyx n, vs, m, mv.heap b _ (hL b _ _ l) l, j.moves mx⟩
    rw [lookup_cons_of] at hl
    by_cases hyx : y = x
    · rw [if_pos hyx] at hl; cases hl; subst hyx; exact ⟨v, hx, (i.1 he).moves mx⟩
    · rw [if_neg hyx] at hl
      obtain ⟨u, n, j⟩ := F.sees.vals y e hl he
      exact ⟨u, hy y u hyx n, j.moves mx⟩
  rcases hk with hk | ⟨hk, ho, hc⟩
  · obtain ⟨m, hn⟩ := F.ns
    refine with_size (wpAny_storeName_local (H.kindOf hk) hn (fun h' hn' hs z => ?_) (by rw [H.fk]; rfl))
    refine fin env.locals _ (.inl rfl) (Moves.of (fun b o n e => hs.extBut b o n e) z) ⟨_, hn'⟩ (fun n c h => ?_) (.loc _ (H.kindOf hk) hn' (by simp)) (fun c vs m l h => by
      subst h
      obtain ⟨o, es, ep, e, d, _⟩ := hn
      rw [l] at e; cases e; cases d) (fun y u hyx nu => ?_)
    · obtain ⟨ne, v', o, e, ed⟩ := F.cell n c h
      exact ⟨v', o, hs.extBut c o ne e, ed⟩
    · cases nu with
      | loc m' a b c => exact .loc _ a hn' (by rw [if_neg hyx, ns_unique hn b, c])
      | cel c a b e =>
        obtain ⟨ne, _⟩ := F.cell y c b
        obtain ⟨o, g, gd⟩ := e
        exact .cel c a b ⟨o, hs.extBut c o ne g, gd⟩
  · obtain ⟨c, hcl⟩ : ∃ c, env.cells.lookup x = some c := by
      rw [← H.cells] at hc
      clear fin i q hk ho
      generalize env.cells = l at hc
      induction l with
      | nil => cases hc
      | cons p r ih =>
        rw [List.map_cons, List.mem_cons] at hc
        by_cases hx : x = p.1
        · exact ⟨p.2, by rw [List.lookup_cons]; simp [hx]⟩
        · have : (x == p.1) = false := by simpa using hx
          rw [List.lookup_cons, this]
          exact ih (hc.resolve_left hx)
    obtain ⟨ne, v₀, hv₀⟩ := F.cell x c hcl
    refine with_size (wpAny_storeName_cell H.fk (H.kindOf hk) hcl hv₀ fun h' hc' hs z => ?_)
    refine fin c _ (.inr (.inl ⟨x, ho, hcl⟩)) (Moves.of (fun b o n e => hs.extBut b o n e) z) ?_ (fun n c' h => ?_) (.cel c (.inl (H.kindOf hk)) hcl hc') (fun c' vs m l h => by
      subst h
      obtain ⟨o, e, d⟩ := hv₀
      rw [l] at e; cases e; cases d) (fun y u hyx nu => ?_)
    · obtain ⟨m, hn⟩ := F.ns
      exact ⟨m, hn.at' fun o e => hs.extBut _ o (Ne.symm ne) e⟩
    · by_cases he : c' = c
      · subst he; exact ⟨_, hc'⟩
      · obtain ⟨_, v', o, e, ed⟩ := F.cell n c' h
        exact ⟨v', o, hs.extBut c' o he e, ed⟩
    · refine nu.moved (fun o e => hs.extBut _ o (Ne.symm ne) e) fun c' hc'' o e => hs.extBut c' o (fun he => ?_) e
      subst he
      exact hyx (F.inj y x c' hc'' hcl)

theorem FrOk.store (H : Sh sc cn env) (F : FrOk own w X env ρ s) {x : Str} {v : Value} {d : D} (hk : sc.names.lookup x = some .local ∨ (sc.names.lookup x = some .cell ∧ x ∈ own ∧ x ∈ cn)) (i : Is X s.heap v d)
    {Q : Unit → Shared → Prop} {E : Value → Shared → Prop} {M : Model} (q : ∀ s', Moves (Wr own env) s s' → FrOk own w X env ((x, d) :: ρ) s' → Q () s') : wpAny M A (storeName env x v) Q E s :=
  F.storeV H hk i.val fun s' m _ f => q s' m f
end
end Mine
end

section
namespace Mine

theorem size_push_le (h : Heap) (o : Obj) : h.objs.size ≤ (h.push o).objs.size := by rw [Heap.size_push]; omega

inductive Out where
  | next (ρ : Rho)
  | brk (ρ : Rho)
  | ret (d : D)

def Out.At (own : Own) (w : World) (X : V0) (env : Env) : Out → Flow → Shared → Prop
  | .next ρ, f, s => f = .next ∧ FrOk own w X env ρ s
  | .brk ρ, f, s => f = .brk ∧ FrOk own w X env ρ s
  | .ret d, f, s => ∃ v, f = .ret v ∧ Is X s.heap v d

/-- a statement -/
def Ex (prog : Program) (w : World) (A : Around) (sc : Scope) (cn : List Str) (own : Own) (ρ : Rho) (st : Stmt) (out : Out) : Prop :=
  ∀ env X s, Sh sc cn env → FrOk own w X env ρ s → ∀ (Q : Flow → Shared → Prop) (E : Value → Shared → Prop), (∀ f s', Moves (Wr own env) s s' → out.At own w X env f s' → Q f s') → wpAny (model prog w) A (exec st env) Q E s
/-- statements -/
def Exs (prog : Program) (w : World) (A : Around) (sc : Scope) (cn : List Str) (own : Own) (ρ : Rho) (ss : List Stmt) (out : Out) : Prop :=
  ∀ env X s, Sh sc cn env → FrOk own w X env ρ s → ∀ (Q : Flow → Shared → Prop) (E : Value → Shared → Prop), (∀ f s', Moves (Wr own env) s s' → out.At own w X env f s' → Q f s') → wpAny (model prog w) A (execs ss env) Q E s

section
variable {prog : Program} {w : World} {A : Around} {X : V0} {env : Env} {ρ ρ' ρ₁ : Rho} {s s' : Shared} {sc : Scope} {cn : List Str} {own : Own} {out : Out}

theorem Exs.nil : Exs prog w A sc cn own ρ [] (.next ρ) := fun _ _ s _ F _ _ q => wpAny_execs_nil (q _ _ (Moves.refl _ _) ⟨rfl, F⟩)
theorem Exs.cons {st : Stmt} {ss : List Stmt} (h : Ex prog w A sc cn own ρ st (.next ρ₁)) (r : Exs prog w A sc cn own ρ₁ ss out) : Exs prog w A sc cn own ρ (st :: ss) out := fun env X s H F Q E q =>
  wpAny_execs_cons (h env X s H F _ E fun f s1 m1 o1 => by
    obtain ⟨rfl, F1⟩ := o1
    exact r env X s1 H F1 Q E fun f s2 m2 o2 => q f s2 (m1.trans m2) o2)
theorem Exs.ret {st : Stmt} {ss : List Stmt} {d : D} (h : Ex prog w A sc cn own ρ st (.ret d)) : Exs prog w A sc cn own ρ (st :: ss) (.ret d) := fun env X s H F Q E q =>
  wpAny_execs_cons (h env X s H F _ E fun f s1 m1 o1 => by
    obtain ⟨v, rfl, i⟩ := o1
    exact q _ s1 m1 ⟨v, rfl, i⟩)
theorem Exs.brk {st : Stmt} {ss : List Stmt} (h : Ex prog w A sc cn own ρ st (.brk ρ₁)) : Exs prog w A sc cn own ρ (st :: ss) (.brk ρ₁) := fun env X s H F Q E q =>
  wpAny_execs_cons (h env X s H F _ E fun f s1 m1 o1 => by
    obtain ⟨rfl, F1⟩ := o1
    exact q _ s1 m1 ⟨rfl, F1⟩)
theorem Ex.sub {st : Stmt} (h : Ex prog w A sc cn own ρ' st out) (k : Sub ρ' ρ) : Ex prog w A sc cn own ρ st out := fun env X s H F Q E q => h env X s H (F.sub k) Q E q
theorem Exs.sub {ss : List Stmt} (h : Exs prog w A sc cn own ρ' ss out) (k : Sub ρ' ρ) : Exs prog w A sc cn own ρ ss out := fun env X s H F Q E q => h env X s H (F.sub k) Q E q
theorem Exs.weak {ss : List Stmt} (h : Exs prog w A sc cn own ρ ss (.next ρ₁)) (k : Sub ρ' ρ₁) : Exs prog w A sc cn own ρ ss (.next ρ') := fun env X s H F Q E q => h env X s H F Q E fun f s' m o => q f s' m ⟨o.1, o.2.sub k⟩
theorem Ex.weak {st : Stmt} (h : Ex prog w A sc cn own ρ st (.next ρ₁)) (k : Sub ρ' ρ₁) : Ex prog w A sc cn own ρ st (.next ρ') := fun env X s H F Q E q => h env X s H F Q E fun f s' m o => q f s' m ⟨o.1, o.2.sub k⟩
theorem Exs.one {st : Stmt} (h : Ex prog w A sc cn own ρ st out) : Exs prog w A sc cn own ρ [st] out := by
  cases out with
  | next ρ => exact .cons h .nil
  | brk ρ => exact .brk h
  | ret d => exact .ret h
theorem Exs.append {ss ts : List Stmt} (h : Exs prog w A sc cn own ρ ss (.next ρ₁)) (r : Exs prog w A sc cn own ρ₁ ts out) : Exs prog w A sc cn own ρ (ss ++ ts) out := by
  intro env X s H F Q E q
  have e : execs (ss ++ ts) env = (do match ← execs ss env with | .next => execs ts env | f => pure f) := by
    clear h
    induction ss with
    | nil => rfl
    | cons st ss ih =>
      rw [List.cons_append, execs_cons, execs_cons, ih, bind_assoc]
      congr 1
      funext f
      cases f <;> simp
  rw [e]
  refine wpAny_bind (h env X s H F _ E fun f s1 m1 o1 => ?_)
  obtain ⟨rfl, F1⟩ := o1
  exact r env X s1 H F1 Q E fun f s2 m2 o2 => q f s2 (m1.trans m2) o2

/-- what may be stored under x -/
abbrev May (sc : Scope) (cn : List Str) (own : Own) (x : Str) : Prop := sc.names.lookup x = some .local ∨ (sc.names.lookup x = some .cell ∧ x ∈ own ∧ x ∈ cn)

theorem Ex.assign {x : Str} {px pos : Pos} {e : Expr} {d : D} (h : Ev prog w A sc cn ρ e d) (hk : May sc cn own x) (hs : ∀ env, Sh sc cn env → swapsWith e (some (.Name x px)) pos.line env = pure false) :
    Ex prog w A sc cn own ρ (.Assign [.Name x px] e pos) (.next ((x, d) :: ρ)) := fun env X s H F Q E q =>
  wpAny_Assign_Name (h env X s H F.sees _ E fun v s1 k1 i1 => (F.keeps k1).store H hk i1 fun s2 m2 F2 => q _ _ (k1.moves.trans m2) ⟨rfl, F2⟩) (hs env H)
theorem Ex.ret {e : Expr} {pos : Pos} {d : D} (h : Ev prog w A sc cn ρ e d) : Ex prog w A sc cn own ρ (.Return (some e) pos) (.ret d) := fun env X s H F Q E q =>
  wpAny_Return_some (h env X s H F.sees _ E fun v s1 k1 i1 => q _ _ k1.moves ⟨v, rfl, i1⟩)
theorem Ex.if {t : Expr} {b o : List Stmt} {pos : Pos} {c : Bool} (h : Te prog w A sc cn ρ t c) (hb : c = true → Exs prog w A sc cn own ρ b out) (ho : c = false → Exs prog w A sc cn own ρ o out) : Ex prog w A sc cn own ρ (.If t b o pos) out := fun env X s H F Q E q =>
  wpAny_If (h env X s H F.sees _ E fun s1 k1 => by
    cases c with
    | true => exact hb rfl env X s1 H (F.keeps k1) Q E fun f s2 m2 o2 => q f s2 (k1.moves.trans m2) o2
    | false => exact ho rfl env X s1 H (F.keeps k1) Q E fun f s2 m2 o2 => q f s2 (k1.moves.trans m2) o2)
theorem Ex.break {pos : Pos} : Ex prog w A sc cn own ρ (.Break pos) (.brk ρ) := fun _ _ _ _ F _ _ q => by
  show wpAny _ _ (standAt pos >>= fun _ => pure Flow.brk) _ _ _
  exact wpAny_bind (wpAny_standAt (wpAny_pure (q _ _ (Moves.refl _ _) ⟨rfl, F⟩)))

/-- a source of turns -/
structure Src (prog : Program) (w : World) (A : Around) (sc : Scope) (cn : List Str) (own : Own) (target : Expr) (X : V0) (n : Nat) (bs : Nat → Rho) (I : Addr) (fp wr : List Addr) (P Md : Nat → Value → Heap → Prop) (St : Nat → Heap → Prop) (s s₂ : Shared) : Prop where
  turns : KTurns prog w A target I fp wr n P Md St
  self : ∀ i (s : Shared) (Q : Value → Shared → Prop) (E : Value → Shared → Prop), St i s.heap → Q (.ref I) s → wpAny (model prog w) A (pyIter (.ref I)) Q E s
  st : St 0 s₂.heap
  fpX : ∀ b ∈ fp, ¬ X b
  fpA : ∀ b ∈ fp, b < s₂.heap.objs.size
  wrN : ∀ b ∈ wr, s.heap.get? b = none
  bind : ∀ i v env X' ρ s' (Q : Unit → Shared → Prop) (E : Value → Shared → Prop), i < n → P i v s'.heap → Sh sc cn env → FrOk own w X' env ρ s' → (∀ c, X c ∨ c ∈ wr → X' c) → (∀ c o, s₂.heap.get? c = some o → X' c → X c ∨ c ∈ wr) → ExtX X' s₂.heap s'.heap →
    (∀ s'', Moves (Wr own env) s' s'' → FrOk own w X' env (bs i ++ ρ) s'' → Q () s'') → wpAny (model prog w) A (assign target env v) Q E s'

def It (prog : Program) (w : World) (A : Around) (sc : Scope) (cn : List Str) (tsc : Scope) (tcn : List Str) (town : Own) (target : Expr) (ρ : Rho) (iter : Expr) (n : Nat) (bs : Nat → Rho) : Prop :=
  ∀ env X s, Sh sc cn env → Sees w X env ρ s → ∀ (Q : Value → Shared → Prop) (E : Value → Shared → Prop),
    (∀ I fp wr P Md St s₂, Kp s s₂ → Src prog w A tsc tcn town target X n bs I fp wr P Md St s s₂ → Q (.ref I) s₂) → wpAny (model prog w) A (eval iter env) (fun x s₁ => wpAny (model prog w) A (pyIter x) Q E s₁) E s

theorem Src.name {target : Expr} {x : Str} {p : Pos} {n : Nat} {ds : Nat → D} {I : Addr} {fp wr : List Addr} {P : Nat → Value → Prop} {St : Nat → Heap → Prop} {s₂ : Shared} (he : target = .Name x p) (hk : May sc cn own x)
    (W : Walks prog w A I fp wr n P St) (st : St 0 s₂.heap) (fpX : ∀ b ∈ fp, ¬ X b) (fpA : ∀ b ∈ fp, b < s₂.heap.objs.size) (wrN : ∀ b ∈ wr, s.heap.get? b = none)
    (hv : ∀ i v, i < n → P i v → Is (fun c => X c ∨ c ∈ wr) s₂.heap v (ds i)) :
    Src prog w A sc cn own target X n (fun i => [(x, ds i)]) I fp wr (fun i v _ => P i v) (fun i v h => P i v ∧ St (i + 1) h) St s s₂ where
  turns := KTurns.ofWalks W fun i v s Q E _ hq => by subst he; exact wpAny_pure hq
  self := W.self
  st := st
  fpX := fpX
  fpA := fpA
  wrN := wrN
  bind := fun i v env X' ρ s' Q E hi hP H F h1 h2 h3 q => by
    subst he
    refine wpAny_assign_Name (F.store H hk ?_ q)
    exact (hv i v hi hP).mono (fun c o e z => h2 c o e z) fun c o z e => h3 c o (fun y => z (h2 c o e y)) e

theorem getD_of {ds : List D} {i : Nat} {d : D} (h : ds[i]? = some d) : ds.getD i default = d := by simp [List.getD, h]
theorem It.list {tsc : Scope} {tcn : List Str} {town : Own} {iter : Expr} {x : Str} {p : Pos} {ds : List D} (hh : A.handled = none) (h : Ev prog w A sc cn ρ iter (.list ds)) (hk : May tsc tcn town x) :
    It prog w A sc cn tsc tcn town (.Name x p) ρ iter ds.length (fun i => [(x, ds.getD i default)]) := fun env X s H S Q E q => by
  refine h env X s H S _ E fun v s1 k1 i1 => ?_
  cases i1 with | list nx l r =>
  rename_i a vs k
  have S1 := S.keeps k1
  refine wpAny_pyIter_list l.isList ?_
  have hne : a ≠ s1.heap.objs.size := Nat.ne_of_lt (Heap.lt_size l)
  have hsz : vs.toArray.size = ds.length := by rw [List.size_toArray, r.length]
  have W := Walks.list (prog := prog) (w := w) hh s1.heap.objs.size a hne vs.toArray
  rw [hsz] at W
  refine q _ _ _ _ _ _ _ (k1.trans (Kp.push _ _)) (Src.name rfl hk W ⟨⟨_, Heap.get?_push_size _ rfl, rfl, rfl⟩, l.isList.push _⟩ ?_ ?_ ?_ ?_)
  · intro b hb
    simp only [List.mem_cons, List.not_mem_nil, or_false] at hb
    rcases hb with rfl | rfl
    · exact S1.fresh (Nat.le_refl _)
    · exact nx
  · intro b hb
    simp only [List.mem_cons, List.not_mem_nil, or_false] at hb
    rcases hb with rfl | rfl
    · show _ < (s1.heap.push _).objs.size; rw [Heap.size_push]; omega
    · exact Heap.lt_size (Heap.get?_push_of_some _ l)
  · intro b hb
    simp only [List.mem_cons, List.not_mem_nil, or_false] at hb
    subst hb
    exact Heap.get?_none_of_le k1.size
  · intro i v _ hP
    obtain ⟨d, hd, id⟩ := r.get' (by simpa using hP)
    rw [getD_of hd]
    exact (id.more (Y := fun c => c ∈ [s1.heap.objs.size]) fun c hc => by
      simp only [List.mem_cons, List.not_mem_nil, or_false] at hc
      subst hc; exact Heap.get?_none_of_le (Nat.le_refl _)).keeps fun _ _ e => Heap.get?_push_of_some _ e
theorem It.str {tsc : Scope} {tcn : List Str} {town : Own} {iter : Expr} {x : Str} {p : Pos} {y : Str} (hh : A.handled = none) (h : Ev prog w A sc cn ρ iter (.str y)) (hk : May tsc tcn town x) :
    It prog w A sc cn tsc tcn town (.Name x p) ρ iter y.cps.size (fun i => [(x, .str ⟨#[y.cps.getD i 0]⟩)]) := fun env X s H S Q E q => by
  refine h env X s H S _ E fun v s1 k1 i1 => ?_
  cases i1
  have S1 := S.keeps k1
  refine wpAny_pyIter_str fun o St W st => ?_
  refine q _ _ _ _ _ _ _ (k1.trans (Kp.push _ _)) (Src.name rfl hk (W A hh) st ?_ ?_ ?_ ?_)
  · intro b hb
    simp only [List.mem_cons, List.not_mem_nil, or_false] at hb
    subst hb; exact S1.fresh (Nat.le_refl _)
  · intro b hb
    simp only [List.mem_cons, List.not_mem_nil, or_false] at hb
    subst hb; show _ < (s1.heap.push _).objs.size; rw [Heap.size_push]; omega
  · intro b hb
    simp only [List.mem_cons, List.not_mem_nil, or_false] at hb
    subst hb
    exact Heap.get?_none_of_le k1.size
  · intro i v _ hP
    obtain ⟨c, u, hc, rfl⟩ := hP
    have e : y.cps.getD i 0 = c := by rw [Array.getD_eq_getD_getElem?, hc]; rfl
    rw [e]
    exact .str _ _

theorem range_src {tsc : Scope} {tcn : List Str} {town : Own} {x : Str} {p : Pos} {r : Addr} {a b : Int} {t u v : Tok} (hh : A.handled = none) (hk : May tsc tcn town x) (hr : IsRange s'.heap r a b 1 t u v) (hx : Std X s') (hn : s.heap.get? s'.heap.objs.size = none)
    (ha : -(2 ^ 62) ≤ a) (ha' : a < 2 ^ 62) (hb : -(2 ^ 62) ≤ b) (hb' : b < 2 ^ 62) (k : Kp s s') {Q : Value → Shared → Prop} {E : Value → Shared → Prop}
    (q : ∀ I fp wr P Md St s₂, Kp s s₂ → Src prog w A tsc tcn town (.Name x p) X (b - a).toNat (fun i => [(x, .int (a + i))]) I fp wr P Md St s s₂ → Q (.ref I) s₂) : wpAny (model prog w) A (pyIter (.ref r)) Q E s' := by
  have hsz : (Builtin.Range.rangeSize a b 1) = ((b - a).toNat : Int) := by rw [rangeSize_one]; split <;> omega
  refine wpAny_pyIter_range hr (small_one ha ha' hb hb') ?_
  rw [hsz]
  have W := Walks.range (prog := prog) (w := w) hh s'.heap.objs.size a 1 (b - a).toNat
  refine q _ _ _ _ _ _ _ (k.trans (Kp.push _ _)) (Src.name rfl hk W ?_ ?_ ?_ ?_ ?_)
  · show IsRangeIter _ _ _ _ _
    rw [show a + ((0 : Nat) : Int) * 1 = a from by omega, show (((b - a).toNat : Nat) : Int) - ((0 : Nat) : Int) = (b - a).toNat from by omega]
    exact Heap.get?_push_size _ rfl
  · intro c hc
    simp only [List.mem_cons, List.not_mem_nil, or_false] at hc
    subst hc; exact hx.fresh (Nat.le_refl _)
  · intro c hc
    simp only [List.mem_cons, List.not_mem_nil, or_false] at hc
    subst hc; show _ < (s'.heap.push _).objs.size; rw [Heap.size_push]; omega
  · intro c hc
    simp only [List.mem_cons, List.not_mem_nil, or_false] at hc
    subst hc; exact hn
  · rintro i v _ ⟨tk, rfl⟩
    rw [show a + (i : Int) * 1 = a + i from by omega]
    exact .int _ _
theorem bb_range : bootBuiltins (Str.ofString "range") = some (.type "range") := by kernel_rfl
theorem It.range1 {tsc : Scope} {tcn : List Str} {town : Own} {x : Str} {p pn pos : Pos} {e : Expr} {n : Int} (hh : A.handled = none) (h : Ev prog w A sc cn ρ e (.int n)) (hk : May tsc tcn town x) (hr : sc.names.lookup (Str.ofString "range") = some .globalImplicit)
    (hg : nsIn (KK w) mainGlobals (Str.ofString "range") = some none) (hn : -(2 ^ 62) ≤ n) (hn' : n < 2 ^ 62) (hs : ∀ env, starEach [e] env = [(false, eval e env)] := by intro _; rfl) :
    It prog w A sc cn tsc tcn town (.Name x p) ρ (.Call (.Name (Str.ofString "range") pn) [e] [] pos) n.toNat (fun i => [(x, .int i)]) := fun env X s H S Q E q => by
  refine Call_Name1 (builtin_val H S hr hg bb_range ?_) (hs env)
  refine PySem.callWith_type rfl (Calls.evalArgs_plain (Calls.spliced_cons (h env X s H S _ E fun v s1 k1 i1 => Calls.spliced_nil ?_)))
  cases i1 with | int _ tk =>
  refine call_range_1 ?_
  have q' := range_src (prog := prog) (w := w) (X := X) (s := s) (s' := { s1 with heap := s1.heap.push { cls := .type "range", data := .fields #[.int 0 s1.toks, .int n tk, .int 1 (s1.toks + 1)] }, toks := s1.toks + 1 + 1 }) (p := p) (Q := Q) (E := E) (a := 0) (b := n) hh hk
    (Heap.get?_push_size _ rfl) (fun c z => Nat.lt_of_lt_of_le ((S.keeps k1).xs c z) (size_push_le _ _)) (Heap.get?_none_of_le (Nat.le_trans k1.size (size_push_le _ _)))
    (by omega) (by omega) hn hn' (k1.trans ((Kp.push _ _).trans (Kp.tok _ _)))
  refine q' ?_
  intro I fp wr P Md St s₂ kp src
  refine q I fp wr P Md St s₂ kp ?_
  have e1 : (n - 0).toNat = n.toNat := by omega
  have e2 : (fun i : Nat => [(x, D.int (0 + (i : Int)))]) = fun i : Nat => [(x, D.int i)] := by funext i; rw [Int.zero_add]
  rw [e1, e2] at src
  exact src
theorem It.range2 {tsc : Scope} {tcn : List Str} {town : Own} {x : Str} {p pn pos : Pos} {e f : Expr} {a n : Int} (hh : A.handled = none) (h : Ev prog w A sc cn ρ e (.int a)) (h2 : Ev prog w A sc cn ρ f (.int n)) (hk : May tsc tcn town x) (hr : sc.names.lookup (Str.ofString "range") = some .globalImplicit)
    (hg : nsIn (KK w) mainGlobals (Str.ofString "range") = some none) (ha : -(2 ^ 62) ≤ a) (ha' : a < 2 ^ 62) (hn : -(2 ^ 62) ≤ n) (hn' : n < 2 ^ 62) (hs : ∀ env, starEach [e, f] env = [(false, eval e env), (false, eval f env)] := by intro _; rfl) :
    It prog w A sc cn tsc tcn town (.Name x p) ρ (.Call (.Name (Str.ofString "range") pn) [e, f] [] pos) (n - a).toNat (fun i => [(x, .int (a + i))]) := fun env X s H S Q E q => by
  refine Call_Name2 (builtin_val H S hr hg bb_range ?_) (hs env)
  refine PySem.callWith_type rfl (Calls.evalArgs_plain (Calls.spliced_cons (h env X s H S _ E fun v s1 k1 i1 => Calls.spliced_cons (h2 env X s1 H (S.keeps k1) _ E fun v' s2 k2 i2 => Calls.spliced_nil ?_))))
  cases i1 with | int _ tk =>
  cases i2 with | int _ tk' =>
  refine call_range_2 ?_
  exact range_src (prog := prog) (w := w) (X := X) (s := s) (s' := { s2 with heap := s2.heap.push { cls := .type "range", data := .fields #[.int a tk, .int n tk', .int 1 s2.toks] }, toks := s2.toks + 1 }) (p := p) (Q := Q) (E := E) (a := a) (b := n) hh hk
    (Heap.get?_push_size _ rfl) (fun c z => Nat.lt_of_lt_of_le (((S.keeps k1).keeps k2).xs c z) (size_push_le _ _)) (Heap.get?_none_of_le (Nat.le_trans (k1.trans k2).size (size_push_le _ _)))
    ha ha' hn hn' ((k1.trans k2).trans ((Kp.push _ _).trans (Kp.tok _ _))) q
end
end Mine
end

section
namespace Mine

section
variable {prog : Program} {w : World} {A : Around} {X : V0} {env : Env} {ρ ρ' ρ₁ : Rho} {s s' : Shared} {sc : Scope} {cn : List Str} {own : Own} {out : Out}

theorem FrOk.grow {N : V0} (x : FrOk own w X env ρ s) (k : Kp s s') (hn : ∀ c, N c → s.heap.get? c = none) (hn' : ∀ c, N c → c < s'.heap.objs.size) : FrOk own w (fun c => X c ∨ N c) env ρ s' where
  sees := {
    gr := x.sees.gr.more k.heap hn
    xs := fun c z => z.elim (fun z => Nat.lt_of_lt_of_le (x.sees.xs c z) k.size) (hn' c)
    vals := fun y d e z => let ⟨v, a, b⟩ := x.sees.vals y d e z; ⟨v, a.keeps k.heap, (b.more hn).keeps k.heap⟩
    cel := fun n c h => let ⟨_, v, b⟩ := x.cell n c h; ⟨v, b.keeps k.heap⟩
    inj := x.inj }
  wl := .inl x.wl
  ns := let ⟨m, h⟩ := x.ns; ⟨m, h.keeps k.heap⟩
  wc := fun n h c e => .inl (x.wc n h c e)
  cell := fun n c h => let ⟨a, v, b⟩ := x.cell n c h; ⟨a, v, b.keeps k.heap⟩
  inj := x.inj
  wm := fun c z => .inl (x.wm c z)
  mi := x.mi
  muts := fun y a ds e z => let ⟨n, vs, m, l, i⟩ := x.muts y a ds e z; ⟨n.keeps k.heap, vs, m, k.heap _ _ l, (i.more hn).keeps k.heap⟩
theorem FrOk.less {X' : V0} (x : FrOk own w X' env ρ s) (h : ∀ c, X c → X' c) (wl : X env.locals) (wc : ∀ n ∈ own, ∀ c, env.cells.lookup n = some c → X c) (wm : ∀ c, own.mu c → X c) : FrOk own w X env ρ s where
  sees := ⟨x.sees.gr.less h, fun c z => x.sees.xs c (h c z), fun y d e z => let ⟨v, a, b⟩ := x.sees.vals y d e z; ⟨v, a, b.less h⟩, x.sees.cel, x.inj⟩
  wl := wl
  ns := x.ns
  wc := wc
  cell := x.cell
  inj := x.inj
  wm := wm
  mi := x.mi
  muts := fun y a ds e z => let ⟨n, vs, m, l, i⟩ := x.muts y a ds e z; ⟨n, vs, m, l, i.less h⟩

/-- one turn's end -/
def Turned (own : Own) (w : World) (X : V0) (env : Env) (out : Out) (f : Flow) (s : Shared) : Prop := out.At own w X env f s

theorem Ex.for {target iter : Expr} {body : List Stmt} {pos : Pos} {n : Nat} {bs : Nat → Rho} (hit : It prog w A sc cn sc cn own target ρ iter n bs) (R : Nat → Rho) (k : Nat) (hk : k ≤ n) (h0 : Sub (R 0) ρ)
    (full : ∀ i, i < k → ∃ ρ', Exs prog w A sc cn own (bs i ++ R i) body (.next ρ') ∧ Sub (R (i + 1)) ρ')
    (last : (k = n ∧ out = .next (R n)) ∨ (k < n ∧ ((∃ ρ', Exs prog w A sc cn own (bs k ++ R k) body (.brk ρ') ∧ out = .next ρ') ∨ ∃ d, Exs prog w A sc cn own (bs k ++ R k) body (.ret d) ∧ out = .ret d)))
    (hs : ∀ env x, foldedSetIterable iter env x = pure x := by intro _ _; rfl) : Ex prog w A sc cn own ρ (.For target iter body [] pos) out := fun env X s H F Q E q => by
  refine wpAny_For (hit env X s H F.sees _ E fun I fp wr P Md St s₂ kp src => ?_) (hs env)
  have lW : ¬ env.locals ∈ wr := fun h => src.fpX _ (src.turns.sub _ h) F.wl
  have cW : ∀ n c, env.cells.lookup n = some c → ¬ c ∈ wr := fun n c h hm => by
    obtain ⟨_, _, o, e, _⟩ := F.cell n c h
    rw [src.wrN c hm] at e; cases e
  have mW : ∀ a, own.mu a → ¬ a ∈ wr := fun a h hm => src.fpX _ (src.turns.sub _ hm) (F.wm a h)
  have wX : ∀ c, Wr own env c → X c := F.wr
  have fW : ∀ b ∈ fp, ¬ Wr own env b := fun b hb h => src.fpX b hb (wX b h)
  have F2 : FrOk own w (fun c => X c ∨ c ∈ wr) env (R 0) s₂ := (F.sub h0).grow kp src.wrN fun c h => src.fpA c (src.turns.sub c h)
  have fin : ∀ s' : Shared, Moves (fun c => Wr own env c ∨ c ∈ wr) s₂ s' → Moves (Wr own env) s s' := fun s' m => Moves.news kp m src.wrN
  have less : ∀ {ρ s'}, FrOk own w (fun c => X c ∨ c ∈ wr) env ρ s' → FrOk own w X env ρ s' := fun x => x.less (fun c h => .inl h) F.wl F.wc F.wm
  refine codeAny_forLoop_any (fun m s' => ∃ i, FrOk own w (fun c => X c ∨ c ∈ wr) env (R i) s' ∧ St i s'.heap ∧ Moves (fun c => Wr own env c ∨ c ∈ wr) s₂ s' ∧ i ≤ k ∧ m = n + 1 - i) ?_ (n + 1)
    ⟨0, F2, src.st, Moves.refl _ _, Nat.zero_le _, rfl⟩
  rintro m s' ⟨i, Fi, hst, hm, hik, rfl⟩
  by_cases hlt : i < n
  · refine with_size (src.turns.item i _ _ _ hlt hst fun v h₁ tk₁ hMd hk₁ z₁ => ?_)
    refine with_size (src.turns.go i v _ _ _ hMd fun h₂ hP hst₂ hk₂ z₂ => ?_)
    have mv : Moves (fun c => c ∈ wr) s' { s' with heap := h₂, toks := tk₁ } := Moves.of (fun b o nb e => hk₂ b o nb (hk₁ b o nb e)) (Nat.le_trans z₁ z₂)
    have F3 := Fi.other mv (fun c h => .inr h) lW cW mW
    have m3 : Moves (fun c => Wr own env c ∨ c ∈ wr) s₂ { s' with heap := h₂, toks := tk₁ } := hm.trans (mv.mono fun c h => .inr h)
    have mX : ∀ {s''}, Moves (fun c => Wr own env c ∨ c ∈ wr) s₂ s'' → ExtX (fun c => X c ∨ c ∈ wr) s₂.heap s''.heap := fun m b o nb e => m.heap b o (fun z => nb (z.imp (wX b) id)) e
    refine src.bind i v env (fun c => X c ∨ c ∈ wr) (R i) _ _ _ hlt hP H F3 (fun c h => h) (fun c o _ h => h) (mX m3) fun s₄ m₄ F4 => ?_
    have st4 : St (i + 1) s₄.heap := src.turns.frame _ _ _ hst₂ fun b hb o e => m₄.heap b o (fW b hb) e
    have m4 : Moves (fun c => Wr own env c ∨ c ∈ wr) s₂ s₄ := m3.trans (m₄.mono fun c h => .inl h)
    rcases Nat.lt_or_ge i k with hi | hi
    · obtain ⟨ρ', hb, hsub⟩ := full i hi
      refine hb env _ s₄ H F4 _ _ fun f s₅ m₅ o₅ => ?_
      obtain ⟨rfl, F5⟩ := o₅
      exact ⟨n + 1 - (i + 1), by omega, i + 1, F5.sub hsub, src.turns.frame _ _ _ st4 fun b hb o e => m₅.heap b o (fW b hb) e, m4.trans (m₅.mono fun c h => .inl h), hi, rfl⟩
    · have : i = k := by omega
      subst this
      rcases last with ⟨rfl, _⟩ | ⟨_, ⟨ρ', hb, rfl⟩ | ⟨d, hb, rfl⟩⟩
      · omega
      · refine hb env _ s₄ H F4 _ _ fun f s₅ m₅ o₅ => ?_
        obtain ⟨rfl, F5⟩ := o₅
        exact q _ _ (fin _ (m4.trans (m₅.mono fun c h => .inl h))) ⟨rfl, less F5⟩
      · refine hb env _ s₄ H F4 _ _ fun f s₅ m₅ o₅ => ?_
        obtain ⟨v', rfl, i5⟩ := o₅
        exact q _ _ (fin _ (m4.trans (m₅.mono fun c h => .inl h))) ⟨v', rfl, i5.less fun c h => .inl h⟩
  · have hin : i = n := by omega
    subst hin
    have hkn : k = i := by omega
    subst hkn
    rcases last with ⟨_, rfl⟩ | ⟨hlt, _⟩
    · refine with_size (src.turns.done _ _ _ hst fun h₁ tk₁ hk₁ z₁ => wpAny_execs_nil ?_)
      have mv : Moves (fun c => c ∈ wr) s' { s' with heap := h₁, toks := tk₁ } := Moves.of (fun b o nb e => hk₁ b o nb e) z₁
      exact q _ _ (fin _ (hm.trans (mv.mono fun c h => .inr h))) ⟨rfl, less (Fi.other mv (fun c h => .inr h) lW cW mW)⟩
    · omega
end
end Mine
end

section
namespace Mine

/-- a block's names -/
def relab (scope sc : Scope) : Scope := { scope with names := scope.names.map fun (n, k) => if (k == .free && sc.kind == .function && sc.names.lookup n == some .cell) then (n, .cell) else (n, k) }
def freeN (scope : Scope) : List Str := ((scope.names.filter (·.2 == .free)).map (·.1)).reverse
def cellN (scope : Scope) : List Str := ((scope.names.filter (·.2 == .cell)).map (·.1)).reverse
def vis (scope : Scope) (ρ : Rho) : Rho := ρ.filter fun p => (freeN scope).contains p.1

theorem lookup_filter {f : Str → Bool} {ρ : Rho} {y : Str} {d : D} (h : (ρ.filter fun p => f p.1).lookup y = some d) : f y = true ∧ ρ.lookup y = some d := by
  induction ρ with
  | nil => cases h
  | cons p r ih =>
    obtain ⟨x, e⟩ := p
    rw [List.filter_cons] at h
    by_cases hx : f x = true
    · rw [if_pos hx] at h
      rw [List.lookup_cons] at h ⊢
      by_cases hy : y == x
      · rw [hy] at h ⊢
        rw [beq_iff_eq.mp hy]
        exact ⟨hx, h⟩
      · rw [Bool.not_eq_true] at hy
        rw [hy] at h ⊢
        exact ih h
    · rw [if_neg hx] at h
      have := ih h
      rw [List.lookup_cons]
      by_cases hy : y == x
      · rw [beq_iff_eq.mp hy] at this; exact absurd this.1 hx
      · rw [Bool.not_eq_true] at hy
        rw [hy]; exact this

theorem relab_eq {scope sc : Scope} {cn : List Str} {env : Env} (H : Sh sc cn env) : relabel scope env = relab scope sc := by
  unfold relabel relab
  have : (fun (x : Str × NameKind) => if (x.2 == NameKind.free && env.scope.kind == ScopeKind.function && env.kindOf x.1 == some NameKind.cell) = true then (x.1, NameKind.cell) else (x.1, x.2)) =
      fun x => if (x.2 == NameKind.free && sc.kind == ScopeKind.function && sc.names.lookup x.1 == some NameKind.cell) = true then (x.1, NameKind.cell) else (x.1, x.2) := by
    funext x
    unfold Env.kindOf
    rw [H.scope]
  simpa using congrArg (fun f => ({ scope with names := scope.names.map f } : Scope)) this

def cloF (env : Env) : List (Str × NameKind) → List (Str × Addr) → List (Str × Addr)
  | [], acc => acc
  | (n, k) :: r, acc => if k == .free then cloF env r ((n, (env.cells.lookup n).getD 0) :: acc) else cloF env r acc
theorem cloF_append (env : Env) : ∀ (l : List (Str × NameKind)) (acc : List (Str × Addr)), cloF env l acc = cloF env l [] ++ acc
  | [], _ => rfl
  | (n, k) :: r, acc => by
    unfold cloF
    split
    · rw [cloF_append env r (_ :: acc), cloF_append env r [_]]; simp
    · exact cloF_append env r acc
theorem cloF_names (env : Env) : ∀ (l : List (Str × NameKind)), (cloF env l []).map (·.1) = ((l.filter (·.2 == .free)).map (·.1)).reverse
  | [] => rfl
  | (n, k) :: r => by
    unfold cloF
    split
    · rename_i h
      rw [cloF_append, List.map_append, cloF_names env r, List.filter_cons, if_pos h]; simp
    · rename_i h
      rw [cloF_names env r, List.filter_cons, if_neg h]
theorem lookup_some_of_mem {α : Type} {l : List (Str × α)} {n : Str} (h : n ∈ l.map (·.1)) : ∃ c, l.lookup n = some c := by
  induction l with
  | nil => cases h
  | cons p r ih =>
    rw [List.map_cons, List.mem_cons] at h
    by_cases hx : n = p.1
    · exact ⟨p.2, by rw [List.lookup_cons]; simp [hx]⟩
    · have : (n == p.1) = false := by simpa using hx
      rw [List.lookup_cons, this]
      exact ih (h.resolve_left hx)
theorem cloF_get (env : Env) : ∀ (l : List (Str × NameKind)) (acc : List (Str × Addr)), (∀ p ∈ l, p.2 = .free → p.1 ∈ env.cells.map (·.1)) → (∀ n c, acc.lookup n = some c → env.cells.lookup n = some c) →
    ∀ n c, (cloF env l acc).lookup n = some c → env.cells.lookup n = some c
  | [], _, _, ha, n, c, h => ha n c h
  | (m, k) :: r, acc, hl, ha, n, c, h => by
    unfold cloF at h
    split at h
    · rename_i hk
      refine cloF_get env r _ (fun p hp => hl p (List.mem_cons_of_mem _ hp)) (fun n' c' h' => ?_) n c h
      rw [List.lookup_cons] at h'
      by_cases hm : n' == m
      · rw [hm] at h'
        obtain ⟨c₀, e⟩ := lookup_some_of_mem (hl (m, k) (List.mem_cons_self ..) (by simpa using hk))
        rw [beq_iff_eq.mp hm, e]
        rw [e] at h'
        simpa using h'
      · rw [Bool.not_eq_true] at hm
        rw [hm] at h'
        exact ha n' c' h'
    · exact cloF_get env r acc (fun p hp => hl p (List.mem_cons_of_mem _ hp)) ha n c h
theorem closure_eq {scope sc : Scope} {cn : List Str} {env : Env} (H : Sh sc cn env) (hf : (freeN scope).all (cn.contains ·) = true) : closureFor scope env = pure (cloF env scope.names []) := by
  have hl : ∀ p ∈ scope.names, p.2 = .free → p.1 ∈ env.cells.map (·.1) := fun p hp hk => by
    rw [H.cells]
    have := List.all_eq_true.mp hf p.1 (by
      unfold freeN
      rw [List.mem_reverse, List.mem_map]
      exact ⟨p, List.mem_filter.mpr ⟨hp, by rw [hk]; rfl⟩, rfl⟩)
    simpa using this
  have key : ∀ (l : List (Str × NameKind)) (acc : List (Str × Addr)), (∀ p ∈ l, p.2 = .free → p.1 ∈ env.cells.map (·.1)) →
      (forIn l acc fun (x : Str × NameKind) cs => (if (x.2 == NameKind.free) = true then (do let a ← cellOf env x.1; pure (ForInStep.yield ((x.1, a) :: cs))) else pure (ForInStep.yield cs) : Sem (ForInStep (List (Str × Addr))))) = pure (cloF env l acc) := by
    intro l
    induction l with
    | nil => intro acc _; rfl
    | cons p r ih =>
      intro acc hp
      obtain ⟨n, k⟩ := p
      rw [List.forIn_cons]
      unfold cloF
      by_cases hk : (k == NameKind.free) = true
      · obtain ⟨c, e⟩ := lookup_some_of_mem (hp (n, k) (List.mem_cons_self ..) (by simpa using hk))
        have hc : cellOf env n = pure c := by unfold cellOf; rw [e]
        dsimp only
        rw [if_pos hk, if_pos hk, hc, e]
        simp only [pure_bind]
        exact ih _ fun q hq => hp q (List.mem_cons_of_mem _ hq)
      · dsimp only
        rw [if_neg hk, if_neg hk]
        simp only [pure_bind]
        exact ih _ fun q hq => hp q (List.mem_cons_of_mem _ hq)
  show (forIn scope.names ([] : List (Str × Addr)) (fun (x : Str × NameKind) cs => (if (x.2 == NameKind.free) = true then (do let a ← cellOf env x.1; pure (ForInStep.yield ((x.1, a) :: cs))) else pure (ForInStep.yield cs) : Sem (ForInStep (List (Str × Addr))))) >>= fun s => pure s) = _
  rw [key scope.names [] hl]
  rfl

theorem cellsFrom_append : ∀ (names : List (Str × NameKind)) (n : Nat) (acc : List (Str × Addr)), cellsFrom n names acc = cellsFrom n names [] ++ acc
  | [], _, _ => rfl
  | (m, k) :: r, n, acc => by
    unfold cellsFrom
    split
    · rw [cellsFrom_append r (n + 1) (_ :: acc), cellsFrom_append r (n + 1) [_]]; simp
    · exact cellsFrom_append r n acc
theorem cellsFrom_names : ∀ (names : List (Str × NameKind)) (n : Nat), (cellsFrom n names []).map (·.1) = ((names.filter (·.2 == .cell)).map (·.1)).reverse
  | [], _ => rfl
  | (m, k) :: r, n => by
    unfold cellsFrom
    split
    · rename_i h
      rw [cellsFrom_append, List.map_append, cellsFrom_names r, List.filter_cons, if_pos h]; simp
    · rename_i h
      rw [cellsFrom_names r, List.filter_cons, if_neg h]
theorem pushCells_size : ∀ (names : List (Str × NameKind)) (h : Heap), h.objs.size ≤ (pushCells h names).objs.size
  | [], _ => Nat.le_refl _
  | (m, k) :: r, h => by
    unfold pushCells
    split
    · exact Nat.le_trans (size_push_le _ _) (pushCells_size r _)
    · exact pushCells_size r h

/-- the environment of a block -/
def blockEnv (scope : Scope) (env : Env) (C : Addr) (own : List (Str × Addr)) : Env :=
  { scope := relabel scope env, locals := C, globals := env.globals, cells := own ++ cloF env scope.names [], qual := env.qual, func := none, code := env.code, frame := env.frame, builtins := env.builtins }

theorem block_sh {scope sc : Scope} {cn : List Str} {env : Env} {C k : Addr} (H : Sh sc cn env) (hk : scope.kind = .function) : Sh (relab scope sc) (cellN scope ++ freeN scope) (blockEnv scope env C (cellsFrom k scope.names [])) where
  scope := relab_eq H
  cells := by
    show (cellsFrom k scope.names [] ++ cloF env scope.names []).map (·.1) = _
    rw [List.map_append, cellsFrom_names, cloF_names]; rfl
  globals := H.globals
  builtins := H.builtins
  kind := hk

theorem lookup_append_of {α : Type} {l r : List (Str × α)} {n : Str} : (l ++ r).lookup n = (l.lookup n).or (r.lookup n) := by
  induction l with
  | nil => simp
  | cons p l ih =>
    rw [List.cons_append, List.lookup_cons, List.lookup_cons]
    split
    · simp
    · exact ih

section
variable {prog : Program} {w : World} {A : Around} {X : V0} {env : Env} {ρ : Rho} {s s₂ : Shared} {sc scope : Scope} {cn : List Str} {own : Own}

/-- a block's frame is laid -/
theorem block_new (H : Sh sc cn env) (S : Sees w X env ρ s) (hf : (freeN scope).all (cn.contains ·) = true) (hk : scope.kind = .function) (hloc : ∀ y ∈ freeN scope, sc.names.lookup y = some .cell ∨ sc.names.lookup y = some .free)
    (hkf : ∀ y ∈ freeN scope, (relab scope sc).names.lookup y = some .cell ∨ (relab scope sc).names.lookup y = some .free)
    (hown : ∀ y ∈ cellN scope, y ∉ freeN scope)
    {Q : Env → Shared → Prop} {E : Value → Shared → Prop} {M : Model}
    (q : ∀ C k s', Kp s s' → s.heap.objs.size ≤ C → (∀ c, Wr (cellN scope) (blockEnv scope env C (cellsFrom k scope.names [])) c → s.heap.objs.size ≤ c ∧ c < s'.heap.objs.size) →
      FrOk (cellN scope) w (fun c => X c ∨ Wr (cellN scope) (blockEnv scope env C (cellsFrom k scope.names [])) c) (blockEnv scope env C (cellsFrom k scope.names [])) (vis scope ρ) s' →
      ∀ cenv : Env, cenv.locals = C → ({ cenv with scope := relabel scope env } : Env) = blockEnv scope env C (cellsFrom k scope.names []) → Q cenv s') :
    wpAny M A (newFunctionEnv scope env.globals (cloF env scope.names []) [] env.qual none .none (some env)) Q E s := by
  have hcells := S.cel
  have hinj := S.inj
  unfold newFunctionEnv
  refine wpAny_bind (wpAny_alloc ?_)
  refine wpAny_bind (wpAny_layCells _ (fun name kind cells => by cases hkc : kind == NameKind.cell <;> simp [hkc]) _ _ _ _ ?_)
  simp only [List.forIn_nil, pure_bind]
  refine wpAny_pure ?_
  have e1 : (s.heap.push { cls := .type (if (some env).isSome = true then "dict" else "frame"), data := .dict #[] }).objs.size = s.heap.objs.size + 1 := Heap.size_push ..
  rw [e1, cellsFrom_append]
  generalize hh : s.heap.push { cls := .type (if (some env).isSome = true then "dict" else "frame"), data := .dict #[] } = h₁ at e1 ⊢
  have ok := cellsFrom_ok scope.names h₁ (s.heap.objs.size + 1) [] ⟨fun _ _ hm => (nomatch hm), List.Pairwise.nil⟩ (by omega)
  rw [e1] at ok
  have ext : Ext s.heap (pushCells h₁ scope.names) := fun b o e => pushCells_keeps _ _ b o (hh ▸ Heap.get?_push_of_some _ e)
  have nsC : (pushCells h₁ scope.names).Ns s.heap.objs.size fun _ => none := by
    refine Heap.Ns.keeps ?_ (pushCells_keeps _ _)
    rw [← hh]
    exact Heap.Ns.new s.heap _
  have ownAt : ∀ n c, (cellsFrom (s.heap.objs.size + 1) scope.names []).lookup n = some c → (pushCells h₁ scope.names).IsCell c none ∧ s.heap.objs.size + 1 ≤ c := fun n c h => ok.empty n c (mem_of_lookup h)
  have hl : ∀ p ∈ scope.names, p.2 = .free → p.1 ∈ env.cells.map (·.1) := fun p hp hk => by
    rw [H.cells]
    have := List.all_eq_true.mp hf p.1 (by
      unfold freeN
      rw [List.mem_reverse, List.mem_map]
      exact ⟨p, List.mem_filter.mpr ⟨hp, by rw [hk]; rfl⟩, rfl⟩)
    simpa using this
  have cloAt : ∀ n c, (cloF env scope.names []).lookup n = some c → env.cells.lookup n = some c := cloF_get env scope.names [] hl (fun _ _ h => by cases h)
  have look : ∀ n c, (blockEnv scope env s.heap.objs.size (cellsFrom (s.heap.objs.size + 1) scope.names [])).cells.lookup n = some c →
      ((cellsFrom (s.heap.objs.size + 1) scope.names []).lookup n = some c) ∨ (cloF env scope.names []).lookup n = some c := fun n c h => by
    have h' : (cellsFrom (s.heap.objs.size + 1) scope.names [] ++ cloF env scope.names []).lookup n = some c := h
    rw [lookup_append_of] at h'
    cases hq : (cellsFrom (s.heap.objs.size + 1) scope.names []).lookup n with
    | some c' => rw [hq] at h'; simp at h'; exact .inl (by rw [h'])
    | none => rw [hq] at h'; exact .inr (by simpa using h')
  have oldlt : ∀ n c, env.cells.lookup n = some c → c < s.heap.objs.size := fun n c h => let ⟨_, _, e, _⟩ := hcells n c h; Heap.lt_size e
  have wlo : ∀ c, Wr (cellN scope) (blockEnv scope env s.heap.objs.size (cellsFrom (s.heap.objs.size + 1) scope.names [])) c → s.heap.objs.size ≤ c ∧ c < (pushCells h₁ scope.names).objs.size := by
    intro c h
    rcases h with rfl | ⟨n, hn, e⟩ | h
    rotate_left 2
    · exact (noMu h).elim
    rotate_right 2
    · exact ⟨Nat.le_refl _, nsC.lt⟩
    · rcases look n c e with e | e
      · have := ownAt n c e; exact ⟨by omega, this.1.lt⟩
      · have hm : n ∈ freeN scope := by
          have := List.mem_map_of_mem (f := (·.1)) (mem_of_lookup e)
          rw [cloF_names] at this
          exact this
        exact absurd hm (hown n hn)
  refine q s.heap.objs.size (s.heap.objs.size + 1) _ ⟨⟨_, s.toks, rfl⟩, ext, ?_⟩ (Nat.le_refl _) wlo ?_ _ rfl rfl
  · show s.heap.objs.size ≤ (pushCells h₁ scope.names).objs.size
    exact Nat.le_trans (by omega) (pushCells_size scope.names h₁)
  · have cellsOk : ∀ n c, (blockEnv scope env s.heap.objs.size (cellsFrom (s.heap.objs.size + 1) scope.names [])).cells.lookup n = some c → c ≠ s.heap.objs.size ∧ ∃ v, (pushCells h₁ scope.names).IsCell c v := by
      intro n c e
      rcases look n c e with e | e
      · have := ownAt n c e
        exact ⟨Nat.ne_of_gt this.2, _, this.1⟩
      · have h1 := cloAt n c e
        obtain ⟨v, hv⟩ := hcells n c h1
        exact ⟨Nat.ne_of_lt (oldlt n c h1), v, hv.keeps ext⟩
    have injOk : ∀ n n' c, (blockEnv scope env s.heap.objs.size (cellsFrom (s.heap.objs.size + 1) scope.names [])).cells.lookup n = some c → (blockEnv scope env s.heap.objs.size (cellsFrom (s.heap.objs.size + 1) scope.names [])).cells.lookup n' = some c → n = n' := by
      intro n n' c e e'
      rcases look n c e with e | e <;> rcases look n' c e' with e' | e'
      · exact name_of_addr ok.apart (mem_of_lookup e) (mem_of_lookup e')
      · have h1 := ownAt n c e
        exact absurd (oldlt n' c (cloAt n' c e')) (Nat.not_lt.mpr (Nat.le_of_succ_le h1.2))
      · have h1 := ownAt n' c e'
        exact absurd (oldlt n c (cloAt n c e)) (Nat.not_lt.mpr (Nat.le_of_succ_le h1.2))
      · exact hinj n n' c (cloAt n c e) (cloAt n' c e')
    refine ⟨⟨S.gr.more ext fun c h => Heap.get?_none_of_le (wlo c h).1, ?_, ?_, fun n c e => (cellsOk n c e).2, injOk⟩, .inr (.inl rfl), ⟨_, nsC⟩, fun n hn c e => .inr (.inr (.inl ⟨n, hn, e⟩)), cellsOk, injOk, fun _ h => (noMu h).elim, fun _ _ _ h => (nomatch h), fun _ _ _ h => nomatch h⟩
    · intro c h
      rcases h with h | h
      · exact Nat.lt_of_lt_of_le (S.xs c h) (Nat.le_trans (by omega) (pushCells_size scope.names h₁))
      · exact (wlo c h).2
    · intro y d hy hmut
      obtain ⟨hfr, hρ⟩ := lookup_filter (f := fun n => (freeN scope).contains n) hy
      have hfr' : y ∈ freeN scope := by simpa using hfr
      obtain ⟨v, hn, i⟩ := S.vals y d hρ hmut
      refine ⟨v, ?_, (i.more fun c h => Heap.get?_none_of_le (wlo c h).1).keeps ext⟩
      cases hn with
      | loc m a b c =>
        exfalso
        have := H.kindOf (x := y) rfl
        rw [a] at this
        rcases hloc y hfr' with e | e <;> rw [e] at this <;> cases this
      | cel c a b cv =>
        have hkn : ∃ c', (cloF env scope.names []).lookup y = some c' := lookup_some_of_mem (by rw [cloF_names]; exact hfr')
        obtain ⟨c', hc'⟩ := hkn
        have hcc : c' = c := by have := cloAt y c' hc'; rw [b] at this; exact (Option.some.inj this).symm
        subst hcc
        have Hb := block_sh (C := s.heap.objs.size) (k := s.heap.objs.size + 1) H hk
        refine .cel c' (by rcases hkf y hfr' with e | e; exact .inl (Hb.kindOf e); exact .inr (Hb.kindOf e)) ?_ (cv.keeps ext)
        show (cellsFrom (s.heap.objs.size + 1) scope.names [] ++ cloF env scope.names []).lookup y = some c'
        rw [lookup_append_of]
        have hno : (cellsFrom (s.heap.objs.size + 1) scope.names []).lookup y = none := by
          cases hq : (cellsFrom (s.heap.objs.size + 1) scope.names []).lookup y with
          | none => rfl
          | some u =>
            have := List.mem_map_of_mem (f := (·.1)) (mem_of_lookup hq)
            rw [cellsFrom_names] at this
            exact absurd hfr' (hown y this)
        rw [hno, hc']; rfl
end
end Mine
end

section
namespace Mine

section
variable {prog : Program} {w : World} {A : Around} {X X' : V0} {env cenv : Env} {ρ : Rho} {s s₀ s₂ : Shared} {sc scope tsc : Scope} {cn tcn town : List Str} {own : Own}

/-- the tree of a block's tests -/
abbrev testsT (ifs : List Expr) (env : Env) : Sem Bool :=
  forIn ifs true fun c r => if r = true then do let ok ← isTrue c env (eval c env); pure (ForInStep.yield ok) else pure (ForInStep.yield r)
def Tests (prog : Program) (w : World) (A : Around) (sc : Scope) (cn : List Str) (ρ : Rho) : List Expr → Bool → Prop
  | [], b => b = true
  | [c], b => Te prog w A sc cn ρ c b
  | _, _ => False
theorem tests_run {ifs : List Expr} {b : Bool} (h : Tests prog w A sc cn ρ ifs b) (H : Sh sc cn env) (S : Sees w X env ρ s) {Q : Bool → Shared → Prop} {E : Value → Shared → Prop} (q : ∀ s', Kp s s' → Q b s') : wpAny (model prog w) A (testsT ifs env) Q E s := by
  match ifs, h with
  | [], h => subst h; exact wpAny_tests_nil (q _ (Kp.refl _))
  | [c], h => exact wpAny_tests_one (h env X s H S _ E q)

/-- what a turn's rest does: it appends -/
def Step (prog : Program) (w : World) (A : Around) (town : List Str) (X' : V0) (cenv : Env) (Dl : Addr) (stp : Sem Unit) (ρ : Rho) (outs : List D) : Prop :=
  ∀ s vs m ds (Q : Unit → Shared → Prop) (E : Value → Shared → Prop), FrOk town w X' cenv ρ s → IsL s.heap Dl (List.toArray vs) m → IsAll X' s.heap vs ds → ds.length + outs.length ≤ 1048576 →
    (∀ s' vs' m', Moves (fun c => Wr town cenv c ∨ c = Dl) s s' → FrOk town w X' cenv ρ s' → IsL s'.heap Dl (List.toArray vs') m' → IsAll X' s'.heap vs' (ds ++ outs) → Q () s') → wpAny (model prog w) A stp Q E s

/-- a turn of a block, seen from without -/
def TurnIs (prog : Program) (w : World) (A : Around) (e : Expr) (k : Nat) (target : Expr) (ifs : List Expr) (it acc : Value) (cenv : Env) (stp : Sem Unit) : Prop :=
  ∀ s (Q : Fin → Shared → Prop) (E : Value → Shared → Prop),
    wpAny (model prog w) A (pyNext it) (fun r s₁ => match r with
      | none => Q (.done .next) s₁
      | some v => wpAny (model prog w) A (letOwnedTupleGo target it v) (fun _ s₁' => wpAny (model prog w) A (assign target cenv v) (fun _ s₂ => wpAny (model prog w) A (testsT ifs cenv) (fun ok s₃ =>
          if ok = true then wpAny (model prog w) A stp (fun _ s₄ => Q (.again (.compLoop e k it acc cenv)) s₄) E s₃ else Q (.again (.compLoop e k it acc cenv)) s₃) E s₂) E s₁') E s₁) E s →
    wpAny (model prog w) A (compTurn e k it acc cenv) Q E s

def outsOf (p : Nat → Bool) (outs : Nat → List D) : Nat → List D
  | 0 => []
  | i + 1 => outsOf p outs i ++ (if p i then outs i else [])

theorem comp_loop {e elt : Expr} {gens : List Comprehension} {csc : Scope} {cpos : Pos} {k n : Nat} {target : Expr} {ifs : List Expr} {bs : Nat → Rho} {I Dl : Addr} {fp wr : List Addr} {P Md : Nat → Value → Heap → Prop} {St : Nat → Heap → Prop} {stp : Sem Unit} {R : Result → Shared → Prop}
    (he : e = .ListComp elt gens csc cpos) (hT : TurnIs prog w A e k target ifs (.ref I) (.ref Dl) cenv stp) (src : Src prog w A tsc tcn town target X n bs I fp wr P Md St s₀ s₂) (H : Sh tsc tcn cenv)
    (hX : ∀ c, X c ∨ c ∈ wr → X' c) (hX' : ∀ c, X' c → c < s₂.heap.objs.size → X c ∨ c ∈ wr) (fW : ∀ b ∈ fp, ¬ Wr town cenv b) (fD : ∀ b ∈ fp, b ≠ Dl) (hDX : X' Dl) (hDW : ¬ Wr town cenv Dl)
    (hcD : ∀ n c, cenv.cells.lookup n = some c → c ≠ Dl) (hcw : ∀ n c, cenv.cells.lookup n = some c → ¬ c ∈ wr) (hb : ∀ i, i < n → Sub ρ (bs i ++ ρ))
    (p : Nat → Bool) (outs : Nat → List D) (hp : ∀ i, i < n → Tests prog w A tsc tcn (bs i ++ ρ) ifs (p i)) (hs : ∀ i, i < n → p i = true → Step prog w A town X' cenv Dl stp (bs i ++ ρ) (outs i))
    {vs : List Value} {m : Nat} {ds : List D} (F : FrOk town w X' cenv ρ s) (hst : St 0 s.heap) (mv : Moves (fun c => Wr town cenv c ∨ c = Dl ∨ c ∈ wr) s₂ s) (hl : IsL s.heap Dl (List.toArray vs) m) (hi : IsAll X' s.heap vs ds) (hsz : ds.length + (outsOf p outs n).length ≤ 1048576)
    (hR : ∀ s' vs' m', Moves (fun c => Wr town cenv c ∨ c = Dl ∨ c ∈ wr) s s' → FrOk town w X' cenv ρ s' → IsL s'.heap Dl (List.toArray vs') m' → IsAll X' s'.heap vs' (ds ++ outsOf p outs n) → R (.ok .next) s') :
    codeAny (model prog w) A (.compLoop e k (.ref I) (.ref Dl) cenv) R s := by
  have lW : ¬ cenv.locals ∈ wr := fun h => fW _ (src.turns.sub _ h) (.inl rfl)
  have wD : Dl ∉ wr := fun h => fD Dl (src.turns.sub _ h) rfl
  have mono : ∀ i, i ≤ n → (outsOf p outs i).length ≤ (outsOf p outs n).length := by
    intro i hi
    obtain ⟨j, rfl⟩ := Nat.le.dest hi
    clear hi hsz hR hs hp hb src
    induction j with
    | zero => exact Nat.le_refl _
    | succ j ih =>
      refine Nat.le_trans ih ?_
      show _ ≤ (outsOf p outs (i + j) ++ _).length
      rw [List.length_append]; omega
  refine codeAny_loop (c := .compLoop e k (.ref I) (.ref Dl) cenv) rfl (fun mm s' => ∃ i vs' m', FrOk town w X' cenv ρ s' ∧ St i s'.heap ∧ Moves (fun c => Wr town cenv c ∨ c = Dl ∨ c ∈ wr) s s' ∧ IsL s'.heap Dl (List.toArray vs') m' ∧ IsAll X' s'.heap vs' (ds ++ outsOf p outs i) ∧ i ≤ n ∧ mm = n + 1 - i) ?_ (n + 1)
    ⟨0, vs, m, F, hst, Moves.refl _ _, hl, by rw [outsOf, List.append_nil]; exact hi, Nat.zero_le _, rfl⟩
  rintro mm s' ⟨i, vs', m', Fi, hst', hm, hl', hi', hin, rfl⟩
  subst he
  show wpAny _ A ((compTurn (.ListComp elt gens csc cpos) k (.ref I) (.ref Dl) cenv).onRaise (fun x => do noteFrame x cenv; theTreesLotGoes x)) _ _ s'
  refine wpAny_noted (hT s' _ _ ?_)
  by_cases hlt : i < n
  · refine with_size (src.turns.item i _ _ _ hlt hst' fun v h₁ tk₁ hMd hk₁ z₁ => ?_)
    refine with_size (src.turns.go i v _ _ _ hMd fun h₂ hP hst₂ hk₂ z₂ => ?_)
    have mv1 : Moves (fun c => c ∈ wr) s' { s' with heap := h₂, toks := tk₁ } := Moves.of (fun b o nb e => hk₂ b o nb (hk₁ b o nb e)) (Nat.le_trans z₁ z₂)
    have F3 := Fi.other mv1 (fun c h => hX c (.inr h)) lW hcw (fun _ h => (noMu h).elim)
    have m3 : Moves (fun c => Wr town cenv c ∨ c = Dl ∨ c ∈ wr) s { s' with heap := h₂, toks := tk₁ } := hm.trans (mv1.mono fun c h => .inr (.inr h))
    have m3' := mv.trans m3
    refine src.bind i v cenv X' ρ _ _ _ hlt hP H F3 hX (fun c o e h => hX' c h (Heap.lt_size e)) (fun b o nb e => m3'.heap b o (fun z => z.elim (fun z => nb (Fi.wr b z)) fun z => z.elim (fun z => nb (z ▸ hDX)) fun z => nb (hX b (.inr z))) e) fun s₄ m₄ F4 => ?_
    have st4 : St (i + 1) s₄.heap := src.turns.frame _ _ _ hst₂ fun b hb o e => m₄.heap b o (fW b hb) e
    have m4 : Moves (fun c => Wr town cenv c ∨ c = Dl ∨ c ∈ wr) s s₄ := m3.trans (m₄.mono fun c h => .inl h)
    have l4 : IsL s₄.heap Dl (List.toArray vs') m' := m₄.heap _ _ hDW (hk₂ _ _ wD (hk₁ _ _ wD hl'))
    have i4 : IsAll X' s₄.heap vs' (ds ++ outsOf p outs i) := (hi'.moves fun b o nb e => hk₂ b o (fun z => nb (hX b (.inr z))) (hk₁ b o (fun z => nb (hX b (.inr z))) e)).moves fun b o nb e => m₄.heap b o (fun z => nb (F4.wr b z)) e
    refine tests_run (hp i hlt) H F4.sees fun s₅ k₅ => ?_
    have F5 := F4.keeps k₅
    have l5 : IsL s₅.heap Dl (List.toArray vs') m' := k₅.heap _ _ l4
    have i5 := i4.keeps k₅.heap
    have st5 : St (i + 1) s₅.heap := src.turns.frame _ _ _ st4 fun b hb o e => k₅.heap b o e
    have m5 := m4.trans (k₅.moves (W := fun c => Wr town cenv c ∨ c = Dl ∨ c ∈ wr))
    by_cases hpi : p i = true
    · rw [if_pos hpi]
      have e1 : outsOf p outs (i + 1) = outsOf p outs i ++ outs i := by rw [outsOf, if_pos hpi]
      refine hs i hlt hpi s₅ vs' m' _ _ _ F5 l5 i5 ?_ fun s₆ vs₆ m₆ mv₆ F6 l6 i6 => ?_
      · have := mono (i + 1) hlt
        rw [e1, List.length_append] at this
        rw [List.length_append]; omega
      · refine ⟨rfl, n + 1 - (i + 1), by omega, i + 1, vs₆, m₆, F6.sub (hb i hlt), src.turns.frame _ _ _ st5 fun b hb o e => mv₆.heap b o (fun z => z.elim (fW b hb) (fD b hb)) e, m5.trans (mv₆.mono fun c h => h.imp id .inl), l6, ?_, hlt, rfl⟩
        rw [e1, ← List.append_assoc]; exact i6
    · rw [if_neg hpi]
      have e1 : outsOf p outs (i + 1) = outsOf p outs i := by rw [outsOf, if_neg hpi, List.append_nil]
      exact ⟨rfl, n + 1 - (i + 1), by omega, i + 1, vs', m', F5.sub (hb i hlt), st5, m5, l5, by rw [e1]; exact i5, hlt, rfl⟩
  · have hin : i = n := by omega
    subst hin
    refine with_size (src.turns.done _ _ _ hst' fun h₁ tk₁ hk₁ z₁ => ?_)
    have mv1 : Moves (fun c => c ∈ wr) s' { s' with heap := h₁, toks := tk₁ } := Moves.of (fun b o nb e => hk₁ b o nb e) z₁
    exact hR _ vs' m' (hm.trans (mv1.mono fun c h => .inr (.inr h))) (Fi.other mv1 (fun c h => hX c (.inr h)) lW hcw (fun _ h => (noMu h).elim)) (hk₁ _ _ wD hl') (hi'.moves fun b o nb e => hk₁ b o (fun z => nb (hX b (.inr z))) e)
end
end Mine
end

section
namespace Mine

section
variable {prog : Program} {w : World} {A : Around} {X X' : V0} {env cenv : Env} {ρ : Rho} {s s₀ s₂ : Shared} {sc scope tsc : Scope} {cn tcn town : List Str} {own : Own}

theorem Step.emit {elt : Expr} {Dl : Addr} {d : D} (H : Sh tsc tcn cenv) (hDX : X' Dl) (hDW : ¬ Wr town cenv Dl) (hcD : ∀ n c, cenv.cells.lookup n = some c → c ≠ Dl) (h : Ev prog w A tsc tcn ρ elt d) :
    Step prog w A town X' cenv Dl (do let _ ← call (.builtin "list.append") [.ref Dl, ← eval elt cenv]) ρ [d] := fun s vs m ds Q E F hl hi hsz q => by
  refine wpAny_bind (h cenv X' s H F.sees _ E fun v s1 k1 i1 => ?_)
  have F1 := F.keeps k1
  have l1 : IsL s1.heap Dl (List.toArray vs) m := k1.heap _ _ hl
  refine wpAny_bind (with_size (wpAny_list_append_plain (items := List.toArray vs) ⟨m, l1⟩ (fun h' hl' hs' z => wpAny_pure ?_) (by rw [List.size_toArray, hi.length, sizeLine_eq]; simp only [List.length_cons, List.length_nil] at hsz; omega)))
  obtain ⟨m', l'⟩ := hl'
  have mv : Moves (fun c => c = Dl) s1 { s1 with heap := h' } := Moves.of (fun b o nb e => hs'.extBut b o nb e) z
  have hDl : ¬ Dl = cenv.locals := fun e => hDW (.inl e)
  refine q _ (vs ++ [v]) m' (k1.moves.trans (mv.mono fun c h => .inr h)) (F1.other mv (fun c h => h ▸ hDX) (fun e => hDl e.symm) (fun n c e h => hcD n c e h) fun _ h => (noMu h).elim) ?_ ?_
  · rw [List.push_toArray] at l'; exact l'
  · exact ((hi.keeps k1.heap).append (.cons i1 .nil)).moves fun b o nb e => mv.heap b o (fun z => nb (z ▸ hDX)) e

theorem TurnIs.one {elt target iter : Expr} {ifs : List Expr} {csc : Scope} {pos : Pos} {it : Value} {Dl : Addr} :
    TurnIs prog w A (.ListComp elt [⟨target, iter, ifs, 0⟩] csc pos) 0 target ifs it (.ref Dl) cenv (do let _ ← call (.builtin "list.append") [.ref Dl, ← eval elt cenv]) := fun s Q E h => by
  rw [compTurn_list]
  refine wpAny_bind (wpAny_standAt (wpAny_bind (wpAny_mono h (fun r s₁ h₁ => ?_) fun _ _ h' => h')))
  cases r with
  | none => exact wpAny_pure h₁
  | some v =>
    refine wpAny_bind (wpAny_mono h₁ (fun _ s₁' h₁' => wpAny_bind (wpAny_mono h₁' (fun _ s₂ h₂ => wpAny_bind (wpAny_mono h₂ (fun ok s₃ h₃ => ?_) fun _ _ h' => h')) fun _ _ h' => h')) fun _ _ h' => h')
    cases ok with
    | false => exact wpAny_pure h₃
    | true =>
      have h4 : wpAny (model prog w) A (eval elt cenv >>= fun x => call (.builtin "list.append") [.ref Dl, x] >>= fun _ => pure ()) (fun _ s₄ => Q (.again (.compLoop (.ListComp elt [⟨target, iter, ifs, 0⟩] csc pos) 0 it (.ref Dl) cenv)) s₄) E s₃ := h₃
      have h5 := wpAny_bind (f := fun _ => (again (.compLoop (.ListComp elt [⟨target, iter, ifs, 0⟩] csc pos) 0 it (.ref Dl) cenv) : Sem Fin)) (Q := Q) (wpAny_mono h4 (fun _ s₄ h₄ => wpAny_pure h₄) fun _ _ h' => h')
      simpa [bind_assoc] using h5

/-- what is asked of a block's names -/
structure Blk (scope sc : Scope) (cn : List Str) : Prop where
  free : (freeN scope).all (cn.contains ·) = true
  kind : scope.kind = .function
  names : ∀ x ∈ scope.names, x.2 = .local → scope.names.lookup x.1 = some .local
  loc : ∀ y ∈ freeN scope, sc.names.lookup y = some .cell ∨ sc.names.lookup y = some .free
  kf : ∀ y ∈ freeN scope, (relab scope sc).names.lookup y = some .cell ∨ (relab scope sc).names.lookup y = some .free
  own : ∀ y ∈ cellN scope, y ∉ freeN scope

theorem comp_core {elt : Expr} {gens : List Comprehension} {pos fpos : Pos} {n : Nat} {bs : Nat → Rho} {use : Option (Value → Sem Unit)} {stp : Value → Env → Sem Unit} {p : Nat → Bool} {outs : Nat → List D} {iter target : Expr} {ifs : List Expr} {rest : List Comprehension}
    (he : gens = ⟨target, iter, ifs, 0⟩ :: rest) (B : Blk scope sc cn) (H : Sh sc cn env) (S : Sees w X env ρ s) (hh : A.handled = none)
    (hit : It prog w A sc cn (relab scope sc) (cellN scope ++ freeN scope) (cellN scope) target ρ iter n bs)
    (hfs : ∀ env x, foldedSetIterable iter env x = pure x)
    (hT : ∀ it Dl cenv, TurnIs prog w A (.ListComp elt gens scope pos) 0 target ifs it (.ref Dl) cenv (stp (.ref Dl) cenv))
    (hb : ∀ i, i < n → Sub (vis scope ρ) (bs i ++ vis scope ρ))
    (hp : ∀ i, i < n → Tests prog w A (relab scope sc) (cellN scope ++ freeN scope) (bs i ++ vis scope ρ) ifs (p i))
    (hs : ∀ X' cenv Dl, Sh (relab scope sc) (cellN scope ++ freeN scope) cenv → X' Dl → ¬ Wr (cellN scope) cenv Dl → (∀ n c, cenv.cells.lookup n = some c → c ≠ Dl) → ∀ i, i < n → p i = true → Step prog w A (cellN scope) X' cenv Dl (stp (.ref Dl) cenv) (bs i ++ vis scope ρ) (outs i))
    (hsz : (outsOf p outs n).length ≤ 1048576)
    {Q : Value → Shared → Prop} {E : Value → Shared → Prop}
    (q : ∀ Dl C s', Kp s s' → Is (fun c => X c ∨ c = C) s'.heap (.ref Dl) (.list (outsOf p outs n)) → (∃ m, s'.heap.Ns C m) → s.heap.objs.size ≤ C → compPost (model prog w) A E use Q (.ref Dl) C (.ok .next) s') :
    wpAny (model prog w) A (comprehension (.ListComp elt gens scope pos) scope env fpos (newList []) false (firstIter gens env) use) Q E s := by
  subst he
  refine wpAny_comprehension_free (g := ⟨target, iter, ifs, 0⟩) (gs := rest) rfl (hfs env) (closure_eq H B.free) B.kind B.names ?_
  show wpAny (model prog w) A (eval iter env) _ E s
  refine hit env X s H S _ E fun I fp wr P Md St s₂ kp src => ?_
  refine wpAny_newObj_type ?_
  have S2 := S.keeps kp
  have k3 : Kp s₂ { s₂ with heap := s₂.heap.push { cls := .type "list", dict := none, data := .seq ([] : List Value).toArray } } := Kp.push _ _
  refine block_new H (S2.keeps k3) B.free B.kind B.loc B.kf B.own fun C k s₄ k4 hC hW F4 cenv hcl hce => ?_
  rw [hce]
  have sz3 : ({ s₂ with heap := s₂.heap.push { cls := .type "list", dict := none, data := .seq ([] : List Value).toArray } } : Shared).heap.objs.size = s₂.heap.objs.size + 1 := Heap.size_push ..
  generalize hbe : blockEnv scope env C (cellsFrom k scope.names []) = ce at F4 hW
  have Hc : Sh (relab scope sc) (cellN scope ++ freeN scope) ce := hbe ▸ block_sh H B.kind
  have hCe : ce.locals = C := by rw [← hbe]; rfl
  have kpAll : Kp s s₄ := (kp.trans k3).trans k4
  have wrLt : ∀ c ∈ wr, c < s₂.heap.objs.size := fun c h => src.fpA c (src.turns.sub c h)
  have WD : ∀ c, Wr (cellN scope) ce c → s₂.heap.objs.size + 1 ≤ c ∧ c < s₄.heap.objs.size := fun c h => by have := hW c h; rw [sz3] at this; exact this
  -- the wider set
  have F5 : FrOk (cellN scope) w (fun c => (X c ∨ Wr (cellN scope) ce c) ∨ (c = s₂.heap.objs.size ∨ c ∈ wr)) ce (vis scope ρ) s₄ := by
    refine { sees := ⟨?_, ?_, ?_, F4.sees.cel, F4.sees.inj⟩, wl := .inl F4.wl, ns := F4.ns, wc := fun n h c e => .inl (F4.wc n h c e), cell := F4.cell, inj := F4.inj, wm := fun _ h => (noMu h).elim, mi := fun _ _ _ h => (nomatch h), muts := fun _ _ _ h => nomatch h }
    · obtain ⟨g₀, a, b, c⟩ := S.gr
      refine ⟨g₀, a, fun u o z e => ?_, fun u o e => kpAll.heap u o (c u o e)⟩
      have hu := c u o e
      rcases z with (z | z) | (z | z)
      · exact b u o z e
      · exact absurd (Nat.lt_of_lt_of_le (Heap.lt_size hu) kp.size) (Nat.not_lt.mpr (Nat.le_of_succ_le (WD u z).1))
      · exact absurd (Nat.lt_of_lt_of_le (Heap.lt_size hu) kp.size) (by rw [z]; exact Nat.lt_irrefl _)
      · rw [src.wrN u z] at hu; cases hu
    · intro c z
      rcases z with (z | z) | (z | z)
      · exact Nat.lt_of_lt_of_le (S.xs c z) kpAll.size
      · exact (WD c z).2
      · rw [z]; exact Nat.lt_of_lt_of_le (by rw [sz3]; omega) k4.size
      · exact Nat.lt_of_lt_of_le (wrLt c z) (k3.trans k4).size
    · intro y d hy hmut
      obtain ⟨hfr, hρ⟩ := lookup_filter (f := fun n => (freeN scope).contains n) hy
      obtain ⟨v, n', i'⟩ := F4.sees.vals y d hy hmut
      obtain ⟨v₀, n₀, i₀⟩ := S.vals y d hρ hmut
      have hv : v = v₀ := by
        have hfr' : y ∈ freeN scope := by simpa using hfr
        cases n₀ with
        | loc m a _ _ =>
          have := H.kindOf (x := y) rfl
          rw [a] at this
          rcases B.loc y hfr' with e | e <;> rw [e] at this <;> cases this
        | cel c a b cv =>
          cases n' with
          | loc m a' _ _ =>
            have := Hc.kindOf (x := y) rfl
            rw [a'] at this
            rcases B.kf y hfr' with e | e <;> rw [e] at this <;> cases this
          | cel c' a' b' cv' =>
            have e : c' = c := by
              rw [← hbe] at b'
              have b'' : (cellsFrom k scope.names [] ++ cloF env scope.names []).lookup y = some c' := b'
              rw [lookup_append_of] at b''
              have hno : (cellsFrom k scope.names []).lookup y = none := by
                cases hq : (cellsFrom k scope.names []).lookup y with
                | none => rfl
                | some u =>
                  have := List.mem_map_of_mem (f := (·.1)) (mem_of_lookup hq)
                  rw [cellsFrom_names] at this
                  exact absurd hfr' (B.own y this)
              rw [hno] at b''
              have hl : ∀ p ∈ scope.names, p.2 = .free → p.1 ∈ env.cells.map (·.1) := fun p hp hk => by
                rw [H.cells]
                have := List.all_eq_true.mp B.free p.1 (by
                  unfold freeN
                  rw [List.mem_reverse, List.mem_map]
                  exact ⟨p, List.mem_filter.mpr ⟨hp, by rw [hk]; rfl⟩, rfl⟩)
                simpa using this
              have := cloF_get env scope.names [] hl (fun _ _ h => by cases h) y c' (by simpa using b'')
              rw [b] at this
              exact (Option.some.inj this).symm
            subst e
            obtain ⟨o, ho, hd⟩ := cv.keeps kpAll.heap
            obtain ⟨o', ho', hd'⟩ := cv'
            rw [ho] at ho'
            cases ho'
            rw [hd] at hd'
            cases hd'; rfl
      subst hv
      refine ⟨v, n', i₀.mono (fun c o e z => ?_) fun c o _ e => kpAll.heap c o e⟩
      rcases z with (z | z) | (z | z)
      · exact z
      · exact absurd (Nat.lt_of_lt_of_le (Heap.lt_size e) kp.size) (Nat.not_lt.mpr (Nat.le_of_succ_le (WD c z).1))
      · exact absurd (Nat.lt_of_lt_of_le (Heap.lt_size e) kp.size) (by rw [z]; exact Nat.lt_irrefl _)
      · rw [src.wrN c z] at e; cases e
  have hDW : ¬ Wr (cellN scope) ce s₂.heap.objs.size := fun h => absurd (WD _ h).1 (Nat.not_le.mpr (Nat.lt_succ_self _))
  have cellsOf : ∀ n c, ce.cells.lookup n = some c → c ≠ s₂.heap.objs.size ∧ ¬ c ∈ wr := by
    intro n' c e
    by_cases hm : n' ∈ cellN scope
    · have := (WD c (.inr (.inl ⟨n', hm, e⟩))).1
      exact ⟨Nat.ne_of_gt this, fun z => absurd (wrLt c z) (Nat.not_lt.mpr (Nat.le_of_succ_le this))⟩
    · have hno : (cellsFrom k scope.names []).lookup n' = none := by
        cases hq : (cellsFrom k scope.names []).lookup n' with
        | none => rfl
        | some u =>
          have := List.mem_map_of_mem (f := (·.1)) (mem_of_lookup hq)
          rw [cellsFrom_names] at this
          exact absurd this hm
      have e' : (cellsFrom k scope.names [] ++ cloF env scope.names []).lookup n' = some c := by rw [← hbe] at e; exact e
      rw [lookup_append_of, hno] at e'
      have hl : ∀ p ∈ scope.names, p.2 = .free → p.1 ∈ env.cells.map (·.1) := fun p hp hk => by
        rw [H.cells]
        have := List.all_eq_true.mp B.free p.1 (by
          unfold freeN
          rw [List.mem_reverse, List.mem_map]
          exact ⟨p, List.mem_filter.mpr ⟨hp, by rw [hk]; rfl⟩, rfl⟩)
        simpa using this
      have := cloF_get env scope.names [] hl (fun _ _ h => by cases h) n' c (by simpa using e')
      obtain ⟨_, o, ho, _⟩ := S.cel n' c this
      refine ⟨Nat.ne_of_lt (Nat.lt_of_lt_of_le (Heap.lt_size ho) kp.size), fun z => ?_⟩
      rw [src.wrN c z] at ho; cases ho
  have loop : codeAny (model prog w) A (.compLoop (.ListComp elt (⟨target, iter, ifs, 0⟩ :: rest) scope pos) 0 (.ref I) (.ref s₂.heap.objs.size) ce) (compPost (model prog w) A E use Q (.ref s₂.heap.objs.size) C) s₄ := by
    refine comp_loop (X := X) (X' := fun c => (X c ∨ Wr (cellN scope) ce c) ∨ (c = s₂.heap.objs.size ∨ c ∈ wr)) rfl (hT (.ref I) s₂.heap.objs.size ce) src Hc (fun c h => h.elim (fun h => .inl (.inl h)) fun h => .inr (.inr h)) (fun c h hlt => ?_) (fun b hb h => absurd (src.fpA b hb) (Nat.not_lt.mpr (Nat.le_of_succ_le (WD b h).1))) (fun b hb h => absurd (src.fpA b hb) (by rw [h]; exact Nat.lt_irrefl _)) (.inr (.inl rfl)) hDW
      (fun n c e => (cellsOf n c e).1) (fun n c e => (cellsOf n c e).2) hb p outs hp (hs _ ce _ Hc (.inr (.inl rfl)) hDW fun n c e => (cellsOf n c e).1)
      (vs := []) (m := 0) (ds := []) F5 ?_ ?_ ?_ .nil (by simpa using hsz) fun s' vs' m' mv F6 l6 i6 => ?_
    · rcases h with (h | h) | (h | h)
      · exact .inl h
      · exact absurd hlt (Nat.not_lt.mpr (Nat.le_of_succ_le (WD c h).1))
      · exact absurd hlt (by rw [h]; exact Nat.lt_irrefl _)
      · exact .inr h
    · exact src.turns.frame _ _ _ src.st fun b _ o e => (k3.trans k4).heap b o e
    · exact (k3.trans k4).moves
    · exact k4.heap _ _ (Heap.get?_push_size _ rfl)
    · rw [List.nil_append] at i6
      have kall : Kp s s' := by
        refine Moves.keeps kpAll mv fun c h => ?_
        rcases h with h | h | h
        · exact Heap.get?_none_of_le (Nat.le_trans kp.size (Nat.le_of_succ_le (WD c h).1))
        · exact Heap.get?_none_of_le (by rw [h]; exact kp.size)
        · exact src.wrN c h
      refine q s₂.heap.objs.size C s' kall ?_ ?_ (Nat.le_trans kp.size (Nat.le_trans (by omega) (sz3 ▸ hC)))
      · refine .list (fun z => ?_) l6 (i6.less fun c z => ?_)
        · rcases z with z | z
          · exact absurd (S.xs _ z) (Nat.not_lt.mpr kp.size)
          · rw [sz3] at hC; rw [← z] at hC; exact absurd hC (Nat.not_le.mpr (Nat.lt_succ_self _))
        · rcases z with z | z
          · exact .inl (.inl z)
          · exact .inl (.inr (.inl (by rw [hCe]; exact z)))
      · obtain ⟨m, hm⟩ := F6.ns
        exact ⟨m, by rw [hCe] at hm; exact hm⟩
  have st4 : St 0 s₄.heap := src.turns.frame _ _ _ src.st fun b _ o e => (k3.trans k4).heap b o e
  rw [hcl]
  exact codeAny_compStart_list loop (src.self 0 _ _ _ st4 loop)
end
end Mine
end

section
namespace Mine

section
variable {prog : Program} {w : World} {A : Around} {X X' : V0} {env cenv : Env} {ρ : Rho} {s s₀ s₂ : Shared} {sc scope tsc : Scope} {cn tcn town : List Str} {own : Own}

/-- a list comprehension, by itself or to be stored -/
structure CompGives (prog : Program) (w : World) (A : Around) (sc : Scope) (cn : List Str) (ρ : Rho) (e : Expr) (d : D) : Prop where
  ex : ∃ elt gens scope pos, e = .ListComp elt gens scope pos ∧ firstAsync gens = false ∧ ∀ env X s, Sh sc cn env → Sees w X env ρ s → ∀ fpos (use : Option (Value → Sem Unit)) (Q : Value → Shared → Prop) (E : Value → Shared → Prop),
    (∀ Dl C s', Kp s s' → Is (fun c => X c ∨ c = C) s'.heap (.ref Dl) d → (∃ m, s'.heap.Ns C m) → s.heap.objs.size ≤ C → compPost (model prog w) A E use Q (.ref Dl) C (.ok .next) s') →
    wpAny (model prog w) A (comprehension e scope env fpos (newList []) false (firstIter gens env) use) Q E s

theorem Ev.comp {e : Expr} {d : D} (h : CompGives prog w A sc cn ρ e d) : Ev prog w A sc cn ρ e d := fun env X s H S Q E q => by
  obtain ⟨elt, gens, scope, pos, rfl, ha, h⟩ := h.ex
  rw [eval_ListComp, ha]
  refine h env X s H S _ none Q E fun Dl C s' k i ns hC => ?_
  obtain ⟨m, hm⟩ := ns
  refine ⟨m, hm, fun h' hs => ?_⟩
  have sz : h'.objs.size = s'.heap.objs.size := hs.1
  have mv : Moves (fun c => c = C) s' { s' with heap := h' } := ⟨⟨h', s'.toks, rfl⟩, fun b o nb e => hs.extBut b o nb e, by show _ ≤ h'.objs.size; rw [sz]; exact Nat.le_refl _⟩
  refine q _ _ (Moves.keeps k mv fun c h => Heap.get?_none_of_le (by rw [h]; exact hC)) ?_
  exact (i.moves fun b o nb e => mv.heap b o (fun z => nb (.inr z)) e).less fun c z => .inl z

theorem Ex.assignComp {y : Str} {py pos : Pos} {e : Expr} {d : D} (h : CompGives prog w A sc cn ρ e d) (hk : sc.names.lookup y = some .local) (hs : ∀ env, Sh sc cn env → swapsWith e (some (.Name y py)) pos.line env = pure true) :
    Ex prog w A sc cn own ρ (.Assign [.Name y py] e pos) (.next ((y, d) :: ρ)) := fun env X s H F Q E q => by
  obtain ⟨elt, gens, scope, p, rfl, ha, h⟩ := h.ex
  rw [exec_Assign_Name_used _ _ _ _ (hs env H)]
  refine wpAny_bind (wpAny_standAt (wpAny_bind ?_))
  show wpAny _ A (do let _ ← comprehension (.ListComp elt gens scope p) scope env _ (newList []) (firstAsync gens) (firstIter gens env) (some (PySem.assign (.Name y py) env))) _ _ s
  rw [ha]
  refine wpAny_bind (wpAny_mono (h env X s H F.sees _ _ (fun _ s'' => Q .next s'') E fun Dl C s' k i ns hC => ?_) (fun _ s'' hq => wpAny_pure (wpAny_pure hq)) fun _ _ e => e)
  show wpAny _ A (PySem.assign (.Name y py) env (.ref Dl)) _ _ _
  obtain ⟨mm, hm⟩ := ns
  have nW : ¬ Wr own env C := fun z => absurd (F.sees.xs C (F.wr C z)) (Nat.not_lt.mpr hC)
  have F1 := F.grow k (N := fun c => c = C) (fun c h => Heap.get?_none_of_le (by rw [h]; exact hC)) (fun c h => by rw [h]; exact hm.lt)
  refine wpAny_assign_Name (F1.store H (.inl hk) i fun s'' m F'' => ?_)
  refine ⟨mm, hm.at' fun o e => m.heap C o nW e, fun h' hs => ?_⟩
  have sz : h'.objs.size = s''.heap.objs.size := hs.1
  have mv : Moves (fun c => c = C) s'' { s'' with heap := h' } := ⟨⟨h', s''.toks, rfl⟩, fun b o nb e => hs.extBut b o nb e, by show _ ≤ h'.objs.size; rw [sz]; exact Nat.le_refl _⟩
  refine q _ _ ?_ ⟨rfl, ?_⟩
  · exact Moves.news k ((m.mono fun c z => .inl z).trans (mv.mono fun c z => .inr z)) fun c h => Heap.get?_none_of_le (by rw [h]; exact hC)
  · refine (F''.other mv (fun c h => .inr h) (fun e => ?_) (fun n c e h => ?_) (fun c hc h => nW (.inr (.inr (h ▸ hc))))).less (fun c h => .inl h) F.wl F.wc F.wm
    · exact nW (.inl e.symm)
    · obtain ⟨_, o, ho, _⟩ := F.sees.cel n c e
      exact absurd (Heap.lt_size ho) (by rw [h]; exact Nat.not_lt.mpr hC)
theorem outsOf_length (p : Nat → Bool) (f : Nat → D) : ∀ n, (outsOf p (fun i => [f i]) n).length ≤ n
  | 0 => Nat.le_refl _
  | n + 1 => by
    rw [outsOf, List.length_append]
    have := outsOf_length p f n
    split <;> simp <;> omega

theorem comp1 {elt target iter : Expr} {ifs : List Expr} {pos : Pos} {n : Nat} {bs : Nat → Rho} {p : Nat → Bool} {f : Nat → D} (hh : A.handled = none) (B : Blk scope sc cn)
    (hit : It prog w A sc cn (relab scope sc) (cellN scope ++ freeN scope) (cellN scope) target ρ iter n bs) (hb : ∀ i, i < n → Sub (vis scope ρ) (bs i ++ vis scope ρ))
    (hp : ∀ i, i < n → Tests prog w A (relab scope sc) (cellN scope ++ freeN scope) (bs i ++ vis scope ρ) ifs (p i))
    (he : ∀ i, i < n → p i = true → Ev prog w A (relab scope sc) (cellN scope ++ freeN scope) (bs i ++ vis scope ρ) elt (f i)) (hn : n ≤ 1048576)
    (hfs : ∀ env x, foldedSetIterable iter env x = pure x := by intro _ _; rfl) :
    CompGives prog w A sc cn ρ (.ListComp elt [⟨target, iter, ifs, 0⟩] scope pos) (.list (outsOf p (fun i => [f i]) n)) :=
  ⟨_, _, _, _, rfl, rfl, fun env X s H S fpos use Q E q => comp_core (stp := fun acc cenv => do let _ ← call (.builtin "list.append") [acc, ← eval elt cenv]) rfl B H S hh hit hfs (fun it Dl cenv => TurnIs.one) hb hp
    (fun X' cenv Dl Hc hDX hDW hcD i hi hpi => Step.emit Hc hDX hDW hcD (he i hi hpi)) (Nat.le_trans (outsOf_length p f n) hn) q⟩

/-- the second clause of a block starts -/
theorem start_second {elt target iter : Expr} {g : Comprehension} {ifs : List Expr} {csc : Scope} {pos : Pos} {it acc : Value} {R : Result → Shared → Prop}
    (h0 : codeAny (model prog w) A (.compLoop (.ListComp elt [g, ⟨target, iter, ifs, 0⟩] csc pos) 1 it acc cenv) R s)
    (h : wpAny (model prog w) A (pyIter it) (fun it' s' => codeAny (model prog w) A (.compLoop (.ListComp elt [g, ⟨target, iter, ifs, 0⟩] csc pos) 1 it' acc cenv) R s') (notedBy (model prog w) A cenv fun x s' => R (.error x) s') s) :
    codeAny (model prog w) A (.compStart (.ListComp elt [g, ⟨target, iter, ifs, 0⟩] csc pos) 1 it acc cenv) R s := by
  refine codeAny_of_tree ?_
  show wpAny _ _ ((compStart (.ListComp elt [g, ⟨target, iter, ifs, 0⟩] csc pos) 1 it acc cenv).onRaise (fun x => do noteFrame x cenv; standAt theWindowsPlace)) _ _ s
  refine wpAny_notedAt ?_
  unfold compStart
  show wpAny _ _ (ask >>= _) _ _ s
  refine wpAny_bind (wpAny_askSetting (wpAny_ite ?_))
  split
  · exact wpAny_bind (wpAny_pure (wpAny_pure ⟨rfl, h0⟩))
  · refine wpAny_bind (wpAny_rule ?_)
    show wpAny _ _ (standAt iter.pos >>= _) _ _ s
    exact wpAny_bind (wpAny_standAt (wpAny_bind (wpAny_mono h (fun it' s' h' => wpAny_pure ⟨rfl, h'⟩) fun _ _ x => x)))

theorem TurnIs.second {elt target iter : Expr} {g : Comprehension} {ifs : List Expr} {csc : Scope} {pos : Pos} {it : Value} {Dl : Addr} :
    TurnIs prog w A (.ListComp elt [g, ⟨target, iter, ifs, 0⟩] csc pos) 1 target ifs it (.ref Dl) cenv (do let _ ← call (.builtin "list.append") [.ref Dl, ← eval elt cenv]) := fun s Q E h => by
  have e : compTurn (.ListComp elt [g, ⟨target, iter, ifs, 0⟩] csc pos) 1 it (.ref Dl) cenv = (do
      standAt iter.pos
      match ← pyNext it with
      | none => pure (.done .next)
      | some v =>
        letOwnedTupleGo target it v
        PySem.assign target cenv v
        let mut ok := true
        for c in ifs do
          if ok then ok ← isTrue c cenv (eval c cenv)
        if ok then
          (do let _ ← call (.builtin "list.append") [.ref Dl, ← eval elt cenv])
        again (.compLoop (.ListComp elt [g, ⟨target, iter, ifs, 0⟩] csc pos) 1 it (.ref Dl) cenv)) := by rfl
  rw [e]
  refine wpAny_bind (wpAny_standAt (wpAny_bind (wpAny_mono h (fun r s₁ h₁ => ?_) fun _ _ h' => h')))
  cases r with
  | none => exact wpAny_pure h₁
  | some v =>
    refine wpAny_bind (wpAny_mono h₁ (fun _ s₁' h₁' => wpAny_bind (wpAny_mono h₁' (fun _ s₂ h₂ => wpAny_bind (wpAny_mono h₂ (fun ok s₃ h₃ => ?_) fun _ _ h' => h')) fun _ _ h' => h')) fun _ _ h' => h')
    cases ok with
    | false => exact wpAny_pure h₃
    | true =>
      have h4 : wpAny (model prog w) A (eval elt cenv >>= fun x => call (.builtin "list.append") [.ref Dl, x] >>= fun _ => pure ()) (fun _ s₄ => Q (.again (.compLoop (.ListComp elt [g, ⟨target, iter, ifs, 0⟩] csc pos) 1 it (.ref Dl) cenv)) s₄) E s₃ := h₃
      have h5 := wpAny_bind (f := fun _ => (again (.compLoop (.ListComp elt [g, ⟨target, iter, ifs, 0⟩] csc pos) 1 it (.ref Dl) cenv) : Sem Fin)) (Q := Q) (wpAny_mono h4 (fun _ s₄ h₄ => wpAny_pure h₄) fun _ _ h' => h')
      simpa [bind_assoc] using h5

/-- the second clause, as the rest of a turn of the first -/
abbrev nestT (elt iter2 : Expr) (g : Comprehension) (target2 : Expr) (ifs2 : List Expr) (csc : Scope) (pos : Pos) (acc : Value) (cenv : Env) : Sem Unit := do
  let x ← eval iter2 cenv
  standAt iter2.pos
  let x ← foldedSetIterable iter2 cenv x
  let it ← holding [x] (pyIter x)
  let _ ← runOwn (.compStart (.ListComp elt [g, ⟨target2, iter2, ifs2, 0⟩] csc pos) 1 it acc cenv) cenv
theorem TurnIs.first {elt target iter target2 iter2 : Expr} {ifs ifs2 : List Expr} {csc : Scope} {pos : Pos} {it : Value} {Dl : Addr} :
    TurnIs prog w A (.ListComp elt [⟨target, iter, ifs, 0⟩, ⟨target2, iter2, ifs2, 0⟩] csc pos) 0 target ifs it (.ref Dl) cenv (nestT elt iter2 ⟨target, iter, ifs, 0⟩ target2 ifs2 csc pos (.ref Dl) cenv) := fun s Q E h => by
  have e : compTurn (.ListComp elt [⟨target, iter, ifs, 0⟩, ⟨target2, iter2, ifs2, 0⟩] csc pos) 0 it (.ref Dl) cenv = (do
      standAt iter.pos
      match ← pyNext it with
      | none => pure (.done .next)
      | some v =>
        letOwnedTupleGo target it v
        PySem.assign target cenv v
        let mut ok := true
        for c in ifs do
          if ok then ok ← isTrue c cenv (eval c cenv)
        if ok then
          let x ← eval iter2 cenv
          standAt iter2.pos
          let x ← if (0 : Int) != 0 then foldedIterable iter2 x else foldedSetIterable iter2 cenv x
          let _ ← runOwn (.compStart (.ListComp elt [⟨target, iter, ifs, 0⟩, ⟨target2, iter2, ifs2, 0⟩] csc pos) (0 + 1) (← holding [x] (if (0 : Int) != 0 then asyncIter x else pyIter x)) (.ref Dl) cenv) cenv
        again (.compLoop (.ListComp elt [⟨target, iter, ifs, 0⟩, ⟨target2, iter2, ifs2, 0⟩] csc pos) 0 it (.ref Dl) cenv)) := by rfl
  rw [e]
  refine wpAny_bind (wpAny_standAt (wpAny_bind (wpAny_mono h (fun r s₁ h₁ => ?_) fun _ _ h' => h')))
  cases r with
  | none => exact wpAny_pure h₁
  | some v =>
    refine wpAny_bind (wpAny_mono h₁ (fun _ s₁' h₁' => wpAny_bind (wpAny_mono h₁' (fun _ s₂ h₂ => wpAny_bind (wpAny_mono h₂ (fun ok s₃ h₃ => ?_) fun _ _ h' => h')) fun _ _ h' => h')) fun _ _ h' => h')
    cases ok with
    | false => exact wpAny_pure h₃
    | true =>
      have h5 := wpAny_bind (f := fun _ => (again (.compLoop (.ListComp elt [⟨target, iter, ifs, 0⟩, ⟨target2, iter2, ifs2, 0⟩] csc pos) 0 it (.ref Dl) cenv) : Sem Fin)) (Q := Q)
        (wpAny_mono (h₃ : wpAny (model prog w) A (nestT elt iter2 ⟨target, iter, ifs, 0⟩ target2 ifs2 csc pos (.ref Dl) cenv) (fun _ s₄ => Q (.again (.compLoop (.ListComp elt [⟨target, iter, ifs, 0⟩, ⟨target2, iter2, ifs2, 0⟩] csc pos) 0 it (.ref Dl) cenv)) s₄) E s₃) (fun _ s₄ h₄ => wpAny_pure h₄) fun _ _ h' => h')
      simpa [nestT, bind_assoc] using h5

theorem Step.nest {elt target2 iter2 : Expr} {ifs2 : List Expr} {g : Comprehension} {csc : Scope} {pos : Pos} {Dl : Addr} {n : Nat} {bs : Nat → Rho} {p : Nat → Bool} {f : Nat → D} (hh : A.handled = none)
    (H : Sh tsc tcn cenv) (hDX : X' Dl) (hDW : ¬ Wr town cenv Dl) (hcD : ∀ n c, cenv.cells.lookup n = some c → c ≠ Dl)
    (hit : It prog w A tsc tcn tsc tcn town target2 ρ iter2 n bs) (hfs : ∀ env x, foldedSetIterable iter2 env x = pure x) (hb : ∀ i, i < n → Sub ρ (bs i ++ ρ))
    (hp : ∀ i, i < n → Tests prog w A tsc tcn (bs i ++ ρ) ifs2 (p i)) (he : ∀ i, i < n → p i = true → Ev prog w A tsc tcn (bs i ++ ρ) elt (f i)) :
    Step prog w A town X' cenv Dl (nestT elt iter2 g target2 ifs2 csc pos (.ref Dl) cenv) ρ (outsOf p (fun i => [f i]) n) := fun s vs m ds Q E F hl hi hsz q => by
  refine wpAny_bind (wpAny_mono (hit cenv X' s H F.sees _ E fun I fp wr P Md St s₂ kp src => ?_) (fun x s₁ h₁ => wpAny_bind (wpAny_standAt (wpAny_bind (wpAny_of_eq (hfs cenv x) (wpAny_bind (wpAny_holding h₁)))))) fun _ _ e => e)
  have F2 := F.grow kp src.wrN fun c h => src.fpA c (src.turns.sub c h)
  have fW : ∀ b ∈ fp, ¬ Wr town cenv b := fun b hb h => src.fpX b hb (F.wr b h)
  have fD : ∀ b ∈ fp, b ≠ Dl := fun b hb h => src.fpX b hb (h ▸ hDX)
  have cw : ∀ n c, cenv.cells.lookup n = some c → ¬ c ∈ wr := fun n c e h => by
    obtain ⟨_, o, ho, _⟩ := F.sees.cel n c e
    rw [src.wrN c h] at ho; cases ho
  refine wpAny_bind (wpAny_runOwn (h := none) ?_)
  show codeAny (model prog w) A _ _ s₂
  have loop : codeAny (model prog w) A (.compLoop (.ListComp elt [g, ⟨target2, iter2, ifs2, 0⟩] csc pos) 1 (.ref I) (.ref Dl) cenv) (fun r s' => match r with | .ok fl => wpAny (model prog w) A (pure ()) Q E s' | .error e => cameBackBy (model prog w) A cenv E e s') s₂ := by
    refine comp_loop (X := X') (X' := fun c => X' c ∨ c ∈ wr) rfl TurnIs.second src H (fun c h => h) (fun c h _ => h) fW fD (.inl hDX) hDW hcD cw hb p (fun i => [f i]) hp
      (fun i hi hpi => Step.emit H (.inl hDX) hDW hcD (he i hi hpi)) F2 src.st (Moves.refl _ _) (kp.heap _ _ hl) ((hi.more src.wrN).keeps kp.heap) hsz fun s' vs' m' mv F6 l6 i6 => ?_
    refine wpAny_pure (q s' vs' m' ?_ (F6.less (fun c h => .inl h) F.wl F.wc fun _ h => (noMu h).elim) l6 (i6.less fun c h => .inl h))
    exact Moves.news (W := fun c => Wr town cenv c ∨ c = Dl) kp (mv.mono fun c h => h.elim (fun h => .inl (.inl h)) fun h => h.elim (fun h => .inl (.inr h)) .inr) src.wrN
  exact start_second loop (src.self 0 _ _ _ src.st loop)

theorem comp2 {elt target iter target2 iter2 : Expr} {ifs ifs2 : List Expr} {pos : Pos} {n : Nat} {bs : Nat → Rho} {p : Nat → Bool} {n2 : Nat → Nat} {bs2 : Nat → Nat → Rho} {p2 : Nat → Nat → Bool} {f : Nat → Nat → D} (hh : A.handled = none) (B : Blk scope sc cn)
    (hit : It prog w A sc cn (relab scope sc) (cellN scope ++ freeN scope) (cellN scope) target ρ iter n bs) (hb : ∀ i, i < n → Sub (vis scope ρ) (bs i ++ vis scope ρ))
    (hp : ∀ i, i < n → Tests prog w A (relab scope sc) (cellN scope ++ freeN scope) (bs i ++ vis scope ρ) ifs (p i))
    (hit2 : ∀ i, i < n → p i = true → It prog w A (relab scope sc) (cellN scope ++ freeN scope) (relab scope sc) (cellN scope ++ freeN scope) (cellN scope) target2 (bs i ++ vis scope ρ) iter2 (n2 i) (bs2 i))
    (hb2 : ∀ i j, i < n → j < n2 i → Sub (bs i ++ vis scope ρ) (bs2 i j ++ (bs i ++ vis scope ρ)))
    (hp2 : ∀ i j, i < n → p i = true → j < n2 i → Tests prog w A (relab scope sc) (cellN scope ++ freeN scope) (bs2 i j ++ (bs i ++ vis scope ρ)) ifs2 (p2 i j))
    (he : ∀ i j, i < n → p i = true → j < n2 i → p2 i j = true → Ev prog w A (relab scope sc) (cellN scope ++ freeN scope) (bs2 i j ++ (bs i ++ vis scope ρ)) elt (f i j))
    (hn : (outsOf p (fun i => outsOf (p2 i) (fun j => [f i j]) (n2 i)) n).length ≤ 1048576)
    (hfs : ∀ env x, foldedSetIterable iter env x = pure x := by intro _ _; rfl) (hfs2 : ∀ env x, foldedSetIterable iter2 env x = pure x := by intro _ _; rfl) :
    CompGives prog w A sc cn ρ (.ListComp elt [⟨target, iter, ifs, 0⟩, ⟨target2, iter2, ifs2, 0⟩] scope pos) (.list (outsOf p (fun i => outsOf (p2 i) (fun j => [f i j]) (n2 i)) n)) :=
  ⟨_, _, _, _, rfl, rfl, fun env X s H S fpos use Q E q => comp_core (stp := fun acc cenv => nestT elt iter2 ⟨target, iter, ifs, 0⟩ target2 ifs2 scope pos acc cenv) rfl B H S hh hit hfs (fun it Dl cenv => TurnIs.first) hb hp
    (fun X' cenv Dl Hc hDX hDW hcD i hi hpi => Step.nest hh Hc hDX hDW hcD (hit2 i hi hpi) hfs2 (fun j hj => hb2 i j hi hj) (fun j hj => hp2 i j hi hpi hj) fun j hj hpj => he i j hi hpi hj hpj) hn q⟩
end
end Mine
end

section
namespace Mine

section
variable {prog : Program} {w : World} {A : Around} {X X' : V0} {env cenv : Env} {ρ : Rho} {s s' s₀ s₂ : Shared} {sc scope tsc : Scope} {cn tcn : List Str} {own town : Own}

theorem FrOk.inOrder {M : Model} (H : Sh sc cn env) : ∀ (ts : List (Str × (Value → Sem Unit))) (vs : List Value) (ds : List D) (ρ : Rho) (s : Shared) (Q : Unit → Shared → Prop) (E : Value → Shared → Prop), ts.length = vs.length →
    (∀ t ∈ ts, May sc cn own t.1 ∧ ∀ v s Q E, wpAny M A (storeName env t.1 v) Q E s → wpAny M A (t.2 v) Q E s) → FrOk own w X env ρ s → IsAll X s.heap vs ds →
    (∀ s', Moves (Wr own env) s s' → FrOk own w X env (((ts.map (·.1)).zip ds).reverse ++ ρ) s' → Q () s') → wpAny M A (assignInOrder (ts.map (·.2)) vs) Q E s
  | [], [], ds, ρ, s, Q, E, _, _, F, i, q => by
    cases i
    exact wpAny_pure (q s (Moves.refl _ _) F)
  | [], _ :: _, _, _, _, _, _, hl, _, _, _, _ => by cases hl
  | _ :: _, [], _, _, _, _, _, hl, _, _, _, _ => by cases hl
  | t :: ts, v :: vs, ds, ρ, s, Q, E, hl, ht, F, i, q => by
    cases i with | cons a r =>
    rename_i d ds
    obtain ⟨hm, hst⟩ := ht t (List.mem_cons_self ..)
    show wpAny M A (holding vs (t.2 v) >>= fun _ => assignInOrder (ts.map (·.2)) vs) Q E s
    refine wpAny_bind (wpAny_holding (hst v s _ E (F.store H hm a fun s1 m1 F1 => ?_)))
    refine FrOk.inOrder H ts vs ds _ s1 Q E (by simpa using hl) (fun t ht' => ht t (List.mem_cons_of_mem _ ht')) F1 (r.moves fun b o nb e => m1.heap b o (fun z => nb (F.wr b z)) e) fun s2 m2 F2 => ?_
    refine q s2 (m1.trans m2) ?_
    rw [List.map_cons, List.zip_cons_cons, List.reverse_cons, List.append_assoc]
    exact F2
theorem assign_name_ok {M : Model} {x : Str} {p : Pos} : ∀ v s Q E, wpAny M A (storeName env x v) Q E s → wpAny M A (assign (.Name x p) env v) Q E s := fun _ _ _ _ h => wpAny_assign_Name h
theorem bind_name_ok {M : Model} {x : Str} : ∀ v s Q E, wpAny M A (storeName env x v) Q E s → wpAny M A (bindName env x v) Q E s := fun _ _ _ _ h => wpAny_bindName h

theorem FrOk.unpack {elts : List Expr} {ts : List (Str × (Value → Sem Unit))} {p : Pos} {k : Nat} {t : Addr} {vs : List Value} {ds : List D} (hh : A.handled = none) (H : Sh sc cn env) (F : FrOk own w X env ρ s) (ht : s.heap.IsTuple t vs.toArray) (i : IsAll X s.heap vs ds)
    (he : assignEach elts env = ts.map fun t => (false, t.2)) (hl : ts.length = vs.length) (hts : ∀ t ∈ ts, May sc cn own t.1 ∧ ∀ v s Q E, wpAny (model prog w) A (storeName env t.1 v) Q E s → wpAny (model prog w) A (t.2 v) Q E s)
    {Q : Unit → Shared → Prop} {E : Value → Shared → Prop} (q : ∀ s', Moves (Wr own env) s s' → FrOk own w X env (((ts.map (·.1)).zip ds).reverse ++ ρ) s' → Q () s') :
    wpAny (model prog w) A (assign (.Tuple elts k p) env (.ref t)) Q E s := by
  rw [arm_assign_Tuple]
  refine wpAny_bind (wpAny_standAt ?_)
  unfold PySem.unpack
  have e1 : (assignEach elts env).map (·.2) = ts.map (·.2) := by rw [he]; simp
  have e2 : (assignEach elts env).length = vs.toArray.size := by rw [he]; simp [hl]
  have e3 : (assignEach elts env).findIdx? (·.1) = none := by rw [he, List.findIdx?_eq_none_iff]; simp
  rw [e1, e2, e3]
  refine wpAny_bind (wpAny_holding (with_size (wpAny_unpackItems_tuple hh ht fun h' hx z => ?_)))
  have kp : Kp s { s with heap := h' } := ⟨⟨h', s.toks, rfl⟩, fun b o e => hx b o (Nat.ne_of_lt (Heap.lt_size e)) e, z⟩
  exact FrOk.inOrder H ts _ ds ρ _ Q E (by simpa using hl) hts (F.keeps kp) (by simpa using i.keeps kp.heap) fun s' m F' => q s' (kp.moves.trans m) F'

theorem Ex.unpack2 {a b : Str} {pa pb p pos : Pos} {k : Nat} {e : Expr} {d1 d2 : D} (hh : A.handled = none) (h : Ev prog w A sc cn ρ e (.tuple [d1, d2])) (ha : May sc cn own a) (hb : May sc cn own b)
    (hs : ∀ env, Sh sc cn env → swapsWithSole [.Tuple [.Name a pa, .Name b pb] k p] e pos.line env = pure false) (hw : ∀ env, Sh sc cn env → swappedStores [.Tuple [.Name a pa, .Name b pb] k p] e env = pure none) :
    Ex prog w A sc cn own ρ (.Assign [.Tuple [.Name a pa, .Name b pb] k p] e pos) (.next ((b, d2) :: (a, d1) :: ρ)) := fun env X s H F Q E q => by
  refine Assign_Tuple (h env X s H F.sees _ E fun v s1 k1 i1 => ?_) (hs env H) (hw env H)
  cases i1 with | tuple nx l r =>
  rename_i t vs n
  refine FrOk.unpack (ts := [(a, PySem.assign (.Name a pa) env), (b, PySem.assign (.Name b pb) env)]) hh H (F.keeps k1) ⟨_, l, rfl, n, rfl⟩ r rfl (by simpa using r.length.symm) ?_ fun s' m F' => q _ _ (k1.moves.trans m) ⟨rfl, F'⟩
  intro t ht
  simp only [List.mem_cons, List.not_mem_nil, or_false] at ht
  rcases ht with rfl | rfl
  · exact ⟨ha, assign_name_ok⟩
  · exact ⟨hb, assign_name_ok⟩
theorem Ex.unpack4 {a b c e : Str} {pa pb pc pe p pos : Pos} {k : Nat} {ex : Expr} {d1 d2 d3 d4 : D} (hh : A.handled = none) (h : Ev prog w A sc cn ρ ex (.tuple [d1, d2, d3, d4])) (ha : May sc cn own a) (hb : May sc cn own b) (hc : May sc cn own c) (he : May sc cn own e)
    (hs : ∀ env, Sh sc cn env → swapsWithSole [.Tuple [.Name a pa, .Name b pb, .Name c pc, .Name e pe] k p] ex pos.line env = pure false) (hw : ∀ env, Sh sc cn env → swappedStores [.Tuple [.Name a pa, .Name b pb, .Name c pc, .Name e pe] k p] ex env = pure none) :
    Ex prog w A sc cn own ρ (.Assign [.Tuple [.Name a pa, .Name b pb, .Name c pc, .Name e pe] k p] ex pos) (.next ((e, d4) :: (c, d3) :: (b, d2) :: (a, d1) :: ρ)) := fun env X s H F Q E q => by
  refine Assign_Tuple (h env X s H F.sees _ E fun v s1 k1 i1 => ?_) (hs env H) (hw env H)
  cases i1 with | tuple nx l r =>
  rename_i t vs n
  refine FrOk.unpack (ts := [(a, PySem.assign (.Name a pa) env), (b, PySem.assign (.Name b pb) env), (c, PySem.assign (.Name c pc) env), (e, PySem.assign (.Name e pe) env)]) hh H (F.keeps k1) ⟨_, l, rfl, n, rfl⟩ r rfl (by simpa using r.length.symm) ?_ fun s' m F' => q _ _ (k1.moves.trans m) ⟨rfl, F'⟩
  intro t ht
  simp only [List.mem_cons, List.not_mem_nil, or_false] at ht
  rcases ht with rfl | rfl | rfl | rfl
  · exact ⟨ha, assign_name_ok⟩
  · exact ⟨hb, assign_name_ok⟩
  · exact ⟨hc, assign_name_ok⟩
  · exact ⟨he, assign_name_ok⟩
/-- a, b = x, y: the stores in the other order -/
theorem Ex.unpackS {a b : Str} {pa pb p pos : Pos} {k : Nat} {e : Expr} {d1 d2 : D} (hh : A.handled = none) (h : Ev prog w A sc cn ρ e (.tuple [d1, d2])) (ha : May sc cn own a) (hb : May sc cn own b)
    (hs : ∀ env, Sh sc cn env → swapsWithSole [.Tuple [.Name a pa, .Name b pb] k p] e pos.line env = pure false) (hw : ∀ env, Sh sc cn env → swappedStores [.Tuple [.Name a pa, .Name b pb] k p] e env = pure (some [a, b])) :
    Ex prog w A sc cn own ρ (.Assign [.Tuple [.Name a pa, .Name b pb] k p] e pos) (.next ((a, d1) :: (b, d2) :: ρ)) := fun env X s H F Q E q => by
  refine Assign_Tuple_swapped (names := [a, b]) (h env X s H F.sees _ E fun v s1 k1 i1 => ?_) (hs env H) (hw env H)
  cases i1 with | tuple nx l r =>
  rename_i t vs n
  cases r with | cons r1 r =>
  cases r with | cons r2 r =>
  cases r
  rename_i v1 v2
  refine with_size (wpAny_unpackItems_tuple (items := #[v1, v2]) hh ⟨_, l, rfl, n, rfl⟩ fun h' hx z => ?_)
  have kp : Kp s1 { s1 with heap := h' } := ⟨⟨h', s1.toks, rfl⟩, fun b o e => hx b o (Nat.ne_of_lt (Heap.lt_size e)) e, z⟩
  refine FrOk.inOrder H [(b, bindName env b), (a, bindName env a)] [v2, v1] [d2, d1] ρ _ _ E rfl ?_ ((F.keeps k1).keeps kp) (.cons (r2.keeps kp.heap) (.cons (r1.keeps kp.heap) .nil)) fun s' m F' => q _ _ (k1.moves.trans (kp.moves.trans m)) ⟨rfl, F'⟩
  intro t ht
  simp only [List.mem_cons, List.not_mem_nil, or_false] at ht
  rcases ht with rfl | rfl
  · exact ⟨hb, bind_name_ok⟩
  · exact ⟨ha, bind_name_ok⟩
/-- a = b = c = e -/
theorem Ex.assign3 {a b c : Str} {pa pb pc pos : Pos} {e : Expr} {d : D} (h : Ev prog w A sc cn ρ e d) (ha : May sc cn own a) (hb : May sc cn own b) (hc : May sc cn own c)
    (hw : ∀ env, Sh sc cn env → swappedStores [.Name a pa, .Name b pb, .Name c pc] e env = pure none) :
    Ex prog w A sc cn own ρ (.Assign [.Name a pa, .Name b pb, .Name c pc] e pos) (.next ((c, d) :: (b, d) :: (a, d) :: ρ)) := fun env X s H F Q E q => by
  refine wpAny_Assign_three (h env X s H F.sees _ E fun v s1 k1 i1 => ?_) rfl (hw env H)
  refine wpAny_assign_Name ((F.keeps k1).store H ha i1 fun s2 m2 F2 => ?_)
  have i2 := i1.moves fun b o nb e => m2.heap b o (fun z => nb (F.wr b z)) e
  refine wpAny_assign_Name (F2.store H hb i2 fun s3 m3 F3 => ?_)
  have i3 := i2.moves fun b o nb e => m3.heap b o (fun z => nb (F.wr b z)) e
  exact wpAny_assign_Name (F3.store H hc i3 fun s4 m4 F4 => q _ _ (((k1.moves.trans m2).trans m3).trans m4) ⟨rfl, F4⟩)

theorem bb_zip : bootBuiltins (Str.ofString "zip") = some (.type "zip") := by kernel_rfl
theorem It.zip {x y : Str} {px py p pn pos : Pos} {k : Nat} {e f : Expr} {as bs : List D} (hh : A.handled = none) (h : Ev prog w A sc cn ρ e (.list as)) (h2 : Ev prog w A sc cn ρ f (.list bs)) (hx : May tsc tcn town x) (hy : May tsc tcn town y)
    (hr : sc.names.lookup (Str.ofString "zip") = some .globalImplicit) (hg : nsIn (KK w) mainGlobals (Str.ofString "zip") = some none) (hs : ∀ env, starEach [e, f] env = [(false, eval e env), (false, eval f env)] := by intro _; rfl) :
    It prog w A sc cn tsc tcn town (.Tuple [.Name x px, .Name y py] k p) ρ (.Call (.Name (Str.ofString "zip") pn) [e, f] [] pos) (min as.length bs.length) (fun i => [(y, bs.getD i default), (x, as.getD i default)]) := fun env X s H S Q E q => by
  refine Call_Name2 (builtin_val H S hr hg bb_zip ?_) (hs env)
  refine PySem.callWith_type rfl (Calls.evalArgs_plain (Calls.spliced_cons (h env X s H S _ E fun v s1 k1 i1 => Calls.spliced_cons (h2 env X s1 H (S.keeps k1) _ E fun v' s2 k2 i2 => Calls.spliced_nil ?_))))
  have i1 := i1.keeps k2.heap
  have S2 := (S.keeps k1).keeps k2
  cases i1 with | list n1 l1 r1 =>
  cases i2 with | list n2 l2 r2 =>
  rename_i a1 vs1 m1 a2 vs2 m2
  have lt1 : a1 < s2.heap.objs.size := Heap.lt_size l1
  have lt2 : a2 < s2.heap.objs.size := Heap.lt_size l2
  refine call_zip_2 l1.isList l2.isList fun h' hz hTI hTO hit1 hit2 hsz hk => ?_
  have kz : Kp s2 { s2 with heap := h' } := ⟨⟨h', s2.toks, rfl⟩, hk, by rw [hsz]; omega⟩
  have W := (WalksT.zip2 (prog := prog) (w := w) hh _ _ _ _ _ _ _ (zipApart_new lt1 lt2) vs1.toArray vs2.toArray).toU
  have e1 : min vs1.toArray.size vs2.toArray.size = min as.length bs.length := by rw [List.size_toArray, List.size_toArray, r1.length, r2.length]
  rw [e1] at W
  refine wpAny_pyIter_zip hz (q _ _ _ _ _ _ _ ((k1.trans k2).trans kz) ⟨KTurns.ofWalksU W, W.self, ⟨hz, hTI, ⟨_, _, hTO⟩, hit1, hit2, l1.isList.at fun o e => hk a1 o e, l2.isList.at fun o e => hk a2 o e⟩, ?_, ?_, ?_, ?_⟩)
  · intro b hb
    simp only [List.mem_cons, List.not_mem_nil, or_false] at hb
    rcases hb with rfl | rfl | rfl | rfl | rfl | rfl | rfl
    · exact S2.fresh (Nat.le_add_right _ _)
    · exact S2.fresh (Nat.le_add_right _ _)
    · exact S2.fresh (Nat.le_add_right _ _)
    · exact S2.fresh (Nat.le_refl _)
    · exact S2.fresh (Nat.le_add_right _ _)
    · exact n1
    · exact n2
  · intro b hb
    simp only [List.mem_cons, List.not_mem_nil, or_false] at hb
    show b < h'.objs.size
    rw [hsz]
    rcases hb with rfl | rfl | rfl | rfl | rfl | rfl | rfl <;> first | (exact Nat.lt_of_lt_of_le lt1 (Nat.le_add_right _ _)) | (exact Nat.lt_of_lt_of_le lt2 (Nat.le_add_right _ _)) | (exact Nat.add_lt_add_left (by decide) _) | (exact Nat.lt_add_of_pos_right (by decide))
  · intro b hb
    simp only [List.mem_cons, List.not_mem_nil, or_false] at hb
    have sz := (k1.trans k2).size
    rcases hb with rfl | rfl | rfl | rfl
    · exact Heap.get?_none_of_le (Nat.le_trans sz (Nat.le_add_right _ _))
    · exact Heap.get?_none_of_le (Nat.le_trans sz (Nat.le_add_right _ _))
    · exact Heap.get?_none_of_le sz
    · exact Heap.get?_none_of_le (Nat.le_trans sz (Nat.le_add_right _ _))
  · intro i v env' X' ρ' s' Q' E' hi hP H' F' hX hX' hext q'
    obtain ⟨T, vals, rfl, ⟨u1, u2, hu1, hu2, rfl⟩, hT⟩ := hP
    obtain ⟨d1, hd1, id1⟩ := r1.get' (k := i) (by simpa using hu1)
    obtain ⟨d2, hd2, id2⟩ := r2.get' (k := i) (by simpa using hu2)
    have up : ∀ {v d}, Is X s2.heap v d → Is X' s'.heap v d := fun i => by
      refine Is.mono (fun c o e z => ?_) (fun c o z e => ?_) i
      · refine (hX' c o (hk c o e) z).elim id fun z => ?_
        simp only [List.mem_cons, List.not_mem_nil, or_false] at z
        have := Heap.lt_size e
        rcases z with rfl | rfl | rfl | rfl
        · exact absurd this (Nat.not_lt.mpr (Nat.le_add_right _ _))
        · exact absurd this (Nat.not_lt.mpr (Nat.le_add_right _ _))
        · exact absurd this (Nat.lt_irrefl _)
        · exact absurd this (Nat.not_lt.mpr (Nat.le_add_right _ _))
      · refine hext c o (fun y => ?_) (hk c o e)
        refine (hX' c o (hk c o e) y).elim z fun z => ?_
        simp only [List.mem_cons, List.not_mem_nil, or_false] at z
        have := Heap.lt_size e
        rcases z with rfl | rfl | rfl | rfl
        · exact absurd this (Nat.not_lt.mpr (Nat.le_add_right _ _))
        · exact absurd this (Nat.not_lt.mpr (Nat.le_add_right _ _))
        · exact absurd this (Nat.lt_irrefl _)
        · exact absurd this (Nat.not_lt.mpr (Nat.le_add_right _ _))
    refine FrOk.unpack (vs := [u1, u2]) (ts := [(x, PySem.assign (.Name x px) env'), (y, PySem.assign (.Name y py) env')]) hh H' F' hT (.cons (up id1) (.cons (up id2) .nil)) rfl rfl ?_ fun s'' m F'' => q' s'' m ?_
    · intro t ht
      simp only [List.mem_cons, List.not_mem_nil, or_false] at ht
      rcases ht with rfl | rfl
      · exact ⟨hx, assign_name_ok⟩
      · exact ⟨hy, assign_name_ok⟩
    · rw [getD_of hd1, getD_of hd2]; exact F''
end
end Mine
end

section
namespace Mine

/-- a slice by ones -/
def pickL {α : Type} (xs : List α) (lo hi : Option Int) : List α := (sliceRange (sliceBounds lo hi none xs.length).1 (sliceBounds lo hi none xs.length).2.1 1).filterMap (xs[·]?)

section
variable {prog : Program} {w : World} {A : Around} {X X' : V0} {env cenv : Env} {ρ : Rho} {s s' s₀ s₂ : Shared} {sc scope tsc : Scope} {cn own tcn town : List Str}

theorem IsAll.pick {h : Heap} {vs : List Value} {ds : List D} (x : IsAll X h vs ds) (l : List Nat) : IsAll X h (l.filterMap (vs.toArray[·]?)) (l.filterMap (ds[·]?)) := by
  induction l with
  | nil => exact .nil
  | cons k l ih =>
    rw [List.filterMap_cons, List.filterMap_cons]
    cases hd : ds[k]? with
    | none =>
      have : vs.toArray[k]? = none := by
        have h1 := List.getElem?_eq_none_iff.mp hd
        rw [← x.length] at h1
        simpa using h1
      rw [this]; exact ih
    | some d =>
      obtain ⟨v, hv, i⟩ := x.get hd
      have : vs.toArray[k]? = some v := by simpa using hv
      rw [this]; exact .cons i ih
theorem IsAll.slice {h : Heap} {vs : List Value} {ds : List D} (x : IsAll X h vs ds) (lo hi : Option Int) : ∃ us, slicePick vs.toArray lo hi none = List.toArray us ∧ IsAll X h us (pickL ds lo hi) := by
  refine ⟨_, rfl, ?_⟩
  unfold pickL
  have e : (sliceBounds lo hi none vs.toArray.size).2.2 = 1 := rfl
  rw [e, List.size_toArray, x.length]
  exact x.pick _

theorem Ev.idxL {v i : Expr} {pos : Pos} {ds : List D} {k : Int} {d : D} (hv : Ev prog w A sc cn ρ v (.list ds)) (hi : Ev prog w A sc cn ρ i (.int k)) (h0 : 0 ≤ k) (h1 : k < 2 ^ 63) (hd : ds[k.toNat]? = some d)
    (hs : ∀ o i', subscripted i false o i' = operate [o, i'] (getItem o i') := by intro _ _; rfl) : Ev prog w A sc cn ρ (.Subscript v i pos) d := fun env X s H S Q E q =>
  Subscript_ (hv env X s H S _ E fun v1 s1 k1 i1 => hi env X s1 H (S.keeps k1) _ E fun v2 s2 k2 i2 => by
    have i1 := i1.keeps k2.heap
    cases i2
    cases i1 with | list n l r =>
    obtain ⟨u, hu, iu⟩ := r.get hd
    exact tail_any l.isList.typeIs slot_list_getitem.lookup (wpAny_getItem_list l.isList h0 h1 (by simpa using hu) (q _ _ (k1.trans k2) iu)) (hs _ _))
theorem Ev.idxNeg {v i : Expr} {pos : Pos} {ds : List D} {k : Int} {d : D} (hv : Ev prog w A sc cn ρ v (.list ds)) (hi : Ev prog w A sc cn ρ i (.int k)) (h0 : k < 0) (h1 : -(ds.length : Int) ≤ k) (h2 : -(2 ^ 63) ≤ k) (hd : ds[(k + ds.length).toNat]? = some d)
    (hs : ∀ o i', subscripted i false o i' = operate [o, i'] (getItem o i') := by intro _ _; rfl) : Ev prog w A sc cn ρ (.Subscript v i pos) d := fun env X s H S Q E q =>
  Subscript_ (hv env X s H S _ E fun v1 s1 k1 i1 => hi env X s1 H (S.keeps k1) _ E fun v2 s2 k2 i2 => by
    have i1 := i1.keeps k2.heap
    cases i2
    cases i1 with | list n l r =>
    obtain ⟨u, hu, iu⟩ := r.get hd
    exact tail_any l.isList.typeIs slot_list_getitem.lookup (wpAny_getItem_list_neg l.isList h0 (by rw [List.size_toArray, r.length]; exact h1) h2 (by rw [List.size_toArray, r.length]; simpa using hu) (q _ _ (k1.trans k2) iu)) (hs _ _))
theorem Ev.idxS {v i : Expr} {pos : Pos} {x : Str} {k : Int} {c : Nat} (hv : Ev prog w A sc cn ρ v (.str x)) (hi : Ev prog w A sc cn ρ i (.int k)) (hr : (decide (k < -(2 ^ 63 : Int)) || decide (k ≥ 2 ^ 63)) = false) (hc : (seqIndex? k x.length).bind (x.cps[·]?) = some c)
    (hs : ∀ o i', subscripted i false o i' = operate [o, i'] (getItem o i') := by intro _ _; rfl) : Ev prog w A sc cn ρ (.Subscript v i pos) (.str ⟨#[c]⟩) := fun env X s H S Q E q =>
  Subscript_ (hv env X s H S _ E fun v1 s1 k1 i1 => hi env X s1 H (S.keeps k1) _ E fun v2 s2 k2 i2 => by
    cases i2; cases i1
    exact tail_any (typeIs_str _ _ _) F.slot_str_getitem.lookup (P.getItem_str hr hc (q _ _ ((k1.trans k2).trans (Kp.tok _ _)) (.str _ _))) (hs _ _))

/-- an item of a table of the top's -/
theorem Ev.tab {x : Str} {px pos : Pos} {i : Expr} {a : Addr} {es : Array DictEntry} {n : Nat} {y : Str} {v : Int} {t : Tok} (hk : sc.names.lookup x = some .globalImplicit) (e : nsIn (KK w) mainGlobals x = some (some (.ref a))) (hi : Ev prog w A sc cn ρ i (.str y))
    (hl : (KK w).lookup a = some ⟨.type "dict", none, .dict es n, #[]⟩) (hkeys : KeysLit w.params es.toList) (he : nsIn (KK w) a y = some (some (.int v t))) (hd : (x == ("__debug__" : Str)) = false := by decide)
    (hs : ∀ o i', subscripted i false o i' = operate [o, i'] (getItem o i') := by intro _ _; rfl) : Ev prog w A sc cn ρ (.Subscript (.Name x px) i pos) (.int v) := fun env X s H S Q E q =>
  Subscript_ (global_val H S hk e (hi env X s H S _ E fun v2 s2 k2 i2 => by
    cases i2
    have hm := mapOf_K (prog := prog) (S.keeps k2).gr.gr0.X hl hkeys
    exact tail_any hm.typeIs slot_dict_getitem.lookup (wpAny_getItem_of (strKind_is prog w y _) hm (find_K hl he) (q _ _ (k2.trans (Kp.tok _ _)) (.int _ _))) (hs _ _)) hd)

/-- a slice's end -/
def Part (prog : Program) (w : World) (A : Around) (sc : Scope) (cn : List Str) (ρ : Rho) : Option Expr → Option Int → Prop
  | none, none => True
  | some e, some i => Ev prog w A sc cn ρ e (.int i)
  | _, _ => False
theorem part_run {o : Option Expr} {b : Option Int} (h : Part prog w A sc cn ρ o b) (H : Sh sc cn env) (S : Sees w X env ρ s) {Q : Value → Shared → Prop} {E : Value → Shared → Prop} (q : ∀ v s', Kp s s' → IsPart v b → Q v s') : wpAny (model prog w) A (evalPart o env) Q E s := by
  match o, b, h with
  | none, none, _ => exact wpAny_pure (q _ _ (Kp.refl _) .none)
  | some e, some i, h =>
    rw [evalPart_some]
    exact h env X s H S _ E fun v s' k i' => by cases i' with | int _ t => exact q _ _ k (.int _ t)
theorem Ev.sliceL {v : Expr} {lo hi : Option Expr} {p pos : Pos} {ds : List D} {a b : Option Int} (hv : Ev prog w A sc cn ρ v (.list ds)) (hl : Part prog w A sc cn ρ lo a) (hh : Part prog w A sc cn ρ hi b) (hz : ds.length ≤ 1048576) :
    Ev prog w A sc cn ρ (.Subscript v (.Slice lo hi none p) pos) (.list (pickL ds a b)) := fun env X s H S Q E q =>
  Subscript_ (hv env X s H S _ E fun v1 s1 k1 i1 => wpAny_Slice (part_run hl H (S.keeps k1) fun vl s2 k2 pl => part_run hh H ((S.keeps k1).keeps k2) fun vu s3 k3 pu => by
    rw [evalPart_none]
    have S3 := ((S.keeps k1).keeps k2).keeps k3
    have i1 := (i1.keeps k2.heap).keeps k3.heap
    cases i1 with | list n l r =>
    refine wpAny_pure (tail_any (l.isList.push _).typeIs slot_list_getitem.lookup (wpAny_getItem_list_slice (l.isList.push _) (Heap.IsSliceOf.new ..) pl pu .none (by simp) ?_ (by rw [List.size_toArray, r.length, sizeLine_eq]; omega)) rfl)
    obtain ⟨us, e, iu⟩ := r.slice a b
    rw [e]
    refine q _ _ (((k1.trans k2).trans k3).trans ((Kp.push _ _).trans (Kp.push _ _))) (.list ?_ (Heap.get?_push_size _ rfl) (iu.keeps fun _ _ e => Heap.get?_push_of_some _ (Heap.get?_push_of_some _ e)))
    rw [Heap.size_push]
    exact S3.fresh (Nat.le_succ _)))
theorem Ev.sliceS_to {v hi : Expr} {p pos : Pos} {x : Str} {b : Int} (hv : Ev prog w A sc cn ρ v (.str x)) (hh : Ev prog w A sc cn ρ hi (.int b)) (hz : x.length ≤ 1048576) :
    Ev prog w A sc cn ρ (.Subscript v (.Slice none (some hi) none p) pos) (.str (Txt.slice x none (some b))) := fun env X s H S Q E q =>
  Subscript_ (hv env X s H S _ E fun v1 s1 k1 i1 => wpAny_Slice (by
    rw [evalPart_none, evalPart_some]
    refine wpAny_pure (hh env X s1 H (S.keeps k1) _ E fun v2 s2 k2 i2 => wpAny_pure ?_)
    cases i1; cases i2
    obtain ⟨T, id, hl, hT, hg⟩ := SBH.sliceItem_ns (prog := prog) (w := w) (A := A) (E := E) (s := s2) (x := x) (Q := Q) (P := fun h => Ext s2.heap h ∧ s2.heap.objs.size ≤ h.objs.size) (fun h ob c => ⟨fun b o e => Heap.get?_push_of_some _ (c.1 b o e), Nat.le_trans c.2 (size_push_le _ _)⟩) ⟨fun _ _ e => e, Nat.le_refl _⟩
      (fun h' t' k c => q _ _ ((k1.trans k2).trans (Kp.of c.1 c.2)) (.str _ _)) (by rw [sizeLine_eq]; omega)
    exact tail_any hT hl hg rfl))
theorem Ev.sliceS_from {v lo : Expr} {p pos : Pos} {x : Str} {b : Int} (hv : Ev prog w A sc cn ρ v (.str x)) (hh : Ev prog w A sc cn ρ lo (.int b)) (hz : x.length ≤ 1048576) :
    Ev prog w A sc cn ρ (.Subscript v (.Slice (some lo) none none p) pos) (.str (Txt.slice x (some b) none)) := fun env X s H S Q E q =>
  Subscript_ (hv env X s H S _ E fun v1 s1 k1 i1 => wpAny_Slice (by
    rw [evalPart_none, evalPart_some]
    refine hh env X s1 H (S.keeps k1) _ E fun v2 s2 k2 i2 => wpAny_pure (wpAny_pure ?_)
    cases i1; cases i2
    obtain ⟨T, id, hl, hT, hg⟩ := SBH.sliceItem_sn (prog := prog) (w := w) (A := A) (E := E) (s := s2) (x := x) (Q := Q) (P := fun h => Ext s2.heap h ∧ s2.heap.objs.size ≤ h.objs.size) (fun h ob c => ⟨fun b o e => Heap.get?_push_of_some _ (c.1 b o e), Nat.le_trans c.2 (size_push_le _ _)⟩) ⟨fun _ _ e => e, Nat.le_refl _⟩
      (fun h' t' k c => q _ _ ((k1.trans k2).trans (Kp.of c.1 c.2)) (.str _ _)) (by rw [sizeLine_eq]; omega)
    exact tail_any hT hl hg rfl))

/-! built-in functions and classes -/
/-- one argument, a built-in function -/
theorem Ev.callB1 {x : Str} {id : String} {pn pos : Pos} {e : Expr} {a d : D} (hr : sc.names.lookup x = some .globalImplicit) (hg : nsIn (KK w) mainGlobals x = some none) (hb : bootBuiltins x = some (.builtin id)) (h : Ev prog w A sc cn ρ e a)
    (hc : ∀ X s v, Std X s → Is X s.heap v a → Gives prog w A X (call (.builtin id) [v]) d s) (hn : x ≠ "__name__" := by decide) (hd : (x == ("__debug__" : Str)) = false := by decide) (hs : ∀ env, starEach [e] env = [(false, eval e env)] := by intro _; rfl) :
    Ev prog w A sc cn ρ (.Call (.Name x pn) [e] [] pos) d := fun env X s H S Q E q =>
  Call_Name1 (builtin_val H S hr hg hb (Calls.callWith_builtin rfl (Calls.evalArgs_plain (Calls.spliced_cons (h env X s H S _ E fun v s1 k1 i1 => Calls.spliced_nil (hc X s1 v (S.keeps k1).std i1 _ E fun v' s2 k2 i2 => q _ _ (k1.trans k2) i2))))) hn hd) (hs env)
theorem Ev.callB2 {x : Str} {id : String} {pn pos : Pos} {e f : Expr} {a b d : D} (hr : sc.names.lookup x = some .globalImplicit) (hg : nsIn (KK w) mainGlobals x = some none) (hb : bootBuiltins x = some (.builtin id)) (h : Ev prog w A sc cn ρ e a) (h2 : Ev prog w A sc cn ρ f b)
    (hc : ∀ X s v u, Std X s → Is X s.heap v a → Is X s.heap u b → Gives prog w A X (call (.builtin id) [v, u]) d s) (hn : x ≠ "__name__" := by decide) (hd : (x == ("__debug__" : Str)) = false := by decide) (hs : ∀ env, starEach [e, f] env = [(false, eval e env), (false, eval f env)] := by intro _; rfl) :
    Ev prog w A sc cn ρ (.Call (.Name x pn) [e, f] [] pos) d := fun env X s H S Q E q =>
  Call_Name2 (builtin_val H S hr hg hb (Calls.callWith_builtin rfl (Calls.evalArgs_plain (Calls.spliced_cons (h env X s H S _ E fun v s1 k1 i1 => Calls.spliced_cons (h2 env X s1 H (S.keeps k1) _ E fun u s2 k2 i2 => Calls.spliced_nil (hc X s2 v u ((S.keeps k1).keeps k2).std (i1.keeps k2.heap) i2 _ E fun v' s3 k3 i3 => q _ _ ((k1.trans k2).trans k3) i3)))))) hn hd) (hs env)
theorem Ev.callT1 {x : Str} {id : String} {pn pos : Pos} {e : Expr} {a d : D} (hr : sc.names.lookup x = some .globalImplicit) (hg : nsIn (KK w) mainGlobals x = some none) (hb : bootBuiltins x = some (.type id)) (h : Ev prog w A sc cn ρ e a)
    (hc : ∀ X s v, Std X s → Is X s.heap v a → Gives prog w A X (call (.type id) [v]) d s) (hn : x ≠ "__name__" := by decide) (hd : (x == ("__debug__" : Str)) = false := by decide) (hs : ∀ env, starEach [e] env = [(false, eval e env)] := by intro _; rfl) :
    Ev prog w A sc cn ρ (.Call (.Name x pn) [e] [] pos) d := fun env X s H S Q E q =>
  Call_Name1 (builtin_val H S hr hg hb (PySem.callWith_type rfl (Calls.evalArgs_plain (Calls.spliced_cons (h env X s H S _ E fun v s1 k1 i1 => Calls.spliced_nil (hc X s1 v (S.keeps k1).std i1 _ E fun v' s2 k2 i2 => q _ _ (k1.trans k2) i2))))) hn hd) (hs env)
theorem bb_len : bootBuiltins (Str.ofString "len") = some (.builtin "len") := by kernel_rfl
theorem bb_sorted : bootBuiltins (Str.ofString "sorted") = some (.builtin "sorted") := by kernel_rfl
theorem bb_max : bootBuiltins (Str.ofString "max") = some (.builtin "max") := by kernel_rfl
theorem bb_tuple : bootBuiltins (Str.ofString "tuple") = some (.type "tuple") := by kernel_rfl
theorem gives_len {v : Value} {ds : List D} (i : Is X s.heap v (.list ds)) (hz : ds.length ≤ 1048576) : Gives prog w A X (call (.builtin "len") [v]) (.int ds.length) s := fun Q E q => by
  cases i with | list n l r =>
  refine PyProof.Rows.len_list l.isList (by rw [List.size_toArray, r.length]; omega) ?_
  rw [List.size_toArray, r.length]
  exact q _ _ (Kp.tok _ _) (.int _ _)
theorem gives_lenT {v : Value} {ds : List D} (i : Is X s.heap v (.tuple ds)) (hz : ds.length ≤ 1048576) : Gives prog w A X (call (.builtin "len") [v]) (.int ds.length) s := fun Q E q => by
  cases i with | tuple n l r =>
  refine P.len_tuple l (by rw [List.size_toArray, r.length]; omega) ?_
  rw [List.size_toArray, r.length]
  exact q _ _ (Kp.tok _ _) (.int _ _)
theorem gives_max {v u : Value} {a b : Int} (hh : A.handled = none) (i : Is X s.heap v (.int a)) (j : Is X s.heap u (.int b)) : Gives prog w A X (call (.builtin "max") [v, u]) (.int (max a b)) s := fun Q E q => by
  cases i; cases j
  refine with_size (max_two_ints hh fun h' tk hk z => ?_)
  have kp : Kp s { s with heap := h', toks := tk } := Kp.of hk z
  by_cases hc : b > a
  · rw [if_pos hc]
    rw [show max a b = b from by omega] at q
    exact q _ _ kp (.int _ _)
  · rw [if_neg hc]
    rw [show max a b = a from by omega] at q
    exact q _ _ kp (.int _ _)
theorem gives_tuple {v : Value} {ds : List D} {tp : Addr} {o : Obj} (ho : s.heap.get? tp = some o) (hx : ∀ c, X c → c ≤ tp) (i : Is X s.heap v (.list ds)) (hz : ds.length ≤ 1048576) : Gives prog w A X (call (.type "tuple") [v]) (.tuple ds) s := fun Q E q => by
  cases i with | list n l r =>
  refine with_size (call_tuple_list l.isList (fun h' hk z => ?_) (by rw [List.size_toArray, r.length, sizeLine_eq]; omega))
  rename_i a vs k
  have ext : Ext s.heap (h'.push { cls := .type "tuple", data := .seq vs.toArray }) := fun b o e => Heap.get?_push_of_some _ (hk b o e)
  exact q _ _ ⟨⟨_, s.toks, rfl⟩, ext, z⟩ (.tuple (fun hX => absurd (Heap.lt_size (hk _ _ ho)) (Nat.not_lt.mpr (hx _ hX))) (Heap.get?_push_size _ rfl) (r.keeps ext))
theorem gives_sorted {v : Value} {ns : List Int} (hx : Std X s) (i : Is X s.heap v (.list (ns.map D.int))) (hz : ns.length < 64) (ms : List Int) (hp : ms.Perm ns) (hs : ms.Pairwise (· ≤ ·)) : Gives prog w A X (call (.builtin "sorted") [v]) (.list (ms.map D.int)) s := fun Q E q => by
  cases i with | list n l r =>
  rename_i a vs k
  refine with_size (sorted_ints l.isList r.ints (by rw [r.length, List.length_map]; exact hz) fun out ns' a1 a2 a3 z => ?_)
  obtain ⟨e, he⟩ := sortedAll_at s.heap vs out
  have hms : ns' = ms := List.Perm.eq_of_pairwise (fun _ _ _ _ h1 h2 => Int.le_antisymm h1 h2) a3 hs (a2.trans hp.symm)
  subst hms
  refine q _ _ ⟨⟨_, s.toks, rfl⟩, fun b o e => sortedAll_old e, z⟩ (.list (hx.fresh (Nat.le_succ _)) (n := e) (vs := out.toList) ?_ (isAll_ints a1))
  have e1 : out.toList.toArray = out := by simp
  rw [e1]; exact he
end
end Mine
end

section
namespace Mine

section
variable {prog : Program} {w : World} {A : Around} {X X' : V0} {env cenv : Env} {ρ : Rho} {s s' s₀ s₂ : Shared} {sc scope tsc : Scope} {cn tcn town : List Str} {own : Own}

/-- what a def of the text's gives -/
def Fun (prog : Program) (w : World) (n : Nat) (a : Addr) (ds : List D) (d : D) : Prop :=
  ∀ A X s vs (Q : Value → Shared → Prop) (E : Value → Shared → Prop), Ok n A → Gr w X s.heap → Std X s → IsAll X s.heap vs ds → (∀ v s', Kp s s' → Is X s'.heap v d → Q v s') → wpAny (model prog w) A (call (.ref a) vs) Q E s
theorem Fun.le {n m : Nat} {a : Addr} {ds : List D} {d : D} (h : Fun prog w n a ds d) (hm : n ≤ m) : Fun prog w m a ds d := fun A X s vs Q E hA => h A X s vs Q E (hA.le hm)

theorem Ev.callF {n : Nat} {x : Str} {a : Addr} {pn pos : Pos} {e : Expr} {es : List Expr} {ds : List D} {d : D} (hA : Ok n A) (hr : sc.names.lookup x = some .globalImplicit) (hg : nsIn (KK w) mainGlobals x = some (some (.ref a))) (hk : keepIn (KK w) (.ref a) = true)
    (h : Evs prog w A sc cn ρ (e :: es) ds) (hf : Fun prog w n a ds d) (hd : (x == ("__debug__" : Str)) = false := by decide)
    (hs : ∀ env, starEach (e :: es) env = (false, eval e env) :: starEach es env := by intro _; rfl) (hp : ∀ env, (backTo pos (starEach es env)).any (·.1) = false := by intro _; rfl) :
    Ev prog w A sc cn ρ (.Call (.Name x pn) (e :: es) [] pos) d := fun env X s H S Q E q =>
  Call_Name rfl (global_val H S hr hg (callWith_K S.gr.gr0.X hk (h env X pos s H S _ E fun vs s1 k1 i1 => ⟨(S.keeps k1).gr.gr0.X, hf A X s1 _ Q E hA (S.keeps k1).gr (S.keeps k1).std i1 fun v s2 k2 i2 => q v s2 (k1.trans k2) i2⟩) (hs env) (hp env)) hd)

theorem lookup_triples {h : Heap} (x : Str) (d : D) : ∀ l : List (Str × Value × D), (∀ t ∈ l, Is X h t.2.1 t.2.2) → (l.map fun t => (t.1, t.2.2)).lookup x = some d → ∃ v, (l.map fun t => (t.1, t.2.1)).lookup x = some v ∧ Is X h v d
  | [], _, e => by cases e
  | t :: l, hl, e => by
    rw [List.map_cons, List.lookup_cons] at e ⊢
    split at e
    · cases e; exact ⟨_, rfl, hl t (List.mem_cons_self ..)⟩
    · exact lookup_triples x d l (fun t ht => hl t (List.mem_cons_of_mem _ ht)) e

theorem fun_run {n : Nat} {a : Addr} {oc : Value} {odd : Option Addr} {osl : Array (Option Value)} {fd : FuncData} {body : List Stmt} {d : D} {vs : List Value} (ts : List (Str × Value × D)) (hA : Ok (n + 1) A) (G : Gr w X s.heap) (hx : Std X s)
    (hl : (KK w).lookup a = some ⟨oc, odd, .func fd, osl⟩) (hc : codeIn (KK w) fd.code fd.qualname = true) (hb : fd.body = .stmts body) (hbind : bindArgs fd ⟨vs, []⟩ = pure (ts.map fun t => (t.1, t.2.1)))
    (hloc : ∀ t ∈ ts, fd.scope.names.lookup t.1 = some .local) (hcell : ∀ x ∈ fd.scope.names, x.2 ≠ .cell) (hco : fd.scope.isCoroutine = false) (hgen : fd.scope.isGenerator = false) (hk : fd.scope.kind = .function) (hg : fd.globals = mainGlobals) (hbu : fd.builtins = builtinsNs) (hcl : fd.closure = [])
    (hi : ∀ t ∈ ts, Is X s.heap t.2.1 t.2.2) (hex : ∀ A, Ok n A → Exs prog w A fd.scope [] noOwn (ts.reverse.map fun t => (t.1, t.2.2)) body (.ret d))
    {Q : Value → Shared → Prop} {E : Value → Shared → Prop} (q : ∀ v s', Kp s s' → Is X s'.heap v d → Q v s') : wpAny (model prog w) A (call (.ref a) vs) Q E s := by
  have G0 := G.gr0
  refine wpAny_call (codeAny_call_def hA.room (G0.X _ _ hl) rfl G0.lim (codeRec_of G0.X hc) hb (.of_eq hbind) hcell (fun x hx => ?_) (fun h₀ hns hext => ?_) hco hgen hk)
  · obtain ⟨t, ht, rfl⟩ := List.mem_map.mp hx
    exact hloc t ht
  have lt : s.heap.objs.size < h₀.objs.size := hns.lt
  have kp : Kp s { s with heap := h₀, toks := s.toks + (ts.map fun t => (t.1, t.2.1)).length } := Kp.of hext (Nat.le_of_lt lt)
  have hnew : ∀ c, c = s.heap.objs.size → s.heap.get? c = none := fun c h => Heap.get?_none_of_le (by rw [h]; exact Nat.le_refl _)
  have H : Sh fd.scope [] (callEnv fd s.heap.objs.size a) := ⟨rfl, by show List.map _ fd.closure = []; rw [hcl]; rfl, hg, hbu, hk⟩
  have nocell : ∀ n c, (callEnv fd s.heap.objs.size a).cells.lookup n = some c → False := fun n c e => by
    have : fd.closure.lookup n = some c := e
    rw [hcl] at this; cases this
  have F : FrOk noOwn w (fun c => X c ∨ c = s.heap.objs.size) (callEnv fd s.heap.objs.size a) (ts.reverse.map fun t => (t.1, t.2.2)) { s with heap := h₀, toks := s.toks + (ts.map fun t => (t.1, t.2.1)).length } := by
    refine ⟨⟨G.more hext hnew, fun c z => ?_, fun x e hx _ => ?_, fun n c e => (nocell n c e).elim, fun n _ c e => (nocell n c e).elim⟩, .inr rfl, ⟨_, hns⟩, fun _ h => (nomatch h), fun n c e => (nocell n c e).elim, fun n _ c e => (nocell n c e).elim, fun _ h => (noMu h).elim, fun _ _ _ h => (nomatch h), fun _ _ _ h => nomatch h⟩
    · rcases z with z | z
      · exact Nat.lt_trans (hx c z) lt
      · rw [z]; exact lt
    · obtain ⟨v, hv, iv⟩ := lookup_triples (X := X) (h := s.heap) x e ts.reverse (fun t ht => hi t (List.mem_reverse.mp ht)) hx
      refine ⟨v, .loc _ ?_ hns ?_, (iv.more hnew).keeps hext⟩
      · have hm := List.mem_map_of_mem (f := (·.1)) (mem_of_lookup hv)
        rw [List.map_map] at hm
        obtain ⟨t, ht, e⟩ := List.mem_map.mp hm
        have := hloc t (List.mem_reverse.mp ht)
        have e' : t.1 = x := e
        rw [← e']
        exact H.kindOf this
      · rw [← List.map_reverse]; exact hv
  refine hex _ (hA.deeper _) _ _ _ H F _ _ fun f s1 m1 o1 => ?_
  obtain ⟨v, rfl, i1⟩ := o1
  refine q v s1 (Moves.keeps kp m1 fun c h => ?_) (i1.less fun c z => .inl z)
  rcases h with h | ⟨_, h, _⟩ | h
  · exact hnew c h
  · cases h
  · exact (noMu h).elim

/-! attributes and methods -/
theorem attr_base {o : Expr} {attr : Str} {whole : Sem Value} (h : ∀ id p q, o ≠ .Call (.Name id p) [] [] q) : attributeBase o attr env whole = whole := by
  unfold attributeBase
  split
  · exact absurd rfl (h _ _ _)
  · rfl
theorem call_attr {o : Expr} {name : Str} {apos pos : Pos} {args : List Expr} {Q : Value → Shared → Prop} {E : Value → Shared → Prop} {M : Model} (ho : ∀ id p q, o ≠ .Call (.Name id p) [] [] q) (hf : ∀ env, methodCallForm (args.length + 0) (backTo pos (starEach args env)) [] = true)
    (hline : (apos.endLine == pos.line) = true)
    (h : wpAny M A (eval o env) (fun ov s₁ => ∀ pl, wpAny M A (getMethod ov name pl) (fun fp s₂ => wpAny M A (callWith pos fp.1 fp.2 (backTo pos (starEach args env)) []) Q E s₂) E s₁) E s) : wpAny M A (eval (.Call (.Attribute o name apos) args [] pos) env) Q E s := by
  rw [arm_eval_Call, attr_base ho]
  refine wpAny_bind (wpAny_mono h (fun ov s₁ h₁ => wpAny_bind (wpAny_standAt ?_)) fun _ _ e => e)
  show wpAny M A (methodCall o name apos pos env ov (args.length + 0) (backTo pos (starEach args env)) []) Q E s₁
  have hpos : methodCallPos true o env apos pos = pure pos := by unfold methodCallPos; simp [hline]
  unfold methodCall
  rw [hf env, hpos]
  refine wpAny_bind (wpAny_holding (wpAny_mono (h₁ _) (fun fp s₂ h₂ => ?_) fun _ _ e => e))
  exact wpAny_bind (wpAny_pure h₂)

theorem WhiteAt.inst {h : Heap} {x dx : Addr} {od : Obj} (h1 : h.get? x = some (instObj 100 dx)) (h2 : h.get? dx = some od) : InstAt h x (instObj 100 dx) 100 (some od) := ⟨h1, rfl, rfl, h2⟩
theorem w_ga : findIn (KK w) (.ref 100) "__getattribute__" = some (some (.builtin "object.__getattribute__")) := by kernel_rfl
theorem w_gk : findIn (KK w) (.ref 100) "__getattr__" = some none := by kernel_rfl
theorem w_hd : hasDictIn (KK w) 100 = true := by kernel_rfl

def D.attr : D → Str → Option D
  | .white raw n nt count b simple, x => if x = "n" then some (.int n) else if x = "nt" then some (.int nt) else if x = "raw" then some (.str raw) else if x = "is_simple" then some (.bool simple) else if x = "norm" then some (.tuple [.tuple (count.map .int), .int b]) else Option.none
  | _, _ => Option.none
theorem w_none {x : Str} (h : x = "n" ∨ x = "nt" ∨ x = "raw" ∨ x = "is_simple" ∨ x = "norm") : findIn (KK w) (.ref 100) x = some none := by
  rcases h with rfl | rfl | rfl | rfl | rfl <;> kernel_rfl
theorem gives_attr {v : Value} {d e : D} {x : Str} (G : Gr w X s.heap) (i : Is X s.heap v d) (h : d.attr x = some e) : Gives prog w A X (getAttr v x true) e s := fun Q E q => by
  cases i with
  | white wa =>
    obtain ⟨dx, od, t1, t2, t3, t4, p, q', vs, k1, k2, e1, e2, x1, x2, x3, x4, r1, r2, r3, r4, r5, r6, r7, r8, r9, e3, e4, iv⟩ := wa.ex
    have I := WhiteAt.inst e1 e2
    have go : ∀ {u : Value}, (x = "n" ∨ x = "nt" ∨ x = "raw" ∨ x = "is_simple" ∨ x = "norm") → lookIn x od = some (some u) → handedIn u = true → Is X s.heap u e → wpAny (model prog w) A (getAttr _ x true) Q E s := fun hx hl hh iu =>
      get_value G.gr0.X I w_ga (findObj_own w_hd (w_none hx) rfl hl) hh (q _ _ (Kp.tok _ _) iu)
    unfold D.attr at h
    dsimp only at h
    split at h
    · cases h; rename_i hx; subst hx; exact go (.inl rfl) r2 rfl (.int _ _)
    split at h
    · cases h; rename_i hx; subst hx; exact go (.inr (.inl rfl)) r3 rfl (.int _ _)
    split at h
    · cases h; rename_i hx; subst hx; exact go (.inr (.inr (.inl rfl))) r1 rfl (.str _ _)
    split at h
    · cases h; rename_i hx; subst hx; exact go (.inr (.inr (.inr (.inl rfl)))) r5 rfl (.bool _)
    split at h
    · cases h; rename_i hx; subst hx
      refine go (.inr (.inr (.inr (.inr rfl)))) r4 rfl (.tuple (vs := [.ref q', .int _ t4]) x3 e3 (.cons (.tuple x4 e4 ?_) (.cons (.int _ _) .nil)))
      exact isAll_ints iv
    · cases h
  | _ => cases h
theorem Ev.attr {o : Expr} {x : Str} {pos : Pos} {d e : D} (h : Ev prog w A sc cn ρ o d) (he : d.attr x = some e) (ho : ∀ id p q, o ≠ .Call (.Name id p) [] [] q := by intro _ _ _ h; cases h) : Ev prog w A sc cn ρ (.Attribute o x pos) e := fun env X s H S Q E q => by
  have e1 : eval (.Attribute o x pos) env = (do
      let v ← eval o env
      standAt pos.atName
      let r ← holding [v] (getAttr v x true)
      letTemporaryGo o v r
      pure r) := by rw [arm_eval_Attribute, attr_base ho]
  exact Attribute_any_ (h env X s H S _ E fun v s1 k1 i1 => gives_attr (S.keeps k1).gr i1 he _ E fun v2 s2 k2 i2 => q _ _ (k1.trans k2) i2) e1

/-- a method of Whitespace's -/
theorem Ev.meth {n : Nat} {o : Expr} {name : Str} {a : Addr} {apos pos : Pos} {e : Expr} {es : List Expr} {raw : Str} {wn wnt wb : Int} {wc : List Int} {ws : Bool} {ds : List D} {d : D} (hA : Ok n A) (h : Ev prog w A sc cn ρ o (.white raw wn wnt wc wb ws)) (hargs : Evs prog w A sc cn ρ (e :: es) ds)
    (hm : findIn (KK w) (.ref 100) name = some (some (.ref a))) (ht : typeIn (KK w) (.ref a) = some (.type "function")) (hk : keepIn (KK w) (.ref a) = true) (hn : name = "less" ∨ name = "equal" ∨ name = "indent_level") (hf : Fun prog w n a (.white raw wn wnt wc wb ws :: ds) d)
    (hline : (apos.endLine == pos.line) = true) (ho : ∀ id p q, o ≠ .Call (.Name id p) [] [] q := by intro _ _ _ h; cases h) (hform : ∀ env, methodCallForm ((e :: es).length + 0) (backTo pos (starEach (e :: es) env)) [] = true := by intro _; rfl)
    (hs : ∀ env, starEach (e :: es) env = (false, eval e env) :: starEach es env := by intro _; rfl) (hp : ∀ env, (backTo pos (starEach es env)).any (·.1) = false := by intro _; rfl) :
    Ev prog w A sc cn ρ (.Call (.Attribute o name apos) (e :: es) [] pos) d := fun env X s H S Q E q =>
  call_attr ho hform hline (h env X s H S _ E fun v s1 k1 i1 pl => by
    have S1 := S.keeps k1
    have i0 := i1
    cases i1 with | white wa =>
    obtain ⟨dx, od, t1, t2, t3, t4, p, q', vs, k1', k2', e1, e2, x1, x2, x3, x4, r1, r2, r3, r4, r5, r6, r7, r8, r9, e3, e4, iv⟩ := wa.ex
    refine method_fn S1.gr.gr0.X (WhiteAt.inst e1 e2) w_ga w_gk hm ht (by rcases hn with rfl | rfl | rfl <;> (unfold shadowIn; dsimp only; first | (rw [r6]; rfl) | (rw [r7]; rfl) | (rw [r8]; rfl))) ?_
    exact callWith_K S1.gr.gr0.X hk (hargs env X pos s1 H S1 _ E fun us s2 k2 i2 => ⟨(S1.keeps k2).gr.gr0.X, hf A X s2 _ Q E hA (S1.keeps k2).gr (S1.keeps k2).std (.cons (i0.keeps k2.heap) i2) fun v s3 k3 i3 => q v s3 ((k1.trans k2).trans k3) i3⟩) (hs env) (hp env))
theorem Ev.meth0 {n : Nat} {o : Expr} {name : Str} {a : Addr} {apos pos : Pos} {raw : Str} {wn wnt wb : Int} {wc : List Int} {ws : Bool} {d : D} (hA : Ok n A) (h : Ev prog w A sc cn ρ o (.white raw wn wnt wc wb ws))
    (hm : findIn (KK w) (.ref 100) name = some (some (.ref a))) (ht : typeIn (KK w) (.ref a) = some (.type "function")) (hk : keepIn (KK w) (.ref a) = true) (hn : name = "longest_run_of_spaces") (hf : Fun prog w n a [.white raw wn wnt wc wb ws] d)
    (hline : (apos.endLine == pos.line) = true) (ho : ∀ id p q, o ≠ .Call (.Name id p) [] [] q := by intro _ _ _ h; cases h) :
    Ev prog w A sc cn ρ (.Call (.Attribute o name apos) [] [] pos) d := fun env X s H S Q E q =>
  call_attr ho (fun _ => rfl) hline (h env X s H S _ E fun v s1 k1 i1 pl => by
    have S1 := S.keeps k1
    have i0 := i1
    cases i1 with | white wa =>
    obtain ⟨dx, od, t1, t2, t3, t4, p, q', vs, k1', k2', e1, e2, x1, x2, x3, x4, r1, r2, r3, r4, r5, r6, r7, r8, r9, e3, e4, iv⟩ := wa.ex
    refine method_fn S1.gr.gr0.X (WhiteAt.inst e1 e2) w_ga w_gk hm ht (by subst hn; unfold shadowIn; dsimp only; rw [r9]; rfl) ?_
    exact callWith_K0 S1.gr.gr0.X hk (hf A X s1 _ Q E hA S1.gr S1.std (.cons i0 .nil) fun v s3 k3 i3 => q v s3 (k1.trans k3) i3))
end
end Mine
end

section
namespace Mine

/-- a reading of lists that are written in place -/
def D.frz : D → D
  | .mut ds => .list ds
  | d => d
def frz (ρ : Rho) : Rho := ρ.map fun p => (p.1, p.2.frz)
theorem D.of_isMut {d : D} (h : d.isMut = true) : ∃ ds, d = .mut ds := by
  cases d <;> first | exact ⟨_, rfl⟩ | exact Bool.noConfusion h
def D.flat : D → Bool
  | .none | .bool _ | .int _ | .str _ => true
  | _ => false
def mutsIn : Rho → List Str
  | [] => []
  | (x, d) :: ρ => if d.isMut then x :: mutsIn ρ else mutsIn ρ

theorem lookup_frz {x : Str} : ∀ ρ : Rho, (frz ρ).lookup x = (ρ.lookup x).map D.frz
  | [] => rfl
  | p :: ρ => by
    show List.lookup x ((p.1, p.2.frz) :: frz ρ) = _
    rw [List.lookup_cons, List.lookup_cons]
    split
    · rfl
    · exact lookup_frz ρ
theorem mutsIn_of {x : Str} {ds : List D} : ∀ {ρ : Rho}, ρ.lookup x = some (.mut ds) → x ∈ mutsIn ρ
  | [], h => by cases h
  | (y, d) :: ρ, h => by
    rw [lookup_cons_of] at h
    unfold mutsIn
    by_cases hxy : x = y
    · rw [if_pos hxy] at h; cases h; subst hxy; exact List.mem_cons_self ..
    · rw [if_neg hxy] at h
      have := mutsIn_of h
      split
      · exact List.mem_cons_of_mem _ this
      · exact this

section
variable {prog : Program} {w : World} {A : Around} {X X' : V0} {env cenv : Env} {ρ ρ₁ ρ₂ : Rho} {s s' s₀ s₂ : Shared} {sc scope tsc : Scope} {cn tcn town : List Str} {own : Own}

theorem Is.flat {h h' : Heap} {v : Value} {d : D} (i : Is X h v d) (hf : d.flat = true) : Is X' h' v d := by
  cases d with
  | none => cases i; exact .none
  | bool => cases i; exact .bool _
  | int => cases i; exact .int _ _
  | str => cases i; exact .str _ _
  | _ => cases hf

/-- an expression in a frame -/
def EvF (prog : Program) (w : World) (A : Around) (sc : Scope) (cn : List Str) (own : Own) (ρ : Rho) (e : Expr) (d : D) : Prop :=
  ∀ env X s, Sh sc cn env → FrOk own w X env ρ s → Gives prog w A X (eval e env) d s
def TeF (prog : Program) (w : World) (A : Around) (sc : Scope) (cn : List Str) (own : Own) (ρ : Rho) (e : Expr) (b : Bool) : Prop :=
  ∀ env X s, Sh sc cn env → FrOk own w X env ρ s → ∀ (Q : Bool → Shared → Prop) (E : Value → Shared → Prop), (∀ s', Kp s s' → Q b s') → wpAny (model prog w) A (isTrue e env (eval e env)) Q E s
theorem Ev.f {e : Expr} {d : D} (h : Ev prog w A sc cn ρ e d) : EvF prog w A sc cn own ρ e d := fun env X s H F => h env X s H F.sees
theorem FrOk.frz (F : FrOk own w X env ρ s) (hm : ((mutsIn ρ).all fun x => (own.adr.lookup x).isSome) = true) : Sees w (fun c => X c ∧ ¬ own.mu c) env (frz ρ) s where
  gr := F.sees.gr.less fun c h => h.1
  xs := fun c z => F.sees.xs c z.1
  vals := fun y d e he => by
    rw [lookup_frz] at e
    cases hy : ρ.lookup y with
    | none => rw [hy] at e; cases e
    | some d0 =>
      rw [hy] at e
      have e : d0.frz = d := Option.some.inj e
      cases hd : d0.isMut with
      | false =>
        have : d0.frz = d0 := by cases d0 <;> first | rfl | cases hd
        obtain ⟨v, a, b⟩ := F.sees.vals y d0 hy hd
        rw [← e, this]
        exact ⟨v, a, b.less fun c h => h.1⟩
      | true =>
        obtain ⟨ds, rfl⟩ := D.of_isMut hd
        · have := List.all_eq_true.mp hm y (mutsIn_of hy)
          obtain ⟨a, ha⟩ := Option.isSome_iff_exists.mp this
          obtain ⟨n, vs, m, l, i⟩ := F.muts y a ds ha hy
          rw [← e]
          exact ⟨_, n, .list (fun z => z.2 ⟨y, ha⟩) l (i.less fun c h => h.1)⟩
  cel := F.sees.cel
  inj := F.sees.inj
theorem Ev.rd {e : Expr} {d : D} (h : Ev prog w A sc cn (frz ρ) e d) (hf : d.flat = true) (hm : ((mutsIn ρ).all fun x => (own.adr.lookup x).isSome) = true) : EvF prog w A sc cn own ρ e d := fun env X s H F Q E q =>
  h env _ s H (F.frz hm) Q E fun v s' k i => q v s' k (i.flat hf)
theorem Te.f {e : Expr} {b : Bool} (h : Te prog w A sc cn ρ e b) : TeF prog w A sc cn own ρ e b := fun env X s H F => h env X s H F.sees
theorem Te.rd {e : Expr} {b : Bool} (h : Te prog w A sc cn (frz ρ) e b) (hm : ((mutsIn ρ).all fun x => (own.adr.lookup x).isSome) = true) : TeF prog w A sc cn own ρ e b := fun env X s H F Q E q =>
  h env _ s H (F.frz hm) Q E q
theorem Ex.assignF {x : Str} {px pos : Pos} {e : Expr} {d : D} (h : EvF prog w A sc cn own ρ e d) (hk : May sc cn own x) (hs : ∀ env, Sh sc cn env → swapsWith e (some (.Name x px)) pos.line env = pure false) :
    Ex prog w A sc cn own ρ (.Assign [.Name x px] e pos) (.next ((x, d) :: ρ)) := fun env X s H F Q E q =>
  wpAny_Assign_Name (h env X s H F _ E fun v s1 k1 i1 => (F.keeps k1).store H hk i1 fun s2 m2 F2 => q _ _ (k1.moves.trans m2) ⟨rfl, F2⟩) (hs env H)
theorem Ex.ifF {t : Expr} {b o : List Stmt} {pos : Pos} {c : Bool} {out : Out} (h : TeF prog w A sc cn own ρ t c) (hb : c = true → Exs prog w A sc cn own ρ b out) (ho : c = false → Exs prog w A sc cn own ρ o out) : Ex prog w A sc cn own ρ (.If t b o pos) out := fun env X s H F Q E q =>
  wpAny_If (h env X s H F _ E fun s1 k1 => by
    cases c with
    | true => exact hb rfl env X s1 H (F.keeps k1) Q E fun f s2 m2 o2 => q f s2 (k1.moves.trans m2) o2
    | false => exact ho rfl env X s1 H (F.keeps k1) Q E fun f s2 m2 o2 => q f s2 (k1.moves.trans m2) o2)

/-- an expression that writes -/
def EvM (prog : Program) (w : World) (A : Around) (sc : Scope) (cn : List Str) (own : Own) (ρ : Rho) (e : Expr) (d : D) (ρ' : Rho) : Prop :=
  ∀ env X s, Sh sc cn env → FrOk own w X env ρ s → ∀ (Q : Value → Shared → Prop) (E : Value → Shared → Prop), (∀ v s', Moves (Wr own env) s s' → FrOk own w X env ρ' s' → Is X s'.heap v d → Q v s') → wpAny (model prog w) A (eval e env) Q E s
theorem EvF.m {e : Expr} {d : D} (h : EvF prog w A sc cn own ρ e d) : EvM prog w A sc cn own ρ e d ρ := fun env X s H F Q E q =>
  h env X s H F Q E fun v s' k i => q v s' k.moves (F.keeps k) i
theorem FrOk.mx (F : FrOk own w X env ρ s) (m : Moves (Wr own env) s s') : ExtX X s.heap s'.heap := fun b o n e => m.heap b o (fun z => n (F.wr b z)) e
theorem EvM.binL {l r : Expr} {op : Operator} {pos : Pos} {a b d : D} (hl : EvM prog w A sc cn own ρ l a ρ₁) (hr : EvF prog w A sc cn own ρ₁ r b) (ho : Bin prog w A op a b d) : EvM prog w A sc cn own ρ (.BinOp l op r pos) d ρ₁ := fun env X s H F Q E q =>
  wpAny_BinOp (hl env X s H F _ E fun va s1 m1 F1 i1 => hr env X s1 H F1 _ E fun vb s2 k2 i2 => ho X s2 va vb (F1.keeps k2).sees.std (i1.keeps k2.heap) i2 Q E fun v s3 k3 i3 => q v s3 (m1.trans (k2.trans k3).moves) (F1.keeps (k2.trans k3)) i3)

/-- a list is written in place -/
theorem FrOk.poke (F : FrOk own w X env ρ s) {x : Str} {a : Addr} {vs : List Value} {n : Nat} {h : Heap} (ha : own.adr.lookup x = some a) (hn : NameAt env s.heap x (.ref a)) (hl : IsL s.heap a (List.toArray vs) n)
    (hs : Heap.SameBut a s.heap h) {us : List Value} {es : List D} {n' : Nat} (hl' : IsL h a (List.toArray us) n') (hi : IsAll X s.heap us es) :
    Moves (Wr own env) s { s with heap := h } ∧ FrOk own w X env ((x, .mut es) :: ρ) { s with heap := h } := by
  have z : s.heap.objs.size ≤ h.objs.size := Nat.le_of_eq hs.1.symm
  have mu : own.mu a := ⟨x, ha⟩
  have mv : Moves (Wr own env) s { s with heap := h } := ⟨⟨h, s.toks, rfl⟩, fun b o nb e => hs.extBut b o (fun z => nb (z ▸ .inr (.inr mu))) e, z⟩
  have mx := F.mx mv
  have al : a ≠ env.locals := fun e => by
    obtain ⟨m, o, es, ep, e', d, _⟩ := F.ns
    rw [← e, hl] at e'; cases e'; cases d
  have ac : ∀ n c, env.cells.lookup n = some c → c ≠ a := fun n c e h => by
    obtain ⟨_, v, o, e', d⟩ := F.cell n c e
    rw [h, hl] at e'; cases e'; cases d
  have nm : ∀ {y v}, NameAt env s.heap y v → NameAt env h y v := fun n => n.moved (fun o e => hs.extBut _ o al.symm e) fun c hc o e => hs.extBut c o (ac _ c hc) e
  refine ⟨mv, ⟨⟨F.sees.gr.moves mx, fun c zc => Nat.lt_of_lt_of_le (F.sees.xs c zc) z, fun y d hy hd => ?_, fun n c e => ?_, F.inj⟩, F.wl, ?_, F.wc, fun n c e => ?_, F.inj, F.wm, F.mi, fun y b ds' hb hy => ?_⟩⟩
  · rw [lookup_cons_of] at hy
    by_cases hyx : y = x
    · rw [if_pos hyx] at hy; cases hy; cases hd
    · rw [if_neg hyx] at hy
      obtain ⟨v, n, i⟩ := F.sees.vals y d hy hd
      exact ⟨v, nm n, i.moves mx⟩
  · obtain ⟨v, o, e', d⟩ := (F.cell n c e).2
    exact ⟨v, o, hs.extBut c o (ac n c e) e', d⟩
  · obtain ⟨m, hm⟩ := F.ns
    exact ⟨m, hm.at' fun o e => hs.extBut _ o al.symm e⟩
  · obtain ⟨ne, v, o, e', d⟩ := F.cell n c e
    exact ⟨ne, v, o, hs.extBut c o (ac n c e) e', d⟩
  · rw [lookup_cons_of] at hy
    by_cases hyx : y = x
    · rw [if_pos hyx] at hy; cases hy; subst hyx
      rw [ha] at hb; cases hb
      exact ⟨nm hn, us, n', hl', hi.moves mx⟩
    · rw [if_neg hyx] at hy
      obtain ⟨n, vs', m, l, i⟩ := F.muts y b ds' hb hy
      exact ⟨nm n, vs', m, hs.extBut b _ (fun e => hyx (F.mi y x a (e ▸ hb) ha)) l, i.moves mx⟩

theorem eraseIdx_toArray (vs : List Value) (k : Nat) : (List.toArray vs).eraseIdxIfInBounds k = List.toArray (vs.eraseIdx k) := by
  unfold Array.eraseIdxIfInBounds
  by_cases h : k < vs.length
  · rw [dif_pos (by simpa using h)]; simp
  · rw [dif_neg (by simpa using h), List.eraseIdx_of_length_le (Nat.le_of_not_lt h)]
theorem IsAll.eraseIdx {h : Heap} {vs : List Value} {ds : List D} (x : IsAll X h vs ds) (k : Nat) : IsAll X h (vs.eraseIdx k) (ds.eraseIdx k) := by
  induction vs generalizing ds k with
  | nil => cases x; exact .nil
  | cons v vs ih =>
    cases x with | cons a r =>
    cases k with
    | zero => exact r
    | succ k => exact .cons a (ih r k)

theorem EvM.pop {x : Str} {px apos pos : Pos} {i : Expr} {k : Int} {ds : List D} {d : D} {a : Addr} (hx : own.adr.lookup x = some a) (hr : ρ.lookup x = some (.mut ds)) (hi : EvF prog w A sc cn own ρ i (.int k)) (h0 : 0 ≤ k) (hd : ds[k.toNat]? = some d) (hz : ds.length ≤ 1048576)
    (hline : (apos.endLine == pos.line) = true := by rfl) (hdb : (x == ("__debug__" : Str)) = false := by decide) (hc : (x == ("__classdict__" : Str)) = false := by decide)
    (hs : ∀ env, starEach [i] env = [(false, eval i env)] := by intro _; rfl) :
    EvM prog w A sc cn own ρ (.Call (.Attribute (.Name x px) (Str.ofString "pop") apos) [i] [] pos) d ((x, .mut (ds.eraseIdx k.toNat)) :: ρ) := fun env X s H F Q E q => by
  obtain ⟨n, vs, m, l, r⟩ := F.muts x a ds hx hr
  refine call_attr (by intro _ _ _ h; cases h) (fun env => by rw [hs env]; rfl) hline (wpAny_Name (loadName_at H.fk n ?_ hc) hdb)
  intro pl
  refine getMethod_list_of PySem.F.slot_list_pop PySem.F.type_list_pop l.isList ⟨_, l, rfl⟩ ?_
  rw [hs env]
  refine P.pop_at_list (hi env X s H F _ E fun v s1 k1 i1 => ?_)
  cases i1 with | int _ u =>
  have F1 := F.keeps k1
  have l1 := k1.heap _ _ l
  have r1 := r.keeps k1.heap
  obtain ⟨y, hy, iy⟩ := r1.get hd
  have klt : k.toNat < vs.length := by
    rcases Nat.lt_or_ge k.toNat vs.length with h | h
    · exact h
    · rw [List.getElem?_eq_none h] at hy; cases hy
  have hlen := r1.length
  refine ⟨_, m, k, u, k.toNat, y, by rw [List.size_toArray, hlen, sizeLine_eq]; omega, rfl, l1, fitsIndex_of h0 (by omega), ?_, by simpa using hy, ?_⟩
  · have e : k = ((k.toNat : Nat) : Int) := by omega
    rw [e]
    unfold seqIndex?
    have hs : (List.toArray vs).size = vs.length := by simp
    rw [hs]
    dsimp only
    have h1 : ¬ ((k.toNat : Int) < 0) := by omega
    simp [h1, klt]
    first | omega | rfl | skip
  · obtain ⟨mv, F2⟩ := F1.poke (x := x) (h := s1.heap.update a (Obj.mapSeq fun xs => xs.eraseIdxIfInBounds k.toNat)) hx (n.keeps k1.heap) l1 (Heap.SameBut.update ..)
      (by have := IsL.update l1 fun xs => xs.eraseIdxIfInBounds k.toNat; rw [eraseIdx_toArray] at this; exact this) (r1.eraseIdx k.toNat)
    exact q _ _ (k1.moves.trans mv) F2 (iy.moves (F1.mx mv))

theorem Sh.int (H : Sh sc cn env) : interactive env = false := by
  unfold interactive
  rw [H.scope, H.kind]; rfl
theorem Ex.append {x : Str} {px apos pos p : Pos} {e : Expr} {ds ds₁ : List D} {d : D} {a : Addr} (hx : own.adr.lookup x = some a) (hr : ρ.lookup x = some (.mut ds)) (hi : EvM prog w A sc cn own ρ e d ρ₁) (hr1 : ρ₁.lookup x = some (.mut ds₁)) (hz : ds₁.length ≤ 1048576)
    (hsw : ∀ env, swapsWith (.Call (.Attribute (.Name x px) (Str.ofString "append") apos) [e] [] pos) none p.line env = pure false := by intro _; rfl)
    (hline : (apos.endLine == pos.line) = true := by rfl) (hdb : (x == ("__debug__" : Str)) = false := by decide) (hc : (x == ("__classdict__" : Str)) = false := by decide)
    (hs : ∀ env, starEach [e] env = [(false, eval e env)] := by intro _; rfl) :
    Ex prog w A sc cn own ρ (.Expr (.Call (.Attribute (.Name x px) (Str.ofString "append") apos) [e] [] pos) p) (.next ((x, .mut (ds₁ ++ [d])) :: ρ₁)) := fun env X s H F Q E q => by
  obtain ⟨n, vs, m, l, r⟩ := F.muts x a ds hx hr
  refine wpAny_Expr_any ?_ H.int (hsw env)
  refine call_attr (by intro _ _ _ h; cases h) (fun env => by rw [hs env]; rfl) hline (wpAny_Name (loadName_at H.fk n ?_ hc) hdb)
  intro pl
  refine getMethod_list_of PySem.F.slot_list_append PySem.F.type_list_append l.isList ⟨_, l, rfl⟩ ?_
  rw [hs env]
  refine P.append_list (hi env X s H F _ E fun v s1 m1 F1 i1 => ?_)
  obtain ⟨n1, vs1, k1, l1, r1⟩ := F1.muts x a ds₁ hx hr1
  refine ⟨_, k1, by rw [List.size_toArray, r1.length, sizeLine_eq]; omega, l1, ?_⟩
  obtain ⟨mv, F2⟩ := F1.poke (x := x) (h := s1.heap.update a (Obj.mapSeq fun xs => xs.push v)) hx n1 l1 (Heap.SameBut.update ..)
    (by have := IsL.update l1 fun xs => xs.push v; rw [List.push_toArray] at this; exact this) (r1.append (.cons i1 .nil))
  exact q _ _ (m1.trans mv) ⟨rfl, F2⟩

/-- [e, f] whose second part writes -/
theorem EvM.list2 {e f : Expr} {pos : Pos} {a b : D} (h : EvF prog w A sc cn own ρ e a) (h2 : EvM prog w A sc cn own ρ f b ρ₁) (hs : ∀ env, starEach [e, f] env = [(false, eval e env), (false, eval f env)] := by intro _; rfl) :
    EvM prog w A sc cn own ρ (.List [e, f] pos) (.list [a, b]) ρ₁ := fun env X s H F Q E q => by
  refine List_ ?_
  rw [hs env]
  exact Calls.spliced_cons (h env X s H F _ E fun va s1 k1 i1 => Calls.spliced_cons (h2 env X s1 H (F.keeps k1) _ E fun vb s2 m2 F2 i2 => Calls.spliced_nil
    (Gives.newList F2.sees.std (.cons (i1.moves ((F.keeps k1).mx m2)) (.cons i2 .nil)) (by simp) _ E fun v s3 k3 i3 => q v s3 (k1.moves.trans (m2.trans k3.moves)) (F2.keeps k3) i3)))
end
end Mine
end

section
namespace Mine

def frzN (l : List Str) (ρ : Rho) : Rho := ρ.map fun p => (p.1, if l.contains p.1 then p.2.frz else p.2)
theorem lookup_frzN {l : List Str} {x : Str} : ∀ ρ : Rho, (frzN l ρ).lookup x = (ρ.lookup x).map fun d => if l.contains x then d.frz else d
  | [] => rfl
  | p :: ρ => by
    show List.lookup x ((p.1, if l.contains p.1 then p.2.frz else p.2) :: frzN l ρ) = _
    rw [List.lookup_cons, List.lookup_cons]
    cases h : x == p.1
    · exact lookup_frzN ρ
    · rw [beq_iff_eq.mp h]; rfl
def Own.plus (own : Own) (l : List (Str × Addr)) : Own := ⟨own.names, l ++ own.adr⟩
theorem D.frz_not (d : D) : d.frz.isMut = false := by cases d <;> rfl
theorem lookup_mem {α : Type} {l : List (Str × α)} {n : Str} {c : α} (h : l.lookup n = some c) : n ∈ l.map (·.1) := List.mem_map_of_mem (f := (·.1)) (mem_of_lookup h)

section
variable {prog : Program} {w : World} {A : Around} {X X' : V0} {env cenv : Env} {ρ ρ₁ ρ₂ : Rho} {s s' s₀ s₁ s₂ : Shared} {sc scope tsc : Scope} {cn tcn town : List Str} {own : Own} {l : List (Str × Addr)}

theorem plus_lookup {y : Str} {c : Addr} (h : (own.plus l).adr.lookup y = some c) : l.lookup y = some c ∨ (l.lookup y = none ∧ own.adr.lookup y = some c) := by
  have h' : (l ++ own.adr).lookup y = some c := h
  rw [lookup_append_of] at h'
  cases hq : l.lookup y with
  | some c' => rw [hq] at h'; exact .inl h'
  | none => rw [hq] at h'; exact .inr ⟨rfl, by simpa using h'⟩

theorem FrOk.thaw (F : FrOk own w X env ρ s) (k : Kp s s₁) (hf : ∀ p ∈ l, s.heap.objs.size ≤ p.2 ∧ p.2 < s₁.heap.objs.size) (hi : ∀ x y c, l.lookup x = some c → l.lookup y = some c → x = y) (hno : ∀ p ∈ l, ∀ ds, ρ.lookup p.1 ≠ some (.mut ds)) :
    FrOk (own.plus l) w (fun c => X c ∨ ∃ p ∈ l, c = p.2) env ρ s₁ := by
  have G := F.grow k (N := fun c => ∃ p ∈ l, c = p.2) (fun c ⟨p, hp, e⟩ => Heap.get?_none_of_le (e ▸ (hf p hp).1)) (fun c ⟨p, hp, e⟩ => e ▸ (hf p hp).2)
  have old : ∀ {y c}, own.adr.lookup y = some c → c < s.heap.objs.size := fun h => F.sees.xs _ (F.wm _ ⟨_, h⟩)
  refine { sees := G.sees, wl := G.wl, ns := G.ns, wc := G.wc, cell := G.cell, inj := G.inj, wm := fun c ⟨y, h⟩ => ?_, mi := fun x y c hx hy => ?_, muts := fun y a ds h hm => ?_ }
  · rcases plus_lookup h with h | ⟨_, h⟩
    · exact .inr ⟨_, mem_of_lookup h, rfl⟩
    · exact .inl (F.wm c ⟨y, h⟩)
  · rcases plus_lookup hx with h | ⟨_, h⟩ <;> rcases plus_lookup hy with h' | ⟨_, h'⟩
    · exact hi x y c h h'
    · exact absurd (hf _ (mem_of_lookup h)).1 (Nat.not_le.mpr (old h'))
    · exact absurd (hf _ (mem_of_lookup h')).1 (Nat.not_le.mpr (old h))
    · exact F.mi x y c h h'
  · rcases plus_lookup h with h | ⟨_, h⟩
    · exact absurd hm (hno _ (mem_of_lookup h) ds)
    · exact G.muts y a ds h hm
theorem FrOk.melt (F : FrOk own w X env ρ s) (F3 : FrOk (own.plus l) w (fun c => X c ∨ ∃ p ∈ l, c = p.2) env ρ₁ s₁) (hf : ∀ p ∈ l, s.heap.objs.size ≤ p.2) : FrOk own w X env (frzN (l.map (·.1)) ρ₁) s₁ := by
  have lx : ∀ {c}, X c → (X c ∨ ∃ p ∈ l, c = p.2) := fun h => .inl h
  have nx : ∀ p ∈ l, ¬ X p.2 := fun p hp h => absurd (F.sees.xs _ h) (Nat.not_lt.mpr (hf p hp))
  refine { sees := ⟨F3.sees.gr.less fun c h => .inl h, fun c z => F3.sees.xs c (.inl z), fun y d e hd => ?_, F3.sees.cel, F3.sees.inj⟩, wl := F.wl, ns := F3.ns, wc := F.wc, cell := F3.cell, inj := F3.inj, wm := F.wm, mi := F.mi, muts := fun y a ds h hm => ?_ }
  · rw [lookup_frzN] at e
    cases hy : ρ₁.lookup y with
    | none => rw [hy] at e; cases e
    | some d0 =>
      rw [hy] at e
      have e : (if (l.map (·.1)).contains y then d0.frz else d0) = d := Option.some.inj e
      cases hm : d0.isMut with
      | false =>
        obtain ⟨v, n, i⟩ := F3.sees.vals y d0 hy hm
        have : d0.frz = d0 := by cases d0 <;> first | rfl | cases hm
        rw [this, ite_self] at e
        exact ⟨v, n, (e ▸ i).less fun c h => .inl h⟩
      | true =>
        by_cases hc : (l.map (·.1)).contains y = true
        · rw [if_pos hc] at e
          obtain ⟨a, ha⟩ := lookup_some_of_mem (l := l) (n := y) (by simpa using hc)
          obtain ⟨ds, rfl⟩ := D.of_isMut hm
          obtain ⟨n, vs, m, lk, i⟩ := F3.muts y a ds (by show (l ++ own.adr).lookup y = _; rw [lookup_append_of, ha]; rfl) hy
          rw [← e]
          exact ⟨_, n, .list (nx _ (mem_of_lookup ha)) lk (i.less fun c h => .inl h)⟩
        · rw [if_neg hc] at e
          rw [← e, hm] at hd; cases hd
  · rw [lookup_frzN] at hm
    cases hy : ρ₁.lookup y with
    | none => rw [hy] at hm; cases hm
    | some d0 =>
      rw [hy] at hm
      have e : (if (l.map (·.1)).contains y then d0.frz else d0) = .mut ds := Option.some.inj hm
      by_cases hc : (l.map (·.1)).contains y = true
      · rw [if_pos hc] at e
        have := D.frz_not d0
        rw [e] at this; cases this
      · rw [if_neg hc] at e
        have hn : l.lookup y = none := by
          cases hq : l.lookup y with
          | none => rfl
          | some c => exact absurd (by simpa using lookup_mem hq) hc
        obtain ⟨n, vs, m, lk, i⟩ := F3.muts y a ds (by show (l ++ own.adr).lookup y = _; rw [lookup_append_of, hn]; simpa using h) (e ▸ hy)
        exact ⟨n, vs, m, lk, i.less fun c h => .inl h⟩
theorem wr_plus {c : Addr} (h : Wr (own.plus l) env c) : Wr own env c ∨ ∃ p ∈ l, c = p.2 := by
  rcases h with h | ⟨n, hn, e⟩ | ⟨y, h⟩
  · exact .inl (.inl h)
  · exact .inl (.inr (.inl ⟨n, hn, e⟩))
  · rcases plus_lookup h with h | ⟨_, h⟩
    · exact .inr ⟨_, mem_of_lookup h, rfl⟩
    · exact .inl (.inr (.inr ⟨y, h⟩))

/-- x = [..], then written in place -/
theorem Exs.thaw {x : Str} {px lp pos : Pos} {es : List Expr} {ds : List D} {ss : List Stmt} (h : Evs prog w A sc cn ρ es ds) (hl : ds.length ≤ 1048576) (hk : May sc cn own x) (hs : ∀ env, Sh sc cn env → swapsWith (.List es lp) (some (.Name x px)) pos.line env = pure false)
    (hno : ∀ ds, ρ.lookup x ≠ some (.mut ds)) (hb : ∀ a, Exs prog w A sc cn (own.plus [(x, a)]) ((x, .mut ds) :: ρ) ss (.next ρ₁)) : Exs prog w A sc cn own ρ (.Assign [.Name x px] (.List es lp) pos :: ss) (.next (frzN [x] ρ₁)) := fun env X s H F Q E q => by
  refine wpAny_execs_cons (wpAny_Assign_Name (List_ (h env X lp s H F.sees _ E fun vs s1 k1 i1 => ?_)) (hs env H))
  have hlen := i1.length
  refine wpAny_newObj_type ?_
  have k2 : Kp s1 { s1 with heap := s1.heap.push { cls := .type "list", dict := none, data := .seq vs.toArray } } := Kp.push _ _
  have kk := k1.trans k2
  have hf : ∀ p ∈ [(x, s1.heap.objs.size)], s.heap.objs.size ≤ p.2 ∧ p.2 < ({ s1 with heap := s1.heap.push { cls := .type "list", dict := none, data := .seq vs.toArray } } : Shared).heap.objs.size := fun p hp => by
    simp only [List.mem_singleton] at hp
    subst hp
    exact ⟨k1.size, by show _ < (s1.heap.push _).objs.size; rw [Heap.size_push]; exact Nat.lt_succ_self _⟩
  have F1 := F.thaw kk hf (fun u v c hu hv => by
    have := lookup_mem hu; have h2 := lookup_mem hv
    simp only [List.map_cons, List.map_nil, List.mem_singleton] at this h2
    rw [this, h2]) (fun p hp ds => by
    simp only [List.mem_singleton] at hp
    subst hp
    exact hno ds)
  refine F1.storeV (d := .mut ds) H hk ⟨fun h => (by cases h), fun a ds' e ha => ?_⟩ fun s2 m2 _ F2 => ?_
  · cases e
    have : List.lookup x ((x, s1.heap.objs.size) :: own.adr) = some a := ha
    rw [List.lookup_cons, beq_self_eq_true] at this
    cases this
    refine ⟨rfl, vs, 0, Heap.get?_push_size _ rfl, ((i1.more (Y := fun c => ∃ p ∈ [(x, s1.heap.objs.size)], c = p.2) fun c ⟨p, hp, hc⟩ => ?_).keeps k2.heap)⟩
    simp only [List.mem_singleton] at hp
    subst hp
    rw [hc]; exact Heap.get?_none_of_le (Nat.le_refl _)
  · refine hb _ env _ s2 H F2 Q E fun f s3 m3 o3 => ?_
    obtain ⟨rfl, F3⟩ := o3
    exact q _ _ (Moves.news kk ((m2.trans m3).mono fun c h => wr_plus h) fun c ⟨p, hp, e⟩ => Heap.get?_none_of_le (e ▸ (hf p hp).1)) ⟨rfl, F.melt F3 fun p hp => (hf p hp).1⟩
end
end Mine
end

section
namespace Mine

section
variable {prog : Program} {w : World} {A : Around} {X X' : V0} {env cenv : Env} {ρ ρ₁ ρ₂ : Rho} {s s' s₀ s₁ s₂ : Shared} {sc scope tsc : Scope} {cn tcn town : List Str} {own : Own} {l : List (Str × Addr)}

theorem ordered_cons {M : Model} {t : Value → Sem Unit} {ts : List (Value → Sem Unit)} {v : Value} {vs : List Value} {Q : Unit → Shared → Prop} {E : Value → Shared → Prop} (h : wpAny M A (t v) (fun _ s' => wpAny M A (assignInOrder ts vs) Q E s') E s) : wpAny M A (assignInOrder (t :: ts) (v :: vs)) Q E s :=
  wpAny_bind (wpAny_holding h)
theorem ordered_nil {M : Model} {Q : Unit → Shared → Prop} {E : Value → Shared → Prop} (h : Q () s) : wpAny M A (assignInOrder [] []) Q E s := wpAny_pure h
/-- a new empty list -/
theorem list_new {p : Pos} {Q : Value → Shared → Prop} {E : Value → Shared → Prop} (q : ∀ s', Kp s s' → s'.heap.objs.size = s.heap.objs.size + 1 → IsL s'.heap s.heap.objs.size (List.toArray []) 0 → Q (.ref s.heap.objs.size) s') : wpAny (model prog w) A (eval (.List [] p) env) Q E s :=
  List_ (spliced_none (wpAny_newObj_type (q _ (Kp.push _ _) (Heap.size_push ..) (Heap.get?_push_size _ rfl))))

theorem four_new {v : Str} {ck k2 : Nat} {cp q1 q2 q3 tp : Pos} {Q : Value → Shared → Prop} {E : Value → Shared → Prop}
    (q : ∀ a b c t tk n s4, Kp s s4 → s.heap.objs.size ≤ a → a < b → b < c → c < s4.heap.objs.size → IsL s4.heap a (List.toArray []) 0 → IsL s4.heap b (List.toArray []) 0 → IsL s4.heap c (List.toArray []) 0 → IsT s4.heap t (List.toArray [.str v tk, .ref a, .ref b, .ref c]) n → Q (.ref t) s4) :
    wpAny (model prog w) A (eval (.Tuple [.Constant (.str v) ck cp, .List [] q1, .List [] q2, .List [] q3] k2 tp) env) Q E s := by
  refine Tuple_ (Calls.spliced_cons (Calls.Constant_str (k := ck) (pos := cp) ?_))
  refine Calls.spliced_cons (list_new fun s1 k1 z1 l1 => Calls.spliced_cons (list_new fun s2 k2 z2 l2 => Calls.spliced_cons (list_new fun s3 k3 z3 l3 => Calls.spliced_nil ?_)))
  refine wpAny_newObj_type ?_
  refine q _ _ _ _ s.toks 0 _ ((((Kp.tok s (s.toks + 1)).trans k1).trans k2).trans (k3.trans (Kp.push _ _))) (Nat.le_refl _) (by rw [z1]; exact Nat.lt_succ_self _) (by rw [z2]; exact Nat.lt_succ_self _) ?_ ?_ ?_ ?_ (Heap.get?_push_size _ rfl)
  · show _ < (s3.heap.push _).objs.size
    rw [Heap.size_push, z3]; omega
  · exact Heap.get?_push_of_some _ (k3.heap _ _ (k2.heap _ _ l1))
  · exact Heap.get?_push_of_some _ (k3.heap _ _ l2)
  · exact Heap.get?_push_of_some _ l3

set_option maxHeartbeats 1000000 in
/-- x, y, z, u = '..', [], [], []: the three are written in place -/
theorem Exs.thaw3 {x y z u : Str} {px py pz pu p cp q1 q2 q3 tp pos : Pos} {k k2 : Nat} {v : Str} {ck : Nat} {ss : List Stmt} (hh : A.handled = none)
    (hx : May sc cn own x) (hy : May sc cn own y) (hz : May sc cn own z) (hu : May sc cn own u) (hne : y ≠ z ∧ y ≠ u ∧ z ≠ u) (hno : ∀ n ∈ [y, z, u], ∀ ds, ρ.lookup n ≠ some (.mut ds))
    (hs : ∀ env, Sh sc cn env → swapsWithSole [.Tuple [.Name x px, .Name y py, .Name z pz, .Name u pu] k p] (.Tuple [.Constant (.str v) ck cp, .List [] q1, .List [] q2, .List [] q3] k2 tp) pos.line env = pure false)
    (hw : ∀ env, Sh sc cn env → swappedStores [.Tuple [.Name x px, .Name y py, .Name z pz, .Name u pu] k p] (.Tuple [.Constant (.str v) ck cp, .List [] q1, .List [] q2, .List [] q3] k2 tp) env = pure none)
    (hb : ∀ a b c, Exs prog w A sc cn (own.plus [(y, a), (z, b), (u, c)]) ((u, .mut []) :: (z, .mut []) :: (y, .mut []) :: (x, .str v) :: ρ) ss (.next ρ₁)) :
    Exs prog w A sc cn own ρ (.Assign [.Tuple [.Name x px, .Name y py, .Name z pz, .Name u pu] k p] (.Tuple [.Constant (.str v) ck cp, .List [] q1, .List [] q2, .List [] q3] k2 tp) pos :: ss) (.next (frzN [y, z, u] ρ₁)) := fun env X s H F Q E q => by
  refine wpAny_execs_cons (Assign_Tuple (four_new fun a b c t tk n s4 k4 g1 g2 g3 g4 la lb lc lt => ?_) (hs env H) (hw env H))
  have hf : ∀ p ∈ [(y, a), (z, b), (u, c)], s.heap.objs.size ≤ p.2 ∧ p.2 < s4.heap.objs.size := fun p hp => by
    simp only [List.mem_cons, List.not_mem_nil, or_false] at hp
    rcases hp with rfl | rfl | rfl
    · exact ⟨g1, Nat.lt_trans g2 (Nat.lt_trans g3 g4)⟩
    · exact ⟨Nat.le_trans g1 (Nat.le_of_lt g2), Nat.lt_trans g3 g4⟩
    · exact ⟨Nat.le_trans g1 (Nat.le_trans (Nat.le_of_lt g2) (Nat.le_of_lt g3)), g4⟩
  have n1 : a ≠ b := Nat.ne_of_lt g2
  have n2 : a ≠ c := Nat.ne_of_lt (Nat.lt_trans g2 g3)
  have n3 : b ≠ c := Nat.ne_of_lt g3
  have F1 := F.thaw k4 hf (fun m m' d hm hm' => by
    have h1 := mem_of_lookup hm; have h2 := mem_of_lookup hm'
    simp only [List.mem_cons, Prod.mk.injEq, List.not_mem_nil, or_false] at h1 h2
    rcases h1 with ⟨e1, e2⟩ | ⟨e1, e2⟩ | ⟨e1, e2⟩ <;> rcases h2 with ⟨f1, f2⟩ | ⟨f1, f2⟩ | ⟨f1, f2⟩ <;> first | exact e1.trans f1.symm | (exfalso; rw [e2] at f2; first | exact n1 f2 | exact n2 f2 | exact n3 f2 | exact n1 f2.symm | exact n2 f2.symm | exact n3 f2.symm)) (fun p hp ds => by
    simp only [List.mem_cons, List.not_mem_nil, or_false] at hp
    rcases hp with rfl | rfl | rfl <;> exact hno _ (by simp) ds)
  rw [arm_assign_Tuple]
  refine wpAny_bind (wpAny_standAt ?_)
  unfold PySem.unpack
  have e0 : assignEach [Expr.Name x px, .Name y py, .Name z pz, .Name u pu] env = [(false, PySem.assign (.Name x px) env), (false, PySem.assign (.Name y py) env), (false, PySem.assign (.Name z pz) env), (false, PySem.assign (.Name u pu) env)] := rfl
  have e1 : ([(false, PySem.assign (.Name x px) env), (false, PySem.assign (.Name y py) env), (false, PySem.assign (.Name z pz) env), (false, PySem.assign (.Name u pu) env)] : List (Bool × (Value → Sem Unit))).map (·.2) = [PySem.assign (.Name x px) env, PySem.assign (.Name y py) env, PySem.assign (.Name z pz) env, PySem.assign (.Name u pu) env] := rfl
  have e2 : ([(false, PySem.assign (.Name x px) env), (false, PySem.assign (.Name y py) env), (false, PySem.assign (.Name z pz) env), (false, PySem.assign (.Name u pu) env)] : List (Bool × (Value → Sem Unit))).length = (List.toArray [Value.str v tk, .ref a, .ref b, .ref c]).size := rfl
  have e3 : ([(false, PySem.assign (.Name x px) env), (false, PySem.assign (.Name y py) env), (false, PySem.assign (.Name z pz) env), (false, PySem.assign (.Name u pu) env)] : List (Bool × (Value → Sem Unit))).findIdx? (·.1) = none := rfl
  rw [e0, e1, e2, e3]
  clear e0 e1 e2 e3
  refine wpAny_bind (wpAny_holding (with_size (wpAny_unpackItems_tuple hh ⟨_, lt, rfl, n, rfl⟩ fun h' hx' zz => ?_)))
  have kp : Kp s4 { s4 with heap := h' } := ⟨⟨h', s4.toks, rfl⟩, fun b o e => hx' b o (Nat.ne_of_lt (Heap.lt_size e)) e, zz⟩
  have F2 := F1.keeps kp
  have la := kp.heap _ _ la
  have lb := kp.heap _ _ lb
  have lc := kp.heap _ _ lc
  have vy : ∀ {X : V0} {h : Heap}, IsL h a (List.toArray []) 0 → Val (own.plus [(y, a), (z, b), (u, c)]) X h y (.ref a) (.mut []) := fun l => ⟨fun h => (by cases h), fun a' ds' e ha => by
    cases e
    have : List.lookup y ((y, a) :: (z, b) :: (u, c) :: own.adr) = some a' := ha
    rw [List.lookup_cons, beq_self_eq_true] at this
    cases this
    exact ⟨rfl, [], 0, l, .nil⟩⟩
  have vz : ∀ {X : V0} {h : Heap}, IsL h b (List.toArray []) 0 → Val (own.plus [(y, a), (z, b), (u, c)]) X h z (.ref b) (.mut []) := fun l => ⟨fun h => (by cases h), fun a' ds' e ha => by
    cases e
    have : List.lookup z ((y, a) :: (z, b) :: (u, c) :: own.adr) = some a' := ha
    have hzy : (z == y) = false := by simpa using hne.1.symm
    rw [List.lookup_cons, hzy, List.lookup_cons, beq_self_eq_true] at this
    cases this
    exact ⟨rfl, [], 0, l, .nil⟩⟩
  have vu : ∀ {X : V0} {h : Heap}, IsL h c (List.toArray []) 0 → Val (own.plus [(y, a), (z, b), (u, c)]) X h u (.ref c) (.mut []) := fun l => ⟨fun h => (by cases h), fun a' ds' e ha => by
    cases e
    have : List.lookup u ((y, a) :: (z, b) :: (u, c) :: own.adr) = some a' := ha
    have huy : (u == y) = false := by simpa using hne.2.1.symm
    have huz : (u == z) = false := by simpa using hne.2.2.symm
    rw [List.lookup_cons, huy, List.lookup_cons, huz, List.lookup_cons, beq_self_eq_true] at this
    cases this
    exact ⟨rfl, [], 0, l, .nil⟩⟩
  refine ordered_cons (wpAny_assign_Name (F2.storeV (d := .str v) H hx (Is.str v tk).val fun s5 m5 p5 F5 => ?_))
  refine ordered_cons (wpAny_assign_Name (F5.storeV H hy (vy (p5 _ _ _ la)) fun s6 m6 p6 F6 => ?_))
  refine ordered_cons (wpAny_assign_Name (F6.storeV H hz (vz (p6 _ _ _ (p5 _ _ _ lb))) fun s7 m7 p7 F7 => ?_))
  refine ordered_cons (wpAny_assign_Name (F7.storeV H hu (vu (p7 _ _ _ (p6 _ _ _ (p5 _ _ _ lc)))) fun s8 m8 p8 F8 => ?_))
  refine ordered_nil ?_
  refine hb a b c env _ s8 H F8 Q E fun f s9 m9 o9 => ?_
  obtain ⟨rfl, F9⟩ := o9
  exact q _ _ (Moves.news (k4.trans kp) (((((m5.trans m6).trans m7).trans m8).trans m9).mono fun c h => wr_plus h) fun c ⟨p, hp, e⟩ => Heap.get?_none_of_le (e ▸ (hf p hp).1)) ⟨rfl, F.melt F9 fun p hp => (hf p hp).1⟩
end
end Mine
end

section
namespace Mine

def intIn : Option (Option Value) → Option Int
  | some (some (.int i _)) => some i
  | _ => none
def strIn : Option (Option Value) → Option Str
  | some (some (.str i _)) => some i
  | _ => none

section
variable {prog : Program} {w : World} {A : Around} {X X' : V0} {env cenv : Env} {ρ ρ₁ ρ₂ : Rho} {s s' s₀ s₁ s₂ : Shared} {sc scope tsc : Scope} {cn tcn town : List Str} {own : Own} {l : List (Str × Addr)}

theorem Ev.gI {x : Str} {pos : Pos} {i : Int} (hk : sc.names.lookup x = some .globalImplicit) (e : intIn (nsIn (KK w) mainGlobals x) = some i) (hd : (x == ("__debug__" : Str)) = false := by decide) : Ev prog w A sc cn ρ (.Name x pos) (.int i) := by
  unfold intIn at e
  split at e
  · rename_i h; cases e; exact Ev.globalI hk h hd
  · cases e
theorem Ev.gS {x y : Str} {pos : Pos} (hk : sc.names.lookup x = some .globalImplicit) (e : strIn (nsIn (KK w) mainGlobals x) = some y) (hd : (x == ("__debug__" : Str)) = false := by decide) : Ev prog w A sc cn ρ (.Name x pos) (.str y) := by
  unfold strIn at e
  split at e
  · rename_i h; cases e; exact Ev.globalS hk h hd
  · cases e

theorem Fun.of1 {n : Nat} {a : Addr} {oc : Value} {odd : Option Addr} {osl : Array (Option Value)} {fd : FuncData} {body : List Stmt} {d d1 : D} (x1 : Str) 
    (hl : (KK w).lookup a = some ⟨oc, odd, .func fd, osl⟩) (hc : codeIn (KK w) fd.code fd.qualname = true) (hb : fd.body = .stmts body) (hbind : ∀ v, bindArgs fd ⟨[v], []⟩ = pure [(x1, v)])
    (hloc : fd.scope.names.lookup x1 = some .local) (hcell : (fd.scope.names.all fun x => x.2 != .cell) = true) (hco : fd.scope.isCoroutine = false) (hgen : fd.scope.isGenerator = false) (hk : fd.scope.kind = .function) (hg : fd.globals = mainGlobals) (hbu : fd.builtins = builtinsNs) (hcl : fd.closure = [])
    (hex : ∀ A, Ok n A → Exs prog w A fd.scope [] noOwn [(x1, d1)] body (.ret d)) : Fun prog w (n + 1) a [d1] d := fun A X s vs Q E hA G hx hi q => by
  cases hi with | cons i r =>
  cases r
  rename_i v
  refine fun_run (n := n) [(x1, v, d1)] hA G hx hl hc hb (hbind v) ?_ ?_ hco hgen hk hg hbu hcl ?_ hex q
  · intro t ht; rw [List.mem_singleton.mp ht]; exact hloc
  · intro x hx; have := List.all_eq_true.mp hcell x hx; simpa using this
  · intro t ht; rw [List.mem_singleton.mp ht]; exact i
theorem Fun.of2 {n : Nat} {a : Addr} {oc : Value} {odd : Option Addr} {osl : Array (Option Value)} {fd : FuncData} {body : List Stmt} {d d1 d2 : D} (x1 x2 : Str) 
    (hl : (KK w).lookup a = some ⟨oc, odd, .func fd, osl⟩) (hc : codeIn (KK w) fd.code fd.qualname = true) (hb : fd.body = .stmts body) (hbind : ∀ v u, bindArgs fd ⟨[v, u], []⟩ = pure [(x1, v), (x2, u)])
    (hloc : fd.scope.names.lookup x1 = some .local) (hloc2 : fd.scope.names.lookup x2 = some .local) (hcell : (fd.scope.names.all fun x => x.2 != .cell) = true) (hco : fd.scope.isCoroutine = false) (hgen : fd.scope.isGenerator = false) (hk : fd.scope.kind = .function) (hg : fd.globals = mainGlobals) (hbu : fd.builtins = builtinsNs) (hcl : fd.closure = [])
    (hex : ∀ A, Ok n A → Exs prog w A fd.scope [] noOwn [(x2, d2), (x1, d1)] body (.ret d)) : Fun prog w (n + 1) a [d1, d2] d := fun A X s vs Q E hA G hx hi q => by
  cases hi with | cons i r =>
  cases r with | cons i2 r =>
  cases r
  rename_i v u
  refine fun_run (n := n) [(x1, v, d1), (x2, u, d2)] hA G hx hl hc hb (hbind v u) ?_ ?_ hco hgen hk hg hbu hcl ?_ hex q
  · intro t ht
    simp only [List.mem_cons, List.not_mem_nil, or_false] at ht
    rcases ht with rfl | rfl
    · exact hloc
    · exact hloc2
  · intro x hx; have := List.all_eq_true.mp hcell x hx; simpa using this
  · intro t ht
    simp only [List.mem_cons, List.not_mem_nil, or_false] at ht
    rcases ht with rfl | rfl
    · exact i
    · exact i2

theorem fun_isterminal {x : Int} : Fun prog w 2 131 [.int x] (.bool (decide (x < 256))) := by
  refine Fun.of1 (n := 1) (Str.ofString "x") (by rfl) (by kernel_rfl) rfl (fun _ => rfl) rfl rfl rfl rfl rfl rfl rfl rfl fun A hA => ?_
  refine Exs.ret (Ex.ret ?_)
  exact Ev.cmp (Ev.name rfl) (Ev.gI (i := 256) rfl (by kernel_rfl)) Cmp.ltI


theorem Sub.nil : Sub [] ρ := fun _ _ h => by cases h
theorem Sub.cons {x : Str} {d : D} (h : ρ.lookup x = some d) (r : Sub ρ₁ ρ) : Sub ((x, d) :: ρ₁) ρ := fun y e hy => by
  rw [lookup_cons_of] at hy
  by_cases hyx : y = x
  · rw [if_pos hyx] at hy; cases hy; rw [hyx]; exact h
  · rw [if_neg hyx] at hy; exact r y e hy
end

/-- a column, sign by sign -/
def colStep (z c : Int) (ch : Nat) : Int := if ch = 32 then c + 1 else c.fdiv z * z + z
def columnOf (z : Int) (x : List Nat) : Int := x.foldl (colStep z) 0
def columnsOf (x : List Nat) : List Int := [columnOf 1 x, columnOf 2 x, columnOf 3 x, columnOf 4 x, columnOf 5 x, columnOf 6 x]
theorem columnOf_bound {z : Int} (h0 : 1 ≤ z) (h6 : z ≤ 6) (x : List Nat) : 0 ≤ columnOf z x ∧ columnOf z x ≤ 6 * x.length := by
  unfold columnOf
  suffices ∀ (x : List Nat) (c : Int), 0 ≤ c → 0 ≤ x.foldl (colStep z) c ∧ x.foldl (colStep z) c ≤ c + 6 * x.length by
    have := this x 0 (by omega); omega
  intro x
  induction x with
  | nil => intro c hc; simp; exact hc
  | cons a x ih =>
    intro c hc
    rw [List.foldl_cons, List.length_cons]
    have hb : 0 ≤ colStep z c a ∧ colStep z c a ≤ c + 6 := by
      unfold colStep
      split
      · omega
      · have e := Int.fdiv_eq_ediv_of_nonneg c (show 0 ≤ z by omega)
        rw [e]
        have h1 := Int.emod_add_mul_ediv c z
        have h2 := Int.emod_nonneg c (show z ≠ 0 by omega)
        have h3 := Int.ediv_nonneg hc (show 0 ≤ z by omega)
        have h4 : c / z * z = z * (c / z) := Int.mul_comm _ _
        have h5 : 0 ≤ z * (c / z) := Int.mul_nonneg (by omega) h3
        omega
    have := ih (colStep z c a) hb.1
    omega

section
variable {prog : Program} {w : World} {A : Around} {X X' : V0} {env cenv : Env} {ρ ρ₁ ρ₂ : Rho} {s s' s₀ s₁ s₂ : Shared} {sc scope tsc : Scope} {cn tcn town : List Str} {own : Own} {l : List (Str × Addr)}
theorem fold_next {α : Type} (f : α → Nat → α) (a : α) (x : Array Nat) (j : Nat) (h : j < x.size) : (x.toList.take (j + 1)).foldl f a = f ((x.toList.take j).foldl f a) (x.getD j 0) := by
  have h' : j < x.toList.length := by simpa using h
  rw [List.take_succ_eq_append_getElem h', List.foldl_append]
  simp [Array.getD, h]
theorem bits_small {x : Int} (h : x.natAbs < 2 ^ 62) : Builtin.Int.intBits x ≤ 64 := by
  unfold Builtin.Int.intBits
  split
  · omega
  · rename_i h0
    have h0 : x.natAbs ≠ 0 := by simpa using h0
    have := (Nat.log2_lt h0).mpr h
    omega
theorem one_eq {a b : Nat} : ((⟨#[a]⟩ : Str) == ⟨#[b]⟩) = decide (a = b) := by
  by_cases h : a = b
  · subst h; simp
  · rw [decide_eq_false h, beq_eq_false_iff_ne]
    intro e; injection e with e; simp at e; exact h e
theorem fun_columns {x : Str} (hx : x.cps.size ≤ 1000) : Fun prog w 2 138 [.str x] (.list ((columnsOf x.cps.toList).map D.int)) := by
  refine Fun.of1 (n := 1) (Str.ofString "lead") (by rfl) (by kernel_rfl) rfl (fun _ => rfl) rfl rfl rfl rfl rfl rfl rfl rfl fun A hA => ?_
  refine Exs.append (ss := [_, _]) (ts := [_]) (Exs.thaw (ρ₁ := [(Str.ofString "columns", .mut ((columnsOf x.cps.toList).map D.int)), (Str.ofString "lead", .str x)]) Evs.nil (by decide) (.inl rfl) (fun _ _ => rfl) (fun _ h => by cases h) fun a => Exs.one ?_) (Exs.ret (Ex.ret (Ev.name rfl)))
  refine Ex.for (It.range2 hA.hh Ev.int Ev.int (.inl rfl) rfl (by kernel_rfl) (by decide) (by decide) (by decide) (by decide))
    (fun i => [(Str.ofString "columns", .mut (((columnsOf x.cps.toList).map D.int).take i)), (Str.ofString "lead", .str x)]) 6 (by decide) (Sub.cons rfl (Sub.cons rfl .nil)) (fun i hi => ?_) (.inl ⟨rfl, by rfl⟩)
  have z0 : (1 : Int) ≤ 1 + i := by omega
  have z6 : (1 : Int) + i ≤ 6 := by omega
  refine ⟨_, Exs.cons (Ex.assign Ev.int (.inl rfl) (fun _ _ => rfl)) (Exs.cons (Ex.for (It.str hA.hh (Ev.name rfl) (.inl rfl))
    (fun j => [(Str.ofString "column", .int ((x.cps.toList.take j).foldl (colStep (1 + i)) 0)), (Str.ofString "size", .int (1 + i)), (Str.ofString "columns", .mut (((columnsOf x.cps.toList).map D.int).take i)), (Str.ofString "lead", .str x)]) x.cps.size (Nat.le_refl _) (Sub.cons rfl (Sub.cons rfl (Sub.cons rfl (Sub.cons rfl .nil)))) (fun j hj => ?_) (.inl ⟨rfl, rfl⟩))
      (Exs.one (Ex.append (a := a) rfl rfl (Ev.f (Ev.name rfl)).m rfl (by simp; omega)))), Sub.cons ?_ (Sub.cons rfl .nil)⟩
  · generalize hc : (x.cps.toList.take j).foldl (colStep (1 + i)) 0 = c
    have hb := columnOf_bound z0 z6 (x.cps.toList.take j)
    unfold columnOf at hb
    rw [hc] at hb
    refine ⟨_, Exs.one (Ex.assign (Ev.ifExp (d := .int (colStep (1 + i) c (x.cps.getD j 0))) (Te.cmp (Ev.name rfl) Ev.str Cmp.eqS) (fun hb => ?_) fun hb => ?_) (.inl rfl) (fun _ _ => rfl)), Sub.cons ?_ (Sub.cons rfl (Sub.cons rfl (Sub.cons rfl .nil)))⟩
    · have e : colStep (1 + i) c (x.cps.getD j 0) = c + 1 := by
        have : x.cps.getD j 0 = 32 := (of_decide_eq_true (one_eq.symm.trans hb : decide _ = true))
        unfold colStep; rw [if_pos this]
      rw [e]; exact Ev.bin (Ev.name rfl) Ev.int Bin.addI
    · have e : colStep (1 + i) c (x.cps.getD j 0) = c.fdiv (1 + i) * (1 + i) + (1 + i) := by
        have : ¬ x.cps.getD j 0 = 32 := (of_decide_eq_false (one_eq.symm.trans hb : decide _ = false))
        unfold colStep; rw [if_neg this]
      rw [e]
      exact Ev.bin (Ev.bin (Ev.bin (Ev.name rfl) (Ev.name rfl) (Bin.divI (by omega) (by omega))) (Ev.name rfl) (Bin.mulI (IntMulOk.of_right (bits_small (by omega))))) (Ev.name rfl) Bin.addI
    · show some (D.int (colStep (1 + i) c (x.cps.getD j 0))) = _
      rw [fold_next _ _ _ _ hj, hc]
  · show some (D.mut (((columnsOf x.cps.toList).map D.int).take i ++ [D.int ((x.cps.toList.take x.cps.size).foldl (colStep (1 + i)) 0)])) = some (D.mut (((columnsOf x.cps.toList).map D.int).take (i + 1)))
    have e : x.cps.toList.take x.cps.size = x.cps.toList := List.take_of_length_le (Nat.le_of_eq Array.length_toList)
    rw [e]
    match i, hi with
    | 0, _ => rfl
    | 1, _ => rfl
    | 2, _ => rfl
    | 3, _ => rfl
    | 4, _ => rfl
    | 5, _ => rfl
end
end Mine
end

section
namespace Mine

theorem eqv_ints : ∀ (a b : List Int), PyData.eqvAll (D.pys (a.map D.int)) (D.pys (b.map D.int)) = decide (a = b)
  | [], [] => rfl
  | [], _ :: _ => rfl
  | _ :: _, [] => rfl
  | a :: as, b :: bs => by
    show (PyData.eqv (.int a) (.int b) && PyData.eqvAll (D.pys (as.map D.int)) (D.pys (bs.map D.int))) = _
    rw [eqv_ints as bs]
    show ((a == b) && _) = _
    by_cases h : a = b <;> by_cases h2 : as = bs <;> simp [h, h2]
theorem eqv_norm (a b : List Int) (i j : Int) : PyData.eqv (D.py (.tuple [.tuple (a.map D.int), .int i])) (D.py (.tuple [.tuple (b.map D.int), .int j])) = decide (a = b ∧ i = j) := by
  show (PyData.eqvAll (D.pys (a.map D.int)) (D.pys (b.map D.int)) && ((i == j) && true)) = _
  rw [eqv_ints]
  by_cases h : a = b <;> by_cases h2 : i = j <;> simp [h, h2]
theorem plains_ints : ∀ a : List Int, D.plains (a.map D.int) = true
  | [] => rfl
  | a :: as => by show (true && D.plains (as.map D.int)) = true; rw [plains_ints as]; rfl

/-- the longest run, the levels -/
def longestW (count : List Int) (b : Int) : Int := max (count.length - 1) b
def ilW (count : List Int) (z : Nat) : Int := (List.range (count.length - z)).foldl (fun il (i : Nat) => il + ((z : Int) + (i : Int)).fdiv z * count.getD (z + i) 0) 0
def indentW (nt : Int) (count : List Int) (b : Int) (z : Nat) : Int := b + z * (ilW count z + nt)

section
variable {prog : Program} {w : World} {A : Around} {X X' : V0} {env cenv : Env} {ρ ρ₁ ρ₂ : Rho} {s s' s₀ s₁ s₂ : Shared} {sc scope tsc : Scope} {cn tcn town : List Str} {own : Own} {l : List (Str × Addr)}

theorem Te.bool {e : Expr} {b : Bool} (h : Ev prog w A sc cn ρ e (.bool b)) (he : ∀ env whole, isTrue e env whole = (do let v ← whole; standAt e.pos; holding [v] (truthy v)) := by intro _ _; rfl) : Te prog w A sc cn ρ e b := fun env X s H S Q E q =>
  isTrue_plain (h env X s H S _ E fun v s1 k1 i1 => by cases i1; exact wpAny_truthy_bool (q _ k1)) (he _ _)
theorem Ev.idxT {v i : Expr} {pos : Pos} {ds : List D} {k : Int} {d : D} (hv : Ev prog w A sc cn ρ v (.tuple ds)) (hi : Ev prog w A sc cn ρ i (.int k)) (h0 : 0 ≤ k) (h1 : k < 2 ^ 62) (hd : ds[k.toNat]? = some d)
    (hs : ∀ o i', subscripted i false o i' = operate [o, i'] (getItem o i') := by intro _ _; rfl) : Ev prog w A sc cn ρ (.Subscript v i pos) d := fun env X s H S Q E q =>
  Subscript_ (hv env X s H S _ E fun v1 s1 k1 i1 => hi env X s1 H (S.keeps k1) _ E fun v2 s2 k2 i2 => by
    have i1 := i1.keeps k2.heap
    cases i2
    cases i1 with | tuple n l r =>
    rename_i vs _
    obtain ⟨u, hu, iu⟩ := r.get hd
    have klt : k.toNat < vs.length := by
      rcases Nat.lt_or_ge k.toNat vs.length with h | h
      · exact h
      · rw [List.getElem?_eq_none h] at hu; cases hu
    refine tail_any ⟨_, l, rfl⟩ PySem.F.slot_tuple_getitem.lookup (P.getItem_tuple (k := k.toNat) l (by omega) (by omega) ?_ (by simpa using hu) (q _ _ (k1.trans k2) iu)) (hs _ _)
    have e : k = ((k.toNat : Nat) : Int) := by omega
    rw [e]
    unfold seqIndex?
    have hs : (List.toArray vs).size = vs.length := by simp
    rw [hs]
    dsimp only
    have h1 : ¬ ((k.toNat : Int) < 0) := by omega
    simp [h1, klt]
    first | omega | rfl | skip)

theorem plain_norm (a : List Int) (i : Int) : D.plain (.tuple [.tuple (a.map D.int), .int i]) = true := by
  show (D.plains (a.map D.int) && true) = true
  rw [plains_ints]; rfl
theorem depth_ints : ∀ a : List Int, PyData.depthAll (D.pys (a.map D.int)) ≤ 1
  | [] => by show 0 ≤ 1; omega
  | a :: as => by
    have := depth_ints as
    show max (PyData.depth (.int a)) (PyData.depthAll (D.pys (as.map D.int))) ≤ 1
    have h : PyData.depth (.int a) ≤ 1 := by show 0 ≤ 1; omega
    omega
theorem depth_norm (a : List Int) (i : Int) : (D.py (.tuple [.tuple (a.map D.int), .int i])).depth ≤ 64 := by
  have := depth_ints a
  show max (PyData.depthAll (D.pys (a.map D.int)) + 1) (max (PyData.depth (.int i)) 0) + 1 ≤ 64
  have h : PyData.depth (.int i) ≤ 1 := by show 0 ≤ 1; omega
  omega
abbrev mW (raw : Str) (n nt : Int) (count : List Int) (b : Int) (simple : Bool) : D := .white raw n nt count b simple

theorem fun_longest {raw : Str} {n nt b : Int} {count : List Int} {simple : Bool} (hc : count.length ≤ 1048576) : Fun prog w 3 62 [.white raw n nt count b simple] (.int (longestW count b)) := by
  refine Fun.of1 (n := 2) (Str.ofString "self") (by rfl) (by kernel_rfl) rfl (fun _ => rfl) rfl rfl rfl rfl rfl rfl rfl rfl fun A hA => ?_
  refine Exs.cons (Ex.unpack2 hA.hh (Ev.attr (Ev.name rfl) rfl) (.inl rfl) (.inl rfl) (fun _ _ => rfl) (fun _ _ => rfl)) (Exs.ret (Ex.ret ?_))
  refine Ev.callB2 rfl (by kernel_rfl) bb_max (Ev.bin (Ev.callB1 rfl (by kernel_rfl) bb_len (Ev.name rfl) (fun X s v _ i => gives_lenT i (by simpa using hc))) Ev.int Bin.subI) (Ev.name rfl) (fun X s v u _ i j => ?_)
  have := gives_max (prog := prog) (w := w) hA.hh i j
  rw [List.length_map] at this
  exact this
theorem fun_equal {raw raw' : Str} {n nt b n' nt' b' : Int} {count count' : List Int} {simple simple' : Bool} : Fun prog w 3 76 [.white raw n nt count b simple, .white raw' n' nt' count' b' simple'] (.bool (decide (count = count' ∧ b = b'))) := by
  refine Fun.of2 (n := 2) (Str.ofString "self") (Str.ofString "other") (by rfl) (by kernel_rfl) rfl (fun _ _ => rfl) rfl rfl rfl rfl rfl rfl rfl rfl rfl fun A hA => ?_
  refine Exs.ret (Ex.ret ?_)
  rw [← eqv_norm]
  exact Ev.cmp (Ev.attr (Ev.name rfl) rfl) (Ev.attr (Ev.name rfl) rfl) (Cmp.eqD hA (plain_norm _ _) (plain_norm _ _) (depth_norm _ _) (depth_norm _ _))
theorem fun_indent {raw : Str} {n nt b : Int} {count : List Int} {simple : Bool} {z : Nat} (hz : 1 ≤ z) (hz2 : z < 2 ^ 30) (hc : count.length ≤ 1048576) (hcb : ∀ c ∈ count, c.natAbs < 2 ^ 62) :
    Fun prog w 3 69 [.white raw n nt count b simple, .int z] (.int (indentW nt count b z)) := by
  refine Fun.of2 (n := 2) (Str.ofString "self") (Str.ofString "tabsize") (by rfl) (by kernel_rfl) rfl (fun _ _ => rfl) rfl rfl rfl rfl rfl rfl rfl rfl rfl fun A hA => ?_
  refine Exs.cons (Ex.unpack2 hA.hh (Ev.attr (Ev.name rfl) rfl) (.inl rfl) (.inl rfl) (fun _ _ => rfl) (fun _ _ => rfl)) (Exs.cons (Ex.assign Ev.int (.inl rfl) (fun _ _ => rfl)) ?_)
  refine Exs.cons (Ex.for (It.range2 hA.hh (Ev.name rfl) (Ev.callB1 rfl (by kernel_rfl) bb_len (Ev.name rfl) (fun X s v _ i => gives_lenT i (by simpa using hc))) (.inl rfl) rfl (by kernel_rfl) (by omega) (by omega) (by omega) (by rw [List.length_map]; omega))
    (fun i => [(Str.ofString "il", .int ((List.range i).foldl (fun il (i : Nat) => il + ((z : Int) + (i : Int)).fdiv z * count.getD (z + i) 0) 0)), (Str.ofString "trailing", .int b), (Str.ofString "count", .tuple (count.map .int)), (Str.ofString "tabsize", .int z), (Str.ofString "self", .white raw n nt count b simple)])
    (count.length - z) (by rw [List.length_map]; omega) ?_ (fun i hi => ?_) (.inl ⟨by rw [List.length_map]; omega, rfl⟩)) ?_
  · exact Sub.cons rfl (Sub.cons rfl (Sub.cons rfl (Sub.cons rfl (Sub.cons rfl .nil))))
  · have hlt : z + i < count.length := by omega
    have hi' : (z : Int) + (i : Int) = ((z + i : Nat) : Int) := by omega
    have hg : (count.map D.int)[((z : Int) + (i : Int)).toNat]? = some (D.int (count.getD (z + i) 0)) := by
      rw [hi', Int.toNat_natCast, List.getElem?_map, List.getD_eq_getElem?_getD, List.getElem?_eq_getElem hlt]; rfl
    have hcc : (count.getD (z + i) 0).natAbs < 2 ^ 62 := by
      rw [List.getD_eq_getElem?_getD, List.getElem?_eq_getElem hlt]; exact hcb _ (List.getElem_mem hlt)
    refine ⟨_, Exs.one (Ex.assign (Ev.bin (Ev.name rfl) (Ev.bin (Ev.bin (Ev.name rfl) (Ev.name rfl) (Bin.divI (by omega) (by omega))) (Ev.idxT (Ev.name rfl) (Ev.name rfl) (by omega) (by omega) hg) (Bin.mulI (IntMulOk.of_right (bits_small hcc)))) Bin.addI) (.inl rfl) (fun _ _ => rfl)), Sub.cons ?_ (Sub.cons rfl (Sub.cons rfl (Sub.cons rfl (Sub.cons rfl .nil))))⟩
    show some (D.int _) = some (D.int _)
    rw [List.range_succ, List.foldl_append]; rfl
  · have e : (((count.map D.int).length : Int) - (z : Int)).toNat = count.length - z := by rw [List.length_map]; omega
    have e2 : indentW nt count b z = b + z * ((List.range (((count.map D.int).length : Int) - (z : Int)).toNat).foldl (fun il (i : Nat) => il + ((z : Int) + (i : Int)).fdiv z * count.getD (z + i) 0) 0 + nt) := by rw [e]; rfl
    rw [e2]
    exact Exs.ret (Ex.ret (Ev.bin (Ev.name rfl) (Ev.bin (Ev.name rfl) (Ev.bin (Ev.name rfl) (Ev.attr (Ev.name rfl) rfl) Bin.addI) (Bin.mulI (IntMulOk.of_left (bits_small (by omega))))) Bin.addI))
end
end Mine
end

section
namespace Mine

def lessW (n nt : Int) (c : List Int) (b : Int) (simple : Bool) (n' nt' : Int) (c' : List Int) (b' : Int) (simple' : Bool) : Bool :=
  if n ≥ n' then false else if simple && simple' then decide (nt ≤ nt') else (List.range (max (longestW c b) (longestW c' b')).toNat).all fun i => decide (indentW nt c b (2 + i) < indentW nt' c' b' (2 + i))

theorem range_all (p : Nat → Bool) : ∀ n, ((List.range n).all p = true ∧ ∀ i, i < n → p i = true) ∨ ((List.range n).all p = false ∧ ∃ k, k < n ∧ p k = false ∧ ∀ i, i < k → p i = true)
  | 0 => .inl ⟨rfl, fun i h => by omega⟩
  | n + 1 => by
    rcases range_all p n with ⟨h1, h2⟩ | ⟨h1, k, h2, h3, h4⟩
    · cases hp : p n with
      | true => exact .inl ⟨by rw [List.range_succ, List.all_append, h1]; simp [hp], fun i hi => by rcases Nat.lt_succ_iff_lt_or_eq.mp hi with h | h; exact h2 i h; rw [h]; exact hp⟩
      | false => exact .inr ⟨by rw [List.range_succ, List.all_append]; simp [hp], n, Nat.lt_succ_self _, hp, h2⟩
    · exact .inr ⟨by rw [List.range_succ, List.all_append, h1]; rfl, k, Nat.lt_succ_of_lt h2, h3, h4⟩

section
variable {prog : Program} {w : World} {A : Around} {X X' : V0} {env cenv : Env} {ρ ρ₁ ρ₂ : Rho} {s s' s₀ s₁ s₂ : Shared} {sc scope tsc : Scope} {cn tcn town : List Str} {own : Own} {l : List (Str × Addr)}

theorem fun_less {raw raw' : Str} {n nt b n' nt' b' : Int} {c c' : List Int} {simple simple' : Bool} (hl : c.length ≤ 1048576) (hl' : c'.length ≤ 1048576) (hb : b < 2 ^ 29) (hb' : b' < 2 ^ 29)
    (hcb : ∀ x ∈ c, x.natAbs < 2 ^ 62) (hcb' : ∀ x ∈ c', x.natAbs < 2 ^ 62) :
    Fun prog w 5 90 [.white raw n nt c b simple, .white raw' n' nt' c' b' simple'] (.bool (lessW n nt c b simple n' nt' c' b' simple')) := by
  refine Fun.of2 (n := 4) (Str.ofString "self") (Str.ofString "other") (by rfl) (by kernel_rfl) rfl (fun _ _ => rfl) rfl rfl rfl rfl rfl rfl rfl rfl rfl fun A hA => ?_
  unfold lessW
  by_cases hn : n ≥ n'
  · rw [if_pos hn]
    exact Exs.ret (Ex.if (c := decide (n ≥ n')) (Te.cmp (Ev.attr (Ev.name rfl) rfl) (Ev.attr (Ev.name rfl) rfl) Cmp.geI) (fun _ => Exs.ret (Ex.ret Ev.bool)) (fun h => absurd hn (of_decide_eq_false h)))
  rw [if_neg hn]
  refine Exs.cons (Ex.if (c := decide (n ≥ n')) (Te.cmp (Ev.attr (Ev.name rfl) rfl) (Ev.attr (Ev.name rfl) rfl) Cmp.geI) (fun h => absurd (of_decide_eq_true h) hn) (fun _ => Exs.nil)) ?_
  by_cases hs : (simple && simple') = true
  · rw [if_pos hs]
    exact Exs.ret (Ex.if (c := simple && simple') (Te.and2 (Te.bool (Ev.attr (Ev.name rfl) rfl)) fun _ => Te.bool (Ev.attr (Ev.name rfl) rfl)) (fun _ => Exs.ret (Ex.ret (Ev.cmp (Ev.attr (Ev.name rfl) rfl) (Ev.attr (Ev.name rfl) rfl) Cmp.leI))) (fun h => absurd hs (by rw [h]; decide)))
  rw [if_neg hs]
  refine Exs.cons (Ex.if (c := simple && simple') (Te.and2 (Te.bool (Ev.attr (Ev.name rfl) rfl)) fun _ => Te.bool (Ev.attr (Ev.name rfl) rfl)) (fun h => absurd h hs) (fun _ => Exs.nil)) ?_
  refine Exs.cons (Ex.assign (Ev.bin (Ev.callB2 rfl (by kernel_rfl) bb_max (Ev.meth0 (n := 3) (hA.le (by decide)) (Ev.name rfl) (by kernel_rfl) (by kernel_rfl) (by kernel_rfl) rfl (fun_longest hl) rfl) (Ev.meth0 (n := 3) (hA.le (by decide)) (Ev.name rfl) (by kernel_rfl) (by kernel_rfl) (by kernel_rfl) rfl (fun_longest hl') rfl) (fun X s v u _ i j => gives_max hA.hh i j)) Ev.int Bin.addI) (.inl rfl) (fun _ _ => rfl)) ?_
  generalize hm : max (longestW c b) (longestW c' b') = m
  have hm0 : m < 2 ^ 29 := by rw [← hm]; unfold longestW; omega
  have hm1 : -1 ≤ m := by rw [← hm]; unfold longestW; omega
  have hcount : (m + 1 + 1 - 2).toNat = m.toNat := by omega
  have hind : ∀ {r1 : Str} {n1 t1 b1 : Int} {c1 : List Int} {q1 : Bool} (i : Nat), i < m.toNat → c1.length ≤ 1048576 → (∀ x ∈ c1, x.natAbs < 2 ^ 62) → Fun prog w 3 69 [.white r1 n1 t1 c1 b1 q1, .int (2 + (i : Int))] (.int (indentW t1 c1 b1 (2 + i))) := fun {r1 n1 t1 b1 c1 q1} i hi hl hcb => by
    have h := fun_indent (prog := prog) (w := w) (raw := r1) (n := n1) (nt := t1) (b := b1) (simple := q1) (z := 2 + i) (by omega) (by omega) hl hcb
    have e : (((2 + i : Nat)) : Int) = 2 + (i : Int) := by omega
    rw [e] at h
    exact h
  generalize hp : (fun i : Nat => decide (indentW nt c b (2 + i) < indentW nt' c' b' (2 + i))) = p
  have hpi : ∀ i : Nat, decide (indentW nt c b (2 + i) < indentW nt' c' b' (2 + i)) = p i := fun i => by rw [← hp]
  let R : Rho := [(Str.ofString "n", .int (m + 1)), (Str.ofString "other", D.white raw' n' nt' c' b' simple'), (Str.ofString "self", D.white raw n nt c b simple)]
  rcases range_all p m.toNat with ⟨ha, hf⟩ | ⟨ha, k, hk, hkf, hf⟩
  · rw [ha]
    refine Exs.cons (Ex.for (It.range2 hA.hh Ev.int (Ev.bin (Ev.name rfl) Ev.int Bin.addI) (.inl rfl) rfl (by kernel_rfl) (by decide) (by decide) (by omega) (by omega)) (fun _ => R) m.toNat (by omega) (Sub.cons rfl (Sub.cons rfl (Sub.cons rfl .nil))) (fun i hi => ?_) (.inl ⟨hcount.symm, rfl⟩)) (Exs.ret (Ex.ret Ev.bool))
    refine ⟨_, Exs.one (Ex.if (c := decide (indentW nt c b (2 + i) ≥ indentW nt' c' b' (2 + i))) (Te.cmp (Ev.meth (n := 3) (hA.le (by decide)) (Ev.name rfl) (Evs.cons (Ev.name rfl) .nil) (by kernel_rfl) (by kernel_rfl) (by kernel_rfl) (.inr (.inr rfl)) (hind i hi hl hcb) rfl)
      (Ev.meth (n := 3) (hA.le (by decide)) (Ev.name rfl) (Evs.cons (Ev.name rfl) .nil) (by kernel_rfl) (by kernel_rfl) (by kernel_rfl) (.inr (.inr rfl)) (hind i hi hl' hcb') rfl) Cmp.geI) (fun h => ?_) (fun _ => Exs.nil)), Sub.cons rfl (Sub.cons rfl (Sub.cons rfl .nil))⟩
    have h1 := of_decide_eq_true h
    have h2 := of_decide_eq_true ((hpi i).trans (hf i hi))
    exact absurd h2 (by omega)
  · rw [ha]
    refine Exs.ret (Ex.for (It.range2 hA.hh Ev.int (Ev.bin (Ev.name rfl) Ev.int Bin.addI) (.inl rfl) rfl (by kernel_rfl) (by decide) (by decide) (by omega) (by omega)) (fun _ => R) k (by omega) (Sub.cons rfl (Sub.cons rfl (Sub.cons rfl .nil))) (fun i hi => ?_) (.inr ⟨by omega, .inr ⟨.bool false, ?_, rfl⟩⟩))
    · have hi' : i < m.toNat := by omega
      refine ⟨_, Exs.one (Ex.if (c := decide (indentW nt c b (2 + i) ≥ indentW nt' c' b' (2 + i))) (Te.cmp (Ev.meth (n := 3) (hA.le (by decide)) (Ev.name rfl) (Evs.cons (Ev.name rfl) .nil) (by kernel_rfl) (by kernel_rfl) (by kernel_rfl) (.inr (.inr rfl)) (hind i hi' hl hcb) rfl)
        (Ev.meth (n := 3) (hA.le (by decide)) (Ev.name rfl) (Evs.cons (Ev.name rfl) .nil) (by kernel_rfl) (by kernel_rfl) (by kernel_rfl) (.inr (.inr rfl)) (hind i hi' hl' hcb') rfl) Cmp.geI) (fun h => ?_) (fun _ => Exs.nil)), Sub.cons rfl (Sub.cons rfl (Sub.cons rfl .nil))⟩
      have h1 := of_decide_eq_true h
      have h2 := of_decide_eq_true ((hpi i).trans (hf i hi))
      exact absurd h2 (by omega)
    · refine Exs.one (Ex.if (c := decide (indentW nt c b (2 + k) ≥ indentW nt' c' b' (2 + k))) (Te.cmp (Ev.meth (n := 3) (hA.le (by decide)) (Ev.name rfl) (Evs.cons (Ev.name rfl) .nil) (by kernel_rfl) (by kernel_rfl) (by kernel_rfl) (.inr (.inr rfl)) (hind k hk hl hcb) rfl)
        (Ev.meth (n := 3) (hA.le (by decide)) (Ev.name rfl) (Evs.cons (Ev.name rfl) .nil) (by kernel_rfl) (by kernel_rfl) (by kernel_rfl) (.inr (.inr rfl)) (hind k hk hl' hcb') rfl) Cmp.geI) (fun _ => Exs.one (Ex.ret Ev.bool)) (fun h => ?_))
      have h1 := of_decide_eq_false h
      have h2 := of_decide_eq_false ((hpi k).trans hkf)
      exact absurd h1 (by omega)
end
end Mine
end

section
namespace Mine

mutual
/-- data that no instance is in -/
def D.clean : D → Bool
  | .list ds => D.cleans ds
  | .tuple ds => D.cleans ds
  | .newl _ ds => D.cleans ds
  | .none | .bool _ | .int _ | .str _ => true
  | _ => false
def D.cleans : List D → Bool
  | [] => true
  | d :: ds => d.clean && D.cleans ds
end
/-- no list, no tuple -/
def notSeq (o : Obj) : Prop := ∀ items n, o.data ≠ .seq items n
mutual
theorem clean_keep {X X' : V0} {h h' : Heap} {e : Addr} {oe : Obj} (he : h.get? e = some oe) (hn : notSeq oe) (hx : ∀ c, X' c → X c) (hk : ∀ c o, c ≠ e → ¬ X c → h.get? c = some o → h'.get? c = some o) :
    ∀ (d : D) {v : Value}, Is X h v d → d.clean = true → Is X' h' v d
  | .none, _, i, _ => by cases i; exact .none
  | .bool _, _, i, _ => by cases i; exact .bool _
  | .int _, _, i, _ => by cases i; exact .int _ _
  | .str _, _, i, _ => by cases i; exact .str _ _
  | .list ds, _, i, p => by
    cases i with | list x l r =>
    exact .list (fun z => x (hx _ z)) (hk _ _ (fun z => by subst z; rw [l] at he; cases he; exact hn _ _ rfl) x l) (cleans_keep he hn hx hk ds r (by rw [D.clean] at p; exact p))
  | .tuple ds, _, i, p => by
    cases i with | tuple x l r =>
    exact .tuple (fun z => x (hx _ z)) (hk _ _ (fun z => by subst z; rw [l] at he; cases he; exact hn _ _ rfl) x l) (cleans_keep he hn hx hk ds r (by rw [D.clean] at p; exact p))
  | .newl lo ds, _, i, p => by
    cases i with | newl y x l r =>
    exact .newl y (fun z => x (hx _ z)) (hk _ _ (fun z => by subst z; rw [l] at he; cases he; exact hn _ _ rfl) x l) (cleans_keep he hn hx hk ds r (by rw [D.clean] at p; exact p))
  | .white .., _, _, p => by rw [D.clean] at p <;> first | cases p | (intros; contradiction)
  | .mut .., _, _, p => by rw [D.clean] at p <;> first | cases p | (intros; contradiction)
  | .inst .., _, _, p => by rw [D.clean] at p <;> first | cases p | (intros; contradiction)
  | .soft .., _, _, p => by rw [D.clean] at p <;> first | cases p | (intros; contradiction)
theorem cleans_keep {X X' : V0} {h h' : Heap} {e : Addr} {oe : Obj} (he : h.get? e = some oe) (hn : notSeq oe) (hx : ∀ c, X' c → X c) (hk : ∀ c o, c ≠ e → ¬ X c → h.get? c = some o → h'.get? c = some o) :
    ∀ (ds : List D) {vs : List Value}, IsAll X h vs ds → D.cleans ds = true → IsAll X' h' vs ds
  | [], _, i, _ => by cases i; exact .nil
  | d :: ds, _, i, p => by
    cases i with | cons a r =>
    rw [D.cleans, Bool.and_eq_true] at p
    exact .cons (clean_keep he hn hx hk d a p.1) (cleans_keep he hn hx hk ds r p.2)
end

section
variable {prog : Program} {w : World} {A : Around} {X X' Z : V0} {env cenv : Env} {ρ ρ₁ ρ₂ : Rho} {s s' s₀ s₁ s₂ : Shared} {sc scope tsc : Scope} {cn tcn town : List Str} {own : Own} {l : List (Str × Addr)}

/-- a frame over what is new from lo on -/
structure New (lo : Addr) (w : World) (Z : V0) (env : Env) (ρ : Rho) (s₁ s : Shared) : Prop where
  F : FrOk noOwn w Z env ρ s
  G : Gr w (fun c => Z c ∨ lo ≤ c) s.heap
  M : Moves (fun c => c = env.locals ∨ (¬ Z c ∧ lo ≤ c)) s₁ s
  L : lo ≤ env.locals
theorem wr_no {c : Addr} (h : Wr noOwn env c) : c = env.locals := by
  rcases h with h | ⟨_, h, _⟩ | h
  · exact h
  · cases h
  · exact (noMu h).elim
theorem New.step {lo : Addr} (N : New lo w Z env ρ s₁ s) (m : Moves (Wr noOwn env) s s') (F : FrOk noOwn w Z env ρ₁ s') : New lo w Z env ρ₁ s₁ s' where
  F := F
  G := N.G.moves fun b o n e => m.heap b o (fun z => n (.inl (N.F.wr b z))) e
  M := N.M.trans (m.mono fun c h => .inl (wr_no h))
  L := N.L
theorem New.sub {lo : Addr} (N : New lo w Z env ρ s₁ s) (h : Sub ρ₁ ρ) : New lo w Z env ρ₁ s₁ s := ⟨N.F.sub h, N.G, N.M, N.L⟩
theorem New.exs {lo : Addr} (N : New lo w Z env ρ s₁ s) (H : Sh sc cn env) {ss : List Stmt} (h : Exs prog w A sc cn noOwn ρ ss (.next ρ₁)) {Q : Flow → Shared → Prop} {E : Value → Shared → Prop} (q : ∀ s', New lo w Z env ρ₁ s₁ s' → Q .next s') : wpAny (model prog w) A (execs ss env) Q E s :=
  h env Z s H N.F Q E fun f s' m o => by
    obtain ⟨rfl, F⟩ := o
    exact q s' (N.step m F)
theorem execs_append {ss ts : List Stmt} : execs (ss ++ ts) env = (do match ← execs ss env with | .next => execs ts env | f => pure f) := by
  induction ss with
  | nil => rfl
  | cons st ss ih =>
    rw [List.cons_append, execs_cons, execs_cons, ih, bind_assoc]
    congr 1
    funext f
    cases f <;> simp
theorem New.then {lo : Addr} (N : New lo w Z env ρ s₁ s) (H : Sh sc cn env) {ss ts : List Stmt} (h : Exs prog w A sc cn noOwn ρ ss (.next ρ₁)) {Q : Flow → Shared → Prop} {E : Value → Shared → Prop} (q : ∀ s', New lo w Z env ρ₁ s₁ s' → wpAny (model prog w) A (execs ts env) Q E s') : wpAny (model prog w) A (execs (ss ++ ts) env) Q E s := by
  rw [execs_append]
  exact wpAny_bind (N.exs H h q)

theorem list_obj_not {items : Array Value} {n : Nat} {h : Heap} {a : Addr} {l : IsL h a items n} : True := trivial
/-- an object that is new is written -/
theorem New.poke {lo e : Addr} {oe : Obj} {h : Heap} (N : New lo w Z env ρ s₁ s) (le : lo ≤ e) (he : s.heap.get? e = some oe) (hz : ¬ Z e) (hs : Heap.SameBut e s.heap h) (t : Nat)
    (keep : ∀ y d, ρ.lookup y = some d → d.isMut = false → ∀ v, Is Z s.heap v d → Is Z h v d) (hc : env.cells = []) : New lo w Z env ρ s₁ { s with heap := h, toks := t } := by
  have z : s.heap.objs.size ≤ h.objs.size := Nat.le_of_eq hs.1.symm
  have mv : Moves (fun c => c = e) s { s with heap := h, toks := t } := ⟨⟨h, t, rfl⟩, fun b o nb e' => hs.extBut b o nb e', z⟩
  have le' : env.locals ≠ e := fun h => hz (h ▸ N.F.wl)
  have no : ∀ n c, env.cells.lookup n = some c → False := fun n c h => by rw [hc] at h; cases h
  have nm : ∀ {y v}, NameAt env s.heap y v → NameAt env h y v := fun n => n.moved (fun o e' => hs.extBut _ o le' e') fun c hc => (no _ c hc).elim
  refine ⟨⟨⟨?_, fun c zc => Nat.lt_of_lt_of_le (N.F.sees.xs c zc) z, fun y d hy hd => ?_, fun n c h => (no n c h).elim, N.F.inj⟩, N.F.wl, ?_, N.F.wc, fun n c h => (no n c h).elim, N.F.inj, N.F.wm, N.F.mi, fun _ _ _ h => nomatch h⟩, ?_, ?_, N.L⟩
  · obtain ⟨g, a, b, c⟩ := N.G
    exact ⟨g, a, fun u o zu e' => b u o (.inl zu) e', fun u o e' => hs.extBut u o (fun h => b u o (.inr (h ▸ le)) e') (c u o e')⟩
  · obtain ⟨v, n, i⟩ := N.F.sees.vals y d hy hd
    exact ⟨v, nm n, keep y d hy hd v i⟩
  · obtain ⟨m, hm⟩ := N.F.ns
    exact ⟨m, hm.at' fun o e' => hs.extBut _ o le' e'⟩
  · exact N.G.moves fun b o n e' => hs.extBut b o (fun h => n (.inr (h ▸ le))) e'
  · exact N.M.trans (mv.mono fun c h => .inr ⟨h ▸ hz, h ▸ le⟩)
end
end Mine
end

section
namespace Mine

section
variable {prog : Program} {w : World} {A : Around} {X X' Z : V0} {env cenv : Env} {ρ ρ₁ ρ₂ : Rho} {s s' s₀ s₁ s₂ : Shared} {sc scope tsc : Scope} {cn tcn town : List Str} {own : Own} {l : List (Str × Addr)}

/-- an attribute is laid into an instance's own table -/
theorem set_here {K : Frag} {C x dx : Addr} {od : Obj} {name : Str} {v : Value} {es : List DictEntry} {n : Nat} {Q : Unit → Shared → Prop} {E : Value → Shared → Prop} (X : K.In s.heap) (I : InstAt s.heap x (instObj C dx) C (some od))
    (hs : findIn K (.ref C) "__setattr__" = some (some (.builtin "object.__setattr__"))) (hp : plainOver K C = true) (ht : takerIn K C name = some none) (hh : (clsIn K C).any (·.hasDict) = true)
    (hl : (lookIn name od).isSome = true) (e' : (Obj.putName name (PyData.keyHash w.params name) (.str name (s.toks + 1)) v od).data = .dict es.toArray n) (hz : es.length ≤ 1000)
    (h : Q () { s with heap := s.heap.update dx (Obj.putName name (PyData.keyHash w.params name) (.str name (s.toks + 1)) v), toks := s.toks + 1 + 1 }) :
    wpAny (model prog w) A (setAttr (.ref x) name v) Q E s := by
  refine set_plain X I hs (osa_open (s := { s with toks := s.toks + 1 }) X I hp ht fun b => ?_)
  obtain ⟨cd, hc, hd'⟩ := any_some hh
  have D : s.heap.get? dx = some od := I.dict
  have hx := I.at_
  have hfr : (Obj.putName name (PyData.keyHash w.params name) (.str name (s.toks + 1)) v od).isFreed = false := by
    generalize (Obj.putName name (PyData.keyHash w.params name) (.str name (s.toks + 1)) v od) = od' at e'
    obtain ⟨_, _, dd, _⟩ := od'; cases e'; rfl
  have hcls : Looks (model prog w) ({ s with toks := s.toks + 1 } : Shared).heap (classData C) cd := looks_clsIn X hc
  refine wpAny_bind (wpAny_pure (wpAny_bind (wpAny_bind (wpAny_loadPart hx (wpAny_bind (hcls.here ?_))))))
  rw [hd']
  refine wpAny_pure (a := some dx) (wpAny_bind (wpAny_pure (wpAny_bind ?_)))
  unfold nsSet
  refine wpAny_bind (wpAny_bind (wpAny_askSetting (wpAny_pure (wpAny_bind (wpAny_mkText (wpAny_bind (wpAny_loadPart D ?_)))))))
  unfold lookIn at hl
  split at hl
  · rename_i es₀ n₀ q
    rw [q]
    dsimp only
    have c : (!es₀.any (·.key.isStr name) && es₀.any (·.refKey)) = false := by
      rw [← Array.any_toList, ← Array.any_toList]
      split at hl
      · rename_i en he
        rw [List.any_eq_true.mpr ⟨en, List.mem_of_find?_eq_some he, List.find?_some he⟩]; rfl
      · split at hl
        · cases hl
        · rename_i z; rw [Bool.not_eq_true] at z; rw [z, Bool.and_false]
    rw [aRefKeyMayBeTheName_at, c]
    refine wpAny_updatePart D ?_
    refine wpAny_bind (wpAny_lookBehind (Heap.get?_update_self _ D hfr) ((congrArg Data.pastItsLine e').trans (pastItsLine_dict (by rw [List.size_toArray, sizeLine_eq]; omega))) ?_)
    exact wpAny_pure h
  · cases hl

theorem lookup_filter_of {f : Str → Bool} {ρ : Rho} {y : Str} {d : D} (hf : f y = true) (h : ρ.lookup y = some d) : (ρ.filter fun p => f p.1).lookup y = some d := by
  induction ρ with
  | nil => cases h
  | cons p r ih =>
    rw [List.lookup_cons] at h
    rw [List.filter_cons]
    by_cases hy : y == p.1
    · rw [hy] at h
      rw [beq_iff_eq.mp hy] at hf
      rw [if_pos hf, List.lookup_cons, hy]; exact h
    · rw [Bool.not_eq_true] at hy
      rw [hy] at h
      split
      · rw [List.lookup_cons, hy]; exact ih h
      · exact ih h
/-- self.name = e -/
theorem New.set {lo x dx : Addr} {od : Obj} {name : Str} {px p' pos : Pos} {e : Expr} {d : D} (N : New lo w Z env ρ s₁ s) (H : Sh sc cn env) (hc : env.cells = [])
    (hself : ρ.lookup (Str.ofString "self") = some (.inst x dx od)) (le : lo ≤ dx) (clean : ∀ y d, ρ.lookup y = some d → y ≠ (Str.ofString "self") → d.clean = true)
    (he : Gives prog w A Z (eval e env) d s) (hcd : d.clean = true) (hsw : swapsWith e (some (.Attribute (.Name (Str.ofString "self") px) name p')) pos.line env = pure false)
    (ht : takerIn (KK w) 100 name = some none) (hl : (lookIn name od).isSome = true) (ho : notSeq od)
    (e' : ∀ tk v, ∃ es n, (Obj.putName name (PyData.keyHash w.params name) (.str name tk) v od).data = .dict es n ∧ es.size ≤ 1000)
    {Q : Flow → Shared → Prop} {E : Value → Shared → Prop} (q : ∀ s' tk v, New lo w Z env ((Str.ofString "self", .inst x dx (Obj.putName name (PyData.keyHash w.params name) (.str name tk) v od)) :: ρ) s₁ s' → Is Z s'.heap v d → (∀ d u, Is Z s.heap u d → d.clean = true → Is Z s'.heap u d) → Q .next s') :
    wpAny (model prog w) A (exec (.Assign [.Attribute (.Name (Str.ofString "self") px) name p'] e pos) env) Q E s := by
  refine plainObj_wpAny_Assign_Attribute (he _ E fun v s2 k2 i2 => ?_) hsw
  have N2 := N.step k2.moves (N.F.keeps k2)
  obtain ⟨u, nu, iu⟩ := N2.F.sees.vals _ _ hself rfl
  refine wpAny_Name (loadName_at H.fk nu ?_ (by decide)) (by decide)
  cases iu with | inst nx nd hx hd =>
  obtain ⟨es, n, hes, hsz⟩ := e' (s2.toks + 1) v
  refine set_here N2.F.sees.gr.gr0.X (WhiteAt.inst hx hd) (by kernel_rfl) (by kernel_rfl) ht (by kernel_rfl) hl (es := es.toList) (n := n) hes (by simpa using hsz) ?_
  have hfr : (Obj.putName name (PyData.keyHash w.params name) (.str name (s2.toks + 1)) v od).isFreed = false := by
    generalize (Obj.putName name _ _ v od) = od' at hes
    obtain ⟨_, _, dd, _⟩ := od'; cases hes; rfl
  have sb := Heap.SameBut.update s2.heap dx (Obj.putName name (PyData.keyHash w.params name) (.str name (s2.toks + 1)) v)
  have hx' : x ≠ dx := fun h => by rw [h, hd] at hx; cases hx; exact (by cases hl)
  have hud := Heap.get?_update_self (Obj.putName name (PyData.keyHash w.params name) (.str name (s2.toks + 1)) v) hd hfr
  have cl : ∀ d u, Is Z s2.heap u d → d.clean = true → Is Z (s2.heap.update dx (Obj.putName name (PyData.keyHash w.params name) (.str name (s2.toks + 1)) v)) u d := fun d u i hcl =>
    clean_keep hd ho (fun _ z => z) (fun c o ne _ e => sb.extBut c o ne e) d i hcl
  have N3 := (N2.sub (ρ₁ := ρ.filter fun p => p.1 != (Str.ofString "self")) ?_).poke le hd nd sb (s2.toks + 1 + 1) (fun y d hy _ v i => ?_) hc
  · refine q _ (s2.toks + 1) v ⟨⟨⟨N3.F.sees.gr, N3.F.sees.xs, fun y d' hy hd' => ?_, N3.F.sees.cel, N3.F.sees.inj⟩, N3.F.wl, N3.F.ns, N3.F.wc, N3.F.cell, N3.F.inj, N3.F.wm, N3.F.mi, fun _ _ _ h => nomatch h⟩, N3.G, N3.M, N3.L⟩ (cl d v i2 hcd) (fun d u i hcl => cl d u (i.keeps k2.heap) hcl)
    rw [lookup_cons_of] at hy
    by_cases hyx : y = Str.ofString "self"
    · rw [if_pos hyx] at hy
      have hy := Option.some.inj hy
      subst hy; subst hyx
      exact ⟨_, nu.moved (fun o e => sb.extBut _ o (fun h => nd (h ▸ N2.F.wl)) e) (fun c h => by rw [hc] at h; cases h), .inst nx nd (sb.extBut x _ hx' hx) hud⟩
    · rw [if_neg hyx] at hy
      exact N3.F.sees.vals y d' (lookup_filter_of (f := fun n => n != Str.ofString "self") (by simpa using hyx) hy) hd'
  · intro y d' hy
    exact (lookup_filter (f := fun n => n != Str.ofString "self") hy).2
  · obtain ⟨h1, h2⟩ := lookup_filter (f := fun n => n != Str.ofString "self") hy
    exact cl d _ i (clean y d h2 (by simpa using h1))
end
end Mine
end

section
namespace Mine

section
variable {prog : Program} {w : World} {A : Around} {X X' Z : V0} {env cenv : Env} {ρ ρ₁ ρ₂ : Rho} {s s' s₀ s₁ s₂ : Shared} {sc scope tsc : Scope} {cn tcn town : List Str} {own : Own}

theorem set_item_L {l : Addr} {items : Array Value} {n : Nat} {k : Int} {t : Tok} {v : Value} {Q : Unit → Shared → Prop} {E : Value → Shared → Prop} (hl : IsL s.heap l items n) (h0 : 0 ≤ k) (hfit : k < 2 ^ 63) (hn : k < items.size)
    (hQ : Q () { s with heap := s.heap.update l (Obj.mapSeq (·.setIfInBounds k.toNat v)) }) : wpAny (model prog w) A (setItem (.ref l) (.int k t) v) Q E s := by
  have hL := hl.isList
  unfold setItem
  try with_reducible refine wpAny_holding ?_
  first | refine wpAny_bind (wpAny_pure ?_) | skip
  refine wpAny_bind (wpAny_sequenceKey hL.typeIs (by decide) ?_)
  refine wpAny_bind (wpAny_callSpecial?_slot (name := Str.ofString "__setitem__") hL.typeIs slot_list_setitem
    (wpAny_call_entry slot_list_setitem hL.typeIs entry_list_setitem ?_ (args_list_setitem _ _ _)))
  show wpAny _ _ (Builtin.List.listSubscript? (.int k t) >>= _) _ _ s
  refine wpAny_bind (wpAny_listSubscript_int (fitsIndex_of h0 hfit) ?_)
  obtain ⟨j, rfl⟩ := Int.eq_ofNat_of_zero_le h0
  have hj : j < items.size := by omega
  have hx' : items[j]? = some items[j] := Array.getElem?_eq_getElem hj
  show wpAny _ _ ((seqItemAt l j >>= fun r => pure (r.map (j, ·))) >>= _) _ _ s
  refine wpAny_bind (wpAny_bind (wpAny_seqItemAt hl rfl (wpAny_pure ?_)))
  rw [hx']
  show wpAny _ _ (setSeqItemAt l j v >>= _) _ _ s
  refine wpAny_bind (wpAny_setSeqItemAt hl rfl ?_)
  exact wpAny_bind (wpAny_pure (wpAny_pure ⟨.none, rfl, wpAny_pure hQ⟩))

theorem IsAll.set {h : Heap} {vs : List Value} {ds : List D} {v : Value} {d : D} (x : IsAll X h vs ds) (i : Is X h v d) (k : Nat) : IsAll X h (vs.set k v) (ds.set k d) := by
  induction vs generalizing ds k with
  | nil => cases x; exact .nil
  | cons u vs ih =>
    cases x with | cons a r =>
    cases k with
    | zero => exact .cons i r
    | succ k => exact .cons a (ih r k)

theorem Is.newl_inv {h : Heap} {v : Value} {lo : Addr} {ds : List D} (i : Is X h v (.newl lo ds)) : ∃ a vs n, v = .ref a ∧ lo ≤ a ∧ ¬ X a ∧ IsL h a (List.toArray vs) n ∧ IsAll X h vs ds := by
  cases i with | newl le nz l r =>
  exact ⟨_, _, _, rfl, le, nz, l, r⟩
theorem IsAll.flats {h h' : Heap} {vs : List Value} {ds : List D} (x : IsAll X h vs ds) (hf : ds.all D.flat = true) : IsAll X' h' vs ds := by
  induction vs generalizing ds with
  | nil => cases x; exact .nil
  | cons v vs ih =>
    cases x with | cons a r =>
    rw [List.all_cons, Bool.and_eq_true] at hf
    exact .cons (a.flat hf.1) (ih r hf.2)
theorem all_set {ds : List D} {d : D} {k : Nat} (h : ds.all D.flat = true) (hd : d.flat = true) : (ds.set k d).all D.flat = true := by
  induction ds generalizing k with
  | nil => rfl
  | cons a ds ih =>
    rw [List.all_cons, Bool.and_eq_true] at h
    cases k with
    | zero => rw [List.set_cons_zero, List.all_cons, hd, h.2]; rfl
    | succ k => rw [List.set_cons_succ, List.all_cons, h.1, ih h.2]; rfl
/-- x[i] = e, x a list that is new -/
theorem New.item {lo : Addr} {x : Str} {px p' pos : Pos} {e i : Expr} {k : Int} {ds : List D} {d : D} (N : New lo w Z env ρ s₁ s) (H : Sh sc cn env) (hc : env.cells = [])
    (hx : ρ.lookup x = some (.newl lo ds)) (hcl : ds.all D.flat = true) (others : ∀ y d, ρ.lookup y = some d → y ≠ x → d.flat = true ∨ ∃ a dx od, d = .inst a dx od ∧ notSeq od)
    (he : Ev prog w A sc cn ρ e d) (hf : d.flat = true) (hi : Ev prog w A sc cn ρ i (.int k)) (h0 : 0 ≤ k) (h1 : k < ds.length) (h2 : k < 2 ^ 62) (hsw : swapsWith e (some (.Subscript (.Name x px) i p')) pos.line env = pure false)
    (hdb : (x == ("__debug__" : Str)) = false := by decide) (hcd : (x == ("__classdict__" : Str)) = false := by decide)
    {Q : Flow → Shared → Prop} {E : Value → Shared → Prop} (q : ∀ s', New lo w Z env ((x, .newl lo (ds.set k.toNat d)) :: ρ) s₁ s' → Q .next s') :
    wpAny (model prog w) A (exec (.Assign [.Subscript (.Name x px) i p'] e pos) env) Q E s := by
  refine wpAny_Assign_Subscript (he env Z s H N.F.sees _ E fun v s2 k2 i2 => ?_) hsw
  have N2 := N.step k2.moves (N.F.keeps k2)
  obtain ⟨u, nu, iu⟩ := N2.F.sees.vals _ _ hx rfl
  refine wpAny_Name (loadName_at H.fk nu (hi env Z s2 H N2.F.sees _ E fun vi s3 k3 i3 => ?_) hcd) hdb
  have N3 := N2.step k3.moves (N2.F.keeps k3)
  have iu := iu.keeps k3.heap
  have nu := nu.keeps k3.heap
  have i2 := i2.keeps k3.heap
  cases i3 with | int _ tk =>
  obtain ⟨a, vs, n, rfl, le, nz, l, r⟩ := iu.newl_inv
  have hlen := r.length
  refine set_item_L l h0 (by omega) (by rw [List.size_toArray, hlen]; exact h1) ?_
  have hl' := IsL.update l fun xs => xs.setIfInBounds k.toNat v
  have harr : (List.toArray vs).setIfInBounds k.toNat v = List.toArray (vs.set k.toNat v) := by simp
  rw [harr] at hl'
  have sb := Heap.SameBut.update s3.heap a (Obj.mapSeq fun xs => xs.setIfInBounds k.toNat v)
  have N4 := (N3.sub (ρ₁ := ρ.filter fun p => p.1 != x) (fun y d' hy => (lookup_filter (f := fun n => n != x) hy).2)).poke le l nz sb s3.toks (fun y d' hy _ v' i' => ?_) hc
  · refine q _ ⟨⟨⟨N4.F.sees.gr, N4.F.sees.xs, fun y d' hy hd' => ?_, N4.F.sees.cel, N4.F.sees.inj⟩, N4.F.wl, N4.F.ns, N4.F.wc, N4.F.cell, N4.F.inj, N4.F.wm, N4.F.mi, fun _ _ _ h => nomatch h⟩, N4.G, N4.M, N4.L⟩
    rw [lookup_cons_of] at hy
    by_cases hyx : y = x
    · rw [if_pos hyx] at hy
      have hy := Option.some.inj hy
      subst hy; subst hyx
      refine ⟨_, nu.moved (fun o e => sb.extBut _ o (fun h => nz (h ▸ N3.F.wl)) e) (fun c h => by rw [hc] at h; cases h), .newl le nz hl' ?_⟩
      exact (r.set i2 k.toNat).flats (all_set hcl hf)
    · rw [if_neg hyx] at hy
      exact N4.F.sees.vals y d' (lookup_filter_of (f := fun n => n != x) (by simpa using hyx) hy) hd'
  · obtain ⟨h1, h2⟩ := lookup_filter (f := fun n => n != x) hy
    rcases others y d' h2 (by simpa using h1) with hf | ⟨a', dx, od, rfl, ho⟩
    · exact i'.flat hf
    · cases i' with | inst n1 n2 g1 g2 =>
      refine .inst n1 n2 (sb.extBut _ _ (fun h => ?_) g1) (sb.extBut _ _ (fun h => ?_) g2)
      · rw [h, l] at g1; cases g1
      · rw [h, l] at g2; cases g2; exact ho _ _ rfl
end
end Mine
end

section
namespace Mine

def clsStr : Option CFound → Option Str
  | some (.val (.str x _)) => some x
  | _ => none
/-- the scan of __init__ -/
structure Scan where
  count : List Int
  b : Nat
  n : Nat
  nt : Nat
def bump (c : List Int) (b : Nat) : List Int :=
  let c := if b ≥ c.length then c ++ List.replicate (b - c.length + 1) 0 else c
  c.set b (c.getD b 0 + 1)
def Scan.step (st : Scan) (ch : Nat) : Scan := if ch = 32 then ⟨st.count, st.b + 1, st.n + 1, st.nt⟩ else ⟨bump st.count st.b, 0, st.n + 1, st.nt + 1⟩
def blank (ch : Nat) : Bool := ch == 32 || ch == 9
def scan (x : List Nat) : Scan := (x.takeWhile blank).foldl Scan.step ⟨[], 0, 0, 0⟩

section
variable {prog : Program} {w : World} {A : Around} {X X' Z : V0} {env cenv : Env} {ρ ρ₁ ρ₂ : Rho} {s s' s₀ s₁ s₂ : Shared} {sc scope tsc : Scope} {cn tcn town : List Str} {own : Own}

theorem Ev.newl {e : Expr} {lo : Addr} {ds : List D} (h : Ev prog w A sc cn ρ e (.newl lo ds)) : Ev prog w A sc cn ρ e (.list ds) := fun env X s H S Q E q => h env X s H S Q E fun v s' k i => by
  obtain ⟨a, vs, n, rfl, _, nz, l, r⟩ := i.newl_inv
  exact q _ s' k (.list nz l r)
theorem self_lt {x dx : Addr} {od : Obj} (hs : ρ.lookup (Str.ofString "self") = some (.inst x dx od)) (S : Sees w X env ρ s) : dx < s.heap.objs.size := by
  obtain ⟨v, _, i⟩ := S.vals _ _ hs rfl
  cases i with | inst _ _ _ g => exact Heap.lt_size g
theorem Ev.listN {x dx : Addr} {od : Obj} {p : Pos} (hs : ρ.lookup (Str.ofString "self") = some (.inst x dx od)) : Ev prog w A sc cn ρ (.List [] p) (.newl dx []) := fun env X s H S Q E q =>
  list_new fun s' k z l => q _ s' k (.newl (Nat.le_of_lt (self_lt hs S)) (S.std.fresh (Nat.le_refl _)) l .nil)
theorem Ev.addN {x dx : Addr} {od : Obj} {l r : Expr} {pos : Pos} {a b : List D} (hs : ρ.lookup (Str.ofString "self") = some (.inst x dx od)) (hl : Ev prog w A sc cn ρ l (.newl dx a)) (hr : Ev prog w A sc cn ρ r (.list b)) (hz : a.length + b.length ≤ 1048576) :
    Ev prog w A sc cn ρ (.BinOp l .Add r pos) (.newl dx (a ++ b)) := fun env X s H S Q E q =>
  wpAny_BinOp (hl env X s H S _ E fun v s1 k1 i1 => hr env X s1 H (S.keeps k1) _ E fun v2 s2 k2 i2 => by
    have S2 := (S.keeps k1).keeps k2
    obtain ⟨a1, vs, n, rfl, _, nz, l1, r1⟩ := (i1.keeps k2.heap).newl_inv
    cases i2 with | list nz2 l2 r2 =>
    refine P.add_list l1 l2 (q _ _ ((k1.trans k2).trans (Kp.push _ _)) (.newl (n := 0) (vs := vs ++ _) (Nat.le_of_lt (self_lt hs S2)) (S2.std.fresh (Nat.le_refl _)) ?_ ((r1.append r2).keeps fun _ _ e => Heap.get?_push_of_some _ e))) ?_
    · exact (by simpa using Heap.get?_push_size _ rfl)
    · rw [List.size_toArray, List.size_toArray, r1.length, r2.length, sizeLine_eq]; omega)
theorem Ev.attrI {o : Expr} {x dx : Addr} {od : Obj} {name y : Str} {t : Tok} {pos : Pos} (h : Ev prog w A sc cn ρ o (.inst x dx od)) (hn : findIn (KK w) (.ref 100) name = some none) (hl : lookIn name od = some (some (.str y t))) (ho : ∀ id p q, o ≠ .Call (.Name id p) [] [] q := by intro _ _ _ h; cases h) :
    Ev prog w A sc cn ρ (.Attribute o name pos) (.str y) := fun env X s H S Q E q => by
  have e1 : eval (.Attribute o name pos) env = (do
      let v ← eval o env
      standAt pos.atName
      let r ← holding [v] (getAttr v name true)
      letTemporaryGo o v r
      pure r) := by rw [arm_eval_Attribute, attr_base ho]
  refine Attribute_any_ (h env X s H S _ E fun v s1 k1 i1 => ?_) e1
  cases i1 with | inst _ _ g1 g2 =>
  exact get_value (S.keeps k1).gr.gr0.X (WhiteAt.inst g1 g2) w_ga (findObj_own w_hd hn rfl hl) rfl (q _ _ (k1.trans (Kp.tok _ _)) (.str _ _))
theorem Ev.clsS {cname name y : Str} {px pos : Pos} {C : Addr} (hk : sc.names.lookup cname = some .globalImplicit) (hg : nsIn (KK w) mainGlobals cname = some (some (.ref C))) (hr : readsIn (KK w) C (.type "type") = true) (e : clsStr (findCls (KK w) (.ref C) (.type "type") name) = some y)
    (hd : (cname == ("__debug__" : Str)) = false := by decide) : Ev prog w A sc cn ρ (.Attribute (.Name cname px) name pos) (.str y) := fun env X s H S Q E q => by
  have e1 : eval (.Attribute (.Name cname px) name pos) env = (do
      let v ← eval (.Name cname px) env
      standAt pos.atName
      let r ← holding [v] (getAttr v name true)
      letTemporaryGo (.Name cname px) v r
      pure r) := by rw [arm_eval_Attribute, attr_base (by intro _ _ _ h; cases h)]
  refine Attribute_any_ (global_val H S hk hg ?_ hd) e1
  unfold clsStr at e
  split at e
  · rename_i h
    cases e
    exact cls_value S.gr.gr0.X hr h rfl (q _ _ (Kp.tok _ _) (.str _ _))
  · cases e
end
end Mine
end

section
namespace Mine

section
variable {prog : Program} {w : World} {A : Around} {X X' Z : V0} {env cenv : Env} {ρ ρ₁ ρ₂ : Rho} {s s' s₀ s₁ s₂ : Shared} {sc scope tsc : Scope} {cn tcn town : List Str} {own : Own}

theorem New.forStr {lo : Addr} {x : Str} {p pos : Pos} {iter : Expr} {body : List Stmt} {y : Str} (hh : A.handled = none) (N : New lo w Z env ρ s₁ s) (H : Sh sc cn env) (hcl : env.cells = []) (hlt : lo < s.heap.objs.size) (h : Ev prog w A sc cn ρ iter (.str y)) (hk : May sc cn noOwn x)
    (R : Nat → Rho) (k : Nat) (hk' : k ≤ y.cps.size) (h0 : Sub (R 0) ρ)
    (full : ∀ i, i < k → ∀ (Z' : V0) s', New lo w Z' env ((x, .str ⟨#[y.cps.getD i 0]⟩) :: R i) s' s' → ∀ (Q : Flow → Shared → Prop) (E : Value → Shared → Prop), (∀ s'', New lo w Z' env (R (i + 1)) s' s'' → Q .next s'') → wpAny (model prog w) A (execs body env) Q E s')
    (last : k = y.cps.size ∨ (k < y.cps.size ∧ ∀ (Z' : V0) s', New lo w Z' env ((x, .str ⟨#[y.cps.getD k 0]⟩) :: R k) s' s' → ∀ (Q : Flow → Shared → Prop) (E : Value → Shared → Prop), (∀ s'', New lo w Z' env (R k) s' s'' → Q .brk s'') → wpAny (model prog w) A (execs body env) Q E s'))
    {Q : Flow → Shared → Prop} {E : Value → Shared → Prop} (q : ∀ s', New lo w Z env (R k) s₁ s' → Q .next s')
    (hs : ∀ env x, foldedSetIterable iter env x = pure x := by intro _ _; rfl) : wpAny (model prog w) A (exec (.For (.Name x p) iter body [] pos) env) Q E s := by
  refine wpAny_For (h env Z s H N.F.sees _ E fun v s1 k1 i1 => ?_) (hs env)
  cases i1
  have N1 := N.step k1.moves (N.F.keeps k1)
  have S1 := N1.F.sees
  refine wpAny_pyIter_str fun o St W st => ?_
  have src : Src prog w A sc cn noOwn (.Name x p) Z y.cps.size (fun i => [(x, .str ⟨#[y.cps.getD i 0]⟩)]) s1.heap.objs.size [s1.heap.objs.size] [s1.heap.objs.size] _ _ _ s { s1 with heap := s1.heap.push o } := Src.name rfl hk (W A hh) st (fun b hb => by
      simp only [List.mem_cons, List.not_mem_nil, or_false] at hb
      subst hb; exact S1.fresh (Nat.le_refl _)) (fun b hb => by
      simp only [List.mem_cons, List.not_mem_nil, or_false] at hb
      subst hb; show _ < (s1.heap.push _).objs.size; rw [Heap.size_push]; omega) (fun b hb => by
      simp only [List.mem_cons, List.not_mem_nil, or_false] at hb
      subst hb
      exact Heap.get?_none_of_le k1.size) (fun i v _ hP => by
      obtain ⟨c, u, hc, rfl⟩ := hP
      have e : y.cps.getD i 0 = c := by rw [Array.getD_eq_getD_getElem?, hc]; rfl
      rw [e]
      exact .str _ _)
  have kp : Kp s { s1 with heap := s1.heap.push o } := k1.trans (Kp.push _ _)
  have lI : lo ≤ s1.heap.objs.size := Nat.le_trans (Nat.le_of_lt hlt) k1.size
  have nI : ¬ Z s1.heap.objs.size := S1.fresh (Nat.le_refl _)
  have eL : env.locals < s1.heap.objs.size := let ⟨_, h⟩ := N1.F.ns; h.lt
  generalize s1.heap.objs.size = I at src lI nI eL
  generalize ({ s1 with heap := s1.heap.push o } : Shared) = s₂ at src kp
  have lW : ¬ env.locals ∈ [I] := fun h => Nat.ne_of_lt eL (List.mem_singleton.mp h)
  have cW : ∀ n c, env.cells.lookup n = some c → ¬ c ∈ [I] := fun n c h => by rw [hcl] at h; cases h
  have mW : ∀ a, noOwn.mu a → ¬ a ∈ [I] := fun a h => (noMu h).elim
  have F2 : FrOk noOwn w (fun c => Z c ∨ c ∈ [I]) env (R 0) s₂ := (N.F.sub h0).grow kp src.wrN fun c h => src.fpA c (src.turns.sub c h)
  have G2 : Gr w (fun c => (Z c ∨ c ∈ [I]) ∨ lo ≤ c) s₂.heap := (N.G.keeps kp.heap).less fun c h => by
    rcases h with (h | h) | h
    · exact .inl h
    · rw [List.mem_singleton.mp h]; exact .inr lI
    · exact .inr h
  have fin : ∀ {s' : Shared} {i : Nat}, FrOk noOwn w (fun c => Z c ∨ c ∈ [I]) env (R i) s' → Gr w (fun c => (Z c ∨ c ∈ [I]) ∨ lo ≤ c) s'.heap → Moves (fun c => c = env.locals ∨ (¬ Z c ∧ lo ≤ c)) s₂ s' → New lo w Z env (R i) s₁ s' := fun f g m =>
    ⟨f.less (fun c h => .inl h) N.F.wl N.F.wc N.F.wm, g.less (fun c h => h.elim (fun h => .inl (.inl h)) .inr), N.M.trans (kp.moves.trans m), N.L⟩
  have toN : ∀ {s' : Shared} {ρ' : Rho}, FrOk noOwn w (fun c => Z c ∨ c ∈ [I]) env ρ' s' → Gr w (fun c => (Z c ∨ c ∈ [I]) ∨ lo ≤ c) s'.heap → New lo w (fun c => Z c ∨ c ∈ [I]) env ρ' s' s' := fun f g => ⟨f, g, Moves.refl _ _, N.L⟩
  have mv1 : ∀ {a b : Shared}, Moves (fun c => c ∈ [I]) a b → Moves (fun c => c = env.locals ∨ (¬ Z c ∧ lo ≤ c)) a b := fun m => m.mono fun c h => by rw [List.mem_singleton.mp h]; exact .inr ⟨nI, lI⟩
  have mv2 : ∀ {a b : Shared}, Moves (fun c => c = env.locals ∨ (¬ (Z c ∨ c ∈ [I]) ∧ lo ≤ c)) a b → Moves (fun c => c = env.locals ∨ (¬ Z c ∧ lo ≤ c)) a b := fun m => m.mono fun c h => h.imp id fun h => ⟨fun z => h.1 (.inl z), h.2⟩
  have keepI : ∀ {a b : Shared}, Moves (fun c => c = env.locals ∨ (¬ (Z c ∨ c ∈ [I]) ∧ lo ≤ c)) a b → ∀ c ∈ [I], ∀ o, a.heap.get? c = some o → b.heap.get? c = some o := fun m c hc o e => m.heap c o (fun h => h.elim (fun h => lW (h ▸ hc)) fun h => h.1 (.inr hc)) e
  refine codeAny_forLoop_any (fun m s' => ∃ i, FrOk noOwn w (fun c => Z c ∨ c ∈ [I]) env (R i) s' ∧ Gr w (fun c => (Z c ∨ c ∈ [I]) ∨ lo ≤ c) s'.heap ∧ St i s'.heap ∧ Moves (fun c => c = env.locals ∨ (¬ Z c ∧ lo ≤ c)) s₂ s' ∧ i ≤ k ∧ m = y.cps.size + 1 - i) ?_ (y.cps.size + 1)
    ⟨0, F2, G2, src.st, Moves.refl _ _, Nat.zero_le _, rfl⟩
  rintro m s' ⟨i, Fi, Gi, hst, hm, hik, rfl⟩
  by_cases hlt : i < y.cps.size
  · refine with_size (src.turns.item i _ _ _ hlt hst fun v h₁ tk₁ hMd hk₁ z₁ => ?_)
    refine with_size (src.turns.go i v _ _ _ hMd fun h₂ hP hst₂ hk₂ z₂ => ?_)
    have mv : Moves (fun c => c ∈ [I]) s' { s' with heap := h₂, toks := tk₁ } := Moves.of (fun b o nb e => hk₂ b o nb (hk₁ b o nb e)) (Nat.le_trans z₁ z₂)
    have F3 := Fi.other mv (fun c h => .inr h) lW cW mW
    have G3 := Gi.moves fun b o n e => mv.heap b o (fun z => n (.inl (.inr z))) e
    have m3 := hm.trans (mv1 mv)
    obtain ⟨c, u, hc, rfl⟩ := hP
    have e : y.cps.getD i 0 = c := by rw [Array.getD_eq_getD_getElem?, hc]; rfl
    refine wpAny_assign_Name (F3.store H hk (.str _ u) fun s₄ m₄ F4 => ?_)
    have G4 := G3.moves fun b o n e => m₄.heap b o (fun z => n (.inl (F3.wr b z))) e
    have m4 := m3.trans (m₄.mono fun c h => .inl (wr_no h))
    have st4 : St (i + 1) s₄.heap := src.turns.frame _ _ _ hst₂ fun b hb o e => m₄.heap b o (fun z => lW (wr_no z ▸ hb)) e
    have N4 := toN F4 G4
    rw [← e] at N4
    rcases Nat.lt_or_ge i k with hi | hi
    · exact full i hi _ s₄ N4 _ _ fun s₅ N5 => ⟨y.cps.size + 1 - (i + 1), by omega, i + 1, N5.F, N5.G, src.turns.frame _ _ _ st4 (keepI N5.M), m4.trans (mv2 N5.M), hi, rfl⟩
    · have : i = k := by omega
      subst this
      rcases last with rfl | ⟨_, hb⟩
      · omega
      · exact hb _ s₄ N4 _ _ fun s₅ N5 => q _ (fin N5.F N5.G (m4.trans (mv2 N5.M)))
  · have hin : i = y.cps.size := by omega
    have hki : k = i := by omega
    refine with_size (src.turns.done _ _ _ (hin ▸ hst) fun h₁ tk₁ hk₁ z₁ => wpAny_execs_nil ?_)
    have mv : Moves (fun c => c ∈ [I]) s' { s' with heap := h₁, toks := tk₁ } := Moves.of (fun b o nb e => hk₁ b o nb e) z₁
    rw [hki] at q
    exact q _ (fin (Fi.other mv (fun c h => .inr h) lW cW mW) (Gi.moves fun b o n e => mv.heap b o (fun z => n (.inl (.inr z))) e) (hm.trans (mv1 mv)))
end
end Mine
end

section
namespace Mine

section
variable {prog : Program} {w : World} {A : Around} {X X' Z : V0} {env cenv : Env} {ρ ρ₁ ρ₂ : Rho} {s s' s₀ s₁ s₂ : Shared} {sc scope tsc : Scope} {cn tcn town : List Str} {own : Own}

theorem def_start {n : Nat} {a : Addr} {oc : Value} {odd : Option Addr} {osl : Array (Option Value)} {fd : FuncData} {body : List Stmt} {vs : List Value} (ts : List (Str × Value × D)) (hA : Ok (n + 1) A) (G : Gr w X s.heap) (hx : Std X s)
    (hl : (KK w).lookup a = some ⟨oc, odd, .func fd, osl⟩) (hc : codeIn (KK w) fd.code fd.qualname = true) (hb : fd.body = .stmts body) (hbind : bindArgs fd ⟨vs, []⟩ = pure (ts.map fun t => (t.1, t.2.1)))
    (hloc : ∀ t ∈ ts, fd.scope.names.lookup t.1 = some .local) (hcell : ∀ x ∈ fd.scope.names, x.2 ≠ .cell) (hco : fd.scope.isCoroutine = false) (hgen : fd.scope.isGenerator = false) (hk : fd.scope.kind = .function) (hg : fd.globals = mainGlobals) (hbu : fd.builtins = builtinsNs) (hcl : fd.closure = [])
    (hi : ∀ t ∈ ts, Is X s.heap t.2.1 t.2.2) {R : Result → Shared → Prop}
    (hq : ∀ A' env s1 (E : Value → Shared → Prop), Ok n A' → Sh fd.scope [] env → env.cells = [] → env.locals = s.heap.objs.size → Kp s s1 → s1.toks = s.toks + ts.length → FrOk noOwn w (fun c => X c ∨ c = s.heap.objs.size) env (ts.reverse.map fun t => (t.1, t.2.2)) s1 →
      wpAny (model prog w) A' (execs body env) (fun f s' => R (.ok (.ret (match f with | .ret v => v | _ => .none))) s') E s1) : codeAny (model prog w) A (.call (.ref a) ⟨vs, []⟩) R s := by
  have G0 := G.gr0
  refine codeAny_call_def hA.room (G0.X _ _ hl) rfl G0.lim (codeRec_of G0.X hc) hb (.of_eq hbind) hcell (fun x hx => ?_) (fun h₀ hns hext => ?_) hco hgen hk
  · obtain ⟨t, ht, rfl⟩ := List.mem_map.mp hx
    exact hloc t ht
  have lt : s.heap.objs.size < h₀.objs.size := hns.lt
  have kp : Kp s { s with heap := h₀, toks := s.toks + (ts.map fun t => (t.1, t.2.1)).length } := Kp.of hext (Nat.le_of_lt lt)
  have hnew : ∀ c, c = s.heap.objs.size → s.heap.get? c = none := fun c h => Heap.get?_none_of_le (by rw [h]; exact Nat.le_refl _)
  have H : Sh fd.scope [] (callEnv fd s.heap.objs.size a) := ⟨rfl, by show List.map _ fd.closure = []; rw [hcl]; rfl, hg, hbu, hk⟩
  have hce : (callEnv fd s.heap.objs.size a).cells = [] := hcl
  have nocell : ∀ n c, (callEnv fd s.heap.objs.size a).cells.lookup n = some c → False := fun n c e => by
    rw [hce] at e; cases e
  refine hq _ _ _ _ (hA.deeper _) H hce rfl kp (by show s.toks + (ts.map _).length = _; rw [List.length_map]) ?_
  refine ⟨⟨G.more hext hnew, fun c z => ?_, fun x e hx _ => ?_, fun n c e => (nocell n c e).elim, fun n _ c e => (nocell n c e).elim⟩, .inr rfl, ⟨_, hns⟩, fun _ h => (nomatch h), fun n c e => (nocell n c e).elim, fun n _ c e => (nocell n c e).elim, fun _ h => (noMu h).elim, fun _ _ _ h => (nomatch h), fun _ _ _ h => nomatch h⟩
  · rcases z with z | z
    · exact Nat.lt_trans (hx c z) lt
    · rw [z]; exact lt
  · obtain ⟨v, hv, iv⟩ := lookup_triples (X := X) (h := s.heap) x e ts.reverse (fun t ht => hi t (List.mem_reverse.mp ht)) hx
    refine ⟨v, .loc _ ?_ hns ?_, (iv.more hnew).keeps hext⟩
    · have hm := List.mem_map_of_mem (f := (·.1)) (mem_of_lookup hv)
      rw [List.map_map] at hm
      obtain ⟨t, ht, e⟩ := List.mem_map.mp hm
      have := hloc t (List.mem_reverse.mp ht)
      have e' : t.1 = x := e
      rw [← e']
      exact H.kindOf this
    · rw [← List.map_reverse]; exact hv

theorem New.if {lo : Addr} (N : New lo w Z env ρ s₁ s) (H : Sh sc cn env) {t : Expr} {b o : List Stmt} {pos : Pos} {c : Bool} (h : Te prog w A sc cn ρ t c) {Q : Flow → Shared → Prop} {E : Value → Shared → Prop}
    (q : ∀ s', New lo w Z env ρ s₁ s' → wpAny (model prog w) A (execs (if c then b else o) env) Q E s') : wpAny (model prog w) A (exec (.If t b o pos) env) Q E s :=
  wpAny_If (h env Z s H N.F.sees _ E fun s1 k1 => by
    have N1 := N.step k1.moves (N.F.keeps k1)
    cases c with
    | true => exact q s1 N1
    | false => exact q s1 N1)
theorem New.stmt {lo : Addr} (N : New lo w Z env ρ s₁ s) (H : Sh sc cn env) {st : Stmt} {ss : List Stmt} (h : Ex prog w A sc cn noOwn ρ st (.next ρ₁)) {Q : Flow → Shared → Prop} {E : Value → Shared → Prop}
    (q : ∀ s', New lo w Z env ρ₁ s₁ s' → wpAny (model prog w) A (execs ss env) Q E s') : wpAny (model prog w) A (execs (st :: ss) env) Q E s :=
  wpAny_execs_cons (h env Z s H N.F _ E fun f s' m o => by
    obtain ⟨rfl, F⟩ := o
    exact q s' (N.step m F))
theorem New.brk {lo : Addr} (N : New lo w Z env ρ s₁ s) (H : Sh sc cn env) {ss : List Stmt} (h : Exs prog w A sc cn noOwn ρ ss (.brk ρ₁)) {Q : Flow → Shared → Prop} {E : Value → Shared → Prop} (q : ∀ s', New lo w Z env ρ₁ s₁ s' → Q .brk s') : wpAny (model prog w) A (execs ss env) Q E s :=
  h env Z s H N.F Q E fun f s' m o => by
    obtain ⟨rfl, F⟩ := o
    exact q s' (N.step m F)

theorem New.ifT {lo : Addr} (N : New lo w Z env ρ s₁ s) (H : Sh sc cn env) {t : Expr} {b o : List Stmt} {pos : Pos} (h : Te prog w A sc cn ρ t true) {Q : Flow → Shared → Prop} {E : Value → Shared → Prop}
    (q : ∀ s', New lo w Z env ρ s₁ s' → wpAny (model prog w) A (execs b env) Q E s') : wpAny (model prog w) A (exec (.If t b o pos) env) Q E s := N.if H h q
theorem New.ifF {lo : Addr} (N : New lo w Z env ρ s₁ s) (H : Sh sc cn env) {t : Expr} {b o : List Stmt} {pos : Pos} (h : Te prog w A sc cn ρ t false) {Q : Flow → Shared → Prop} {E : Value → Shared → Prop}
    (q : ∀ s', New lo w Z env ρ s₁ s' → wpAny (model prog w) A (execs o env) Q E s') : wpAny (model prog w) A (exec (.If t b o pos) env) Q E s := N.if H h q
theorem Te.cast {e : Expr} {b c : Bool} (h : Te prog w A sc cn ρ e b) (hb : b = c) : Te prog w A sc cn ρ e c := hb ▸ h
def CleanBut (ρ : Rho) : Prop := ∀ p ∈ ρ, p.1 ≠ Str.ofString "self" → p.2.clean = true
theorem CleanBut.nil : CleanBut [] := fun _ h => nomatch h
theorem CleanBut.cons {x : Str} {d : D} (h : d.clean = true) (r : CleanBut ρ) : CleanBut ((x, d) :: ρ) := fun p hp hne => by
  rcases List.mem_cons.mp hp with rfl | hp
  · exact h
  · exact r p hp hne
theorem CleanBut.self {d : D} (r : CleanBut ρ) : CleanBut ((Str.ofString "self", d) :: ρ) := fun p hp hne => by
  rcases List.mem_cons.mp hp with rfl | hp
  · exact absurd rfl hne
  · exact r p hp hne
theorem CleanBut.look (r : CleanBut ρ) : ∀ y d, ρ.lookup y = some d → y ≠ Str.ofString "self" → d.clean = true := fun y d h hne => r _ (mem_of_lookup h) hne
theorem cleans_ints : ∀ l : List Int, D.cleans (l.map D.int) = true
  | [] => rfl
  | a :: l => by
    show (true && D.cleans (l.map D.int)) = true
    rw [cleans_ints l]; rfl

def pad (c : List Int) (b : Nat) : List Int := if b ≥ c.length then c ++ List.replicate (b - c.length + 1) 0 else c
theorem bump_pad (c : List Int) (b : Nat) : bump c b = (pad c b).set b ((pad c b).getD b 0 + 1) := rfl
theorem pad_length (c : List Int) (b : Nat) : (pad c b).length = max c.length (b + 1) := by
  unfold pad
  split
  · rw [List.length_append, List.length_replicate]; omega
  · omega
theorem pad_yes {c : List Int} {b : Nat} (h : c.length ≤ b) : (pad c b).map D.int = c.map D.int ++ (List.replicate ((b : Int) - (c.map D.int).length + 1).toNat [D.int 0]).flatten := by
  unfold pad
  rw [if_pos h, List.map_append, List.map_replicate, List.length_map]
  have e : ((b : Int) - c.length + 1).toNat = b - c.length + 1 := by omega
  rw [e]
  congr 1
  generalize b - c.length + 1 = k
  induction k with
  | zero => rfl
  | succ k ih => rw [List.replicate_succ, List.replicate_succ, List.flatten_cons, ← ih]; rfl
theorem flats_ints : ∀ l : List Int, (l.map D.int).all D.flat = true
  | [] => rfl
  | a :: l => by rw [List.map_cons, List.all_cons, flats_ints l]; rfl
def FlatBut (x : Str) (ρ : Rho) : Prop := ∀ p ∈ ρ, p.1 ≠ x → p.2.flat = true ∨ ∃ a dx od, p.2 = .inst a dx od ∧ notSeq od
theorem FlatBut.nil {x : Str} : FlatBut x [] := fun _ h => nomatch h
theorem FlatBut.cons {x y : Str} {d : D} (h : d.flat = true) (r : FlatBut x ρ) : FlatBut x ((y, d) :: ρ) := fun p hp hne => by
  rcases List.mem_cons.mp hp with rfl | hp
  · exact .inl h
  · exact r p hp hne
theorem FlatBut.skip {x : Str} {d : D} (r : FlatBut x ρ) : FlatBut x ((x, d) :: ρ) := fun p hp hne => by
  rcases List.mem_cons.mp hp with rfl | hp
  · exact absurd rfl hne
  · exact r p hp hne
theorem FlatBut.inst {x y : Str} {a dx : Addr} {od : Obj} (h : notSeq od) (r : FlatBut x ρ) : FlatBut x ((y, .inst a dx od) :: ρ) := fun p hp hne => by
  rcases List.mem_cons.mp hp with rfl | hp
  · exact .inr ⟨_, _, _, rfl, h⟩
  · exact r p hp hne
theorem FlatBut.look {x : Str} (r : FlatBut x ρ) : ∀ y d, ρ.lookup y = some d → y ≠ x → d.flat = true ∨ ∃ a dx od, d = .inst a dx od ∧ notSeq od := fun y d h hne => r _ (mem_of_lookup h) hne
def stOf (x : List Nat) (i : Nat) : Scan := (x.take i).foldl Scan.step ⟨[], 0, 0, 0⟩
theorem stOf_succ {x : List Nat} {i : Nat} (h : i < x.length) : stOf x (i + 1) = (stOf x i).step (x.getD i 0) := by
  unfold stOf
  rw [List.take_succ_eq_append_getElem h, List.foldl_append]
  simp [List.getD_eq_getElem?_getD, h]
theorem bump_length (c : List Int) (b : Nat) : (bump c b).length = max c.length (b + 1) := by
  unfold bump
  dsimp only
  rw [List.length_set]
  split
  · rw [List.length_append, List.length_replicate]; omega
  · omega
theorem stOf_bound (x : List Nat) : ∀ i, (stOf x i).b ≤ i ∧ (stOf x i).count.length ≤ i
  | 0 => by unfold stOf; simp
  | i + 1 => by
    have ih := stOf_bound x i
    rcases Nat.lt_or_ge i x.length with h | h
    · rw [stOf_succ h]
      unfold Scan.step
      split
      · exact ⟨Nat.succ_le_succ ih.1, Nat.le_succ_of_le ih.2⟩
      · refine ⟨Nat.zero_le _, ?_⟩
        show (bump _ _).length ≤ _
        rw [bump_length]; omega
    · have : stOf x (i + 1) = stOf x i := by
        unfold stOf
        rw [List.take_of_length_le h, List.take_of_length_le (Nat.le_succ_of_le h)]
      rw [this]; omega
theorem takeWhile_take (x : List Nat) : x.takeWhile blank = x.take (x.takeWhile blank).length := by
  induction x with
  | nil => rfl
  | cons a x ih =>
    rw [List.takeWhile_cons]
    split
    · rw [List.length_cons, List.take_succ_cons, ← ih]
    · rfl
theorem blank_lt {x : List Nat} : ∀ {i : Nat}, i < (x.takeWhile blank).length → blank (x.getD i 0) = true := by
  induction x with
  | nil => intro i h; simp at h
  | cons a x ih =>
    intro i h
    rw [List.takeWhile_cons] at h
    split at h
    · cases i with
      | zero => assumption
      | succ i => exact ih (by simpa using h)
    · simp at h
theorem not_blank_at {x : List Nat} (h : (x.takeWhile blank).length < x.length) : blank (x.getD (x.takeWhile blank).length 0) = false := by
  induction x with
  | nil => simp at h
  | cons a x ih =>
    rw [List.takeWhile_cons] at h ⊢
    cases hb : blank a with
    | true => rw [hb] at h; simp only [if_true, List.length_cons] at h ⊢; exact ih (by omega)
    | false => simpa using hb
theorem array_getD (x : Array Nat) (i : Nat) : x.getD i 0 = x.toList.getD i 0 := by
  simp [Array.getD_eq_getD_getElem?, List.getD_eq_getElem?_getD]

theorem init_run {n : Nat} {x dx : Addr} {v : Value} {raw : Str} {R : Result → Shared → Prop} (hA : Ok (n + 1) A) (G : Gr w (fun c => X c ∨ dx ≤ c) s.heap) (hX : Std X s) (nx : ¬ X x) (nd : ¬ X dx) (hx : s.heap.get? x = some (instObj 100 dx)) (hd : s.heap.get? dx = some emptyDict) (le : dx ≤ x)
    (iv : Is X s.heap v (.str raw)) (hz : raw.length ≤ 100000)
    (q : ∀ s', Moves (fun c => dx ≤ c) s s' → WhiteAt X s'.heap x raw (scan raw.cps.toList).n (scan raw.cps.toList).nt (scan raw.cps.toList).count (scan raw.cps.toList).b (decide ((scan raw.cps.toList).count.length ≤ 1)) → R (.ok (.ret .none)) s') :
    codeAny (model prog w) A (.call (.ref 55) ⟨[.ref x, v], []⟩) R s := by
  refine def_start (n := n) [(Str.ofString "self", .ref x, .inst x dx emptyDict), (Str.ofString "ws", v, .str raw)] hA (G.less fun c h => .inl h) hX (by rfl) (by kernel_rfl) rfl rfl (fun t ht => ?_) (fun t ht => ?_) rfl rfl rfl rfl rfl rfl (fun t ht => ?_) fun A' env s1 E hA' H hc hL kp _ F => ?_
  · simp only [List.mem_cons, List.not_mem_nil, or_false] at ht
    rcases ht with rfl | rfl <;> rfl
  · have h := List.all_eq_true.mp (show (List.all _ fun x : Str × NameKind => x.2 != .cell) = true from rfl) t ht
    simpa using h
  · simp only [List.mem_cons, List.not_mem_nil, or_false] at ht
    rcases ht with rfl | rfl
    · exact .inst nx nd hx hd
    · exact iv
  have hLd : dx < s.heap.objs.size := Heap.lt_size hd
  have N : New dx w (fun c => X c ∨ c = s.heap.objs.size) env [(Str.ofString "ws", .str raw), (Str.ofString "self", .inst x dx emptyDict)] s1 s1 := ⟨F, (G.keeps kp.heap).less (fun c h => by
      rcases h with (h | h) | h
      · exact .inl h
      · exact .inr (h ▸ Nat.le_of_lt hLd)
      · exact .inr h), Moves.refl _ _, by rw [hL]; exact Nat.le_of_lt hLd⟩
  refine wpAny_execs_cons (N.set H hc rfl (Nat.le_refl _) (CleanBut.look (.cons rfl (.self .nil))) ((Ev.name rfl : Ev prog w A' _ _ _ _ _) env _ _ H N.F.sees) rfl rfl (by kernel_rfl) (by rfl) (fun _ _ h => by cases h) (fun tk v => ⟨_, _, rfl, Nat.le_of_ble_eq_true rfl⟩) fun s2 tk1 v1 N iv1 _ => ?_)
  generalize hod : (Obj.putName (Str.ofString "raw") (PyData.keyHash w.params (Str.ofString "raw")) (.str (Str.ofString "raw") tk1) v1 emptyDict) = od1 at N
  have hr1 : ∃ t1, lookIn (Str.ofString "raw") od1 = some (some (.str raw t1)) := by
    subst hod
    cases iv1
    exact ⟨_, rfl⟩
  obtain ⟨t1, hr1⟩ := hr1
  refine N.stmt H (Ex.unpackS hA'.hh (Ev.tuple (Evs.cons (Ev.clsS (C := 100) (y := Str.ofString " ") rfl (by kernel_rfl) (by kernel_rfl) (by kernel_rfl)) (Evs.cons (Ev.clsS (C := 100) (y := Str.ofString "\t") rfl (by kernel_rfl) (by kernel_rfl) (by kernel_rfl)) Evs.nil))) (.inl rfl) (.inl rfl) (fun _ _ => rfl) (fun env H => by cases env; cases H.scope; rfl)) fun s3 N => ?_
  refine N.stmt H (Ex.assign (Ev.listN rfl) (.inl rfl) (fun _ _ => rfl)) fun s4 N => ?_
  refine N.stmt H (Ex.assign3 Ev.int (.inl rfl) (.inl rfl) (.inl rfl) (fun env H => by cases env; cases H.scope; rfl)) fun s5 N => ?_
  let R' : Scan → Rho := fun st => [(Str.ofString "b", .int st.b), (Str.ofString "count", .newl dx (st.count.map .int)), (Str.ofString "n", .int st.n), (Str.ofString "nt", .int st.nt), (Str.ofString "T", .str (Str.ofString "\t")), (Str.ofString "S", .str (Str.ofString " ")), (Str.ofString "self", .inst x dx od1)]
  have ho1 : notSeq od1 := by subst hod; exact fun _ _ h => by cases h
  refine wpAny_execs_cons (New.forStr (k := (raw.cps.toList.takeWhile blank).length) hA'.hh N H hc (self_lt (x := x) (od := od1) rfl N.F.sees) (Ev.attrI (Ev.name rfl) (by kernel_rfl) hr1) (.inl rfl) (fun i => R' (stOf raw.cps.toList i)) ?_ ?_ ?_ ?_ fun s6 N => ?_)
  · have := List.takeWhile_sublist (l := raw.cps.toList) blank |>.length_le
    simpa using this
  · exact Sub.cons rfl (Sub.cons rfl (Sub.cons rfl (Sub.cons rfl (Sub.cons rfl (Sub.cons rfl (Sub.cons rfl .nil))))))
  · intro i hi Z' s' N Q E q
    have hb := blank_lt hi
    have hil : i < raw.cps.toList.length := Nat.lt_of_lt_of_le hi (List.takeWhile_sublist (l := raw.cps.toList) blank |>.length_le)
    rw [stOf_succ hil] at q
    have hbd := stOf_bound raw.cps.toList i
    rw [array_getD] at N
    generalize raw.cps.toList.getD i 0 = c at *
    generalize stOf raw.cps.toList i = st at *
    unfold blank at hb
    by_cases h32 : c = 32
    · subst h32
      refine N.exs H (Exs.one (Ex.if (c := true) (Te.cmp (Ev.name rfl) (Ev.name rfl) Cmp.eqS) (fun _ => Exs.cons (Ex.assign (Ev.bin (Ev.name rfl) Ev.int Bin.addI) (.inl rfl) (fun _ _ => rfl)) (Exs.one (Ex.assign (Ev.bin (Ev.name rfl) Ev.int Bin.addI) (.inl rfl) (fun _ _ => rfl)))) (fun h => by cases h))) fun s'' N'' => q s'' (N''.sub ?_)
      exact Sub.cons rfl (Sub.cons rfl (Sub.cons rfl (Sub.cons rfl (Sub.cons rfl (Sub.cons rfl (Sub.cons rfl .nil))))))
    · have h9 : c = 9 := by simpa [h32] using hb
      subst h9
      refine wpAny_execs_cons (N.ifF H (Te.cmp (Ev.name rfl) (Ev.name rfl) Cmp.eqS) fun s2 N => ?_)
      refine wpAny_execs_cons (N.ifT H (Te.cmp (Ev.name rfl) (Ev.name rfl) Cmp.eqS) fun s3 N => ?_)
      refine N.stmt H (Ex.assign (Ev.bin (Ev.name rfl) Ev.int Bin.addI) (.inl rfl) (fun _ _ => rfl)) fun s4 N => ?_
      refine N.stmt H (Ex.assign (Ev.bin (Ev.name rfl) Ev.int Bin.addI) (.inl rfl) (fun _ _ => rfl)) fun s5 N => ?_
      have hbn : st.b ≤ 100000 := by have : raw.cps.toList.length = raw.length := Array.length_toList; omega
      have hcn : st.count.length ≤ 100000 := by have : raw.cps.toList.length = raw.length := Array.length_toList; omega
      refine N.stmt H (ρ₁ := (Str.ofString "count", .newl dx ((pad st.count st.b).map .int)) :: (Str.ofString "nt", D.int ((st.nt : Int) + 1)) :: (Str.ofString "n", D.int ((st.n : Int) + 1)) :: (Str.ofString "ch", D.str ⟨#[9]⟩) :: R' st) ?_ fun s6 N => ?_
      · by_cases hlen : st.count.length ≤ st.b
        · rw [pad_yes hlen]
          exact Ex.if (c := decide ((st.b : Int) ≥ ((st.count.map D.int).length : Int))) (Te.cmp (Ev.name rfl) (Ev.callB1 rfl (by kernel_rfl) bb_len (Ev.newl (Ev.name rfl)) (fun X s v _ i => gives_len i (by rw [List.length_map]; omega))) Cmp.geI)
            (fun _ => Exs.one (Ex.assign (Ev.addN (x := x) (od := od1) rfl (Ev.name rfl) (Ev.bin (Ev.list (Evs.cons Ev.int Evs.nil)) (Ev.bin (Ev.bin (Ev.name rfl) (Ev.callB1 rfl (by kernel_rfl) bb_len (Ev.newl (Ev.name rfl)) (fun X s v _ i => gives_len i (by rw [List.length_map]; omega))) Bin.subI) Ev.int Bin.addI)
              (Bin.mulL (by rw [List.length_map]; omega) (by rw [List.length_map]; omega) (by rw [List.length_map]; simp; omega) (by simp))) (by simp; omega)) (.inl rfl) (fun _ _ => rfl)))
            (fun h => absurd (of_decide_eq_false h) (by rw [List.length_map]; omega))
        · have e : pad st.count st.b = st.count := by unfold pad; rw [if_neg hlen]
          rw [e]
          exact Ex.weak (Ex.if (c := decide ((st.b : Int) ≥ ((st.count.map D.int).length : Int))) (Te.cmp (Ev.name rfl) (Ev.callB1 rfl (by kernel_rfl) bb_len (Ev.newl (Ev.name rfl)) (fun X s v _ i => gives_len i (by rw [List.length_map]; omega))) Cmp.geI)
            (fun h => absurd (of_decide_eq_true h) (by rw [List.length_map]; omega)) (fun _ => Exs.nil)) (Sub.cons rfl (Sub.refl _))
      · have hlt : st.b < (pad st.count st.b).length := by rw [pad_length]; omega
        have hpl : (pad st.count st.b).length ≤ 100001 := by rw [pad_length]; omega
        have hg : ((pad st.count st.b).map D.int)[((st.b : Int)).toNat]? = some (D.int ((pad st.count st.b).getD st.b 0)) := by
          rw [Int.toNat_natCast, List.getElem?_map, List.getD_eq_getElem?_getD, List.getElem?_eq_getElem hlt]; rfl
        refine wpAny_execs_cons (N.item H hc rfl (flats_ints _) (FlatBut.look (.skip (.cons rfl (.cons rfl (.cons rfl (.cons rfl (.skip (.cons rfl (.cons rfl (.cons rfl (.cons rfl (.inst ho1 .nil)))))))))))) (Ev.bin (Ev.idxL (Ev.newl (Ev.name rfl)) (Ev.name rfl) (by omega) (by omega) hg) Ev.int Bin.addI) rfl (Ev.name rfl) (by omega) (by rw [List.length_map]; omega) (by omega) rfl (q := fun s7 N => ?_))
        refine N.stmt H (Ex.assign Ev.int (.inl rfl) (fun _ _ => rfl)) fun s8 N => ?_
        have e : ((pad st.count st.b).map D.int).set ((st.b : Int)).toNat (D.int ((pad st.count st.b).getD st.b 0 + 1)) = (bump st.count st.b).map D.int := by
          rw [Int.toNat_natCast, bump_pad, List.map_set]
        rw [e] at N
        refine wpAny_execs_nil (wpAny_execs_nil (wpAny_execs_nil (q _ (N.sub ?_))))
        exact Sub.cons rfl (Sub.cons rfl (Sub.cons rfl (Sub.cons rfl (Sub.cons rfl (Sub.cons rfl (Sub.cons rfl .nil))))))
  · rcases Nat.lt_or_ge (raw.cps.toList.takeWhile blank).length raw.cps.toList.length with hk | hk
    · refine .inr ⟨by simpa using hk, fun Z' s' N Q E q => ?_⟩
      have hb := not_blank_at hk
      rw [array_getD] at N
      generalize raw.cps.toList.getD (raw.cps.toList.takeWhile blank).length 0 = c at *
      unfold blank at hb
      simp only [Bool.or_eq_false_iff, beq_eq_false_iff_ne, ne_eq] at hb
      refine N.brk H (Exs.one (Ex.if (c := false) ?_ (fun h => by cases h) (fun _ => Exs.one (Ex.if (c := false) ?_ (fun h => by cases h) (fun _ => Exs.brk Ex.break))))) fun s'' N'' => q s'' (N''.sub ?_)
      · exact Te.cast (Te.cmp (Ev.name rfl) (Ev.name rfl) Cmp.eqS) (one_eq.trans (decide_eq_false hb.1))
      · exact Te.cast (Te.cmp (Ev.name rfl) (Ev.name rfl) Cmp.eqS) (one_eq.trans (decide_eq_false hb.2))
      · exact Sub.cons rfl (Sub.cons rfl (Sub.cons rfl (Sub.cons rfl (Sub.cons rfl (Sub.cons rfl (Sub.cons rfl .nil))))))
    · exact .inl (by have := List.takeWhile_sublist (l := raw.cps.toList) blank |>.length_le; have h2 : raw.cps.toList.length = raw.cps.size := Array.length_toList; omega)
  have hsc : stOf raw.cps.toList (raw.cps.toList.takeWhile blank).length = scan raw.cps.toList := by
    unfold stOf scan
    rw [← takeWhile_take]
  have hcb : (scan raw.cps.toList).count.length ≤ 100000 := by
    have := (stOf_bound raw.cps.toList (raw.cps.toList.takeWhile blank).length).2
    rw [hsc] at this
    have h1 := List.takeWhile_sublist (l := raw.cps.toList) blank |>.length_le
    have h2 : raw.cps.toList.length = raw.length := Array.length_toList
    omega
  rw [hsc] at N
  generalize scan raw.cps.toList = st at *
  subst hod
  have cl0 : CleanBut (R' st) := .cons rfl (.cons (cleans_ints _) (.cons rfl (.cons rfl (.cons rfl (.cons rfl (.self .nil))))))
  refine wpAny_execs_cons (N.set H hc rfl (Nat.le_refl _) cl0.look ((Ev.name rfl : Ev prog w A' _ _ _ _ _) env _ _ H N.F.sees) rfl rfl (by kernel_rfl) (by rfl) (fun _ _ h => by cases h) (fun tk v => ⟨_, _, rfl, Nat.le_of_ble_eq_true rfl⟩) fun s7 tk2 v2 N iv2 p2 => ?_)
  refine wpAny_execs_cons (N.set H hc rfl (Nat.le_refl _) cl0.self.look ((Ev.name rfl : Ev prog w A' _ _ _ _ _) env _ _ H N.F.sees) rfl rfl (by kernel_rfl) (by rfl) (fun _ _ h => by cases h) (fun tk v => ⟨_, _, rfl, Nat.le_of_ble_eq_true rfl⟩) fun s8 tk3 v3 N iv3 p3 => ?_)
  refine wpAny_execs_cons (N.set (d := .tuple [.tuple (st.count.map .int), .int st.b]) H hc rfl (Nat.le_refl _) cl0.self.self.look ?_ ?_ rfl (by kernel_rfl) (by rfl) (fun _ _ h => by cases h) (fun tk v => ⟨_, _, rfl, Nat.le_of_ble_eq_true rfl⟩) fun s9 tk4 v4 N iv4 p4 => ?_)
  · intro Q E qq
    have S8 := N.F.sees
    obtain ⟨_, oL, _, _, hoL, _⟩ := N.F.ns
    refine Tuple_ (Calls.spliced_cons (Call_Name1 (builtin_val H S8 rfl (by kernel_rfl) bb_tuple (PySem.callWith_type rfl (Calls.evalArgs_plain (Calls.spliced_cons ((Ev.newl (Ev.name rfl) : Ev prog w A' _ _ _ _ _) env _ _ H S8 _ E fun v5 s9 k9 i9 => Calls.spliced_nil ?_))))) rfl))
    refine gives_tuple (tp := env.locals) (k9.heap _ _ hoL) (fun c h => ?_) i9 (by rw [List.length_map]; omega) _ E fun v6 s10 k10 i10 => ?_
    · rcases h with h | h
      · rw [hL]; exact Nat.le_of_lt (hX c h)
      · rw [h, hL]; exact Nat.le_refl _
    have kk := k9.trans k10
    refine Calls.spliced_cons ((Ev.name rfl : Ev prog w A' _ _ _ _ _) env _ _ H (S8.keeps kk) _ E fun v7 s11 k11 i11 => Calls.spliced_nil ?_)
    exact Gives.newTuple ((S8.keeps kk).keeps k11).std (.cons (i10.keeps k11.heap) (.cons i11 .nil)) (by simp) _ E fun v8 s12 k12 i12 => qq _ _ ((kk.trans k11).trans k12) i12
  · show (D.cleans (st.count.map D.int) && (true && true)) = true
    rw [cleans_ints]; rfl
  refine wpAny_execs_cons (N.set (d := .bool (decide ((st.count.map D.int).length ≤ (1 : Int)))) H hc rfl (Nat.le_refl _) cl0.self.self.self.look ((Ev.cmp (Ev.callB1 rfl (by kernel_rfl) bb_len (Ev.newl (Ev.name rfl)) (fun X s v _ i => gives_len i (by rw [List.length_map]; omega))) Ev.int Cmp.leI : Ev prog w A' _ _ _ _ _) env _ _ H N.F.sees) rfl rfl (by kernel_rfl) (by rfl) (fun _ _ h => by cases h) (fun tk v => ⟨_, _, rfl, Nat.le_of_ble_eq_true rfl⟩) fun s10 tk5 v5 N iv5 p5 => ?_)
  have iv4 := p5 _ _ iv4 (by show (D.cleans (st.count.map D.int) && (true && true)) = true; rw [cleans_ints]; rfl)
  obtain ⟨u, _, iu⟩ := N.F.sees.vals (Str.ofString "self") _ rfl rfl
  cases iu with | inst n1 n2 g1 g2 =>
  cases iv4 with | tuple m1 l1 r1 =>
  cases r1 with | cons r1 r2 =>
  cases r2 with | cons r2 r3 =>
  cases r3
  cases r1 with | tuple m2 l2 r1 =>
  cases r2
  cases iv1
  cases iv2
  cases iv3
  cases iv5
  refine wpAny_execs_nil (q _ ?_ ⟨_, _, _, _, _, _, _, _, _, _, _, g1, g2, fun z => n1 (.inl z), fun z => n2 (.inl z), fun z => m1 (.inl z), fun z => m2 (.inl z), rfl, rfl, rfl, rfl, ?_, rfl, rfl, rfl, rfl, l1, l2, r1.ints⟩)
  · exact kp.moves.trans (N.M.mono fun c h => by
      rcases h with h | h
      · rw [h]; exact N.L
      · exact h.2)
  · have e : decide (((st.count.map D.int).length : Int) ≤ 1) = decide (st.count.length ≤ 1) := by
      rw [List.length_map]
      by_cases h : st.count.length ≤ 1
      · rw [decide_eq_true h, decide_eq_true (by omega)]
      · rw [decide_eq_false h, decide_eq_false (by omega)]
    rw [← e]; rfl
end
end Mine
end

section
namespace Mine

def whiteOf (raw : Str) : D := .white raw (scan raw.cps.toList).n (scan raw.cps.toList).nt (scan raw.cps.toList).count (scan raw.cps.toList).b (decide ((scan raw.cps.toList).count.length ≤ 1))
section
variable {prog : Program} {w : World} {A : Around} {X X' Z : V0} {env cenv : Env} {ρ ρ₁ ρ₂ : Rho} {s s' s₀ s₁ s₂ : Shared} {sc scope tsc : Scope} {cn tcn town : List Str} {own : Own}

theorem fun_white {n : Nat} {raw : Str} (hz : raw.length ≤ 100000) : Fun prog w (n + 3) 100 [.str raw] (whiteOf raw) := fun A X s vs Q E hA G hX hi q => by
  cases hi with | cons i r =>
  cases r
  rename_i v
  obtain ⟨hh, g, d, t, os⟩ := s
  have X0 := G.gr0.X
  have k : Ext hh ((hh.push emptyDict).push (instObj 100 hh.objs.size)) := fun b o e => Heap.get?_push_of_some _ (Heap.get?_push_of_some _ e)
  have sz : ((hh.push emptyDict).push (instObj 100 hh.objs.size)).objs.size = hh.objs.size + 2 := by rw [Heap.size_push, Heap.size_push]
  have kp : Kp ⟨hh, g, d, t, os⟩ ⟨(hh.push emptyDict).push (instObj 100 hh.objs.size), g, d, t, os⟩ := ⟨⟨_, t, rfl⟩, k, by show hh.objs.size ≤ Array.size _; rw [sz]; omega⟩
  have hx : ((hh.push emptyDict).push (instObj 100 hh.objs.size)).get? (hh.objs.size + 1) = some (instObj 100 hh.objs.size) := by heap_get
  have hd : ((hh.push emptyDict).push (instObj 100 hh.objs.size)).get? hh.objs.size = some emptyDict := by heap_get
  have nz : ∀ c, hh.objs.size ≤ c → ¬ X c := fun c h z => absurd (hX c z) (Nat.not_lt.mpr h)
  refine wpAny_call (make_core (makes_of X0 (by kernel_rfl)) (looks_findIn X0 (name := Str.ofString "__init__") (r := some (.ref 55)) (by kernel_rfl)) (fun self => bind_fn X0 self (by kernel_rfl)) (.inl rfl) ?_)
  refine init_run (n := n + 1) (X := X) (x := hh.objs.size + 1) (dx := hh.objs.size) (raw := raw) ?_ ((G.more (Y := fun c => hh.objs.size ≤ c) k fun c h => Heap.get?_none_of_le h).less fun c h => h) (fun c z => Nat.lt_of_lt_of_le (hX c z) kp.size) (nz _ (Nat.le_succ _)) (nz _ (Nat.le_refl _)) hx hd (Nat.le_succ _) (i.keeps k) hz fun s' m W => ?_
  · generalize hc : (Code.builtin "type.__call__" _) = c
    have e1 : c.weight ≤ 1 := by subst hc; exact Nat.le_of_ble_eq_true rfl
    have e2 : c.cUnits ≤ 20 := by subst hc; exact Nat.le_of_ble_eq_true rfl
    exact ⟨hA.1, by have := hA.2.1; show A.depth + c.weight + _ ≤ 900; omega, by have := hA.2.2; show A.units + c.cUnits + _ ≤ 9000; omega⟩
  · exact ⟨rfl, q _ s' (Moves.keeps kp m fun c h => Heap.get?_none_of_le h) (.white W)⟩
theorem Ev.white {n : Nat} {pn pos : Pos} {e : Expr} {raw : Str} (hA : Ok (n + 3) A) (hr : sc.names.lookup (Str.ofString "Whitespace") = some .globalImplicit) (h : Ev prog w A sc cn ρ e (.str raw)) (hz : raw.length ≤ 100000)
    (hs : ∀ env, starEach [e] env = (false, eval e env) :: starEach [] env := by intro _; rfl) (hp : ∀ env, (backTo pos (starEach [] env)).any (·.1) = false := by intro _; rfl) :
    Ev prog w A sc cn ρ (.Call (.Name (Str.ofString "Whitespace") pn) [e] [] pos) (whiteOf raw) :=
  Ev.callF hA hr (by kernel_rfl) (by kernel_rfl) (Evs.cons h Evs.nil hs) (fun_white hz) (by decide) hs hp
end
end Mine
end

section
namespace Mine.R
open PySem.Sre

structure Fv where
  wait : Wait
  pc : Nat
  pos : Nat
  om : Bool

def fview (f : Sre.Frame) : Fv := ⟨f.wait, f.pc, f.pos, f.outermost⟩

/-- what counts of the machine -/
structure V (code text : Array Nat) (lim ls : Nat) (m : M) (start pc pos handed : Nat) (ma om : Bool) (fs : List Fv) (ans : Option Bool) : Prop where
  code : m.code = code
  text : m.text = text
  lim : m.lim = lim
  ls : m.lastStart = ls
  start : m.start = start
  whole : m.wholeText = false
  ma : m.mustAdvance = ma
  pc : m.pc = pc
  pos : m.pos = pos
  handed : m.handed = handed
  om : m.outermost = om
  inner : m.inner = none
  frames : m.frames.map fview = fs
  kept : ∀ f ∈ m.frames, f.kept.marks.size = 0 ∧ f.kept.whole = false
  weight : m.weight = fs.length
  few : fs.length ≤ 100
  answer : m.answer = ans
  outcome : m.outcome = none

variable {code text : Array Nat} {lim ls start pc pos handed : Nat} {ma om : Bool} {fs : List Fv} {m : M}

theorem op16 : ops[16]? = some .LITERAL := rfl
theorem op6 : ops[6]? = some .AT := rfl
theorem op15 : ops[15]? = some .JUMP := rfl
theorem op7 : ops[7]? = some .BRANCH := rfl
theorem op5 : ops[5]? = some .ASSERT_NOT := rfl
theorem op1 : ops[1]? = some .SUCCESS := rfl
theorem op14 : ops[14]? = some .INFO := rfl
theorem op0 : ops[0]? = some .FAILURE := rfl


theorem lit_yes (v : V code text lim ls m start pc pos handed ma om fs none) (hp : pc < code.size) (h : code.getD pc 0 = 16) (hl : pos < lim) (ht : text.getD pos 0 = code.getD (pc + 1) 0) :
    V code text lim ls m.step start (pc + 2) (pos + 1) handed ma om fs none := by
  obtain ⟨c, t, l, st, lss, wt, mad, p, q, hd, o, mk, lm, li, lp, inn, frs, wg, an, sn, oc⟩ := m
  obtain ⟨rfl, rfl, rfl, rfl, rfl, rfl, rfl, rfl, rfl, rfl, rfl, rfl, hfr, hk, hwg, few, rfl, rfl⟩ := v
  dsimp only at *
  have e : M.step ⟨c, t, l, st, lss, false, mad, p, q, hd, o, mk, lm, li, lp, none, frs, wg, none, sn, none⟩ = ⟨c, t, l, st, lss, false, mad, p + 2, q + 1, hd, o, mk, lm, li, lp, none, frs, wg, none, sn.add 16, none⟩ := by
    simp [M.step, M.exec, M.word, hp, h, op16, Nat.not_le.mpr hl, accepts, ht, itemWidth]
  rw [e]
  exact ⟨rfl, rfl, rfl, rfl, rfl, rfl, rfl, rfl, rfl, rfl, rfl, rfl, hfr, hk, hwg, few, rfl, rfl⟩
theorem lit_no (v : V code text lim ls m start pc pos handed ma om fs none) (hp : pc < code.size) (h : code.getD pc 0 = 16) (hl : pos ≥ lim ∨ text.getD pos 0 ≠ code.getD (pc + 1) 0) :
    V code text lim ls m.step start pc pos handed ma om fs (some false) := by
  obtain ⟨c, t, l, st, lss, wt, mad, p, q, hd, o, mk, lm, li, lp, inn, frs, wg, an, sn, oc⟩ := m
  obtain ⟨rfl, rfl, rfl, rfl, rfl, rfl, rfl, rfl, rfl, rfl, rfl, rfl, hfr, hk, hwg, few, rfl, rfl⟩ := v
  dsimp only at *
  have e : M.step ⟨c, t, l, st, lss, false, mad, p, q, hd, o, mk, lm, li, lp, none, frs, wg, none, sn, none⟩ = ⟨c, t, l, st, lss, false, mad, p, q, hd, o, mk, lm, li, lp, none, frs, wg, some false, sn.add 16, none⟩ := by
    by_cases hge : q ≥ l
    · simp [M.step, M.exec, M.word, hp, h, op16, hge, M.say]
    · have hne := hl.resolve_left hge
      simp [M.step, M.exec, M.word, hp, h, op16, hge, M.say, accepts, beq_eq_false_iff_ne.mpr hne, -Array.getD_eq_getD_getElem?]
  rw [e]
  exact ⟨rfl, rfl, rfl, rfl, rfl, rfl, rfl, rfl, rfl, rfl, rfl, rfl, hfr, hk, hwg, few, rfl, rfl⟩
theorem at_yes (v : V code text lim ls m start pc pos handed ma om fs none) (hp : pc < code.size) (h : code.getD pc 0 = 6) (h1 : code.getD (pc + 1) 0 = 1) (hy : pos = 0 ∨ text.getD (pos - 1) 0 = 10) :
    V code text lim ls m.step start (pc + 2) pos handed ma om fs none := by
  obtain ⟨c, t, l, st, lss, wt, mad, p, q, hd, o, mk, lm, li, lp, inn, frs, wg, an, sn, oc⟩ := m
  obtain ⟨rfl, rfl, rfl, rfl, rfl, rfl, rfl, rfl, rfl, rfl, rfl, rfl, hfr, hk, hwg, few, rfl, rfl⟩ := v
  dsimp only at *
  have e : M.step ⟨c, t, l, st, lss, false, mad, p, q, hd, o, mk, lm, li, lp, none, frs, wg, none, sn, none⟩ = ⟨c, t, l, st, lss, false, mad, p + 2, q, hd, o, mk, lm, li, lp, none, frs, wg, none, (sn.add 6).add (43 + 1), none⟩ := by
    rcases hy with hy | hy <;> simp [M.step, M.exec, M.word, hp, h, op6, h1, M.isAt, hy]
  rw [e]
  exact ⟨rfl, rfl, rfl, rfl, rfl, rfl, rfl, rfl, rfl, rfl, rfl, rfl, hfr, hk, hwg, few, rfl, rfl⟩
theorem at_no (v : V code text lim ls m start pc pos handed ma om fs none) (hp : pc < code.size) (h : code.getD pc 0 = 6) (h1 : code.getD (pc + 1) 0 = 1) (hy : pos ≠ 0) (hy2 : text.getD (pos - 1) 0 ≠ 10) :
    V code text lim ls m.step start pc pos handed ma om fs (some false) := by
  obtain ⟨c, t, l, st, lss, wt, mad, p, q, hd, o, mk, lm, li, lp, inn, frs, wg, an, sn, oc⟩ := m
  obtain ⟨rfl, rfl, rfl, rfl, rfl, rfl, rfl, rfl, rfl, rfl, rfl, rfl, hfr, hk, hwg, few, rfl, rfl⟩ := v
  dsimp only at *
  have e : M.step ⟨c, t, l, st, lss, false, mad, p, q, hd, o, mk, lm, li, lp, none, frs, wg, none, sn, none⟩ = ⟨c, t, l, st, lss, false, mad, p, q, hd, o, mk, lm, li, lp, none, frs, wg, some false, (sn.add 6).add (43 + 1), none⟩ := by
    simp [M.step, M.exec, M.word, hp, h, op6, h1, M.isAt, M.say, beq_eq_false_iff_ne.mpr hy, beq_eq_false_iff_ne.mpr hy2, -Array.getD_eq_getD_getElem?]
  rw [e]
  exact ⟨rfl, rfl, rfl, rfl, rfl, rfl, rfl, rfl, rfl, rfl, rfl, rfl, hfr, hk, hwg, few, rfl, rfl⟩
theorem jump (v : V code text lim ls m start pc pos handed ma om fs none) (hp : pc < code.size) (h : code.getD pc 0 = 15) : V code text lim ls m.step start (pc + 1 + code.getD (pc + 1) 0) pos handed ma om fs none := by
  obtain ⟨c, t, l, st, lss, wt, mad, p, q, hd, o, mk, lm, li, lp, inn, frs, wg, an, sn, oc⟩ := m
  obtain ⟨rfl, rfl, rfl, rfl, rfl, rfl, rfl, rfl, rfl, rfl, rfl, rfl, hfr, hk, hwg, few, rfl, rfl⟩ := v
  dsimp only at *
  have e : M.step ⟨c, t, l, st, lss, false, mad, p, q, hd, o, mk, lm, li, lp, none, frs, wg, none, sn, none⟩ = ⟨c, t, l, st, lss, false, mad, p + 1 + c.getD (p + 1) 0, q, hd, o, mk, lm, li, lp, none, frs, wg, none, sn.add 15, none⟩ := by
    simp [M.step, M.exec, M.word, hp, h, op15]
  rw [e]
  exact ⟨rfl, rfl, rfl, rfl, rfl, rfl, rfl, rfl, rfl, rfl, rfl, rfl, hfr, hk, hwg, few, rfl, rfl⟩
theorem success (v : V code text lim ls m start pc pos handed ma om fs none) (hp : pc < code.size) (h : code.getD pc 0 = 1) (hm : ma = false ∨ pos ≠ start) : V code text lim ls m.step start pc pos pos ma om fs (some true) := by
  obtain ⟨c, t, l, st, lss, wt, mad, p, q, hd, o, mk, lm, li, lp, inn, frs, wg, an, sn, oc⟩ := m
  obtain ⟨rfl, rfl, rfl, rfl, rfl, rfl, rfl, rfl, rfl, rfl, rfl, rfl, hfr, hk, hwg, few, rfl, rfl⟩ := v
  dsimp only at *
  have e : M.step ⟨c, t, l, st, lss, false, mad, p, q, hd, o, mk, lm, li, lp, none, frs, wg, none, sn, none⟩ = ⟨c, t, l, st, lss, false, mad, p, q, q, o, mk, lm, li, lp, none, frs, wg, some true, sn.add 1, none⟩ := by
    rcases hm with hm | hm <;> simp [M.step, M.exec, M.word, hp, h, op1, hm, M.say]
  rw [e]
  exact ⟨rfl, rfl, rfl, rfl, rfl, rfl, rfl, rfl, rfl, rfl, rfl, rfl, hfr, hk, hwg, few, rfl, rfl⟩

/-- an attempt -/
theorem attempt (v : V code text lim ls m start pc pos handed ma om fs none) (f : Sre.Frame) (hf : f.kept.marks.size = 0 ∧ f.kept.whole = false) (hl : fs.length < 100) (target frm : Nat) (om' : Bool) :
    V code text lim ls (m.attempt f target frm om') start target frm frm ma om' (fview f :: fs) none := by
  obtain ⟨c, t, l, st, lss, wt, mad, p, q, hd, o, mk, lm, li, lp, inn, frs, wg, an, sn, oc⟩ := m
  obtain ⟨rfl, rfl, rfl, rfl, rfl, rfl, rfl, rfl, rfl, rfl, rfl, rfl, hfr, hk, hwg, few, rfl, rfl⟩ := v
  dsimp only at *
  unfold M.attempt
  dsimp only
  rw [hf.1, if_neg (by omega)]
  refine ⟨rfl, rfl, rfl, rfl, rfl, rfl, rfl, rfl, rfl, rfl, rfl, rfl, by dsimp only; rw [List.map_cons, hfr], fun g hg => ?_, by dsimp only; rw [List.length_cons]; omega, by rw [List.length_cons]; omega, rfl, rfl⟩
  rcases List.mem_cons.mp hg with rfl | hg
  · exact hf
  · exact hk g hg

theorem pop_step {f : Fv} {yes : Bool} (v : V code text lim ls m start pc pos handed ma om (f :: fs) (some yes)) :
    ∃ m' g, m.step = M.resume m' g yes ∧ fview g = f ∧ V code text lim ls m' start f.pc f.pos handed ma f.om fs none ∧ g.kept.marks.size = 0 ∧ g.kept.whole = false := by
  obtain ⟨c, t, l, st, lss, wt, mad, p, q, hd, o, mk, lm, li, lp, inn, frs, wg, an, sn, oc⟩ := m
  obtain ⟨rfl, rfl, rfl, rfl, rfl, rfl, rfl, rfl, rfl, rfl, rfl, rfl, hfr, hk, hwg, few, rfl, rfl⟩ := v
  dsimp only at *
  cases frs with
  | nil => cases hfr
  | cons g r =>
    rw [List.map_cons] at hfr
    injection hfr with h1 h2
    subst h1
    have hg := hk g (List.mem_cons_self ..)
    rw [List.length_cons] at hwg few
    refine ⟨_, g, rfl, rfl, ⟨rfl, rfl, rfl, rfl, rfl, rfl, rfl, rfl, rfl, rfl, rfl, rfl, h2, fun f hf => hk f (List.mem_cons_of_mem _ hf), ?_, by omega, rfl, rfl⟩, hg⟩
    dsimp only
    rw [hg.1]; omega
theorem say {b : Bool} (v : V code text lim ls m start pc pos handed ma om fs none) : V code text lim ls (m.say b) start pc pos handed ma om fs (some b) := by
  obtain ⟨c, t, l, st, lss, wt, mad, p, q, hd, o, mk, lm, li, lp, inn, frs, wg, an, sn, oc⟩ := m
  obtain ⟨rfl, rfl, rfl, rfl, rfl, rfl, rfl, rfl, rfl, rfl, rfl, rfl, hfr, hk, hwg, few, rfl, rfl⟩ := v
  exact ⟨rfl, rfl, rfl, rfl, rfl, rfl, rfl, rfl, rfl, rfl, rfl, rfl, hfr, hk, hwg, few, rfl, rfl⟩
theorem putBack (v : V code text lim ls m start pc pos handed ma om fs none) {k : Sre.Kept} (hk : k.whole = false) : V code text lim ls (m.putBack k) start pc pos handed ma om fs none := by
  obtain ⟨c, t, l, st, lss, wt, mad, p, q, hd, o, mk, lm, li, lp, inn, frs, wg, an, sn, oc⟩ := m
  obtain ⟨rfl, rfl, rfl, rfl, rfl, rfl, rfl, rfl, rfl, rfl, rfl, rfl, hfr, hkp, hwg, few, rfl, rfl⟩ := v
  exact ⟨rfl, rfl, rfl, rfl, rfl, rfl, rfl, rfl, rfl, rfl, rfl, rfl, hfr, hkp, hwg, few, rfl, rfl⟩
/-- yes goes up through starts and branches -/
theorem up_yes {f : Fv} (hw : f.wait = .nextStart ∨ f.wait = .nextBranch) (v : V code text lim ls m start pc pos handed ma om (f :: fs) (some true)) : V code text lim ls m.step start f.pc f.pos handed ma f.om fs (some true) := by
  obtain ⟨m', g, e, rfl, v', _⟩ := pop_step v
  rw [e]
  unfold M.resume
  have hw : g.wait = .nextStart ∨ g.wait = .nextBranch := hw
  rcases hw with h | h <;> (rw [h]; exact say v')
theorem keep_ok (hi : m.inner = none) : (m.keep m.inner.isSome).marks.size = 0 ∧ (m.keep m.inner.isSome).whole = false := by
  rw [hi]; exact ⟨rfl, rfl⟩
theorem alternative (v : V code text lim ls m start pc pos handed ma om fs none) {k : Sre.Kept} (hk : k.marks.size = 0 ∧ k.whole = false) (hl : fs.length < 100) (alt : Nat) (h : code.getD alt 0 ≠ 0) :
    V code text lim ls (m.alternative alt k) start (alt + 1) pos pos ma om (⟨.nextBranch, alt, pos, om⟩ :: fs) none := by
  unfold M.alternative
  rw [v.code, if_neg (by simpa using h)]
  have := attempt v { m.frame .nextBranch with pc := alt, kept := k } hk hl (alt + 1) m.pos m.outermost
  rw [v.pos, v.om] at this
  rw [v.pos, v.om]
  have hf : fview { m.frame .nextBranch with pc := alt, kept := k } = ⟨.nextBranch, alt, pos, om⟩ := by
    unfold fview M.frame
    dsimp only
    rw [v.pos, v.om]
  rw [hf] at this
  exact this
theorem branch (v : V code text lim ls m start pc pos handed ma om fs none) (hp : pc < code.size) (h : code.getD pc 0 = 7) (h1 : code.getD (pc + 1) 0 ≠ 0) (hl : fs.length < 100) :
    V code text lim ls m.step start (pc + 2) pos pos ma om (⟨.nextBranch, pc + 1, pos, om⟩ :: fs) none := by
  have e : ∃ m', m.step = m'.alternative (pc + 1) (m'.keep m'.inner.isSome) ∧ V code text lim ls m' start pc pos handed ma om fs none := by
    refine ⟨{ m with seen := m.seen.add 7 }, ?_, ⟨v.code, v.text, v.lim, v.ls, v.start, v.whole, v.ma, v.pc, v.pos, v.handed, v.om, v.inner, v.frames, v.kept, v.weight, v.few, v.answer, v.outcome⟩⟩
    obtain ⟨c, t, l, st, lss, wt, mad, p, q, hd, o, mk, lm, li, lp, inn, frs, wg, an, sn, oc⟩ := m
    obtain ⟨rfl, rfl, rfl, rfl, rfl, rfl, rfl, rfl, rfl, rfl, rfl, rfl, hfr, hk, hwg, few, rfl, rfl⟩ := v
    dsimp only at *
    simp [M.step, M.exec, M.word, hp, h, op7]
  obtain ⟨m', e, v'⟩ := e
  rw [e]
  exact alternative v' (keep_ok v'.inner) hl _ h1
theorem next_branch {alt p0 : Nat} {o0 : Bool} (v : V code text lim ls m start pc pos handed ma om (⟨.nextBranch, alt, p0, o0⟩ :: fs) (some false)) (h : code.getD (alt + code.getD alt 0) 0 ≠ 0) (hl : fs.length < 100) :
    V code text lim ls m.step start (alt + code.getD alt 0 + 1) p0 p0 ma o0 (⟨.nextBranch, alt + code.getD alt 0, p0, o0⟩ :: fs) none := by
  obtain ⟨m', g, e, hg, v', hk⟩ := pop_step v
  rw [e]
  unfold M.resume
  have hw : g.wait = .nextBranch := congrArg Fv.wait hg
  have hp : g.pc = alt := congrArg Fv.pc hg
  rw [hw]
  dsimp only
  rw [if_neg (by decide), hp, v'.code]
  exact alternative (putBack v' hk.2) hk hl _ h
theorem assert_not (v : V code text lim ls m start pc pos handed ma om fs none) (hp : pc < code.size) (h : code.getD pc 0 = 5) (h2 : code.getD (pc + 2) 0 = 0) (hl : fs.length < 100) :
    V code text lim ls m.step start (pc + 3) pos pos ma false (⟨.lookNot, pc, pos, om⟩ :: fs) none := by
  have e : ∃ m', m.step = m'.attempt { m'.frame .lookNot with kept := m'.keep (true && m'.inner.isSome) } (pc + 3) pos false ∧ V code text lim ls m' start pc pos handed ma om fs none := by
    refine ⟨{ m with seen := m.seen.add 5 }, ?_, ⟨v.code, v.text, v.lim, v.ls, v.start, v.whole, v.ma, v.pc, v.pos, v.handed, v.om, v.inner, v.frames, v.kept, v.weight, v.few, v.answer, v.outcome⟩⟩
    obtain ⟨c, t, l, st, lss, wt, mad, p, q, hd, o, mk, lm, li, lp, inn, frs, wg, an, sn, oc⟩ := m
    obtain ⟨rfl, rfl, rfl, rfl, rfl, rfl, rfl, rfl, rfl, rfl, rfl, rfl, hfr, hk, hwg, few, rfl, rfl⟩ := v
    dsimp only at *
    simp [M.step, M.exec, M.word, hp, h, h2, op5]
  obtain ⟨m', e, v'⟩ := e
  rw [e]
  have hf : fview { m'.frame .lookNot with kept := m'.keep (true && m'.inner.isSome) } = ⟨.lookNot, pc, pos, om⟩ := by
    unfold fview M.frame
    dsimp only
    rw [v'.pos, v'.om, v'.pc]
  have := attempt v' { m'.frame .lookNot with kept := m'.keep (true && m'.inner.isSome) } (by rw [v'.inner]; exact ⟨rfl, rfl⟩) hl (pc + 3) pos false
  rw [hf] at this
  exact this
theorem look_not {p1 p0 : Nat} {o0 : Bool} (v : V code text lim ls m start pc pos handed ma om (⟨.lookNot, p1, p0, o0⟩ :: fs) (some false)) : V code text lim ls m.step start (p1 + 1 + code.getD (p1 + 1) 0) p0 handed ma o0 fs none := by
  obtain ⟨m', g, e, hg, v', hk⟩ := pop_step v
  rw [e]
  unfold M.resume
  have hw : g.wait = .lookNot := congrArg Fv.wait hg
  rw [hw]
  dsimp only
  rw [if_neg (by decide)]
  have b := putBack v' hk.2
  refine ⟨b.code, b.text, b.lim, b.ls, b.start, b.whole, b.ma, ?_, b.pos, b.handed, b.om, b.inner, b.frames, b.kept, b.weight, b.few, b.answer, b.outcome⟩
  show m'.pc + 1 + m'.word 1 = _
  unfold M.word
  rw [v'.pc, v'.code]
theorem finish {yes : Bool} (v : V code text lim ls m start pc pos handed ma om [] (some yes)) : m.step.outcome = some (if yes then .matched else .failed) ∧ m.step.start = start ∧ m.step.handed = handed := by
  obtain ⟨c, t, l, st, lss, wt, mad, p, q, hd, o, mk, lm, li, lp, inn, frs, wg, an, sn, oc⟩ := m
  obtain ⟨rfl, rfl, rfl, rfl, rfl, rfl, rfl, rfl, rfl, rfl, rfl, rfl, hfr, hk, hwg, few, rfl, rfl⟩ := v
  dsimp only at *
  cases frs with
  | nil => exact ⟨rfl, rfl, rfl⟩
  | cons => cases hfr

/-- n steps, then an end -/
inductive Ends : Nat → M → Option (Nat × Nat) → Prop
  | yes {m : M} : m.outcome = some .matched → Ends 0 m (some (m.start, m.handed))
  | no {m : M} : m.outcome = some .failed → Ends 0 m none
  | step {n : Nat} {m : M} {r : Option (Nat × Nat)} : m.outcome = none → Ends n m.step r → Ends (n + 1) m r
end Mine.R
end

section
namespace Mine.R
open PySem.Sre

def code1 : Array Nat := #[14, 4, 0, 1, 1, 6, 1, 16, 46, 1]
def dotFrom (text : Array Nat) : Nat → Nat → Option (Nat × Nat)
  | 0, _ => none
  | k + 1, s => if (s = 0 ∨ text.getD (s - 1) 0 = 10) ∧ text.getD s 0 = 46 then some (s, s + 1) else dotFrom text k (s + 1)

variable {code text : Array Nat} {lim ls start pc pos handed : Nat} {ma om : Bool} {fs : List Fv} {m : M}

theorem Ends.more {n : Nat} {m : M} {r : Option (Nat × Nat)} (h : m.outcome = none) (e : Ends n m.step r) : Ends (n + 1) m r := .step h e
theorem ends_yes (v : V code text lim ls m start pc pos handed ma om [] (some true)) : Ends 1 m (some (start, handed)) := by
  obtain ⟨h1, h2, h3⟩ := finish v
  refine .step v.outcome ?_
  have := Ends.yes (m := m.step) h1
  rw [h2, h3] at this
  exact this
theorem ends_no (v : V code text lim ls m start pc pos handed ma om [] (some false)) : Ends 1 m none := by
  obtain ⟨h1, _, _⟩ := finish v
  exact .step v.outcome (.no h1)
theorem attemptAt (v : V code text lim ls m start pc pos handed ma om [] none) (s : Nat) (first : Bool) : V code text lim ls (m.attemptAt s first) s pc s s ma first [⟨.nextStart, pc, s, first⟩] none := by
  have v' : V code text lim ls { m with start := s, pos := s, lastmark := -1, lastindex := -1 } s pc s handed ma om [] none :=
    ⟨v.code, v.text, v.lim, v.ls, rfl, v.whole, v.ma, v.pc, rfl, v.handed, v.om, v.inner, v.frames, v.kept, v.weight, v.few, v.answer, v.outcome⟩
  have := attempt v' { wait := .nextStart, pc := m.pc, pos := s, outermost := first } ⟨rfl, rfl⟩ (by simp) m.pc s first
  rw [v.pc] at this
  unfold M.attemptAt
  rw [v.pc]
  exact this
theorem next_start1 {s : Nat} {o : Bool} (hf : ∀ m : M, m.code = code → m.hasFirstSet = false) (v : V code text lim ls m start pc pos handed ma om [⟨.nextStart, 5, s, o⟩] (some false)) :
    (s < ls → V code text lim ls m.step (s + 1) 5 (s + 1) (s + 1) false false [⟨.nextStart, 5, s + 1, false⟩] none) ∧ (¬ s < ls → V code text lim ls m.step start 5 s handed ma o [] (some false)) := by
  obtain ⟨m', g, e, hg, v', hk⟩ := pop_step v
  rw [e]
  unfold M.resume
  have hw : g.wait = .nextStart := congrArg Fv.wait hg
  have hp : g.pos = s := congrArg Fv.pos hg
  rw [hw]
  dsimp only
  rw [if_neg (by decide), hp]
  constructor
  · intro h
    rw [if_pos (by rw [v'.ls]; exact h)]
    have hff : M.hasFirstSet { m' with mustAdvance := false } = false := hf _ v'.code
    unfold M.attemptFrom
    rw [hff]
    exact attemptAt (ma := false) (m := { m' with mustAdvance := false }) ⟨v'.code, v'.text, v'.lim, v'.ls, v'.start, v'.whole, rfl, v'.pc, v'.pos, v'.handed, v'.om, v'.inner, v'.frames, v'.kept, v'.weight, v'.few, v'.answer, v'.outcome⟩ _ _
  · intro h
    rw [if_neg (by rw [v'.ls]; exact h)]
    exact say v'

theorem first1 (m : M) (h : m.code = code1) : m.hasFirstSet = false := by
  unfold M.hasFirstSet
  rw [h]; rfl

theorem run1 : ∀ (k s : Nat) (m : M) (ma o : Bool) (hd : Nat), V code1 text (s + k) (s + k) m s 5 s hd ma o [⟨.nextStart, 5, s, o⟩] none → ∃ n, n ≤ 3 * k + 4 ∧ Ends n m (dotFrom text k s)
  | k, s, m, ma, o, hd, v => by
    have fail : ∀ {m' : M} {pc' pos' hd' : Nat}, V code1 text (s + k) (s + k) m' s pc' pos' hd' ma o [⟨.nextStart, 5, s, o⟩] (some false) → (k ≠ 0 → ¬ ((s = 0 ∨ text.getD (s - 1) 0 = 10) ∧ text.getD s 0 = 46)) → ∃ n, n ≤ 3 * k + 2 ∧ Ends n m' (dotFrom text k s) := by
      intro m' pc' pos' hd' v' hno
      have ns := next_start1 first1 v'
      cases k with
      | zero =>
        exact ⟨2, by omega, .more v'.outcome (ends_no (ns.2 (by omega)))⟩
      | succ k =>
        have v2 := ns.1 (by omega)
        have e : s + (k + 1) = s + 1 + k := by omega
        rw [e] at v2
        obtain ⟨n, hn, he⟩ := run1 k (s + 1) _ false false _ v2
        refine ⟨n + 1, by omega, .more v'.outcome ?_⟩
        unfold dotFrom
        rw [if_neg (hno (by omega))]
        exact he
    by_cases hy : s = 0 ∨ text.getD (s - 1) 0 = 10
    · have v1 := at_yes v (by decide) rfl rfl hy
      by_cases hl : k ≠ 0 ∧ text.getD s 0 = 46
      · have v2 := lit_yes v1 (by decide) rfl (by omega) hl.2
        have v3 := success v2 (by decide) rfl (.inr (by omega))
        have v4 := up_yes (.inl rfl) v3
        obtain ⟨k', rfl⟩ := Nat.exists_eq_succ_of_ne_zero hl.1
        refine ⟨5, by omega, .more v.outcome (.more v1.outcome (.more v2.outcome (.more v3.outcome ?_)))⟩
        unfold dotFrom
        rw [if_pos ⟨hy, hl.2⟩]
        exact ends_yes v4
      · have v2 := lit_no v1 (by decide) rfl (by
          by_cases h0 : k = 0
          · exact .inl (by omega)
          · exact .inr fun h => hl ⟨h0, h⟩)
        obtain ⟨n, hn, he⟩ := fail v2 (fun h0 hh => hl ⟨h0, hh.2⟩)
        exact ⟨n + 2, by omega, .more v.outcome (.more v1.outcome he)⟩
    · rw [not_or] at hy
      have v1 := at_no v (by decide) rfl rfl hy.1 hy.2
      obtain ⟨n, hn, he⟩ := fail v1 (fun _ hh => hh.1.elim hy.1 hy.2)
      exact ⟨n + 1, by omega, .more v.outcome he⟩
  termination_by k => k

def m1 (text : Array Nat) (p l : Nat) (must : Bool) (lst : Nat) : M := ⟨code1, text, l, p, lst, false, must, 5, p, p, true, #[], -1, -1, #[], none, [], 0, none, ({} : Sre.Seen).add 14, none⟩
theorem search1_eq {p l : Nat} {must : Bool} : forSearch code1 text 0 p l must = if (decide (p > l) || decide (l - p < 1)) = true then (m1 text p l must 0).say false else (m1 text p l must l).attemptFrom p true := rfl
theorem v_m1 {p l lst : Nat} {must : Bool} : V code1 text l lst (m1 text p l must lst) p 5 p p must true [] none := ⟨rfl, rfl, rfl, rfl, rfl, rfl, rfl, rfl, rfl, rfl, rfl, rfl, rfl, fun _ h => (nomatch h), rfl, by simp, rfl, rfl⟩
theorem search1 {p l : Nat} {must : Bool} : ∃ n, n ≤ 3 * (l - p) + 4 ∧ Ends n (forSearch code1 text 0 p l must) (dotFrom text (l - p) p) := by
  rw [search1_eq]
  by_cases h : (decide (p > l) || decide (l - p < 1)) = true
  · rw [if_pos h]
    have h0 : l - p = 0 := by simp at h; omega
    rw [h0]
    exact ⟨1, by omega, ends_no (say v_m1)⟩
  · rw [if_neg h]
    obtain ⟨k, rfl⟩ : ∃ k, l = p + k := ⟨l - p, by simp at h; omega⟩
    have hk : p + k - p = k := by omega
    have v := attemptAt (v_m1 (text := text) (p := p) (l := p + k) (lst := p + k) (must := must)) p true
    have e : (m1 text p (p + k) must (p + k)).attemptFrom p true = (m1 text p (p + k) must (p + k)).attemptAt p true := rfl
    rw [e, hk]
    exact run1 k p _ _ _ _ v

/-! the newlines -/
def code2 : Array Nat := #[14, 9, 4, 1, 2, 16, 10, 16, 13, 0, 7, 7, 16, 13, 16, 10, 15, 18, 5, 16, 10, 15, 13, 11, 16, 13, 5, 5, 0, 16, 10, 1, 15, 2, 0, 1]
def nlFrom (text : Array Nat) (lim : Nat) : Nat → Nat → Option (Nat × Nat)
  | 0, _ => none
  | k + 1, s => if text.getD s 0 = 10 then some (s, s + 1) else if text.getD s 0 = 13 then (if s + 1 < lim ∧ text.getD (s + 1) 0 = 10 then some (s, s + 2) else some (s, s + 1)) else nlFrom text lim k (s + 1)

theorem nl_at {s : Nat} (v : V code2 text lim ls m s 10 s handed false true [⟨.nextStart, 10, s, om⟩] none) (hs : s < lim) :
    (text.getD s 0 = 10 → ∃ n, n ≤ 10 ∧ Ends n m (some (s, s + 1))) ∧ (text.getD s 0 = 13 → s + 1 < lim ∧ text.getD (s + 1) 0 = 10 → ∃ n, n ≤ 10 ∧ Ends n m (some (s, s + 2))) ∧ (text.getD s 0 = 13 → ¬ (s + 1 < lim ∧ text.getD (s + 1) 0 = 10) → ∃ n, n ≤ 20 ∧ Ends n m (some (s, s + 1))) := by
  have v1 := branch v (by decide) rfl (by decide) (by simp)
  refine ⟨fun h => ?_, fun h h2 => ?_, fun h h2 => ?_⟩
  · have v2 := lit_no v1 (by decide) rfl (.inr (by rw [h]; decide))
    have v3 := next_branch v2 (by decide) (by simp)
    have v4 := lit_yes v3 (by decide) rfl hs (by rw [h]; rfl)
    have v5 := jump v4 (by decide) rfl
    have v6 := success v5 (by decide) rfl (.inl rfl)
    have v7 := up_yes (.inr rfl) v6
    have v8 := up_yes (.inl rfl) v7
    exact ⟨9, by omega, .more v.outcome (.more v1.outcome (.more v2.outcome (.more v3.outcome (.more v4.outcome (.more v5.outcome (.more v6.outcome (.more v7.outcome (ends_yes v8))))))))⟩
  · have v2 := lit_yes v1 (by decide) rfl hs (by rw [h]; rfl)
    have v3 := lit_yes v2 (by decide) rfl h2.1 (by rw [h2.2]; rfl)
    have v4 := jump v3 (by decide) rfl
    have v5 := success v4 (by decide) rfl (.inl rfl)
    have v6 := up_yes (.inr rfl) v5
    have v7 := up_yes (.inl rfl) v6
    exact ⟨8, by omega, .more v.outcome (.more v1.outcome (.more v2.outcome (.more v3.outcome (.more v4.outcome (.more v5.outcome (.more v6.outcome (ends_yes v7)))))))⟩
  · have no10 : s + 1 ≥ lim ∨ text.getD (s + 1) 0 ≠ 10 := by
      by_cases hl : s + 1 < lim
      · exact .inr fun hh => h2 ⟨hl, hh⟩
      · exact .inl (by omega)
    have v2 := lit_yes v1 (by decide) rfl hs (by rw [h]; rfl)
    have v3 := lit_no v2 (by decide) rfl (no10.imp id fun hh => hh)
    have v4 := next_branch v3 (by decide) (by simp)
    have v5 := lit_no v4 (by decide) rfl (.inr (by rw [h]; decide))
    have v6 := next_branch v5 (by decide) (by simp)
    have v7 := lit_yes v6 (by decide) rfl hs (by rw [h]; rfl)
    have v8 := assert_not v7 (by decide) rfl rfl (by simp)
    have v9 := lit_no v8 (by decide) rfl (no10.imp id fun hh => hh)
    have v10 := look_not v9
    have v11 := jump v10 (by decide) rfl
    have v12 := success v11 (by decide) rfl (.inl rfl)
    have v13 := up_yes (.inr rfl) v12
    have v14 := up_yes (.inl rfl) v13
    exact ⟨15, by omega, .more v.outcome (.more v1.outcome (.more v2.outcome (.more v3.outcome (.more v4.outcome (.more v5.outcome (.more v6.outcome (.more v7.outcome (.more v8.outcome (.more v9.outcome (.more v10.outcome (.more v11.outcome (.more v12.outcome (.more v13.outcome (ends_yes v14))))))))))))))⟩

theorem set_at (c : Nat) (sn : Sre.Seen) : ∃ sn', inSet code2 c code2.size 5 true sn = .ok (c == 10 || c == 13, sn') := by
  by_cases h : c = 10
  · subst h; exact ⟨_, rfl⟩
  · by_cases h2 : c = 13
    · subst h2; exact ⟨_, rfl⟩
    · refine ⟨((sn.add 16).add 16).add 0, ?_⟩
      have e1 : (c == 10) = false := beq_eq_false_iff_ne.mpr h
      have e2 : (c == 13) = false := beq_eq_false_iff_ne.mpr h2
      rw [e1, e2]
      have key : inSet code2 c code2.size 5 true sn = (if (c == 10) = true then .ok (true, sn.add 16) else if (c == 13) = true then .ok (true, (sn.add 16).add 16) else .ok (false, ((sn.add 16).add 16).add 0)) := rfl
      rw [key, e1, e2, if_neg (by decide), if_neg (by decide)]
      rfl
theorem admitted_at (hc : m.code = code2) (ht : m.text = text) (hl : m.lim = lim) : ∀ (k s f : Nat) (sn : Sre.Seen), s + k = lim → k < f →
    (∃ sn', m.admitted f s sn = .ok (none, sn') ∧ nlFrom text lim k s = none) ∨ ∃ s' sn', m.admitted f s sn = .ok (some s', sn') ∧ s' < lim ∧ s ≤ s' ∧ (text.getD s' 0 = 10 ∨ text.getD s' 0 = 13) ∧ nlFrom text lim k s = nlFrom text lim (lim - s') s'
  | 0, s, 0, sn, _, h => by omega
  | 0, s, f + 1, sn, e, _ => by
    left
    refine ⟨sn, ?_, rfl⟩
    unfold M.admitted
    rw [hl, if_pos (by omega)]
  | k + 1, s, 0, sn, _, h => by omega
  | k + 1, s, f + 1, sn, e, h => by
    unfold M.admitted
    rw [hl, if_neg (by omega), hc, ht]
    obtain ⟨sn', hs⟩ := set_at (text.getD s 0) sn
    rw [hs]
    by_cases hn : text.getD s 0 = 10 ∨ text.getD s 0 = 13
    · right
      have : (text.getD s 0 == 10 || text.getD s 0 == 13) = true := by rcases hn with h | h <;> rw [h] <;> rfl
      rw [this]
      refine ⟨s, sn', rfl, by omega, Nat.le_refl _, hn, ?_⟩
      have : lim - s = k + 1 := by omega
      rw [this]
    · have hno := not_or.mp hn
      have : (text.getD s 0 == 10 || text.getD s 0 == 13) = false := by rw [beq_eq_false_iff_ne.mpr hno.1, beq_eq_false_iff_ne.mpr hno.2]; rfl
      rw [this]
      dsimp only
      have en : nlFrom text lim (k + 1) s = nlFrom text lim k (s + 1) := by
        show (if _ then _ else if _ then _ else _) = _
        rw [if_neg hno.1, if_neg hno.2]
      rw [en]
      rcases admitted_at hc ht hl k (s + 1) f sn' (by omega) (by omega) with ⟨a, b, c⟩ | ⟨a, b, c, d, e', g, i⟩
      · exact .inl ⟨a, b, c⟩
      · exact .inr ⟨a, b, c, d, by omega, g, i⟩

def m2 (text : Array Nat) (p l : Nat) (must : Bool) (lst : Nat) : M := ⟨code2, text, l, p, lst, false, must, 10, p, p, true, #[], -1, -1, #[], none, [], 0, none, ({} : Sre.Seen).add 14, none⟩
theorem search2_eq {p l : Nat} {must : Bool} : forSearch code2 text 0 p l must = if (decide (p > l) || decide (l - p < 1)) = true then (m2 text p l must 0).say false else (m2 text p l must l).attemptFrom p true := rfl
theorem v_m2 {p l lst : Nat} {must : Bool} : V code2 text l lst (m2 text p l must lst) p 10 p p must true [] none := ⟨rfl, rfl, rfl, rfl, rfl, rfl, rfl, rfl, rfl, rfl, rfl, rfl, rfl, fun _ h => (nomatch h), rfl, by simp, rfl, rfl⟩
theorem search2 {p l : Nat} {must : Bool} : ∃ n, n ≤ 30 ∧ Ends n (forSearch code2 text 0 p l must) (nlFrom text l (l - p) p) := by
  rw [search2_eq]
  by_cases h : (decide (p > l) || decide (l - p < 1)) = true
  · rw [if_pos h]
    have h0 : l - p = 0 := by simp at h; omega
    rw [h0]
    exact ⟨1, by omega, ends_no (say v_m2)⟩
  · rw [if_neg h]
    have hpl : p + (l - p) = l := by simp at h; omega
    have e : (m2 text p l must l).attemptFrom p true = (match (m2 text p l must l).admitted (l + 1 - p) p (({} : Sre.Seen).add 14) with
      | .ok (some s, seen) => { m2 text p l must l with mustAdvance := false, seen }.attemptAt s true
      | .ok (none, seen) => { m2 text p l must l with seen }.say false
      | .error why => (m2 text p l must l).stick why) := rfl
    rw [e]
    rcases admitted_at (m := m2 text p l must l) (text := text) (lim := l) rfl rfl rfl (l - p) p (l + 1 - p) (({} : Sre.Seen).add 14) hpl (by omega) with ⟨sn, h1, h2⟩ | ⟨s, sn, h1, h2, h3, h4, h5⟩
    · rw [h1, h2]
      exact ⟨1, by omega, ends_no (say (⟨rfl, rfl, rfl, rfl, rfl, rfl, rfl, rfl, rfl, rfl, rfl, rfl, rfl, fun _ h => (nomatch h), rfl, by simp, rfl, rfl⟩ : V code2 text l l { m2 text p l must l with seen := sn } p 10 p p must true [] none))⟩
    · rw [h1, h5]
      dsimp only
      have v := attemptAt (⟨rfl, rfl, rfl, rfl, rfl, rfl, rfl, rfl, rfl, rfl, rfl, rfl, rfl, fun _ h => (nomatch h), rfl, by simp, rfl, rfl⟩ : V code2 text l l { m2 text p l must l with mustAdvance := false, seen := sn } p 10 p p false true [] none) s true
      have hn := nl_at v h2
      obtain ⟨k, hk⟩ : ∃ k, l - s = k + 1 := ⟨l - s - 1, by omega⟩
      rw [hk]
      unfold nlFrom
      rcases h4 with h4 | h4
      · rw [if_pos h4]
        obtain ⟨n, a, b⟩ := hn.1 h4
        exact ⟨n, by omega, b⟩
      · rw [if_neg (by rw [h4]; decide), if_pos h4]
        by_cases h6 : s + 1 < l ∧ text.getD (s + 1) 0 = 10
        · rw [if_pos h6]
          obtain ⟨n, a, b⟩ := hn.2.1 h4 h6
          exact ⟨n, by omega, b⟩
        · rw [if_neg h6]
          obtain ⟨n, a, b⟩ := hn.2.2 h4 h6
          exact ⟨n, by omega, b⟩
end Mine.R
end

section
open PySem PySem.W PyProof.Rows PySem.Builtin.Re
namespace Mine.R

theorem plainAttrs_re : PlainAttrs "re.Pattern" := ⟨⟨"object.__getattribute__", by rw [typeLookup_type, builtinLookup_eq_fast]; kernel_rfl, by decide +kernel⟩, by rw [typeLookup_type, builtinLookup_eq_fast]; kernel_rfl⟩
theorem slot_re_sub : Slot "re.Pattern" "sub" "re.Pattern.sub" :=
  .of (owner := "re.Pattern") (n := "sub") (by rw [typeLookup_type, builtinLookup_eq_fast]; kernel_rfl) (by decide +kernel) (by decide +kernel) (by decide +kernel) (.inr (by decide +kernel)) (by rw [isSubtype_type]; kernel_rfl)
theorem type_re_sub : typeOf (.builtin "re.Pattern.sub") = pure (.type "method_descriptor") := by show builtinType _ = _; rw [builtinType_eq_fast]; kernel_rfl
theorem entry_re_sub : entryFor table "re.Pattern.sub" = some Builtin.«re.Pattern.sub» := entryFor_of_tree (by kernel_rfl)
theorem entry_re_loop : entryFor table "re.Pattern.sub.loop" = some Builtin.«re.Pattern.sub.loop» := entryFor_of_tree (by kernel_rfl)
theorem args_re_sub (a b c : Value) : argsOk "re.Pattern.sub" ⟨[a, b, c], []⟩ := by unfold argsOk; kernel_rfl

/-- the machine at its end -/
def EndsAs (m : Sre.M) : Option (Nat × Nat) → Prop
  | some r => m.outcome = some .matched ∧ m.start = r.1 ∧ m.handed = r.2
  | none => m.outcome = some .failed
theorem EndsAs.out {m : Sre.M} {r : Option (Nat × Nat)} (h : EndsAs m r) : m.outcome.isSome = true := by
  cases r with
  | none => rw [show m.outcome = _ from h]; rfl
  | some r => rw [h.1]; rfl
theorem runFor_ends : ∀ (j n : Nat) (m : Sre.M) (r : Option (Nat × Nat)), Ends n m r → EndsAs (m.runFor j) r ∨ (m.runFor j).outcome = none ∧ j ≤ n ∧ Ends (n - j) (m.runFor j) r
  | 0, n, m, r, h => by
    cases h with
    | yes h => exact .inl ⟨h, rfl, rfl⟩
    | no h => exact .inl h
    | step h e => exact .inr ⟨h, Nat.zero_le _, .step h e⟩
  | j + 1, n, m, r, h => by
    unfold Sre.M.runFor
    cases h with
    | yes h => left; rw [if_pos (by rw [h]; rfl)]; exact ⟨h, rfl, rfl⟩
    | no h => left; rw [if_pos (by rw [h]; rfl)]; exact h
    | step h e =>
      rw [if_neg (by rw [h]; decide)]
      rcases runFor_ends j _ _ r e with h1 | ⟨h1, h2, h3⟩
      · exact .inl h1
      · exact .inr ⟨h1, by omega, by rw [Nat.add_sub_add_right]; exact h3⟩
theorem drive {M : Model} {A : Around} {E : Value → Shared → Prop} {s : Shared} {Q : Sre.M → Shared → Prop} {r : Option (Nat × Nat)} : ∀ (turns n : Nat) (m : Sre.M), Ends n m r → n < turns → (∀ m', EndsAs m' r → Q m' s) → wpAny M A (reDrive turns m) Q E s
  | 0, n, m, _, h, _ => by omega
  | turns + 1, n, m, e, h, q => by
    unfold reDrive
    rcases runFor_ends reTurnSteps n m r e with h1 | ⟨h1, h2, h3⟩
    · dsimp only
      rw [if_pos h1.out]
      exact wpAny_pure (q _ h1)
    · dsimp only
      rw [h1, if_neg (by decide)]
      have h4 : reTurnSteps = 4 := rfl
      exact wpAny_bind (wpAny_rule (drive turns _ _ h3 (by omega) q))
theorem rules {M : Model} {A : Around} {E : Value → Shared → Prop} {s : Shared} {Q : PUnit → Shared → Prop} {p : Nat → Bool} {f : Nat → String} (q : Q ⟨⟩ s) : ∀ l : List Nat, wpAny M A (forIn l PUnit.unit fun i _ => (if p i = true then (do rule (f i); pure (ForInStep.yield PUnit.unit)) else pure (ForInStep.yield PUnit.unit) : Sem (ForInStep PUnit))) Q E s
  | [] => wpAny_pure q
  | a :: l => by
    rw [List.forIn_cons]
    refine wpAny_bind ?_
    split
    · exact wpAny_bind (wpAny_rule (wpAny_pure (rules q l)))
    · exact wpAny_pure (rules q l)
theorem to_end {M : Model} {A : Around} {E : Value → Shared → Prop} {s : Shared} {Q : Option Sre.M → Shared → Prop} {r : Option (Nat × Nat)} {n : Nat} {m : Sre.M} (e : Ends n m r) (hn : n < 2 ^ 64) (h0 : r = none → Q none s) (h1 : ∀ a b m', r = some (a, b) → m'.start = a → m'.handed = b → Q (some m') s) : wpAny M A (reRunToEnd m) Q E s := by
  unfold reRunToEnd
  refine wpAny_bind (drive _ n m e hn fun m' hm => ?_)
  refine wpAny_bind (rules ?_ _)
  cases r with
  | none =>
    have hm : m'.outcome = _ := hm
    rw [hm]
    exact wpAny_pure (h0 rfl)
  | some r =>
    rw [hm.1]
    exact wpAny_pure (h1 r.1 r.2 m' rfl hm.2.1 hm.2.2)
end Mine.R
end

section
open PySem PySem.W PyProof.Rows PySem.Builtin.Re
namespace Mine.R

structure Pat (w : World) (P C : Addr) (code : Array Nat) : Prop where
  ex : ∃ p0 f0 t0 items n, (KK w).lookup P = some ⟨.type "re.Pattern", none, .fields #[p0, .int f0 t0, .int 0 0, .none, .none, .ref C, .int 0 0], #[]⟩ ∧ (KK w).lookup C = some ⟨.type "tuple", none, .seq items n, #[]⟩ ∧ (items.map reRawOf).map (·.toNat) = code
theorem pat1 (w : World) : Pat w 109 108 code1 := ⟨_, _, _, _, _, rfl, rfl, by simp [code1, reRawOf]⟩
theorem pat2 (w : World) : Pat w 114 113 code2 := ⟨_, _, _, _, _, rfl, rfl, by simp [code2, reRawOf]⟩

section
variable {prog : Program} {w : World} {A : Around} {X : V0} {E : Value → Shared → Prop} {s : Shared} {P C : Addr} {code : Array Nat}

theorem whole {y : Str} {t : Tok} {Q : ReTarget → Shared → Prop} (p : Pat w P C code) (K : (KK w).In s.heap) (q : Q ⟨.ref P, .str y t, code, y.cps, 0, 0, 0, y.cps.size⟩ s) : wpAny (model prog w) A (reWholeTarget (.ref P) (.str y t)) Q E s := by
  obtain ⟨p0, f0, t0, items, n, hP, hC, hc⟩ := p.ex
  unfold reWholeTarget
  refine wpAny_bind (wpAny_fieldsOf (K _ _ hP) rfl ?_)
  refine wpAny_bind (wpAny_bind (wpAny_pure (wpAny_pure ?_)))
  show wpAny _ _ (reNoCollectionInside (Value.str y t) 0 >>= fun _ => reRawItems (.ref C) >>= fun r => pure ({ pattern := .ref P, string := .str y t, code := r.map (·.toNat), text := y.cps, kind := 0, groups := 0, pos := 0, lim := y.cps.size } : ReTarget)) _ _ _
  refine wpAny_bind (m := reNoCollectionInside (Value.str y t) 0) (wpAny_pure ?_)
  unfold reRawItems
  refine wpAny_bind (wpAny_bind (wpAny_seqItems (K _ _ hC) rfl (wpAny_pure (wpAny_pure ?_))))
  show Q ⟨.ref P, .str y t, (items.map reRawOf).map (·.toNat), y.cps, 0, 0, 0, y.cps.size⟩ s
  rw [hc]; exact q

/-- the pieces -/
def pieces (x r : Array Nat) (find : Nat → Option (Nat × Nat)) : Nat → Nat → List Str
  | 0, _ => []
  | k + 1, d => match find d with
    | some (a, b) => (if d < a then [⟨x.extract d a⟩] else []) ++ ⟨r⟩ :: pieces x r find k b
    | none => if d < x.size then [⟨x.extract d x.size⟩] else []

theorem strs_of : ∀ {vs : List Value} {us : List Str} {X : V0} {h : Heap}, IsAll X h vs (us.map D.str) → StrsAre vs us
  | _, [], _, _, i => by cases i; exact .nil
  | _, u :: us, _, _, i => by
    cases i with | cons a r =>
    cases a
    exact .cons _ _ (strs_of r)
theorem flats_strs : ∀ l : List Str, (l.map D.str).all D.flat = true
  | [] => rfl
  | a :: l => by rw [List.map_cons, List.all_cons, flats_strs l]; rfl
theorem slice_run {x : Array Nat} {b e : Nat} {M : Model} {Q : Value → Shared → Prop} (hx : x.size ≤ 1000000) (q : Q (.str ⟨x.extract b e⟩ s.toks) { s with toks := s.toks + 1 }) : wpAny M A (reSlice x 0 b e) Q E s := by
  show wpAny _ _ (mkStr ⟨x.extract b e⟩) _ _ _
  unfold mkStr
  have h : (⟨x.extract b e⟩ : Str).length ≤ x.size := by show (x.extract b e).size ≤ _; rw [Array.size_extract]; omega
  rw [if_neg (by rw [sizeLine_eq]; omega)]
  exact wpAny_bind (wpAny_fresh (wpAny_pure q))
theorem push_run {L : Addr} {vs : List Value} {n : Nat} {v : Value} {M : Model} {Q : Unit → Shared → Prop} (hl : IsL s.heap L (List.toArray vs) n) (hz : vs.length ≤ 1048576) (q : ∀ s' n', Moves (fun c => c = L) s s' → IsL s'.heap L (List.toArray (vs ++ [v])) n' → Q () s') : wpAny M A (updateSeq L fun x => x.push v) Q E s := by
  refine wpAny_updateSeq hl rfl ?_ (by rw [List.size_toArray, sizeLine_eq]; omega) (by rw [Array.size_push, List.size_toArray, sizeLine_eq]; omega)
  have h := IsL.update hl fun xs => xs.push v
  rw [List.push_toArray] at h
  have sb := Heap.SameBut.update s.heap L (Obj.mapSeq fun xs => xs.push v)
  exact q _ _ ⟨⟨_, s.toks, rfl⟩, fun b o nb e => sb.extBut b o nb e, Nat.le_of_eq sb.1.symm⟩ h
theorem loop_run {y r : Str} {t tr : Tok} {L : Addr} (p : Pat w P C code) (find : Nat → Option (Nat × Nat)) (hf : ∀ d, ∃ n, n < 2 ^ 64 ∧ Ends n (Sre.forSearch code y.cps 0 d y.cps.size false) (find d)) (hprog : ∀ d a b, find d = some (a, b) → d ≤ a ∧ a < b ∧ b ≤ y.cps.size) (hy : y.length ≤ 500000) (hr : r.length ≤ 1000)
    {R : Result → Shared → Prop} : ∀ (k d : Nat) (s : Shared) (nn : Int) (vs : List Value) (us : List Str) (n : Nat), y.cps.size + 1 - d ≤ k → d ≤ y.cps.size → (KK w).In s.heap → (∀ c o, (KK w).lookup c = some o → c ≠ L) → IsL s.heap L (List.toArray vs) n → IsAll (fun _ => False) s.heap vs (us.map D.str) →
      us.length + 2 * (y.cps.size - d) ≤ 1000000 → ((us ++ pieces y.cps r.cps find k d).map (·.length)).sum + (us ++ pieces y.cps r.cps find k d).length ≤ 1048576 →
      (∀ s' t', Moves (fun c => c = L) s s' → R (.ok (.ret (.str (Txt.join ⟨#[]⟩ (us ++ pieces y.cps r.cps find k d)) t'))) s') →
      codeAny (model prog w) A (.builtin "re.Pattern.sub.loop" ⟨[.ref P, .str y t, .str r tr, .int 0 0, .int 0 0, .int nn 0, .int d 0, .int d 0, .bool false, .ref L, .bool false], []⟩) R s
  | 0, d, s, nn, vs, us, n, hk, hd, _, _, _, _, _, _, _ => by omega
  | k + 1, d, s, nn, vs, us, n, hk, hd, K, KL, hl, ha, hlen, hw, q => by
    refine codeAny_builtin entry_re_loop ?_
    unfold Builtin.«re.Pattern.sub.loop»
    dsimp only
    refine wpAny_bind (whole p K ?_)
    have hlit : reLiteralCannotBeTurned (Value.str r tr) = pure () := rfl
    have hne : (Value.str r tr != Value.none) = true := rfl
    simp only [show ((0 : Int) == 0) = true from rfl, show ((0 : Int) != 0) = false from rfl, if_true, Bool.false_and, Bool.false_eq_true, if_false, pure_bind, hlit, hne]
    generalize A.under _ = B
    show wpAny _ _ (reRunToEnd (Sre.forSearch code y.cps 0 d y.cps.size false) >>= _) _ _ _
    obtain ⟨ne, hne, he⟩ := hf d
    have hvl : vs.length = us.length := by rw [ha.length, List.length_map]
    refine wpAny_bind (to_end he hne (fun hnone => ?_) fun a b m' hsome hst hhd => ?_)
    · have hpc : us ++ pieces y.cps r.cps find (k + 1) d = us ++ (if d < y.cps.size then [⟨y.cps.extract d y.cps.size⟩] else []) := by
        conv => lhs; unfold pieces
        rw [hnone]
      rw [hpc] at hw q
      dsimp only [Int.toNat_natCast]
      have tail : ∀ (s1 : Shared) (vs1 : List Value) (n1 : Nat) (ws : List Str), ws = us ++ (if d < y.cps.size then [⟨y.cps.extract d y.cps.size⟩] else []) → Moves (fun c => c = L) s s1 → IsL s1.heap L (List.toArray vs1) n1 → IsAll (fun _ => False) s1.heap vs1 (ws.map D.str) →
          wpAny (model prog w) B (do
            let joiner ← reSlice y.cps 0 0 0
            let __do_lift ← seqItems? (Value.ref L)
            if (__do_lift.getD #[]).isEmpty = true then PySem.ret joiner
              else do
                let __do_lift ← call (Value.builtin (if ((0 : Nat) == 0) = true then "str.join" else "bytes.join")) [joiner, Value.ref L]
                PySem.ret __do_lift) (fun fin s' => match fin with | .done f => R (.ok f) s' | .again c' => c'.quiet = true ∧ codeAny (model prog w) A c' R s') (fun e s' => R (.error e) s') s1 := by
        intro s1 vs1 n1 ws hws m1 l1 a1
        refine wpAny_bind (slice_run (by have : y.cps.size = y.length := rfl; omega) ?_)
        refine wpAny_bind (wpAny_seqItems l1 rfl ?_)
        dsimp only [Option.getD_some]
        have hx : y.cps.extract 0 0 = #[] := by simp
        rw [hx]
        split
        · rename_i hemp
          have hv0 : vs1 = [] := by simpa using hemp
          subst hv0
          have hw0 : ws = [] := by cases ws with | nil => rfl | cons => cases a1
          rw [← hws, hw0] at q
          exact wpAny_pure (q _ _ (m1.trans (Kp.tok _ _).moves))
        · refine wpAny_bind (join_listW (x := ⟨#[]⟩) (items := List.toArray vs1) (ys := ws) l1.isList (strs_of a1) (by decide) (by rw [hws]; exact hw) fun t' k' => ?_)
          rw [hws]
          exact wpAny_pure (q _ _ (m1.trans ((Kp.tok _ _).trans (Kp.tok _ _)).moves))
      split
      · rename_i hlt
        refine wpAny_bind (slice_run (by have : y.cps.size = y.length := rfl; omega) ?_)
        refine wpAny_bind (push_run hl (by omega) fun s1 n1 m1 l1 => ?_)
        refine tail s1 _ n1 _ rfl ((Kp.tok _ _).moves.trans m1) l1 ?_
        rw [if_pos hlt, List.map_append]
        exact ((ha.flats (flats_strs us)).append (.cons (.str _ _) .nil))
      · rename_i hlt
        exact tail s vs n us (by rw [if_neg hlt, List.append_nil]) (Moves.refl _ _) hl ha
    · have hpc : us ++ pieces y.cps r.cps find (k + 1) d = ((us ++ (if d < a then [⟨y.cps.extract d a⟩] else [])) ++ [r]) ++ pieces y.cps r.cps find k b := by
        conv => lhs; unfold pieces
        rw [hsome]; simp
      obtain ⟨h1, h2, h3⟩ := hprog d a b hsome
      rw [hpc] at hw q
      dsimp only [Int.toNat_natCast]
      rw [hst, hhd]
      have hba : (b == a) = false := beq_eq_false_iff_ne.mpr (by omega)
      rw [hba]
      have tail : ∀ (s1 : Shared) (vs1 : List Value) (n1 : Nat) (ws : List Str), ws = us ++ (if d < a then [⟨y.cps.extract d a⟩] else []) → Moves (fun c => c = L) s s1 → IsL s1.heap L (List.toArray vs1) n1 → IsAll (fun _ => False) s1.heap vs1 (ws.map D.str) →
          wpAny (model prog w) B (do
            updateSeq L fun x => x.push (Value.str r tr)
            again (Code.builtin "re.Pattern.sub.loop" ⟨[Value.ref P, Value.str y t, Value.str r tr, rawInt 0, rawInt 0, rawInt (nn + 1), rawInt (b : Nat), rawInt (b : Nat), Value.bool false, Value.ref L, Value.bool false], []⟩))
            (fun fin s' => match fin with | .done f => R (.ok f) s' | .again c' => c'.quiet = true ∧ codeAny (model prog w) A c' R s') (fun e s' => R (.error e) s') s1 := by
        intro s1 vs1 n1 ws hws m1 l1 a1
        have hwl : ws.length ≤ us.length + 1 := by
          rw [hws, List.length_append]
          split <;> simp
        have hv1 : vs1.length = ws.length := by rw [a1.length, List.length_map]
        refine wpAny_bind (push_run l1 (by omega) fun s2 n2 m2 l2 => ?_)
        rw [← hws] at hw q
        have m12 := m1.trans m2
        refine wpAny_pure ⟨Code.quiet_builtin _ (by decide +kernel), loop_run p find hf hprog hy hr k b s2 (nn + 1) (vs1 ++ [.str r tr]) (ws ++ [r]) n2 (by omega) h3 (fun c o hc => m12.heap c o (KL c o hc) (K c o hc)) KL l2 ?_ ?_ hw fun s' t' m' => q s' t' (m12.trans m')⟩
        · rw [List.map_append]
          exact (a1.flats (flats_strs ws)).append (.cons (.str _ _) .nil)
        · rw [List.length_append]
          show ws.length + 1 + _ ≤ _
          omega
      split
      · rename_i hlt
        refine wpAny_bind (slice_run (by have : y.cps.size = y.length := rfl; omega) ?_)
        refine wpAny_bind (push_run hl (by omega) fun s1 n1 m1 l1 => ?_)
        refine tail s1 _ n1 _ rfl ((Kp.tok _ _).moves.trans m1) l1 ?_
        rw [if_pos hlt, List.map_append]
        exact ((ha.flats (flats_strs us)).append (.cons (.str _ _) .nil))
      · rename_i hlt
        exact tail s vs n us (by rw [if_neg hlt, List.append_nil]) (Moves.refl _ _) hl ha
end
end Mine.R
end

section
open PySem PySem.W PyProof.Rows PySem.Builtin.Re
namespace Mine.R

theorem named (a b : Value) : reNamed "re.Pattern.sub" "sub" ["repl", "string", "count"] 2 [a, b] [] = pure [some a, some b, none] := rfl
theorem str_no_call : typeLookup (.type "str") "__call__" = pure none := by rw [typeLookup_type, builtinLookup_eq_fast]; kernel_rfl

section
variable {prog : Program} {w : World} {A : Around} {X : V0} {E : Value → Shared → Prop} {s : Shared} {P C : Addr} {code : Array Nat}

theorem gives_sub {y r : Str} {t tr : Tok} (p : Pat w P C code) (find : Nat → Option (Nat × Nat)) (hf : ∀ d, ∃ n, n < 2 ^ 64 ∧ Ends n (Sre.forSearch code y.cps 0 d y.cps.size false) (find d)) (hprog : ∀ d a b, find d = some (a, b) → d ≤ a ∧ a < b ∧ b ≤ y.cps.size) (hy : y.length ≤ 400000) (hr : r.length ≤ 1000)
    (h92 : r.cps.contains 92 = false) (G : Gr w X s.heap) (hX : Std X s) (hw : ((pieces y.cps r.cps find (y.cps.size + 1) 0).map (·.length)).sum + (pieces y.cps r.cps find (y.cps.size + 1) 0).length ≤ 1048576) :
    Gives prog w A X (call (.builtin "re.Pattern.sub") [.ref P, .str r tr, .str y t]) (.str (Txt.join ⟨#[]⟩ (pieces y.cps r.cps find (y.cps.size + 1) 0))) s := fun Q E q => by
  obtain ⟨p0, f0, t0, items, n, hP, hC, hc⟩ := p.ex
  have K := G.gr0.X
  refine wpAny_call (codeAny_call_builtin slot_re_sub.plain entry_re_sub (slot_re_sub.check _ _ _ _ _ _ _ _ ⟨_, K _ _ hP, rfl⟩ (args_re_sub _ _ _) ?_))
  unfold Builtin.«re.Pattern.sub» reSubstitute
  dsimp only
  rw [named]
  refine wpAny_bind (wpAny_pure ?_)
  dsimp only
  refine wpAny_bind (wpAny_pure (wpAny_bind (wpAny_specialOf (typeIs_str _ _ _) str_no_call ?_)))
  have has : asStr? (Value.str r tr) = pure (some r) := rfl
  simp only [Option.isSome_none, Bool.false_eq_true, if_false, pure_bind, has, h92, Bool.not_false, if_true, show ((0 : Int) == 1) = false from rfl]
  refine wpAny_bind (wpAny_holding (whole p K ?_))
  refine wpAny_bind (wpAny_newObj_type ?_)
  have kp : Kp s { s with heap := s.heap.push { cls := .type "list", dict := none, data := .seq ([] : List Value).toArray } } := Kp.push _ _
  have hl : IsL (s.heap.push { cls := .type "list", dict := none, data := .seq ([] : List Value).toArray }) s.heap.objs.size (List.toArray []) 0 := Heap.get?_push_size _ rfl
  refine wpAny_pure ⟨Code.quiet_builtin _ (by decide +kernel), loop_run p find hf hprog (by omega) hr (y.cps.size + 1) 0 _ 0 [] [] 0 (by omega) (Nat.zero_le _) (fun c o hc => kp.heap c o (K c o hc)) (fun c o hc h => ?_) hl .nil ?_ hw fun s' t' m' => ?_⟩
  · have := Heap.lt_size (K c o hc)
    rw [h] at this
    exact Nat.lt_irrefl _ this
  · have : y.cps.size = y.length := rfl
    simp; omega
  · exact q _ s' (Moves.keeps kp m' fun c h => Heap.get?_none_of_le (by rw [h]; exact Nat.le_refl _)) (.str _ _)
end
end Mine.R
end

section
open PySem PySem.W PyProof.Rows PySem.Builtin.Re
namespace Mine.R

/-- every newline becomes r -/
def normS (r : List Nat) : Bool → List Nat → List Nat
  | _, [] => []
  | cr, c :: t => if c = 10 then (if cr then normS r false t else r ++ normS r false t) else if c = 13 then r ++ normS r true t else c :: normS r false t
/-- a dot at a row's start is doubled -/
def dotsS : Bool → List Nat → List Nat
  | _, [] => []
  | st, c :: t => if st = true ∧ c = 46 then 46 :: 46 :: dotsS false t else c :: dotsS (c == 10) t
def cat (l : List Str) : List Nat := l.flatMap fun u => u.cps.toList

theorem norm_plain (r : List Nat) : ∀ (l t : List Nat) (cr : Bool), (∀ c ∈ l, c ≠ 10 ∧ c ≠ 13) → l ≠ [] ∨ cr = false → normS r cr (l ++ t) = l ++ normS r false t
  | [], t, cr, _, h => by rw [h.resolve_left (fun h => h rfl)]; rfl
  | c :: l, t, cr, hl, _ => by
    have hc := hl c (List.mem_cons_self ..)
    show (if c = 10 then _ else if c = 13 then _ else c :: normS r false (l ++ t)) = _
    rw [if_neg hc.1, if_neg hc.2, norm_plain r l t false (fun c h => hl c (List.mem_cons_of_mem _ h)) (.inr rfl)]
    rfl
theorem norm_cr (r : List Nat) {t : List Nat} (h : t.head? ≠ some 10) : normS r true t = normS r false t := by
  cases t with
  | nil => rfl
  | cons c t =>
    have hc : c ≠ 10 := fun e => h (by rw [e]; rfl)
    show (if c = 10 then _ else _) = (if c = 10 then _ else _)
    rw [if_neg hc, if_neg hc]
theorem extract_list (x : Array Nat) (a b : Nat) : (x.extract a b).toList = (x.toList.drop a).take (b - a) := by
  simp [List.extract]
theorem drop_at (x : Array Nat) {a : Nat} (h : a < x.size) : x.toList.drop a = x.getD a 0 :: x.toList.drop (a + 1) := by
  have h' : a < x.toList.length := by simpa using h
  rw [List.drop_eq_getElem_cons h']
  simp [Array.getD, h]

theorem nl_spec (x : Array Nat) : ∀ (k s : Nat), s + k = x.size → (nlFrom x x.size k s = none ∧ ∀ i, s ≤ i → i < x.size → x.getD i 0 ≠ 10 ∧ x.getD i 0 ≠ 13) ∨
    ∃ a b, nlFrom x x.size k s = some (a, b) ∧ s ≤ a ∧ a < x.size ∧ (∀ i, s ≤ i → i < a → x.getD i 0 ≠ 10 ∧ x.getD i 0 ≠ 13) ∧ ((x.getD a 0 = 10 ∧ b = a + 1) ∨ (x.getD a 0 = 13 ∧ a + 1 < x.size ∧ x.getD (a + 1) 0 = 10 ∧ b = a + 2) ∨ (x.getD a 0 = 13 ∧ ¬ (a + 1 < x.size ∧ x.getD (a + 1) 0 = 10) ∧ b = a + 1))
  | 0, s, h => .inl ⟨rfl, fun i h1 h2 => by omega⟩
  | k + 1, s, h => by
    unfold nlFrom
    by_cases h10 : x.getD s 0 = 10
    · rw [if_pos h10]
      exact .inr ⟨s, s + 1, rfl, Nat.le_refl _, by omega, fun i h1 h2 => by omega, .inl ⟨h10, rfl⟩⟩
    rw [if_neg h10]
    by_cases h13 : x.getD s 0 = 13
    · rw [if_pos h13]
      by_cases h2 : s + 1 < x.size ∧ x.getD (s + 1) 0 = 10
      · rw [if_pos h2]
        exact .inr ⟨s, s + 2, rfl, Nat.le_refl _, by omega, fun i h1 h2 => by omega, .inr (.inl ⟨h13, h2.1, h2.2, rfl⟩)⟩
      · rw [if_neg h2]
        exact .inr ⟨s, s + 1, rfl, Nat.le_refl _, by omega, fun i h1 h2 => by omega, .inr (.inr ⟨h13, h2, rfl⟩)⟩
    rw [if_neg h13]
    rcases nl_spec x k (s + 1) (by omega) with ⟨h1, h2⟩ | ⟨a, b, h1, h2, h3, h4, h5⟩
    · refine .inl ⟨h1, fun i hi hl => ?_⟩
      rcases Nat.eq_or_lt_of_le hi with rfl | hlt
      · exact ⟨h10, h13⟩
      · exact h2 i hlt hl
    · refine .inr ⟨a, b, h1, by omega, h3, fun i hi hl => ?_, h5⟩
      rcases Nat.eq_or_lt_of_le hi with rfl | hlt
      · exact ⟨h10, h13⟩
      · exact h4 i hlt hl
theorem take_no {x : Array Nat} {s a : Nat} {P : Nat → Prop} (ha : a ≤ x.size) (h : ∀ i, s ≤ i → i < a → P (x.getD i 0)) : ∀ c ∈ (x.toList.drop s).take (a - s), P c := by
  intro c hc
  obtain ⟨j, hj, rfl⟩ := List.mem_iff_getElem.mp hc
  simp only [List.length_take, List.length_drop, Array.length_toList] at hj
  have := h (s + j) (by omega) (by omega)
  have e : x.getD (s + j) 0 = ((x.toList.drop s).take (a - s))[j] := by
    rw [List.getElem_take, List.getElem_drop, Array.getElem_toList]
    simp [Array.getD, show s + j < x.size by omega]
  rw [← e]; exact this
theorem cut_drop (x : Array Nat) {s a : Nat} (h : s ≤ a) : x.toList.drop s = (x.toList.drop s).take (a - s) ++ x.toList.drop a := by
  have := List.take_append_drop (a - s) (x.toList.drop s)
  rw [List.drop_drop, show s + (a - s) = a by omega] at this
  exact this.symm
theorem cat_cons (u : Str) (l : List Str) : cat (u :: l) = u.cps.toList ++ cat l := rfl
theorem cat_append (l m : List Str) : cat (l ++ m) = cat l ++ cat m := List.flatMap_append
theorem cat_cut (x : Array Nat) {s a : Nat} : cat (if s < a then [⟨x.extract s a⟩] else []) = (x.toList.drop s).take (a - s) := by
  split
  · show (x.extract s a).toList ++ [] = _
    rw [List.append_nil, extract_list]
  · have : a - s = 0 := by omega
    rw [this]; simp [cat]

theorem cat_nl (x r : Array Nat) : ∀ (k d : Nat), x.size + 1 - d ≤ k → d ≤ x.size → cat (pieces x r (fun d => nlFrom x x.size (x.size - d) d) k d) = normS r.toList false (x.toList.drop d)
  | 0, d, h, hd => by omega
  | k + 1, d, h, hd => by
    unfold pieces
    rcases nl_spec x (x.size - d) d (by omega) with ⟨h1, h2⟩ | ⟨a, b, h1, h2, h3, h4, h5⟩
    · rw [h1]
      dsimp only
      rw [cat_cut]
      have e := cut_drop x hd
      have e2 : x.toList.drop x.size = [] := by simp
      rw [e2] at e
      conv => rhs; rw [e]
      rw [norm_plain _ _ _ _ (take_no (Nat.le_refl _) fun i hi hl => h2 i hi hl) (.inr rfl)]
      simp [normS]
    · rw [h1]
      dsimp only
      rw [cat_append, cat_cut, cat_cons]
      have hb : d < b ∧ b ≤ x.size := by rcases h5 with ⟨_, rfl⟩ | ⟨_, h, _, rfl⟩ | ⟨_, _, rfl⟩ <;> omega
      rw [cat_nl x r k b (by omega) hb.2]
      conv => rhs; rw [cut_drop x h2]
      rw [norm_plain _ _ _ _ (take_no (Nat.le_of_lt h3) fun i hi hl => h4 i hi hl) (.inr rfl), drop_at x h3]
      congr 1
      rcases h5 with ⟨h5, rfl⟩ | ⟨h5, h6, h7, rfl⟩ | ⟨h5, h6, rfl⟩
      · rw [h5]; rfl
      · rw [h5, drop_at x h6, h7]; rfl
      · rw [h5]
        show _ = r.toList ++ normS r.toList true _
        rw [norm_cr]
        intro hh
        by_cases hl : a + 1 < x.size
        · rw [drop_at x hl] at hh
          exact h6 ⟨hl, by simpa using hh⟩
        · have : x.toList.drop (a + 1) = [] := by simp; omega
          rw [this] at hh; cases hh
end Mine.R
end

section
open PySem PySem.W PyProof.Rows PySem.Builtin.Re
namespace Mine.R

def atStart (x : Array Nat) (d : Nat) : Bool := d == 0 || x.getD (d - 1) 0 == 10
theorem atStart_iff (x : Array Nat) (d : Nat) : atStart x d = true ↔ (d = 0 ∨ x.getD (d - 1) 0 = 10) := by
  unfold atStart
  rw [Bool.or_eq_true, beq_iff_eq, beq_iff_eq]
theorem atStart_succ (x : Array Nat) (d : Nat) : atStart x (d + 1) = (x.getD d 0 == 10) := by
  unfold atStart
  rw [show d + 1 - 1 = d from rfl]
  rfl
theorem dot_spec (x : Array Nat) : ∀ (k s : Nat), s + k = x.size → (dotFrom x k s = none ∧ dotsS (atStart x s) (x.toList.drop s) = x.toList.drop s) ∨
    ∃ a, dotFrom x k s = some (a, a + 1) ∧ s ≤ a ∧ a < x.size ∧ dotsS (atStart x s) (x.toList.drop s) = (x.toList.drop s).take (a - s) ++ 46 :: 46 :: dotsS (atStart x (a + 1)) (x.toList.drop (a + 1))
  | 0, s, h => .inl ⟨rfl, by
      have : x.toList.drop s = [] := by simp; omega
      rw [this]; rfl⟩
  | k + 1, s, h => by
    have hs : s < x.size := by omega
    unfold dotFrom
    by_cases hd : (s = 0 ∨ x.getD (s - 1) 0 = 10) ∧ x.getD s 0 = 46
    · rw [if_pos hd]
      refine .inr ⟨s, rfl, Nat.le_refl _, hs, ?_⟩
      rw [drop_at x hs, hd.2, (atStart_iff x s).mpr hd.1, atStart_succ, hd.2]
      simp [dotsS]
    · rw [if_neg hd]
      have e : dotsS (atStart x s) (x.toList.drop s) = x.getD s 0 :: dotsS (atStart x (s + 1)) (x.toList.drop (s + 1)) := by
        rw [drop_at x hs, atStart_succ]
        show (if atStart x s = true ∧ x.getD s 0 = 46 then _ else _) = _
        rw [if_neg (fun h => hd ⟨(atStart_iff x s).mp h.1, h.2⟩)]
      rcases dot_spec x k (s + 1) (by omega) with ⟨h1, h2⟩ | ⟨a, h1, h2, h3, h4⟩
      · refine .inl ⟨h1, ?_⟩
        rw [e, h2, ← drop_at x hs]
      · refine .inr ⟨a, h1, by omega, h3, ?_⟩
        rw [e, h4, drop_at x hs, show a - s = (a - (s + 1)) + 1 by omega, List.take_succ_cons]
        rfl
theorem cat_dots (x : Array Nat) : ∀ (k d : Nat), x.size + 1 - d ≤ k → d ≤ x.size → cat (pieces x #[46, 46] (fun d => dotFrom x (x.size - d) d) k d) = dotsS (atStart x d) (x.toList.drop d)
  | 0, d, h, hd => by omega
  | k + 1, d, h, hd => by
    unfold pieces
    rcases dot_spec x (x.size - d) d (by omega) with ⟨h1, h2⟩ | ⟨a, h1, h2, h3, h4⟩
    · rw [h1, h2]
      dsimp only
      rw [cat_cut]
      apply List.take_of_length_le
      simp
    · rw [h1, h4]
      dsimp only
      rw [cat_append, cat_cut, cat_cons, cat_dots x k (a + 1) (by omega) (by omega)]
      first | done | rfl

theorem cat_len (l : List Str) : (l.map (·.length)).sum = (cat l).length := by
  induction l with
  | nil => rfl
  | cons u l ih =>
    rw [List.map_cons, List.sum_cons, ih, cat_cons, List.length_append]
    congr 1
theorem pieces_count (x r : Array Nat) (find : Nat → Option (Nat × Nat)) (hp : ∀ d a b, find d = some (a, b) → d ≤ a ∧ a < b ∧ b ≤ x.size) : ∀ (k d : Nat), (pieces x r find k d).length ≤ 2 * (x.size - d) + 1
  | 0, d => by simp [pieces]
  | k + 1, d => by
    unfold pieces
    split
    · rename_i a b h
      obtain ⟨h1, h2, h3⟩ := hp d a b h
      have := pieces_count x r find hp k b
      rw [List.length_append, List.length_cons]
      split <;> simp <;> omega
    · split <;> simp
theorem norm_len (r : List Nat) (hr : r.length ≤ 2) : ∀ (b : Bool) (l : List Nat), (normS r b l).length ≤ 2 * l.length
  | _, [] => by simp [normS]
  | b, c :: t => by
    unfold normS
    have h1 := norm_len r hr false t
    have h2 := norm_len r hr true t
    rw [List.length_cons]
    repeat' split
    all_goals simp <;> omega
theorem dots_len : ∀ (b : Bool) (l : List Nat), (dotsS b l).length ≤ 2 * l.length
  | _, [] => by simp [dotsS]
  | b, c :: t => by
    unfold dotsS
    have h1 := dots_len false t
    have h2 := dots_len (c == 10) t
    rw [List.length_cons]
    split <;> simp <;> omega

theorem join_cat (l : List Str) : (Txt.join ⟨#[]⟩ l).cps.toList = cat l := by
  show (Builtin.Str.glued ⟨#[]⟩ l).cps.toList = _
  rw [StrLaws.glued_eq_join]
  induction l with
  | nil => rfl
  | cons u l ih =>
    cases l with
    | nil => show u.cps.toList = u.cps.toList ++ []; rw [List.append_nil]
    | cons v l =>
      show (u.cps ++ #[] ++ (Str.join ⟨#[]⟩ (v :: l)).cps).toList = _
      rw [cat_cons, ← ih]
      simp
def normT (x : List Nat) : List Nat := normS [13, 10] false x
def quoteT (x : List Nat) : List Nat := dotsS true (normT x)
theorem nl_prog (x : Array Nat) : ∀ d a b, nlFrom x x.size (x.size - d) d = some (a, b) → d ≤ a ∧ a < b ∧ b ≤ x.size := by
  intro d a b h
  by_cases hd : d ≤ x.size
  · rcases nl_spec x (x.size - d) d (by omega) with ⟨h1, _⟩ | ⟨a', b', h1, h2, h3, _, h5⟩
    · rw [h1] at h; cases h
    · rw [h1] at h; cases h
      rcases h5 with ⟨_, rfl⟩ | ⟨_, h6, _, rfl⟩ | ⟨_, _, rfl⟩ <;> omega
  · have : x.size - d = 0 := by omega
    rw [this] at h; cases h
theorem dot_prog (x : Array Nat) : ∀ d a b, dotFrom x (x.size - d) d = some (a, b) → d ≤ a ∧ a < b ∧ b ≤ x.size := by
  intro d a b h
  by_cases hd : d ≤ x.size
  · rcases dot_spec x (x.size - d) d (by omega) with ⟨h1, _⟩ | ⟨a', h1, h2, h3, _⟩
    · rw [h1] at h; cases h
    · rw [h1] at h; cases h; omega
  · have : x.size - d = 0 := by omega
    rw [this] at h; cases h

section
variable {prog : Program} {w : World} {A : Around} {X : V0} {env : Env} {ρ : Rho} {s : Shared} {sc : Scope} {cn : List Str}

theorem gives_norm {y : Str} {t tr : Tok} (hy : y.length ≤ 100000) (G : Gr w X s.heap) (hX : Std X s) : Gives prog w A X (call (.builtin "re.Pattern.sub") [.ref 114, .str ⟨#[13, 10]⟩ tr, .str y t]) (.str ⟨(normT y.cps.toList).toArray⟩) s := by
  have hsz : y.cps.size = y.length := rfl
  have hc := cat_nl y.cps #[13, 10] (y.cps.size + 1) 0 (by omega) (Nat.zero_le _)
  have e : Txt.join ⟨#[]⟩ (pieces y.cps #[13, 10] (fun d => nlFrom y.cps y.cps.size (y.cps.size - d) d) (y.cps.size + 1) 0) = ⟨(normT y.cps.toList).toArray⟩ := by
    have h := join_cat (pieces y.cps #[13, 10] (fun d => nlFrom y.cps y.cps.size (y.cps.size - d) d) (y.cps.size + 1) 0)
    rw [hc] at h
    generalize Txt.join _ _ = z at h
    obtain ⟨z⟩ := z
    congr 1
    rw [← Array.toList_inj, h]; rfl
  rw [← e]
  refine gives_sub (pat2 w) _ (fun d => ?_) (nl_prog y.cps) (by omega) (by show (2 : Nat) ≤ 1000; omega) (by simp) G hX ?_
  · obtain ⟨n, h1, h2⟩ := search2 (text := y.cps) (p := d) (l := y.cps.size) (must := false)
    exact ⟨n, by omega, h2⟩
  · have h1 := pieces_count y.cps #[13, 10] _ (nl_prog y.cps) (y.cps.size + 1) 0
    rw [cat_len, hc]
    have h2 := norm_len [13, 10] (by simp) false (y.cps.toList.drop 0)
    have h3 : (y.cps.toList.drop 0).length = y.length := by simp; rfl
    show (normS [13, 10] false (y.cps.toList.drop 0)).length + (pieces y.cps #[13, 10] _ (y.cps.size + 1) 0).length ≤ _
    omega
theorem gives_dots {y : Str} {t tr : Tok} (hy : y.length ≤ 200000) (G : Gr w X s.heap) (hX : Std X s) : Gives prog w A X (call (.builtin "re.Pattern.sub") [.ref 109, .str ⟨#[46, 46]⟩ tr, .str y t]) (.str ⟨(dotsS true y.cps.toList).toArray⟩) s := by
  have hsz : y.cps.size = y.length := rfl
  have hc := cat_dots y.cps (y.cps.size + 1) 0 (by omega) (Nat.zero_le _)
  have e : Txt.join ⟨#[]⟩ (pieces y.cps #[46, 46] (fun d => dotFrom y.cps (y.cps.size - d) d) (y.cps.size + 1) 0) = ⟨(dotsS true y.cps.toList).toArray⟩ := by
    have h := join_cat (pieces y.cps #[46, 46] (fun d => dotFrom y.cps (y.cps.size - d) d) (y.cps.size + 1) 0)
    rw [hc] at h
    generalize Txt.join _ _ = z at h
    obtain ⟨z⟩ := z
    congr 1
    rw [← Array.toList_inj, h]; rfl
  rw [← e]
  refine gives_sub (pat1 w) _ (fun d => ?_) (dot_prog y.cps) (by omega) (by show (2 : Nat) ≤ 1000; omega) (by simp) G hX ?_
  · obtain ⟨n, h1, h2⟩ := search1 (text := y.cps) (p := d) (l := y.cps.size) (must := false)
    exact ⟨n, by omega, h2⟩
  · have h1 := pieces_count y.cps #[46, 46] _ (dot_prog y.cps) (y.cps.size + 1) 0
    rw [cat_len, hc]
    have h2 := dots_len (atStart y.cps 0) (y.cps.toList.drop 0)
    have h3 : (y.cps.toList.drop 0).length = y.length := by simp; rfl
    show (dotsS (atStart y.cps 0) (y.cps.toList.drop 0)).length + (pieces y.cps #[46, 46] _ (y.cps.size + 1) 0).length ≤ _
    omega

/-- a call of sub -/
theorem Ev.sub {x : Str} {P C : Addr} {code : Array Nat} {px apos pos : Pos} {e f : Expr} {r y z : Str} (hk : sc.names.lookup x = some .globalImplicit) (hg : nsIn (KK w) mainGlobals x = some (some (.ref P))) (p : Pat w P C code) (he : Ev prog w A sc cn ρ e (.str r)) (hf : Ev prog w A sc cn ρ f (.str y))
    (hc : ∀ s t tr X, Gr w X s.heap → Std X s → Gives prog w A X (call (.builtin "re.Pattern.sub") [.ref P, .str r tr, .str y t]) (.str z) s) (hline : (apos.endLine == pos.line) = true := by rfl) (hd : (x == ("__debug__" : Str)) = false := by decide)
    (hs : ∀ env, starEach [e, f] env = [(false, eval e env), (false, eval f env)] := by intro _; rfl) :
    Ev prog w A sc cn ρ (.Call (.Attribute (.Name x px) (Str.ofString "sub") apos) [e, f] [] pos) (.str z) := fun env X s H S Q E q => by
  obtain ⟨p0, f0, t0, items, n, hP, hC, _⟩ := p.ex
  refine call_attr (by intro _ _ _ h; cases h) (fun env => by rw [hs env]; rfl) hline (global_val H S hk hg ?_ hd)
  intro pl
  refine getMethod_builtin ⟨_, S.gr.gr0.X _ _ hP, rfl⟩ plainAttrs_re slot_re_sub type_re_sub (fun a e => by cases e; exact ⟨_, S.gr.gr0.X _ _ hP, rfl⟩) ?_
  rw [hs env]
  refine Calls.callWith_builtin rfl (Calls.evalArgs_plain (Calls.spliced_cons (he env X s H S _ E fun v s1 k1 i1 => Calls.spliced_cons (hf env X s1 H (S.keeps k1) _ E fun u s2 k2 i2 => Calls.spliced_nil ?_))))
  cases i1; cases i2
  exact hc s2 _ _ X ((S.keeps k1).keeps k2).gr ((S.keeps k1).keeps k2).std Q E fun v3 s3 k3 i3 => q _ _ ((k1.trans k2).trans k3) i3

theorem fun_quote {y : Str} (hy : y.length ≤ 100000) : Fun prog w 2 121 [.str y] (.str ⟨(quoteT y.cps.toList).toArray⟩) := by
  refine Fun.of1 (n := 1) (Str.ofString "data") (by rfl) (by kernel_rfl) rfl (fun _ => rfl) rfl rfl rfl rfl rfl rfl rfl rfl fun A hA => ?_
  refine Exs.ret (Ex.ret ?_)
  refine Ev.sub rfl (by kernel_rfl) (pat1 w) (r := ⟨#[46, 46]⟩) (Ev.str) (Ev.sub (z := ⟨(normT y.cps.toList).toArray⟩) rfl (by kernel_rfl) (pat2 w) (Ev.gS (y := ⟨#[13, 10]⟩) rfl (by kernel_rfl)) (Ev.name rfl) fun s t tr X G hX => gives_norm hy G hX) fun s t tr X G hX => ?_
  refine gives_dots ?_ G hX
  have h := norm_len [13, 10] (by simp) false y.cps.toList
  have h2 : y.cps.toList.length = y.length := Array.length_toList
  show (normT y.cps.toList).toArray.size ≤ _
  rw [List.size_toArray]
  show (normS [13, 10] false y.cps.toList).length ≤ _
  omega
end
end Mine.R
end

section
namespace Mine
/-! counters never fall -/

theorem runs_toks {M : Model} {Γ : Ctx} {p : Pos} {t : Sem Fin} {fs : List Frame} {s s' : Shared} {e : End} (h : Runs M Γ p t fs s e s') : s.toks ≤ s'.toks := by
  induction h <;> (try simp only [Shared.setGen, Heap.size_push, Heap.size_update] at *) <;> omega
theorem wakes_toks {M : Model} {Γ : Ctx} {p : Pos} {g : Nat} {r : Resume} {s s' : Shared} {res : GenResult} (h : Wakes M Γ p g r s res s') : s.toks ≤ s'.toks := by
  unfold Wakes at h
  repeat' split at h
  · exact h.elim
  · obtain ⟨_, s₁, hr, _, _, rfl⟩ := h; exact (runs_toks hr : (s.setGen g .running).toks ≤ s₁.toks)
  · rw [h.2]; exact Nat.le_refl _
  · rw [h.2]; exact Nat.le_refl _
  · obtain ⟨_, s₁, hr, _, _, rfl⟩ := h; exact (runs_toks hr : (s.setGen g .running).toks ≤ s₁.toks)
  · rw [h.2]; exact Nat.le_refl _
  · rw [h.2]; exact Nat.le_refl _
theorem wp_toks {α : Type} (M : Model) (Γ : Ctx) (n : Nat) (t : Sem α) : ∀ (Q : α → Pos → Shared → Prop) (E : Value → Pos → Shared → Prop) (p : Pos) (s : Shared), n ≤ s.toks → Sem.wp M Γ t Q E p s →
    Sem.wp M Γ t (fun a p' s' => n ≤ s'.toks ∧ Q a p' s') (fun e p' s' => n ≤ s'.toks ∧ E e p' s') p s := by
  induction t with
  | pure a => exact fun Q E p s hn h => ⟨hn, h⟩
  | raise e => exact fun Q E p s hn h => ⟨hn, h⟩
  | unsupported _ => exact fun Q E p s _ h => h
  | finish _ => exact fun Q E p s _ h => h
  | rule _ k ih => exact fun Q E p s hn h => ih () Q E p s hn h
  | «at» p' k ih => exact fun Q E p s hn h => ih () Q E p' s hn h
  | load a _ k ih => exact fun Q E p s hn ⟨o, ho, h⟩ => ⟨o, ho, ih o Q E p s hn h⟩
  | update a _ f k ih => exact fun Q E p s hn h => ⟨h.1, ih () Q E p _ hn h.2⟩
  | loadIfAlive a k ih => exact fun Q E p s hn h => ih _ Q E p s hn h
  | point _ k ih => exact fun Q E p s hn h => ih () Q E p s hn h
  | register _ _ => exact fun Q E p s _ h => h
  | alloc o k ih => exact fun Q E p s hn h => ih _ Q E p _ hn h
  | fresh k ih => exact fun Q E p s hn h => ih _ Q E p _ (Nat.le_succ_of_le hn) h
  | ask k ih => exact fun Q E p s hn h => ih _ Q E p s hn h
  | choose src m k ih => exact fun Q E p s hn h => ⟨h.1, ih _ Q E p _ hn h.2⟩
  | os q _ k ih => exact fun Q E p s hn h => ih _ Q E p _ hn h
  | call c hd _ _ k ih => exact fun Q E p s hn ⟨r, s', hr, h⟩ => ⟨r, s', hr, ih r Q E p s' (Nat.le_trans hn (runs_toks hr)) h⟩
  | handled own k ih => exact fun Q E p s hn h => ih _ Q E p s hn h
  | genState g k ih => exact fun Q E p s hn ⟨st, hs, h⟩ => ⟨st, hs, ih _ Q E p s hn h⟩
  | newGen c k ih => exact fun Q E p s hn h => ih _ Q E p _ hn h
  | resume g r _ k ih => exact fun Q E p s hn ⟨res, s', hw, h⟩ => ⟨res, s', hw, ih res Q E p s' (Nat.le_trans hn (wakes_toks hw)) h⟩
  | yield _ _ _ _ => exact fun Q E p s _ h => h
  | stack k ih => exact fun Q E p s hn h => ih _ Q E p s hn h
  | fork _ _ => exact fun Q E p s _ h => h
  | thread k ih => exact fun Q E p s hn h => ih _ Q E p s hn h
  | await _ _ _ _ _ => exact fun Q E p s _ h => h
theorem with_toks {α : Type} {M : Model} {A : Around} {s : Shared} {t : Sem α} {Q : α → Shared → Prop} {E : Value → Shared → Prop}
    (h : wpAny M A t (fun a s' => s.toks ≤ s'.toks → Q a s') E s) : wpAny M A t Q E s := fun Γ p hΓ =>
  Sem.wp_mono M Γ t (fun _ _ _ x => x.2 x.1) (fun _ _ _ x => x.2) p s (wp_toks M Γ _ t _ _ p s (Nat.le_refl _) (h Γ p hΓ))
theorem code_with_toks {M : Model} {A : Around} {s : Shared} {c : Code} {R : Result → Shared → Prop} (h : codeAny M A c (fun r s' => s.toks ≤ s'.toks → R r s') s) : codeAny M A c R s :=
  fun Γ p hc hΓ => let ⟨r, s', hr, hR⟩ := h Γ p hc hΓ; ⟨r, s', hr, hR (runs_toks hr)⟩
end Mine
end

section
namespace Mine
open PySem.Builtin PySem.Builtin.Str PySem.StrLaws

/-- rows with y between them -/
def joinY (y : List Nat) : List (List Nat) → List Nat
  | [] => []
  | [r] => r
  | r :: s :: rs => r ++ (y ++ joinY y (s :: rs))

theorem at_drop {x y : Str} {c : Nat} : At x y x.length c ↔ (x.cps.toList.drop c).take y.length = y.cps.toList ∧ c + y.length ≤ x.length := by
  constructor
  · rintro ⟨h1, h2⟩
    refine ⟨?_, h1⟩
    have h2 : (x.cps.extract c (c + y.length) == y.cps) = true := h2
    have h3 := eq_of_beq h2
    rw [← h3, R.extract_list, show c + y.length - c = y.length by omega]
  · rintro ⟨h1, h2⟩
    refine ⟨h2, ?_⟩
    show (x.cps.extract c (c + y.length) == y.cps) = true
    rw [beq_iff_eq, ← Array.toList_inj, R.extract_list, show c + y.length - c = y.length by omega]
    exact h1

theorem parts_rows {x y : Str} {h : Nat} {t : List Nat} (hy : y.cps.toList = h :: t) : ∀ (rs : List (List Nat)) (a : Nat) (cuts : List Nat) (f : Nat), rs ≠ [] → (∀ r ∈ rs, h ∉ r) → x.cps.toList.drop a = joinY (h :: t) rs → a ≤ x.length → ChainG x y x.length a cuts f → (∀ k, f ≤ k → ¬ At x y x.length k) →
    (partsFrom x y.length a cuts).map (·.cps.toList) = rs
  | [], _, _, _, hne, _, _, _, _, _ => absurd rfl hne
  | [r], a, cuts, f, _, hr, hd, ha, hc, hf => by
    have hl : y.length = t.length + 1 := by
      show y.cps.size = _
      rw [← Array.length_toList, hy]; rfl
    cases cuts with
    | nil =>
      show [(strSub x a x.length).cps.toList] = [r]
      have e : (strSub x a x.length).cps.toList = (x.cps.toList.drop a).take (x.length - a) := R.extract_list _ _ _
      rw [e, hd]
      have e2 : (joinY (h :: t) [r]).length = x.length - a := by
        rw [← hd, List.length_drop]; rfl
      rw [List.take_of_length_le (by omega)]
      rfl
    | cons c cs =>
      exfalso
      obtain ⟨h1, h2, _⟩ := hc
      obtain ⟨h3, h4⟩ := at_drop.mp h2
      have e : x.cps.toList.drop c = r.drop (c - a) := by
        have : x.cps.toList.drop c = (x.cps.toList.drop a).drop (c - a) := by rw [List.drop_drop]; congr 1; omega
        rw [this, hd]; rfl
      rw [e, hy, hl] at h3
      have : h ∈ r := by
        have hm : h ∈ (r.drop (c - a)).take (t.length + 1) := by rw [h3]; exact List.mem_cons_self ..
        exact List.mem_of_mem_drop (List.mem_of_mem_take hm)
      exact hr r (List.mem_singleton.mpr rfl) this
  | r :: s :: rs, a, cuts, f, _, hr, hd, ha, hc, hf => by
    have hl : y.length = t.length + 1 := by
      show y.cps.size = _
      rw [← Array.length_toList, hy]; rfl
    have hd' : x.cps.toList.drop a = r ++ (h :: t ++ joinY (h :: t) (s :: rs)) := hd
    have hlen : x.length - a = r.length + (t.length + 1 + (joinY (h :: t) (s :: rs)).length) := by
      have := congrArg List.length hd'
      rw [List.length_drop, List.length_append, List.length_append, List.length_cons] at this
      exact this
    have hdr : x.cps.toList.drop (a + r.length) = h :: t ++ joinY (h :: t) (s :: rs) := by
      rw [← List.drop_drop, hd', List.drop_left]
    have hat : At x y x.length (a + r.length) := by
      refine at_drop.mpr ⟨?_, by omega⟩
      rw [hdr, hy, hl, List.take_append_of_le_length (by simp), List.take_of_length_le (by simp)]
    have hno : ∀ k, a ≤ k → k < a + r.length → ¬ At x y x.length k := by
      intro k hk1 hk2 hA
      obtain ⟨h3, _⟩ := at_drop.mp hA
      have e : x.cps.toList.drop k = r.drop (k - a) ++ (h :: t ++ joinY (h :: t) (s :: rs)) := by
        have : x.cps.toList.drop k = (x.cps.toList.drop a).drop (k - a) := by rw [List.drop_drop]; congr 1; omega
        rw [this, hd', List.drop_append_of_le_length (by omega)]
      have hk3 : k - a < r.length := by omega
      rw [e, hy, hl, List.drop_eq_getElem_cons hk3] at h3
      have : r[k - a] = h := by
        rw [List.cons_append, List.take_succ_cons] at h3
        exact (List.cons.inj h3).1
      exact hr r (List.mem_cons_self ..) (this ▸ List.getElem_mem hk3)
    cases cuts with
    | nil =>
      have hfa : f = a := hc
      exact absurd hat (hf _ (by omega))
    | cons c cs =>
      obtain ⟨h1, h2, h3, h4⟩ := hc
      have hca : c = a + r.length := by
        rcases Nat.lt_trichotomy c (a + r.length) with h | h | h
        · exact absurd h2 (hno c h1 h)
        · exact h
        · exact absurd hat (h3 _ (by omega) h)
      subst hca
      show (strSub x a (a + r.length)).cps.toList :: (partsFrom x y.length (a + r.length + y.length) cs).map (·.cps.toList) = _
      have e : (strSub x a (a + r.length)).cps.toList = r := by
        show (x.cps.extract a (a + r.length)).toList = r
        rw [R.extract_list, hd', show a + r.length - a = r.length by omega, List.take_left]
      rw [e]
      congr 1
      refine parts_rows hy (s :: rs) _ cs f (by simp) (fun q hq => hr q (List.mem_cons_of_mem _ hq)) ?_ (by omega) h4 hf
      rw [← List.drop_drop, hdr, hl, List.drop_append_of_le_length (by simp)]
      simp

theorem chain_of {x y : Str} {h : Nat} {t : List Nat} (hy : y.cps.toList = h :: t) : ∃ f, ChainG x y x.length 0 (occurrences x y 0 x.length (x.length + 1)) f ∧ ∀ k, f ≤ k → ¬ At x y x.length k :=
  occ_tight x y (by show 1 ≤ y.cps.size; rw [← Array.length_toList, hy]; simp)
theorem parts_all {x y : Str} {h : Nat} {t : List Nat} {rs : List (List Nat)} (hy : y.cps.toList = h :: t) (hne : rs ≠ []) (hr : ∀ r ∈ rs, h ∉ r) (hx : x.cps.toList = joinY (h :: t) rs) :
    (partsBetween x (occurrences x y 0 x.length (x.length + 1)) y.length).map (·.cps.toList) = rs := by
  obtain ⟨f, hc, hf⟩ := chain_of (x := x) hy
  rw [partsBetween_eq]
  exact parts_rows hy rs 0 _ f hne hr (by simpa using hx) (Nat.zero_le _) hc hf
theorem none_parts {x y : Str} {h : Nat} {t : List Nat} {rs : List (List Nat)} (hy : y.cps.toList = h :: t) (hne : rs ≠ []) (hr : ∀ r ∈ rs, h ∉ r) (hx : x.cps.toList = joinY (h :: t) rs) (he : (occurrences x y 0 x.length (x.length + 1)).isEmpty = true) : rs = [x.cps.toList] := by
  have := parts_all hy hne hr hx
  rw [List.isEmpty_iff.mp he] at this
  rw [← this]
  show [(strSub x 0 x.length).cps.toList] = _
  congr 1
  show (x.cps.extract 0 x.cps.size).toList = _
  simp
theorem split_rows {x : Str} {rs : List (List Nat)} (hne : rs ≠ []) (hr : ∀ r ∈ rs, 13 ∉ r) (hx : x.cps.toList = joinY [13, 10] rs) : (Txt.split x ⟨#[13, 10]⟩).map (·.cps.toList) = rs := by
  have hy : (⟨#[13, 10]⟩ : Str).cps.toList = 13 :: [10] := rfl
  unfold Txt.split
  split
  · rename_i hc
    have hk : Str.strKind ⟨#[13, 10]⟩ = 1 := by unfold Str.strKind; simp
    have hx1 : ¬ Str.strKind x < 1 := by
      unfold Str.strKind
      split
      · omega
      · split <;> omega
    rw [hk, decide_eq_false hx1, Bool.or_false] at hc
    have hlt : x.length < 2 := of_decide_eq_true hc
    cases rs with
    | nil => exact absurd rfl hne
    | cons r rs =>
      cases rs with
      | nil =>
        have hx : x.cps.toList = r := hx
        show [x.cps.toList] = [r]
        rw [hx]
      | cons s rs =>
        exfalso
        have : x.cps.toList.length = _ := congrArg List.length hx
        rw [Array.length_toList] at this
        simp only [joinY, List.length_append, List.length_cons] at this
        have h2 : x.cps.size = x.length := rfl
        omega
  · split
    · rename_i he
      rw [none_parts hy hne hr hx he]; rfl
    · exact parts_all hy hne hr hx
theorem glued_rows (z : Str) : ∀ ps : List Str, (glued z ps).cps.toList = joinY z.cps.toList (ps.map (·.cps.toList)) := by
  intro ps
  rw [glued_eq_join]
  induction ps with
  | nil => rfl
  | cons p ps ih =>
    cases ps with
    | nil => rfl
    | cons q ps =>
      show (p.cps ++ z.cps ++ (Str.join z (q :: ps)).cps).toList = p.cps.toList ++ (z.cps.toList ++ joinY z.cps.toList ((q :: ps).map (·.cps.toList)))
      rw [← ih]
      simp
theorem replace_rows {x y z : Str} {h : Nat} {t : List Nat} {rs : List (List Nat)} (hy : y.cps.toList = h :: t) (hne : rs ≠ []) (hr : ∀ r ∈ rs, h ∉ r) (hx : x.cps.toList = joinY (h :: t) rs) : (Txt.replace x y z).cps.toList = joinY z.cps.toList rs := by
  unfold Txt.replace
  have hl : (y.length == 0) = false := by
    have : y.length = t.length + 1 := by
      show y.cps.size = _
      rw [← Array.length_toList, hy]; rfl
    rw [this]; rfl
  rw [hl, Bool.false_and, Bool.or_false]
  split
  · rename_i he
    rw [none_parts hy hne hr hx he]; rfl
  · rw [glued_rows, parts_all hy hne hr hx]

/-- one sign for another -/
def splitOn (h : Nat) : List Nat → List (List Nat)
  | [] => [[]]
  | c :: l => if c = h then [] :: splitOn h l else match splitOn h l with
    | [] => [[c]]
    | r :: rs => (c :: r) :: rs
theorem splitOn_ne (h : Nat) : ∀ l, splitOn h l ≠ []
  | [] => by simp [splitOn]
  | c :: l => by
    unfold splitOn
    split
    · simp
    · split <;> simp
theorem splitOn_free (h : Nat) : ∀ l, ∀ r ∈ splitOn h l, h ∉ r
  | [], r, hr => by simp [splitOn] at hr; subst hr; simp
  | c :: l, r, hr => by
    unfold splitOn at hr
    split at hr
    · rcases List.mem_cons.mp hr with rfl | hr
      · simp
      · exact splitOn_free h l r hr
    · rename_i hc
      split at hr
      · rename_i e; exact absurd e (splitOn_ne h l)
      · rename_i r' rs e
        rcases List.mem_cons.mp hr with rfl | hr
        · intro hm
          rcases List.mem_cons.mp hm with hm | hm
          · exact hc hm.symm
          · exact splitOn_free h l r' (by rw [e]; exact List.mem_cons_self ..) hm
        · exact splitOn_free h l r (by rw [e]; exact List.mem_cons_of_mem _ hr)
theorem join_splitOn (h z : Nat) : ∀ l, joinY [z] (splitOn h l) = l.map fun c => if c = h then z else c
  | [] => rfl
  | c :: l => by
    have ih := join_splitOn h z l
    unfold splitOn
    rw [List.map_cons, ← ih]
    split
    · cases e : splitOn h l with
      | nil => exact absurd e (splitOn_ne h l)
      | cons r rs => rfl
    · cases e : splitOn h l with
      | nil => exact absurd e (splitOn_ne h l)
      | cons r rs =>
        cases rs with
        | nil => rfl
        | cons s rs => rfl
theorem replace_one (x : Str) (h z : Nat) : (Txt.replace x ⟨#[h]⟩ ⟨#[z]⟩).cps.toList = x.cps.toList.map fun c => if c = h then z else c := by
  rw [replace_rows (h := h) (t := []) rfl (splitOn_ne h x.cps.toList) (splitOn_free h _) ?_]
  · exact join_splitOn h z _
  · have := join_splitOn h h x.cps.toList
    rw [this]
    conv => lhs; rw [← List.map_id x.cps.toList]
    apply List.map_congr_left
    intro c _
    show c = _
    split
    · rename_i e; exact e
    · rfl
end Mine
end

section
set_option maxRecDepth 4000
namespace Mine

section
variable {prog : Program} {w : World} {A : Around} {X X' Z : V0} {env cenv : Env} {ρ ρ₁ ρ₂ : Rho} {s s' s₀ s₁ s₂ : Shared} {sc scope tsc : Scope} {cn tcn town : List Str} {own : Own}

def GivesT (prog : Program) (w : World) (A : Around) (X : V0) (t : Sem Value) (d : D) (s : Shared) : Prop :=
  ∀ (Q : Value → Shared → Prop) (E : Value → Shared → Prop), (∀ v s', Kp s s' → s.toks ≤ s'.toks → Is X s'.heap v d → Q v s') → wpAny (model prog w) A t Q E s
theorem Gives.t {t : Sem Value} {d : D} (h : Gives prog w A X t d s) : GivesT prog w A X t d s := fun Q E q =>
  with_toks (h _ E fun v s' k i ht => q v s' k ht i)
theorem GivesT.replace {o : Expr} {x y z : Str} {apos pos p1 p2 : Pos} {c1 c2 : Nat} (h : GivesT prog w A X (eval o env) (.str x) s) (h0 : 0 < s.toks) (hyz : (y == z) = false) (hx : x.length ≤ 1048576) (hz : z.length ≤ 14)
    (ho : ∀ id p q, o ≠ .Call (.Name id p) [] [] q) (hline : (apos.endLine == pos.line) = true) : GivesT prog w A X (eval (.Call (.Attribute o (Str.ofString "replace") apos) [.Constant (.str y) c1 p1, .Constant (.str z) c2 p2] [] pos) env) (.str (Txt.replace x y z)) s := fun Q E q =>
  call_attr ho (fun _ => rfl) hline (h _ E fun v s1 k1 t1 i1 pl => by
    cases i1
    refine GM.replace ?_
    refine Calls.callWith_builtin rfl (Calls.evalArgs_plain (Calls.spliced_cons (Calls.Constant_str (k := c1) (pos := p1) (Calls.spliced_cons (Calls.Constant_str (k := c2) (pos := p2) (Calls.spliced_nil ?_))))))
    refine with_toks (SC.replaceW (fun h => ?_) (Nat.succ_ne_zero _) (fun h => ?_) hyz hx hz fun t' k ht => ?_)
    · have : s1.toks = 0 := h
      omega
    · have : s1.toks = s1.toks + 1 := h
      omega
    · have ht : s1.toks + 1 + 1 ≤ k := ht
      exact q _ _ (k1.trans (Kp.tok s1 k)) (by show s.toks ≤ k; omega) (.str _ _))

theorem fun_lead {y : Str} (hy : y.length ≤ 50000) (hz : (Txt.replace (Txt.replace y (Str.ofString ".") (Str.ofString " ")) (Str.ofString "\r\n") (Str.ofString "\t")).length ≤ 100000) : Fun prog w 5 152 [.str y] (whiteOf (Txt.replace (Txt.replace y (Str.ofString ".") (Str.ofString " ")) (Str.ofString "\r\n") (Str.ofString "\t"))) := fun A X s vs Q E hA G hX hi q => by
  cases hi with | cons i r =>
  cases r
  rename_i v
  refine wpAny_call (def_start (n := 4) [(Str.ofString "mail", v, .str y)] hA G hX (by rfl) (by kernel_rfl) rfl rfl (fun t ht => ?_) (fun t ht => ?_) rfl rfl rfl rfl rfl rfl (fun t ht => ?_) fun A' env s1 E' hA' H hc hL kp ht F => ?_)
  · rw [List.mem_singleton.mp ht]; rfl
  · have h := List.all_eq_true.mp (show (List.all _ fun x : Str × NameKind => x.2 != .cell) = true from rfl) t ht
    simpa using h
  · rw [List.mem_singleton.mp ht]; exact i
  · have h0 : 0 < s1.toks := by rw [ht]; show 0 < s.toks + 1; omega
    refine wpAny_execs_cons (wpAny_Return_some ?_)
    have S := F.sees
    have le1 : (Txt.replace y (Str.ofString ".") (Str.ofString " ")).length = y.length := by
      show (Txt.replace y (Str.ofString ".") (Str.ofString " ")).cps.size = y.cps.size
      rw [← Array.length_toList, ← Array.length_toList]
      have := replace_one y 46 32
      rw [show (Str.ofString ".") = ⟨#[46]⟩ from rfl, show (Str.ofString " ") = ⟨#[32]⟩ from rfl, this, List.length_map]
    have arg : ∀ p1 p2 p3 p4 p5 a1 a2 c1 c2, (a1.endLine == c1.line) = true → (a2.endLine == c2.line) = true → GivesT prog w A' (fun c => X c ∨ c = s.heap.objs.size) (eval (.Call (.Attribute (.Call (.Attribute (.Name (Str.ofString "mail") p1) (Str.ofString "replace") a1) [.Constant (.str (Str.ofString ".")) 0 p2, .Constant (.str (Str.ofString " ")) 0 p3] [] c1) (Str.ofString "replace") a2) [.Constant (.str (Str.ofString "\r\n")) 0 p4, .Constant (.str (Str.ofString "\t")) 0 p5] [] c2) env)
        (.str (Txt.replace (Txt.replace y (Str.ofString ".") (Str.ofString " ")) (Str.ofString "\r\n") (Str.ofString "\t"))) s1 := fun p1 p2 p3 p4 p5 a1 a2 c1 c2 e1 e2 =>
      GivesT.replace (GivesT.replace (((Ev.name rfl : Ev prog w A' _ _ _ _ _) env _ _ H S).t) h0 (by decide) (by omega) (by decide) (by intro _ _ _ h; cases h) e1) h0 (by decide) (by omega) (by decide) (by intro _ _ _ h; cases h) e2
    refine Call_Name rfl (global_val H S rfl (by kernel_rfl : nsIn (KK w) mainGlobals (Str.ofString "Whitespace") = some (some (.ref 100))) (callWith_K S.gr.gr0.X (by kernel_rfl) ?_ rfl rfl))
    refine Calls.spliced_cons (arg _ _ _ _ _ _ _ _ _ rfl rfl _ _ fun v2 s2 k2 _ i2 => Calls.spliced_nil ?_)
    have S2 := S.keeps k2
    refine ⟨S2.gr.gr0.X, fun_white (n := 1) ?_ A' _ s2 [v2] _ _ hA' S2.gr S2.std (.cons i2 .nil) fun v3 s3 k3 i3 => ?_⟩
    · exact hz
    · exact q v3 s3 ((kp.trans k2).trans k3) (i3.less fun c h => .inl h)

/-! _law_times -/
def timesT (x : List Nat) : Nat → List Nat × List Nat
  | 0 => (x, x)
  | k + 1 => let p := timesT x k; let m := R.quoteT p.1; (m, p.2 ++ m)
theorem quote_len (x : List Nat) : (R.quoteT x).length ≤ 4 * x.length := by
  have h1 := R.norm_len [13, 10] (by simp) false x
  have h2 := R.dots_len true (R.normT x)
  show (R.dotsS true (R.normT x)).length ≤ _
  have h3 : (R.normT x).length ≤ 2 * x.length := h1
  omega
theorem fun_times {y : List Nat} {n : Nat} (hn : 1 ≤ n) (hn2 : n ≤ 10) (hb : ∀ k, k < n → (timesT y k).1.length ≤ 20000 ∧ (timesT y k).2.length ≤ 20000) : Fun prog w 5 145 [.str ⟨y.toArray⟩, .int n] (.str ⟨(timesT y (n - 1)).2.toArray⟩) := by
  refine Fun.of2 (n := 4) (Str.ofString "mail") (Str.ofString "size") (by rfl) (by kernel_rfl) rfl (fun _ _ => rfl) rfl rfl rfl rfl rfl rfl rfl rfl rfl fun A hA => ?_
  refine Exs.cons (Ex.assign (Ev.name rfl) (.inl rfl) (fun _ _ => rfl)) ?_
  refine Exs.cons (Ex.for (It.range1 hA.hh (Ev.bin (Ev.name rfl) Ev.int Bin.subI) (.inl rfl) rfl (by kernel_rfl) (by omega) (by omega))
    (fun i => [(Str.ofString "whole", .str ⟨(timesT y i).2.toArray⟩), (Str.ofString "mail", .str ⟨(timesT y i).1.toArray⟩), (Str.ofString "size", .int n)]) (n - 1) (by omega) (Sub.cons rfl (Sub.cons rfl (Sub.cons rfl .nil))) (fun i hi => ?_) (.inl ⟨by omega, rfl⟩)) ?_
  · have h1 := hb i (by omega)
    have h2 := hb (i + 1) (by omega)
    refine ⟨_, Exs.cons (Ex.assign (Ev.callF (n := 2) (hA.le (by decide)) rfl (by kernel_rfl) (by kernel_rfl) (Evs.cons (Ev.name rfl) Evs.nil) (R.fun_quote (by show Array.size _ ≤ _; rw [List.size_toArray]; omega))) (.inl rfl) (fun _ _ => rfl)) (Exs.one (Ex.assign (Ev.bin (Ev.name rfl) (Ev.name rfl) (Bin.addS ?_)) (.inl rfl) (fun _ _ => rfl))), Sub.cons ?_ (Sub.cons ?_ (Sub.cons rfl .nil))⟩
    · have h3 := quote_len (timesT y i).1
      show Array.size _ + Array.size _ ≤ _
      rw [List.size_toArray, List.size_toArray]
      show (timesT y i).2.length + (R.quoteT (timesT y i).1).length ≤ _
      omega
    · show some (D.str ((⟨(timesT y i).2.toArray⟩ : Str) ++ ⟨(R.quoteT (timesT y i).1).toArray⟩)) = some (D.str ⟨((timesT y i).2 ++ R.quoteT (timesT y i).1).toArray⟩)
      congr 2
      show (⟨_ ++ _⟩ : Str) = _
      rw [List.append_toArray]
    · rfl
  · refine Exs.ret (Ex.ret ?_)
    have e : ((n : Int) - 1).toNat = n - 1 := by omega
    rw [← e]
    exact Ev.name rfl
end
end Mine
end

section
set_option maxRecDepth 4000
namespace Mine

section
variable {prog : Program} {w : World} {A : Around} {X X' Z : V0} {env cenv : Env} {ρ ρ₁ ρ₂ : Rho} {s s' s₀ s₁ s₂ : Shared} {sc scope tsc : Scope} {cn tcn town : List Str} {own : Own}

theorem Ev.sliceSoft {v : Expr} {lo hi : Option Expr} {p pos : Pos} {ds : List D} {a b : Option Int} (hv : Ev prog w A sc cn ρ v (.soft ds)) (hl : Part prog w A sc cn ρ lo a) (hh : Part prog w A sc cn ρ hi b) (hz : ds.length ≤ 1048576) :
    Ev prog w A sc cn ρ (.Subscript v (.Slice lo hi none p) pos) (.list (pickL ds a b)) := fun env X s H S Q E q =>
  Subscript_ (hv env X s H S _ E fun v1 s1 k1 i1 => wpAny_Slice (part_run hl H (S.keeps k1) fun vl s2 k2 pl => part_run hh H ((S.keeps k1).keeps k2) fun vu s3 k3 pu => by
    rw [evalPart_none]
    have S3 := ((S.keeps k1).keeps k2).keeps k3
    have i1 := (i1.keeps k2.heap).keeps k3.heap
    cases i1 with | soft n l r =>
    have lp := l.push { cls := .type "slice", data := .fields #[vl, vu, .none] }
    refine wpAny_pure (tail_any lp.typeIs slot_list_getitem.lookup (wpAny_getItem_list_slice lp (Heap.IsSliceOf.new ..) pl pu .none (by simp) ?_ (by rw [List.size_toArray, r.length, sizeLine_eq]; omega)) rfl)
    obtain ⟨us, e, iu⟩ := r.slice a b
    rw [e]
    refine q _ _ (((k1.trans k2).trans k3).trans ((Kp.push _ _).trans (Kp.push _ _))) (.list ?_ (Heap.get?_push_size _ rfl) (iu.keeps fun _ _ e => Heap.get?_push_of_some _ (Heap.get?_push_of_some _ e)))
    rw [Heap.size_push]
    exact S3.fresh (Nat.le_succ _)))

theorem strs_vals {X : V0} {h : Heap} : ∀ l : List (Str × Tok), IsAll X h (strValues l) ((l.map (·.1)).map D.str)
  | [] => .nil
  | p :: l => .cons (.str _ _) (strs_vals l)
theorem split_run {x y : Str} {t u : Tok} {Q : Value → Shared → Prop} {E : Value → Shared → Prop} (hy : (y.length == 0) = false) (hsz : x.length ≤ sizeLine) (hsz2 : (Builtin.Str.partsBetween x (Builtin.Str.occurrences x y 0 x.length (x.length + 1)) y.length).length ≤ sizeLine)
    (q : ∀ l k, l.map (·.1) = Txt.split x y → Q (.ref s.heap.objs.size) { s with heap := s.heap.push { cls := .type "list", data := .seq (strValues l).toArray }, toks := k }) : wpAny (model prog w) A (call (.builtin "str.split") [.str x t, .str y u]) Q E s := by
  cases h1 : (decide (x.length < y.length) || decide (Builtin.Str.strKind x < Builtin.Str.strKind y))
  · cases hf : (Builtin.Str.occurrences x y 0 x.length (x.length + 1)).isEmpty
    · refine call_meets PySem.F.slot_str_split (typeIs_str _ _ _) PySem.F.entry_str_split (PySem.F.args_str_split_2 _ _) (meets_str_split_sep x y t u h1 hy hf hsz hsz2) ?_
      show wants Q E _ { s with toks := _, heap := s.heap.push { cls := .type "list", data := .seq (strsFrom s.toks (Builtin.Str.partsBetween x (Builtin.Str.occurrences x y 0 x.length (x.length + 1)) y.length)).toArray } }
      rw [strsFrom_eq]
      exact q (numbered s.toks _) _ ((numbered_texts _ _).trans ((if_neg (ne_true_of_eq_false h1)).trans (if_neg (ne_true_of_eq_false hf))).symm)
    · exact call_meets PySem.F.slot_str_split (typeIs_str _ _ _) PySem.F.entry_str_split (PySem.F.args_str_split_2 _ _) (meets_str_split_not_found x y t u h1 hy hf)
        (q [(x, t)] _ ((if_neg (ne_true_of_eq_false h1)).trans (if_pos hf)).symm)
  · exact call_meets PySem.F.slot_str_split (typeIs_str _ _ _) PySem.F.entry_str_split (PySem.F.args_str_split_2 _ _) (meets_str_split_cannot_occur x y t u h1)
      (q [(x, t)] _ (if_pos h1).symm)
/-- x.split(y) -/
theorem Ev.split {o e : Expr} {x y : Str} {apos pos : Pos} (h : Ev prog w A sc cn ρ o (.str x)) (he : Ev prog w A sc cn ρ e (.str y)) (hy : (y.length == 0) = false) (hx : x.length ≤ 1048576) (hn : (Builtin.Str.partsBetween x (Builtin.Str.occurrences x y 0 x.length (x.length + 1)) y.length).length ≤ 1048576)
    (hline : (apos.endLine == pos.line) = true := by rfl) (ho : ∀ id p q, o ≠ .Call (.Name id p) [] [] q := by intro _ _ _ h; cases h) (hs : ∀ env, starEach [e] env = [(false, eval e env)] := by intro _; rfl) :
    Ev prog w A sc cn ρ (.Call (.Attribute o (Str.ofString "split") apos) [e] [] pos) (.list ((Txt.split x y).map D.str)) := fun env X s H S Q E q =>
  call_attr ho (fun env => by rw [hs env]; rfl) hline (h env X s H S _ E fun v s1 k1 i1 pl => by
    cases i1
    have S1 := S.keeps k1
    refine GM.split ?_
    rw [hs env]
    refine Calls.callWith_builtin rfl (Calls.evalArgs_plain (Calls.spliced_cons (he env X s1 H S1 _ E fun v2 s2 k2 i2 => Calls.spliced_nil ?_)))
    cases i2
    have S2 := S1.keeps k2
    refine split_run hy (by rw [sizeLine_eq]; omega) (by rw [sizeLine_eq]; omega) fun l k hl => ?_
    have q' := q
    rw [← hl] at q'
    exact q' _ _ ((k1.trans k2).trans ((Kp.push _ _).trans (Kp.tok _ k))) (.list (S2.std.fresh (Nat.le_refl _)) (Heap.get?_push_size _ rfl) (strs_vals l)))
end
end Mine
end

section
set_option maxRecDepth 4000
namespace Mine

abbrev strD (l : List Nat) : D := .str ⟨l.toArray⟩
def xsD (ns : List Int) : List Int := ns.take 4 ++ [0, 0, 0, 0]
def nbOf (own : Nat) (x : Int) : Nat := own + (x.fmod 1000000).toNat
def leadN (nb n : Nat) : List Nat := (List.range n).map fun k => if nb / 6 / 2 ^ k % 2 = 0 then 32 else 9
def leadOf (nb : Nat) : List Nat := leadN nb (nb % 6)
def nlOf (nb : Nat) : List Nat := [[10], [13], [13, 10]].getD (nb / 1536 % 3) []
structure S1 where
  page : List Nat
  drawn : List (List Nat × List Nat)
  due : List Int
  places : List (List Int)
  signs : List (List Nat)
  kinds : List Int
def S1.next (s : S1) (nb : Nat) : S1 :=
  let p := nb / 192 % s.signs.length
  let sg := s.signs.getD p [] ++ [32, 9]
  ⟨s.page ++ leadOf nb ++ sg ++ nlOf nb, s.drawn ++ [(leadOf nb, sg)], s.due ++ [s.kinds.getD p 0], s.places ++ [columnsOf (leadOf nb)], s.signs.eraseIdx p, s.kinds.eraseIdx p⟩
def signs0 : List (List Nat) := [[45], [46], [60, 60], [42, 42, 61], [45, 62], [46, 46, 46], [58, 61], [33]]
def kinds0 : List Int := [15, 23, 33, 46, 51, 52, 53, 54]
def owns : List Nat := [960, 2503, 3662, 776]
def nbAt (ns : List Int) (i : Nat) : Nat := nbOf (owns.getD i 0) ((xsD ns).getD i 0)
def st1 (ns : List Int) : Nat → S1
  | 0 => ⟨[], [], [], [], signs0, kinds0⟩
  | i + 1 => (st1 ns i).next (nbAt ns i)
def pairD (p : List Nat × List Nat) : D := .list [strD p.1, strD p.2]
def lawCells : List Str := [Str.ofString "places", Str.ofString "k", Str.ofString "leads", Str.ofString "numbers", Str.ofString "j", Str.ofString "above", Str.ofString "sizes"]
def lawOwn : Own := ⟨lawCells, []⟩
def lawCn : List Str := lawCells.reverse

theorem fmod_nat (a b : Nat) : ((a : Int)).fmod (b : Int) = ((a % b : Nat) : Int) := by
  rw [Int.fmod_eq_emod_of_nonneg _ (by omega)]; rfl
theorem fdiv_nat (a b : Nat) : ((a : Int)).fdiv (b : Int) = ((a / b : Nat) : Int) := by
  rw [Int.fdiv_eq_ediv_of_nonneg _ (by omega)]; rfl
theorem filterMap_range {α : Type} (ys : List α) : ∀ m, (List.range m).filterMap (ys[·]?) = ys.take m
  | 0 => by simp
  | m + 1 => by
    rw [List.range_succ, List.filterMap_append, filterMap_range ys m, List.take_succ]
    cases h : ys[m]? with
    | none => simp [List.filterMap_cons, h]
    | some v => simp [List.filterMap_cons, h]
theorem pickL_plain {α : Type} (xs : List α) (lo hi : Option Int) : pickL xs lo hi = (xs.drop (lo.elim 0 (clipAt xs.length))).take (hi.elim xs.length (clipAt xs.length) - lo.elim 0 (clipAt xs.length)) := by
  unfold pickL
  rw [sliceBounds_plain]
  dsimp only
  rw [sliceRange_one, List.filterMap_map, ← filterMap_range]
  congr 1
  funext k
  simp
theorem nb_cast (own : Nat) (x : Int) : (own : Int) + x.fmod ((10 : Int) ^ (6 : Int).toNat) = ((nbOf own x : Nat) : Int) := by
  have e : (10 : Int) ^ (6 : Int).toNat = 1000000 := rfl
  rw [e]
  unfold nbOf
  have := Int.fmod_nonneg_of_pos x (show (0 : Int) < 1000000 by decide)
  omega
theorem nb_bound (own : Nat) (x : Int) (h : own ≤ 4000) : nbOf own x < 1004000 := by
  unfold nbOf
  have h1 := Int.fmod_nonneg_of_pos x (show (0 : Int) < 1000000 by decide)
  have h2 := Int.fmod_lt_of_pos x (show (0 : Int) < 1000000 by decide)
  omega
theorem Ev.cast {prog : Program} {w : World} {A : Around} {sc : Scope} {cn : List Str} {ρ : Rho} {e : Expr} {d d' : D} (h : Ev prog w A sc cn ρ e d) (hd : d = d') : Ev prog w A sc cn ρ e d' := hd ▸ h
theorem bit_cast (nb n : Nat) : (((nb : Int).fdiv 6).fdiv ((2 : Int) ^ ((n : Int)).toNat)).fmod 2 = ((nb / 6 / 2 ^ n % 2 : Nat) : Int) := by
  have e1 : (nb : Int).fdiv 6 = ((nb / 6 : Nat) : Int) := fdiv_nat nb 6
  have e2 : (2 : Int) ^ ((n : Int)).toNat = ((2 ^ n : Nat) : Int) := by rw [Int.toNat_natCast, Int.natCast_pow]; rfl
  rw [e1, e2, fdiv_nat]
  exact fmod_nat _ 2
theorem leadN_succ (nb n : Nat) : leadN nb (n + 1) = leadN nb n ++ [if nb / 6 / 2 ^ n % 2 = 0 then 32 else 9] := by
  unfold leadN
  rw [List.range_succ, List.map_append]; rfl
theorem erase_map {α β : Type} (f : α → β) : ∀ (l : List α) (k : Nat), (l.map f).eraseIdx k = (l.eraseIdx k).map f
  | [], _ => rfl
  | _ :: _, 0 => rfl
  | a :: l, k + 1 => by
    show f a :: (l.map f).eraseIdx k = f a :: (l.eraseIdx k).map f
    rw [erase_map f l k]
theorem erase_len {α : Type} {l : List α} {k : Nat} (h : k < l.length) : (l.eraseIdx k).length = l.length - 1 := by rw [List.length_eraseIdx]; simp [h]
theorem leadOf_len (nb : Nat) : (leadOf nb).length ≤ 5 := by
  unfold leadOf leadN
  rw [List.length_map, List.length_range]
  have := Nat.mod_lt nb (show 0 < 6 by decide)
  omega
structure S1.Ok (s : S1) (i : Nat) : Prop where
  signs : s.signs.length = 8 - i
  kinds : s.kinds.length = 8 - i
  drawn : s.drawn.length = i
  due : s.due.length = i
  places : s.places.length = i
  page : s.page.length ≤ 20 * i
  short : ∀ l ∈ s.signs, l.length ≤ 3
theorem st1_ok (ns : List Int) : ∀ i, i ≤ 4 → (st1 ns i).Ok i
  | 0, _ => ⟨rfl, rfl, rfl, rfl, rfl, by simp [st1], (show ∀ l ∈ signs0, l.length ≤ 3 by decide)⟩
  | i + 1, h => by
    have o := st1_ok ns i (by omega)
    show ((st1 ns i).next (nbAt ns i)).Ok (i + 1)
    generalize nbAt ns i = nb
    generalize st1 ns i = s at o
    have hp : nb / 192 % s.signs.length < s.signs.length := Nat.mod_lt _ (by rw [o.signs]; omega)
    have hp2 : nb / 192 % s.signs.length < s.kinds.length := by rw [o.kinds, ← o.signs]; exact hp
    have hsg : (s.signs.getD (nb / 192 % s.signs.length) []).length ≤ 3 := by
      rw [List.getD_eq_getElem?_getD, List.getElem?_eq_getElem hp]
      exact o.short _ (List.getElem_mem hp)
    refine ⟨?_, ?_, ?_, ?_, ?_, ?_, fun l hl => o.short l (List.mem_of_mem_eraseIdx hl)⟩
    · show (s.signs.eraseIdx _).length = _
      rw [erase_len hp, o.signs]; omega
    · show (s.kinds.eraseIdx _).length = _
      rw [erase_len hp2, o.kinds]; omega
    · show (s.drawn ++ [_]).length = _
      rw [List.length_append, o.drawn]; rfl
    · show (s.due ++ [_]).length = _
      rw [List.length_append, o.due]; rfl
    · show (s.places ++ [_]).length = _
      rw [List.length_append, o.places]; rfl
    · show (s.page ++ leadOf nb ++ (s.signs.getD _ [] ++ [32, 9]) ++ nlOf nb).length ≤ _
      rw [List.length_append, List.length_append, List.length_append, List.length_append]
      have h1 := leadOf_len nb
      have h2 := o.page
      have h3 : (nlOf nb).length ≤ 2 := by
        unfold nlOf
        have := Nat.mod_lt (nb / 1536) (show 0 < 3 by decide)
        match nb / 1536 % 3, this with
        | 0, _ => decide
        | 1, _ => decide
        | 2, _ => decide
      have h4 : ([32, 9] : List Nat).length = 2 := rfl
      omega
theorem It.cast {prog : Program} {w : World} {A : Around} {sc tsc : Scope} {cn tcn : List Str} {town : Own} {target iter : Expr} {ρ : Rho} {n m : Nat} {bs : Nat → Rho} (h : It prog w A sc cn tsc tcn town target ρ iter n bs) (e : n = m) : It prog w A sc cn tsc tcn town target ρ iter m bs := e ▸ h
theorem xs_len (ns : List Int) : 4 ≤ (xsD ns).length := by unfold xsD; rw [List.length_append]; simp
section
variable {prog : Program} {w : World} {A : Around} {X X' Z : V0} {env cenv : Env} {ρ ρ₁ ρ₂ : Rho} {s s' s₀ s₁ s₂ : Shared} {sc scope tsc : Scope} {cn tcn town : List Str} {own : Own}
variable {oc : Value} {odd : Option Addr} {osl : Array (Option Value)} {fd : FuncData} {body : List Stmt}

set_option maxHeartbeats 2000000 in
theorem law_1 {ns : List Int} (hns : ns.length ≤ 63) (hA : Ok 20 A) (h : (KK w).lookup 157 = some ⟨oc, odd, .func fd, osl⟩) (hb : fd.body = .stmts body) :
    Exs prog w A fd.scope lawCn lawOwn [(Str.ofString "script", .soft (ns.map D.int))] (body.take 4)
      (.next [(Str.ofString "places", .list ((st1 ns 4).places.map fun l => .list (l.map D.int))), (Str.ofString "due", .list ((st1 ns 4).due.map D.int)), (Str.ofString "drawn", .list ((st1 ns 4).drawn.map pairD)), (Str.ofString "page", strD (st1 ns 4).page)]) := by
  have h' : some (⟨_, _, .func _, _⟩ : Obj) = some _ := h
  cases h'
  cases hb
  show Exs _ _ _ _ _ _ _ [_, _, _, _] _
  refine Exs.weak (ρ₁ := frzN [Str.ofString "signs"] (frzN [Str.ofString "kinds"] (frzN [Str.ofString "drawn", Str.ofString "due", Str.ofString "places"] [(Str.ofString "places", .mut ((st1 ns 4).places.map fun l => .list (l.map D.int))), (Str.ofString "due", .mut ((st1 ns 4).due.map D.int)), (Str.ofString "drawn", .mut ((st1 ns 4).drawn.map pairD)), (Str.ofString "page", strD (st1 ns 4).page), (Str.ofString "kinds", .mut ((st1 ns 4).kinds.map D.int)), (Str.ofString "signs", .mut ((st1 ns 4).signs.map strD))]))) ?_ ?_
  · refine Exs.thaw (ds := [.str (Str.ofString "-"), .str (Str.ofString "."), .str (Str.ofString "<<"), .str (Str.ofString "**="), .str (Str.ofString "->"), .str (Str.ofString "..."), .str (Str.ofString ":="), .str (Str.ofString "!")]) ?_ (by decide) (.inl (by kernel_rfl)) (fun _ _ => rfl) (fun _ h => by cases h) fun a1 => ?_
    · exact Evs.cons Ev.str (Evs.cons Ev.str (Evs.cons Ev.str (Evs.cons Ev.str (Evs.cons Ev.str (Evs.cons Ev.str (Evs.cons Ev.str (Evs.cons Ev.str Evs.nil)))))))
    refine Exs.thaw (ds := [.int 15, .int 23, .int 33, .int 46, .int 51, .int 52, .int 53, .int 54]) ?_ (by decide) (.inl (by kernel_rfl)) (fun _ _ => rfl) (fun _ h => by cases h) fun a2 => ?_
    · exact Evs.cons Ev.int (Evs.cons Ev.int (Evs.cons Ev.int (Evs.cons Ev.int (Evs.cons Ev.int (Evs.cons Ev.int (Evs.cons Ev.int (Evs.cons Ev.int Evs.nil)))))))
    refine Exs.thaw3 hA.hh (.inl (by kernel_rfl)) (.inl (by kernel_rfl)) (.inl (by kernel_rfl)) (.inr ⟨by kernel_rfl, (by decide +kernel : Str.ofString "places" ∈ lawCells), by decide +kernel⟩) ⟨by decide +kernel, by decide +kernel, by decide +kernel⟩ (fun n hn ds h => ?_) (fun _ _ => rfl) (fun env H => by cases env; cases H.scope; rfl) fun a3 a4 a5 => ?_
    · simp only [List.mem_cons, List.not_mem_nil, or_false] at hn
      rcases hn with rfl | rfl | rfl <;> cases h
    refine Exs.one (Ex.for (n := 4) (It.cast (It.zip (as := [.int 960, .int 2503, .int 3662, .int 776]) (bs := (xsD ns).map D.int) hA.hh ?_ ?_ (.inl (by kernel_rfl)) (.inl (by kernel_rfl)) (by kernel_rfl) (by kernel_rfl)) (by have := xs_len ns; rw [List.length_map]; show min 4 _ = 4; omega))
      (fun i => [(Str.ofString "places", .mut ((st1 ns i).places.map fun l => .list (l.map D.int))), (Str.ofString "due", .mut ((st1 ns i).due.map D.int)), (Str.ofString "drawn", .mut ((st1 ns i).drawn.map pairD)), (Str.ofString "page", strD (st1 ns i).page), (Str.ofString "kinds", .mut ((st1 ns i).kinds.map D.int)), (Str.ofString "signs", .mut ((st1 ns i).signs.map strD))]) 4 (Nat.le_refl _) ?_ (fun i hi => ?_) (.inl ⟨rfl, rfl⟩))
    · exact Ev.list (Evs.cons Ev.int (Evs.cons Ev.int (Evs.cons Ev.int (Evs.cons Ev.int Evs.nil))))
    · have e : (xsD ns).map D.int = pickL (ns.map D.int) none (some 4) ++ (List.replicate (4 : Int).toNat [D.int 0]).flatten := by
        rw [pickL_plain]
        unfold xsD
        rw [List.map_append, List.map_take]
        have hc : clipAt (ns.map D.int).length 4 = min 4 (ns.map D.int).length := by unfold clipAt; omega
        show _ = ((ns.map D.int).drop 0).take (clipAt (ns.map D.int).length 4 - 0) ++ _
        rw [hc, Nat.sub_zero, List.drop_zero, ← List.take_eq_take_min]
        rfl
      rw [e]
      exact Ev.bin (Ev.sliceSoft (Ev.name rfl) (show Part _ _ _ _ _ _ none none from trivial) (show Part _ _ _ _ _ _ (some _) (some 4) from Ev.int) (by rw [List.length_map]; omega)) (Ev.bin (Ev.list (Evs.cons Ev.int Evs.nil)) Ev.int (Bin.mulL (by decide) (by decide) (by decide) (by simp))) (Bin.addL (by rw [pickL_plain]; have : ((List.replicate (4 : Int).toNat [D.int 0]).flatten).length = 4 := rfl; rw [this, List.length_take, List.length_drop, List.length_map]; omega))
    · exact Sub.cons rfl (Sub.cons rfl (Sub.cons rfl (Sub.cons rfl (Sub.cons rfl (Sub.cons rfl .nil)))))
    · have e1 : ((xsD ns).map D.int).getD i default = .int ((xsD ns).getD i 0) := by
        have hl : i < (xsD ns).length := by have := xs_len ns; omega
        rw [List.getD_eq_getElem?_getD, List.getElem?_map, List.getD_eq_getElem?_getD, List.getElem?_eq_getElem hl]; rfl
      have e2 : [D.int 960, D.int 2503, D.int 3662, D.int 776].getD i default = .int ((owns.getD i 0 : Nat) : Int) := by
        match i, hi with
        | 0, _ => rfl
        | 1, _ => rfl
        | 2, _ => rfl
        | 3, _ => rfl
      have ho : owns.getD i 0 ≤ 4000 := by
        match i, hi with
        | 0, _ => decide
        | 1, _ => decide
        | 2, _ => decide
        | 3, _ => decide
      rw [e1, e2]
      have hnx : (st1 ns (i + 1)) = (st1 ns i).next (nbOf (owns.getD i 0) ((xsD ns).getD i 0)) := rfl
      rw [hnx]
      have hnb := nb_bound (owns.getD i 0) ((xsD ns).getD i 0) ho
      have hcast := nb_cast (owns.getD i 0) ((xsD ns).getD i 0)
      generalize nbOf (owns.getD i 0) ((xsD ns).getD i 0) = nb at *
      generalize ((owns.getD i 0 : Nat) : Int) = o at *
      generalize (xsD ns).getD i 0 = x at *
      have hok := st1_ok ns i (by omega)
      generalize st1 ns i = st at *
      have hm6 : (nb : Int).fmod 6 = ((nb % 6 : Nat) : Int) := fmod_nat nb 6
      refine ⟨_, ?_, Sub.refl _⟩
      refine Exs.cons (Ex.assign (Ev.cast (Ev.bin (Ev.name rfl) (Ev.bin (Ev.name rfl) (Ev.bin Ev.int Ev.int (Bin.powI (by decide) (by decide) (by decide))) (Bin.modI (by decide))) Bin.addI) (congrArg D.int hcast)) (.inl (by kernel_rfl)) (fun _ _ => rfl)) (Exs.cons (Ex.assign Ev.str (.inl (by kernel_rfl)) (fun _ _ => rfl)) ?_)
      refine Exs.cons (Ex.for (It.range1 hA.hh (Ev.bin (Ev.name rfl) Ev.int (Bin.modI (by decide))) (.inr ⟨by kernel_rfl, (by decide +kernel : Str.ofString "k" ∈ lawCells), by decide +kernel⟩) (by kernel_rfl) (by kernel_rfl) ?_ ?_)
        (fun n => [(Str.ofString "lead", strD (leadN nb n)), (Str.ofString "number", .int nb), (Str.ofString "places", .mut (st.places.map fun l => .list (l.map D.int))), (Str.ofString "due", .mut (st.due.map D.int)), (Str.ofString "drawn", .mut (st.drawn.map pairD)), (Str.ofString "page", strD st.page), (Str.ofString "kinds", .mut (st.kinds.map D.int)), (Str.ofString "signs", .mut (st.signs.map strD))])
        (nb % 6) ?_ ?_ (fun n hn => ?_) (.inl ⟨?_, rfl⟩)) ?_
      · rw [hm6]; omega
      · rw [hm6]; omega
      · rw [hm6]; exact Nat.le_refl _
      · exact Sub.cons rfl (Sub.cons rfl (Sub.cons rfl (Sub.cons rfl (Sub.cons rfl (Sub.cons rfl (Sub.cons rfl (Sub.cons rfl .nil)))))))
      · refine ⟨_, Exs.one (Ex.assign (Ev.bin (Ev.name rfl) (Ev.idxS (c := if nb / 6 / 2 ^ n % 2 = 0 then 32 else 9) Ev.str (Ev.bin (Ev.bin (Ev.bin (Ev.name rfl) Ev.int (Bin.divI (by decide) (by decide))) (Ev.bin Ev.int (Ev.name rfl) (Bin.powI ?_ ?_ (by decide))) (Bin.divI ?_ ?_)) Ev.int (Bin.modI (by decide))) ?_ ?_) (Bin.addS ?_)) (.inl (by kernel_rfl)) (fun _ _ => rfl)), Sub.cons ?_ (Sub.cons rfl (Sub.cons rfl (Sub.cons rfl (Sub.cons rfl (Sub.cons rfl (Sub.cons rfl (Sub.cons rfl .nil)))))))⟩
        · omega
        · omega
        · rw [Int.toNat_natCast]; exact Int.pow_ne_zero (by decide)
        · rw [Int.toNat_natCast]
          have : n < 6 := by omega
          match n, this with
          | 0, _ => decide
          | 1, _ => decide
          | 2, _ => decide
          | 3, _ => decide
          | 4, _ => decide
          | 5, _ => decide
        · rw [bit_cast]
          have := Nat.mod_lt (nb / 6 / 2 ^ n) (show 0 < 2 by decide)
          rw [decide_eq_false (by omega), decide_eq_false (by omega)]; rfl
        · rw [bit_cast]
          rcases Nat.mod_two_eq_zero_or_one (nb / 6 / 2 ^ n) with h | h
          · rw [h, if_pos rfl]; rfl
          · rw [h, if_neg (by decide)]; rfl
        · show (leadN nb n).toArray.size + 1 ≤ _
          rw [List.size_toArray]
          unfold leadN
          rw [List.length_map, List.length_range]; omega
        · show some (D.str _) = some (D.str _)
          rw [leadN_succ]
          congr 2
          show (⟨_ ++ _⟩ : Str) = _
          simp
      · rw [hm6]; rfl
      · rw [hm6]
        show Exs _ _ _ _ _ _ [(Str.ofString "lead", strD (leadOf nb)), _, _, _, _, _, _, _] _ _
        have hsl : 0 < st.signs.length := by rw [hok.signs]; omega
        generalize hpk : nb / 192 % st.signs.length = pk
        have hpl : pk < st.signs.length := by rw [← hpk]; exact Nat.mod_lt _ hsl
        have hpl2 : pk < st.kinds.length := by rw [hok.kinds, ← hok.signs]; exact hpl
        have hpick : (((nb : Int).fdiv 192).fmod (((st.signs.map strD).length : Nat) : Int)) = (pk : Int) := by
          have e1 : (nb : Int).fdiv 192 = ((nb / 192 : Nat) : Int) := fdiv_nat nb 192
          rw [e1, fmod_nat, List.length_map, hpk]
        refine Exs.cons (Ex.assignF (Ev.rd (Ev.cast (Ev.bin (Ev.bin (Ev.name rfl) Ev.int (Bin.divI (by decide) (by decide))) (Ev.callB1 (by kernel_rfl) (by kernel_rfl) bb_len (Ev.name rfl) (fun X s v _ i => gives_len i (by rw [List.length_map, hok.signs]; omega))) (Bin.modI (by rw [List.length_map]; omega))) (congrArg D.int hpick)) rfl (by rfl)) (.inl (by kernel_rfl)) (fun _ _ => rfl)) ?_
        have hg1 : (st.signs.map strD)[((pk : Int)).toNat]? = some (strD (st.signs.getD pk [])) := by
          rw [Int.toNat_natCast, List.getElem?_map, List.getD_eq_getElem?_getD, List.getElem?_eq_getElem hpl]; rfl
        have hg2 : (st.kinds.map D.int)[((pk : Int)).toNat]? = some (.int (st.kinds.getD pk 0)) := by
          rw [Int.toNat_natCast, List.getElem?_map, List.getD_eq_getElem?_getD, List.getElem?_eq_getElem hpl2]; rfl
        have hsg : (st.signs.getD pk []).length ≤ 3 := by
          rw [List.getD_eq_getElem?_getD, List.getElem?_eq_getElem hpl]
          exact hok.short _ (List.getElem_mem hpl)
        refine Exs.cons (Ex.append (a := a3) rfl rfl (EvM.list2 (Ev.f (Ev.name rfl)) (EvM.binL (EvM.pop (a := a1) rfl rfl (Ev.f (Ev.name rfl)) (by omega) hg1 (by rw [List.length_map, hok.signs]; omega)) (Ev.f Ev.str) (Bin.addS (by show Array.size _ + 2 ≤ _; rw [List.size_toArray]; omega)))) rfl (by rw [List.length_map, hok.drawn]; omega)) ?_
        refine Exs.cons (Ex.append (a := a4) rfl rfl (EvM.pop (a := a2) rfl rfl (Ev.f (Ev.name rfl)) (by omega) hg2 (by rw [List.length_map, hok.kinds]; omega)) rfl (by rw [List.length_map, hok.due]; omega)) ?_
        have hlast : ((st.drawn.map pairD) ++ [D.list [strD (leadOf nb), D.str ((⟨(st.signs.getD pk []).toArray⟩ : Str) ++ Str.ofString " \t")]])[((-1 : Int) + (((st.drawn.map pairD) ++ [D.list [strD (leadOf nb), D.str ((⟨(st.signs.getD pk []).toArray⟩ : Str) ++ Str.ofString " \t")]]).length : Nat)).toNat]? = some (D.list [strD (leadOf nb), D.str ((⟨(st.signs.getD pk []).toArray⟩ : Str) ++ Str.ofString " \t")]) := by
          rw [List.length_append, List.length_map]
          have : ((-1 : Int) + ((st.drawn.length + [D.list [strD (leadOf nb), D.str ((⟨(st.signs.getD pk []).toArray⟩ : Str) ++ Str.ofString " \t")]].length : Nat) : Int)).toNat = st.drawn.length := by
            show ((-1 : Int) + ((st.drawn.length + 1 : Nat) : Int)).toNat = _
            omega
          rw [this, List.getElem?_append_right (by rw [List.length_map]; omega), List.length_map, Nat.sub_self]; rfl
        have hneg : -((((st.drawn.map pairD) ++ [D.list [strD (leadOf nb), D.str ((⟨(st.signs.getD pk []).toArray⟩ : Str) ++ Str.ofString " \t")]]).length : Nat) : Int) ≤ -1 := by
          rw [List.length_append]
          show -(((_ + 1 : Nat)) : Int) ≤ -1
          omega
        have hnl : (((nb : Int).fdiv 1536).fmod 3) = ((nb / 1536 % 3 : Nat) : Int) := by
          have e1 : (nb : Int).fdiv 1536 = ((nb / 1536 : Nat) : Int) := fdiv_nat nb 1536
          rw [e1]; exact fmod_nat _ 3
        have hnl3 := Nat.mod_lt (nb / 1536) (show 0 < 3 by decide)
        have hnlg : [D.str (Str.ofString "\n"), D.str (Str.ofString "\r"), D.str (Str.ofString "\r\n")][((nb : Int).fdiv 1536).fmod 3 |>.toNat]? = some (strD (nlOf nb)) := by
          rw [hnl, Int.toNat_natCast]
          unfold nlOf
          match nb / 1536 % 3, hnl3 with
          | 0, _ => rfl
          | 1, _ => rfl
          | 2, _ => rfl
        refine Exs.cons (Ex.assignF (Ev.rd (Ev.bin (Ev.bin (Ev.bin (Ev.name rfl) (Ev.idxL (Ev.idxNeg (Ev.name rfl) (Ev.neg Ev.int) (by decide) hneg (by decide) hlast) Ev.int (by decide) (by decide) rfl) (Bin.addS ?_)) (Ev.idxL (Ev.idxNeg (Ev.name rfl) (Ev.neg Ev.int) (by decide) hneg (by decide) hlast) Ev.int (by decide) (by decide) rfl) (Bin.addS ?_)) (Ev.idxL (Ev.list (Evs.cons Ev.str (Evs.cons Ev.str (Evs.cons Ev.str Evs.nil)))) (Ev.bin (Ev.bin (Ev.name rfl) Ev.int (Bin.divI (by decide) (by decide))) Ev.int (Bin.modI (by decide))) ?_ ?_ hnlg) (Bin.addS ?_)) rfl (by rfl)) (.inl (by kernel_rfl)) (fun _ _ => rfl)) ?_
        · show st.page.toArray.size + (leadOf nb).toArray.size ≤ _
          rw [List.size_toArray, List.size_toArray]
          have := hok.page; have := leadOf_len nb; omega
        · show (st.page.toArray ++ (leadOf nb).toArray).size + ((st.signs.getD pk []).toArray ++ #[32, 9]).size ≤ _
          rw [Array.size_append, Array.size_append, List.size_toArray, List.size_toArray, List.size_toArray]
          have := hok.page; have := leadOf_len nb
          show _ + (_ + 2) ≤ _
          omega
        · rw [hnl]; omega
        · rw [hnl]; omega
        · show (st.page.toArray ++ (leadOf nb).toArray ++ ((st.signs.getD pk []).toArray ++ #[32, 9])).size + (nlOf nb).toArray.size ≤ _
          simp only [Array.size_append, List.size_toArray]
          have := hok.page; have := leadOf_len nb
          have h3 : (nlOf nb).length ≤ 2 := by
            unfold nlOf
            match nb / 1536 % 3, hnl3 with
            | 0, _ => decide
            | 1, _ => decide
            | 2, _ => decide
          have h4 : ([32, 9] : List Nat).length = 2 := rfl
          omega
        refine Exs.weak (Exs.one (Ex.append (a := a5) rfl rfl (Ev.f (Ev.callF (n := 2) (hA.le (by decide)) (by kernel_rfl) (by kernel_rfl) (by kernel_rfl) (Evs.cons (Ev.name rfl) Evs.nil) (fun_columns (by rw [List.size_toArray]; have := leadOf_len nb; omega)))).m rfl (by rw [List.length_map, hok.places]; omega))) ?_
        have hnext : st.next nb = ⟨st.page ++ leadOf nb ++ (st.signs.getD pk [] ++ [32, 9]) ++ nlOf nb, st.drawn ++ [(leadOf nb, st.signs.getD pk [] ++ [32, 9])], st.due ++ [st.kinds.getD pk 0], st.places ++ [columnsOf (leadOf nb)], st.signs.eraseIdx pk, st.kinds.eraseIdx pk⟩ := by
          unfold S1.next; rw [hpk]
        rw [hnext]
        refine Sub.cons ?_ (Sub.cons ?_ (Sub.cons ?_ (Sub.cons ?_ (Sub.cons ?_ (Sub.cons ?_ .nil)))))
        · show some _ = some _
          rw [List.map_append]; rfl
        · show some _ = some _
          rw [List.map_append]; rfl
        · show some _ = some _
          rw [List.map_append]
          congr 3
          show [D.list [strD (leadOf nb), D.str ⟨(st.signs.getD pk []).toArray ++ #[32, 9]⟩]] = [D.list [strD (leadOf nb), strD (st.signs.getD pk [] ++ [32, 9])]]
          have e : (st.signs.getD pk []).toArray ++ #[32, 9] = (st.signs.getD pk [] ++ [32, 9]).toArray := by simp
          rw [e]
        · show some (D.str ⟨st.page.toArray ++ (leadOf nb).toArray ++ ((st.signs.getD pk []).toArray ++ #[32, 9]) ++ (nlOf nb).toArray⟩) = some (strD _)
          have e : st.page.toArray ++ (leadOf nb).toArray ++ ((st.signs.getD pk []).toArray ++ #[32, 9]) ++ (nlOf nb).toArray = (st.page ++ leadOf nb ++ (st.signs.getD pk [] ++ [32, 9]) ++ nlOf nb).toArray := by simp
          rw [e]
        · show some (D.mut ((st.kinds.map D.int).eraseIdx ((pk : Int)).toNat)) = some _
          rw [Int.toNat_natCast, erase_map]
        · show some (D.mut ((st.signs.map strD).eraseIdx ((pk : Int)).toNat)) = some _
          rw [Int.toNat_natCast, erase_map]
  · exact Sub.cons rfl (Sub.cons rfl (Sub.cons rfl (Sub.cons rfl .nil)))
end
end Mine
end

section
namespace Mine
open R

/-- a row as it is sent -/
def stuff (r : List Nat) : List Nat := if r.head? = some 46 then 46 :: r else r
def plainRow (r : List Nat) : Prop := r ≠ [] ∧ ∀ c ∈ r, c ≠ 10 ∧ c ≠ 13
/-- rows with an end of any kind -/
def pageOf : List (List Nat × List Nat) → List Nat
  | [] => []
  | p :: l => p.1 ++ p.2 ++ pageOf l
def isEnd (e : List Nat) : Prop := e = [10] ∨ e = [13] ∨ e = [13, 10]
theorem head_page {l : List (List Nat × List Nat)} (h : ∀ p ∈ l, plainRow p.1) : (pageOf l ++ [13]).head? ≠ some 10 := by
  cases l with
  | nil => simp [pageOf]
  | cons p l =>
    obtain ⟨h1, h2⟩ := h p (List.mem_cons_self ..)
    cases e : p.1 with
    | nil => exact absurd e h1
    | cons c r =>
      have := (h2 c (by rw [e]; exact List.mem_cons_self ..)).1
      simp [pageOf, e, this]
theorem norm_page : ∀ (l : List (List Nat × List Nat)), (∀ p ∈ l, plainRow p.1 ∧ isEnd p.2) → normT (pageOf l ++ [13]) = (l.flatMap fun p => p.1 ++ [13, 10]) ++ [13, 10]
  | [], _ => rfl
  | p :: l, h => by
    have ih := norm_page l fun q hq => h q (List.mem_cons_of_mem _ hq)
    have hh := head_page (l := l) fun q hq => (h q (List.mem_cons_of_mem _ hq)).1
    obtain ⟨hp, he⟩ := h p (List.mem_cons_self ..)
    unfold normT at ih ⊢
    show normS [13, 10] false ((p.1 ++ p.2 ++ pageOf l) ++ [13]) = _
    rw [List.append_assoc, List.append_assoc, norm_plain _ _ _ _ hp.2 (.inr rfl), List.flatMap_cons, List.append_assoc, List.append_assoc, ← ih]
    congr 1
    rcases he with he | he | he <;> rw [he]
    · rfl
    · show [13, 10] ++ normS [13, 10] true (pageOf l ++ [13]) = _
      rw [norm_cr _ hh]
    · rfl
theorem dots_row (r t : List Nat) (h : ∀ c ∈ r, c ≠ 10 ∧ c ≠ 13) : dotsS false (r ++ 13 :: 10 :: t) = r ++ 13 :: 10 :: dotsS true t := by
  induction r with
  | nil => simp [dotsS]
  | cons c r ih =>
    have hc := h c (List.mem_cons_self ..)
    have e : (c == 10) = false := beq_eq_false_iff_ne.mpr hc.1
    show (if false = true ∧ c = 46 then _ else c :: dotsS (c == 10) (r ++ 13 :: 10 :: t)) = _
    rw [if_neg (by simp), e, ih fun d hd => h d (List.mem_cons_of_mem _ hd)]
    rfl
theorem dots_start (r t : List Nat) (h : ∀ c ∈ r, c ≠ 10 ∧ c ≠ 13) : dotsS true (r ++ 13 :: 10 :: t) = stuff r ++ 13 :: 10 :: dotsS true t := by
  cases r with
  | nil => simp [dotsS, stuff]
  | cons c r =>
    have hc := h c (List.mem_cons_self ..)
    have hr := dots_row r t fun d hd => h d (List.mem_cons_of_mem _ hd)
    have e : (c == 10) = false := beq_eq_false_iff_ne.mpr hc.1
    show (if true = true ∧ c = 46 then 46 :: 46 :: dotsS false (r ++ 13 :: 10 :: t) else c :: dotsS (c == 10) (r ++ 13 :: 10 :: t)) = _
    unfold stuff
    by_cases h46 : c = 46
    · subst h46
      rw [if_pos ⟨rfl, rfl⟩, hr]; rfl
    · rw [if_neg (fun h => h46 h.2), e, hr, if_neg (by simpa using h46)]; rfl
theorem join_ends : ∀ l : List (List Nat), l.flatMap (fun r => r ++ [13, 10]) ++ [13, 10] = joinY [13, 10] (l ++ [[], []])
  | [] => rfl
  | r :: l => by
    rw [List.flatMap_cons, List.append_assoc, join_ends l]
    cases l with
    | nil => simp [joinY]
    | cons s l => simp [joinY]
theorem quote_page (l : List (List Nat × List Nat)) (h : ∀ p ∈ l, plainRow p.1 ∧ isEnd p.2) : quoteT (pageOf l ++ [13]) = joinY [13, 10] ((l.map fun p => stuff p.1) ++ [[], []]) := by
  rw [← join_ends]
  unfold quoteT
  rw [norm_page l h, List.flatMap_map]
  induction l with
  | nil => rfl
  | cons p l ih =>
    have hp := (h p (List.mem_cons_self ..)).1
    rw [List.flatMap_cons, List.flatMap_cons, List.append_assoc, List.append_assoc, List.append_assoc]
    rw [show p.1 ++ ([13, 10] ++ (List.flatMap (fun p => p.1 ++ [13, 10]) l ++ [13, 10])) = p.1 ++ 13 :: 10 :: (List.flatMap (fun p => p.1 ++ [13, 10]) l ++ [13, 10]) from rfl, dots_start _ _ hp.2, ih fun q hq => h q (List.mem_cons_of_mem _ hq)]
    simp
theorem joinY_free {l : List (List Nat)} (h : ∀ p ∈ l, plainRow p) : ∀ r ∈ l.map stuff ++ [[], []], 13 ∉ r := by
  intro r hr
  rcases List.mem_append.mp hr with hr | hr
  · obtain ⟨p, hp, rfl⟩ := List.mem_map.mp hr
    have h1 := (h p hp).2
    unfold stuff
    split
    · intro hm
      rcases List.mem_cons.mp hm with hm | hm
      · cases hm
      · exact (h1 13 hm).2 rfl
    · intro hm; exact (h1 13 hm).2 rfl
  · simp only [List.mem_cons, List.not_mem_nil, or_false, or_self] at hr
    rw [hr]; simp
theorem split_page (l : List (List Nat × List Nat)) (h : ∀ p ∈ l, plainRow p.1 ∧ isEnd p.2) : Txt.split ⟨(quoteT (pageOf l ++ [13])).toArray⟩ ⟨#[13, 10]⟩ = ((l.map fun p => stuff p.1) ++ [[], []] : List (List Nat)).map (fun r : List Nat => (⟨r.toArray⟩ : Str)) := by
  have hf : ∀ r ∈ (l.map fun p => stuff p.1) ++ [[], []], 13 ∉ r := by
    have := joinY_free (l := l.map (·.1)) (fun p hp => by obtain ⟨q, hq, rfl⟩ := List.mem_map.mp hp; exact (h q hq).1)
    rw [List.map_map] at this
    exact this
  have hs := split_rows (x := ⟨(quoteT (pageOf l ++ [13])).toArray⟩) (rs := (l.map fun p => stuff p.1) ++ [[], []]) (by simp) hf (by rw [List.toList_toArray]; exact quote_page l h)
  rw [← hs, List.map_map]
  conv => lhs; rw [← List.map_id (Txt.split _ _)]
  apply List.map_congr_left
  intro a _
  simp
end Mine
end

section
namespace Mine
open R

theorem pageOf_append : ∀ (l m : List (List Nat × List Nat)), pageOf (l ++ m) = pageOf l ++ pageOf m
  | [], _ => rfl
  | p :: l, m => by
    show p.1 ++ p.2 ++ pageOf (l ++ m) = p.1 ++ p.2 ++ pageOf l ++ pageOf m
    rw [pageOf_append l m]; simp
/-- the row i and its end -/
def rowNl (ns : List Int) (i : Nat) : List Nat × List Nat :=
  (leadOf (nbAt ns i) ++ ((st1 ns i).signs.getD (nbAt ns i / 192 % (st1 ns i).signs.length) [] ++ [32, 9]), nlOf (nbAt ns i))
theorem page_eq (ns : List Int) : ∀ i, (st1 ns i).page = pageOf ((List.range i).map (rowNl ns))
  | 0 => rfl
  | i + 1 => by
    rw [List.range_succ, List.map_append, pageOf_append, ← page_eq ns i]
    show (st1 ns i).page ++ leadOf (nbAt ns i) ++ _ ++ nlOf (nbAt ns i) = _
    simp [pageOf, rowNl]
theorem drawn_eq (ns : List Int) : ∀ i, (st1 ns i).drawn.map (fun p => p.1 ++ p.2) = (List.range i).map fun j => (rowNl ns j).1
  | 0 => rfl
  | i + 1 => by
    rw [List.range_succ, List.map_append, ← drawn_eq ns i]
    show ((st1 ns i).drawn ++ [_]).map _ = _
    rw [List.map_append]; rfl
theorem signs_sub (ns : List Int) : ∀ i, ∀ l ∈ (st1 ns i).signs, l ∈ signs0
  | 0, l, h => h
  | i + 1, l, h => signs_sub ns i l (List.mem_of_mem_eraseIdx h)
theorem signs_plain : ∀ l ∈ signs0, ∀ c ∈ l, c ≠ 10 ∧ c ≠ 13 ∧ c ≠ 32 ∧ c ≠ 9 := by decide
theorem row_plain (ns : List Int) {i : Nat} (hi : i < 4) : plainRow (rowNl ns i).1 ∧ isEnd (rowNl ns i).2 := by
  have ok := st1_ok ns i (by omega)
  have hp : nbAt ns i / 192 % (st1 ns i).signs.length < (st1 ns i).signs.length := Nat.mod_lt _ (by rw [ok.signs]; omega)
  refine ⟨⟨by simp [rowNl], fun c hc => ?_⟩, ?_⟩
  · unfold rowNl at hc
    rcases List.mem_append.mp hc with hc | hc
    · unfold leadOf leadN at hc
      obtain ⟨k, _, rfl⟩ := List.mem_map.mp hc
      split <;> decide
    · rcases List.mem_append.mp hc with hc | hc
      · rw [List.getD_eq_getElem?_getD, List.getElem?_eq_getElem hp] at hc
        have := signs_plain _ (signs_sub ns i _ (List.getElem_mem hp)) c hc
        exact ⟨this.1, this.2.1⟩
      · simp only [List.mem_cons, List.not_mem_nil, or_false] at hc
        rcases hc with rfl | rfl <;> decide
  · show isEnd (nlOf (nbAt ns i))
    unfold nlOf
    have := Nat.mod_lt (nbAt ns i / 1536) (show 0 < 3 by decide)
    match nbAt ns i / 1536 % 3, this with
    | 0, _ => exact .inl rfl
    | 1, _ => exact .inr (.inl rfl)
    | 2, _ => exact .inr (.inr rfl)
theorem sent_split (ns : List Int) : Txt.split ⟨(quoteT ((st1 ns 4).page ++ [13])).toArray⟩ ⟨#[13, 10]⟩ = (((List.range 4).map fun i => stuff (rowNl ns i).1) ++ [[], []] : List (List Nat)).map (fun r : List Nat => (⟨r.toArray⟩ : Str)) := by
  rw [page_eq, split_page _ fun p hp => ?_]
  · rw [List.map_map]; rfl
  · obtain ⟨i, hi, rfl⟩ := List.mem_map.mp hp
    exact row_plain ns (List.mem_range.mp hi)
end Mine
end

section
namespace Mine

/-- the leads that are drawn -/
def allOf : Nat → List (List Nat)
  | 0 => [[]]
  | n + 1 => (allOf n).flatMap fun l => [l ++ [32], l ++ [9]]
def allLeads : List (List Nat) := (List.range 6).flatMap allOf
theorem leadN_mem (nb : Nat) : ∀ n, leadN nb n ∈ allOf n
  | 0 => by simp [leadN, allOf]
  | n + 1 => by
    rw [leadN_succ]
    refine List.mem_flatMap.mpr ⟨_, leadN_mem nb n, ?_⟩
    split <;> simp
theorem leadOf_mem (nb : Nat) : leadOf nb ∈ allLeads :=
  List.mem_flatMap.mpr ⟨nb % 6, List.mem_range.mpr (Nat.mod_lt _ (by decide)), leadN_mem nb _⟩
def slead (l : List Nat) : Scan := l.foldl Scan.step ⟨[], 0, 0, 0⟩
def sameNorm (a b : List Nat) : Bool := decide ((slead a).count = (slead b).count ∧ ((slead a).b : Int) = ((slead b).b : Int))
def lessL (a b : List Nat) : Bool :=
  lessW (slead a).n (slead a).nt (slead a).count (slead a).b (decide ((slead a).count.length ≤ 1)) (slead b).n (slead b).nt (slead b).count (slead b).b (decide ((slead b).count.length ≤ 1))
def geL : List Int → List Int → List Int
  | a :: as, b :: bs => if a ≥ b then a :: geL as bs else geL as bs
  | _, _ => []
def colsLess (a b : List Nat) : Bool := decide (geL (columnsOf a) (columnsOf b) = [])
set_option maxRecDepth 100000
set_option maxHeartbeats 4000000
theorem norm_cols : ∀ a ∈ allLeads, ∀ b ∈ allLeads, sameNorm a b = decide (columnsOf a = columnsOf b) := by decide +kernel
theorem less_cols : ∀ a ∈ allLeads, ∀ b ∈ allLeads, lessL a b = colsLess a b := by decide +kernel
theorem lead_blank : ∀ a ∈ allLeads, a.all blank = true := by decide +kernel
theorem lead_small : ∀ a ∈ allLeads, a.length ≤ 5 ∧ (slead a).n = a.length ∧ (slead a).count.length ≤ 5 ∧ (slead a).b ≤ 5 ∧ ∀ c ∈ (slead a).count, c.natAbs ≤ 5 := by decide +kernel
end Mine
end

section
namespace Mine
open R

/-- rows of dots -/
def txt (rows : List Nat) : List Nat := rows.flatMap fun d => List.replicate d 46 ++ [13, 10]
theorem txt_append (a b : List Nat) : txt (a ++ b) = txt a ++ txt b := List.flatMap_append
theorem txt_cons (d : Nat) (l : List Nat) : txt (d :: l) = List.replicate d 46 ++ 13 :: 10 :: txt l := by
  unfold txt; rw [List.flatMap_cons, List.append_assoc]; rfl
theorem dots_plain {d : Nat} : ∀ c ∈ List.replicate d 46, c ≠ 10 ∧ c ≠ 13 := fun c h => by rw [List.eq_of_mem_replicate h]; decide
theorem norm_txt : ∀ l : List Nat, normT (txt l) = txt l
  | [] => rfl
  | d :: l => by
    have ih := norm_txt l
    unfold normT at ih ⊢
    rw [txt_cons, norm_plain _ _ _ _ dots_plain (.inr rfl)]
    show _ ++ 13 :: 10 :: normS [13, 10] false (txt l) = _
    rw [ih]
theorem dots_txt : ∀ l : List Nat, (∀ d ∈ l, 1 ≤ d) → dotsS true (txt l) = txt (l.map (· + 1))
  | [], _ => rfl
  | d :: l, h => by
    rw [txt_cons, dots_start _ _ dots_plain, dots_txt l fun e he => h e (List.mem_cons_of_mem _ he), List.map_cons, txt_cons]
    congr 1
    have hd := h d (List.mem_cons_self ..)
    unfold stuff
    cases d with
    | zero => omega
    | succ d => rw [if_pos (by simp [List.replicate_succ])]; rfl
theorem quote_txt (l : List Nat) (h : ∀ d ∈ l, 1 ≤ d) : quoteT (txt l) = txt (l.map (· + 1)) := by
  unfold quoteT; rw [norm_txt, dots_txt l h]
/-- the rows behind themselves, k times -/
def rowsT (l : List Nat) : Nat → List Nat
  | 0 => l
  | k + 1 => rowsT l k ++ l.map (· + (k + 1))
theorem times_txt (l : List Nat) (h : ∀ d ∈ l, 1 ≤ d) : ∀ k, timesT (txt l) k = (txt (l.map (· + k)), txt (rowsT l k))
  | 0 => by simp [timesT, rowsT]
  | k + 1 => by
    show (quoteT (timesT (txt l) k).1, (timesT (txt l) k).2 ++ quoteT (timesT (txt l) k).1) = _
    rw [times_txt l h k, quote_txt _ fun d hd => ?_]
    · show (txt ((l.map (· + k)).map (· + 1)), txt (rowsT l k) ++ txt ((l.map (· + k)).map (· + 1))) = (_, txt (rowsT l k ++ l.map (· + (k + 1))))
      rw [List.map_map, txt_append]
      have e : (fun x => x + 1) ∘ (fun x => x + k) = fun x => x + (k + 1) := by funext x; simp; omega
      rw [e]
    · obtain ⟨c, hc, rfl⟩ := List.mem_map.mp hd
      have := h c hc
      omega
theorem txt_len (l : List Nat) (m : Nat) (h : ∀ d ∈ l, d ≤ m) : (txt l).length ≤ l.length * (m + 2) := by
  induction l with
  | nil => simp [txt]
  | cons d l ih =>
    have hd := h d (List.mem_cons_self ..)
    have := ih fun e he => h e (List.mem_cons_of_mem _ he)
    rw [txt_cons, List.length_append, List.length_replicate, List.length_cons, List.length_cons, List.length_cons, Nat.succ_mul]
    omega
theorem rowsT_len (l : List Nat) : ∀ k, (rowsT l k).length = (k + 1) * l.length
  | 0 => by simp [rowsT]
  | k + 1 => by rw [rowsT, List.length_append, rowsT_len l k, List.length_map, Nat.succ_mul (k + 1)]
theorem rowsT_le (l : List Nat) (m : Nat) (h : ∀ d ∈ l, d ≤ m) : ∀ k, ∀ d ∈ rowsT l k, d ≤ m + k
  | 0, d, hd => h d hd
  | k + 1, d, hd => by
    rcases List.mem_append.mp hd with hd | hd
    · have := rowsT_le l m h k d hd; omega
    · obtain ⟨c, hc, rfl⟩ := List.mem_map.mp hd
      have := h c hc
      show c + (k + 1) ≤ _
      omega
theorem rowsT_ge (l : List Nat) (h : ∀ d ∈ l, 1 ≤ d) : ∀ k, ∀ d ∈ rowsT l k, 1 ≤ d
  | 0, d, hd => h d hd
  | k + 1, d, hd => by
    rcases List.mem_append.mp hd with hd | hd
    · exact rowsT_ge l h k d hd
    · obtain ⟨c, hc, rfl⟩ := List.mem_map.mp hd
      have := h c hc
      show 1 ≤ c + (k + 1)
      omega
/-- what _law_times asks for -/
theorem times_small (l : List Nat) (h1 : ∀ d ∈ l, 1 ≤ d) (h2 : ∀ d ∈ l, d ≤ 20) (hl : l.length ≤ 24) {n : Nat} (hn : n ≤ 4) : ∀ k, k < n → (timesT (txt l) k).1.length ≤ 20000 ∧ (timesT (txt l) k).2.length ≤ 20000 := by
  intro k hk
  rw [times_txt l h1]
  have a1 := txt_len (l.map (· + k)) 24 fun d hd => by
    obtain ⟨c, hc, rfl⟩ := List.mem_map.mp hd
    have := h2 c hc
    show c + k ≤ 24
    omega
  have a2 := txt_len (rowsT l k) 24 fun d hd => by have := rowsT_le l 20 h2 k d hd; omega
  rw [List.length_map] at a1
  rw [rowsT_len] at a2
  refine ⟨Nat.le_trans a1 ?_, Nat.le_trans a2 ?_⟩
  · omega
  · have : (k + 1) * l.length ≤ 4 * 24 := Nat.mul_le_mul (by omega) hl
    omega

/-! the mail as a lead -/
def bumps (l : List Nat) : List Int := l.foldl bump []
theorem step_blanks (d : Nat) : ∀ st : Scan, (List.replicate d 32).foldl Scan.step st = ⟨st.count, st.b + d, st.n + d, st.nt⟩ := by
  induction d with
  | zero => intro st; rfl
  | succ d ih =>
    intro st
    rw [List.replicate_succ, List.foldl_cons, ih]
    show (⟨st.count, st.b + 1 + d, st.n + 1 + d, st.nt⟩ : Scan) = _
    rw [Nat.add_right_comm, Nat.add_right_comm st.n]; rfl
def lrow (l : List Nat) : List Nat := l.flatMap fun d => List.replicate d 32 ++ [9]
theorem lrow_scan : ∀ (l : List Nat) (st : Scan), st.b = 0 → ((lrow l).foldl Scan.step st).count = l.foldl bump st.count ∧ ((lrow l).foldl Scan.step st).b = 0
  | [], st, h => ⟨rfl, h⟩
  | d :: l, st, h => by
    unfold lrow
    rw [List.flatMap_cons, List.foldl_append, List.foldl_append, step_blanks]
    have := lrow_scan l (Scan.step ⟨st.count, st.b + d, st.n + d, st.nt⟩ 9) rfl
    rw [h, Nat.zero_add] at this ⊢
    exact this
theorem lrow_blank (l : List Nat) : ∀ c ∈ lrow l, blank c = true := fun c hc => by
  obtain ⟨d, _, hd⟩ := List.mem_flatMap.mp hc
  rcases List.mem_append.mp hd with hd | hd
  · rw [List.eq_of_mem_replicate hd]; rfl
  · simp only [List.mem_singleton] at hd
    rw [hd]; rfl
theorem takeWhile_all {l : List Nat} (h : ∀ c ∈ l, blank c = true) : l.takeWhile blank = l := by
  induction l with
  | nil => rfl
  | cons c l ih => rw [List.takeWhile_cons, if_pos (h c (List.mem_cons_self ..)), ih fun d hd => h d (List.mem_cons_of_mem _ hd)]
theorem scan_lrow (l : List Nat) : (scan (lrow l)).count = bumps l ∧ (scan (lrow l)).b = 0 := by
  unfold scan
  rw [takeWhile_all (lrow_blank l)]
  exact lrow_scan l _ rfl
theorem join_txt (y : List Nat) : ∀ (c : Nat) (l : List Nat), (l.flatMap fun d => List.replicate d c ++ y) = joinY y (l.map (fun d => List.replicate d c) ++ [[]])
  | _, [] => rfl
  | c, d :: l => by
    rw [List.flatMap_cons, join_txt y c l]
    cases l with
    | nil => simp [joinY]
    | cons e l => simp [joinY]
theorem map_txt (l : List Nat) : (txt l).map (fun c => if c = 46 then 32 else c) = l.flatMap fun d => List.replicate d 32 ++ [13, 10] := by
  unfold txt
  rw [List.map_flatMap]
  congr 1
  funext d
  rw [List.map_append, List.map_replicate]; rfl
/-- the mail's dots and ends as a lead -/
theorem lead_txt (l : List Nat) : (Txt.replace (Txt.replace ⟨(txt l).toArray⟩ (Str.ofString ".") (Str.ofString " ")) (Str.ofString "\r\n") (Str.ofString "\t")).cps.toList = lrow l := by
  have h1 := replace_one ⟨(txt l).toArray⟩ 46 32
  rw [List.toList_toArray, map_txt, join_txt] at h1
  have h2 := replace_rows (x := Txt.replace ⟨(txt l).toArray⟩ (Str.ofString ".") (Str.ofString " ")) (y := Str.ofString "\r\n") (z := Str.ofString "\t") (h := 13) (t := [10]) (rs := l.map (fun d => List.replicate d 32) ++ [[]]) rfl (by simp) (fun r hr => ?_) h1
  · rw [h2]
    exact (join_txt [9] 32 l).symm
  · rcases List.mem_append.mp hr with hr | hr
    · obtain ⟨d, _, rfl⟩ := List.mem_map.mp hr
      intro hm
      exact absurd (List.eq_of_mem_replicate hm) (by decide)
    · simp only [List.mem_singleton] at hr
      rw [hr]; simp
theorem lrow_len (l : List Nat) (h : ∀ d ∈ l, d ≤ 24) (hl : l.length ≤ 96) : (lrow l).length ≤ 5000 := by
  have : ∀ l : List Nat, (∀ d ∈ l, d ≤ 24) → (lrow l).length ≤ l.length * 25 := by
    intro l
    induction l with
    | nil => intro _; simp [lrow]
    | cons d l ih =>
      intro h
      have hd := h d (List.mem_cons_self ..)
      have := ih fun e he => h e (List.mem_cons_of_mem _ he)
      unfold lrow at this ⊢
      rw [List.flatMap_cons, List.length_append, List.length_append, List.length_replicate]
      show d + 1 + _ ≤ (l.length + 1) * 25
      omega
  have := this l h
  omega
end Mine
end

section
namespace Mine
open R

/-! orders of a forest, their rows; the hooks -/
def okK (above : List (List Int)) (o : List Int) (k : Nat) : Bool :=
  !o.contains (k : Int) && ((List.range 4).filter fun i => decide (above.getD i [] = [(k : Int)]) && !o.contains (i : Int)).isEmpty
def ordersOf (above : List (List Int)) : Nat → List (List Int)
  | 0 => [[]]
  | n + 1 => (ordersOf above n).flatMap fun o => ((List.range 4).filter (okK above o)).map fun k : Nat => o ++ [(k : Int)]
def desc (lt : Nat → Nat → Bool) (o : List Int) (i : Nat) : Nat := if lt (o.getD (i + 1) 0).toNat (o.getD i 0).toNat then i + 1 else 0
def rowOf (lt : Nat → Nat → Bool) (o : List Int) : Nat := 1 + desc lt o 0 + desc lt o 1 + desc lt o 2
def hang (sizes : List Nat) (j k : Nat) : List Nat := (List.range 4).map fun i => if i = j then sizes.getD i 0 + sizes.getD k 0 else sizes.getD i 0
def stepK (lt : Nat → Nat → Bool) (above : List (List Int)) (st : List Nat × Nat) (k : Nat) : List Nat × Nat :=
  match above.getD k [] with
  | [] => st
  | j :: _ => (hang st.1 j.toNat k, if lt j.toNat k then st.2 + (hang st.1 j.toNat k).getD k 0 else st.2)
def hooks (lt : Nat → Nat → Bool) (above : List (List Int)) : List Nat × Nat := stepK lt above (stepK lt above (stepK lt above ([1, 1, 1, 1], 1) 3) 2) 1
def small (l : List Nat) : Bool := decide (l.length ≤ 24) && l.all fun d => decide (1 ≤ d) && decide (d ≤ 20)
def chk (lt : Nat → Nat → Bool) (above : List (List Int)) : Bool :=
  let rows := (ordersOf above 4).map (rowOf lt)
  let h := hooks lt above
  let s0 := h.1.getD 0 0
  let s1 := h.1.getD 1 0
  let s2 := h.1.getD 2 0
  let s3 := h.1.getD 3 0
  let r0 := rowsT rows (s0 - 1)
  let r1 := rowsT r0 (s1 - 1)
  let r2 := rowsT r1 (s2 - 1)
  let r3 := rowsT r2 (s3 - 1)
  let l0 := rowsT [h.2] 1
  let l1 := rowsT l0 2
  let l2 := rowsT l1 3
  (h.1.all fun s => decide (1 ≤ s) && decide (s ≤ 4)) && small rows && small r0 && small r1 && small r2 && small r3 && small [h.2] && small l0 && small l1 && small l2 && decide (bumps r3 = bumps l2)
/-- how four numbers stand -/
def ltB (a b c d e f : Bool) (i j : Nat) : Bool :=
  match i, j with
  | 0, 1 => a | 0, 2 => b | 0, 3 => c | 1, 2 => d | 1, 3 => e | 2, 3 => f
  | 1, 0 => !a | 2, 0 => !b | 3, 0 => !c | 2, 1 => !d | 3, 1 => !e | 3, 2 => !f
  | _, _ => false
def tri (a b c : Bool) : Bool := !(a && b && !c) && !(!a && !b && c)
/-- no ring of three -/
def trB (a b c d e f : Bool) : Bool := tri a d b && tri a e c && tri b f c && tri d f e
def forests : List (List (List Int)) := [[], [0]].flatMap fun p => [[], [0], [1]].flatMap fun q => [[], [0], [1], [2]].map fun r => [[], p, q, r]
def bools : List Bool := [false, true]
def chkAll (above : List (List Int)) : Bool :=
  bools.all fun a => bools.all fun b => bools.all fun c => bools.all fun d => bools.all fun e => bools.all fun f => !trB a b c d e f || chk (ltB a b c d e f) above
set_option maxRecDepth 100000
set_option maxHeartbeats 4000000
theorem chk_1 : ([[], [0], [1], [2]] : List (List Int)).all (fun r => chkAll [[], [], [], r]) = true := by decide +kernel
theorem chk_2 : ([[], [0], [1], [2]] : List (List Int)).all (fun r => chkAll [[], [], [0], r]) = true := by decide +kernel
theorem chk_3 : ([[], [0], [1], [2]] : List (List Int)).all (fun r => chkAll [[], [], [1], r]) = true := by decide +kernel
theorem chk_4 : ([[], [0], [1], [2]] : List (List Int)).all (fun r => chkAll [[], [0], [], r]) = true := by decide +kernel
theorem chk_5 : ([[], [0], [1], [2]] : List (List Int)).all (fun r => chkAll [[], [0], [0], r]) = true := by decide +kernel
theorem chk_6 : ([[], [0], [1], [2]] : List (List Int)).all (fun r => chkAll [[], [0], [1], r]) = true := by decide +kernel
theorem chk_any {p q r : List Int} (hp : p = [] ∨ p = [0]) (hq : q = [] ∨ q = [0] ∨ q = [1]) (hr : r = [] ∨ r = [0] ∨ r = [1] ∨ r = [2]) : chkAll [[], p, q, r] = true := by
  have m : r ∈ ([[], [0], [1], [2]] : List (List Int)) := by
    rcases hr with rfl | rfl | rfl | rfl <;> decide
  rcases hp with rfl | rfl <;> rcases hq with rfl | rfl | rfl
  · exact List.all_eq_true.mp chk_1 r m
  · exact List.all_eq_true.mp chk_2 r m
  · exact List.all_eq_true.mp chk_3 r m
  · exact List.all_eq_true.mp chk_4 r m
  · exact List.all_eq_true.mp chk_5 r m
  · exact List.all_eq_true.mp chk_6 r m
theorem bools_mem (b : Bool) : b ∈ bools := by cases b <;> decide
theorem chk_lt {a b c d e f : Bool} {above : List (List Int)} (h : chkAll above = true) (ht : trB a b c d e f = true) : chk (ltB a b c d e f) above = true := by
  unfold chkAll at h
  have h1 := List.all_eq_true.mp h a (bools_mem a)
  have h2 := List.all_eq_true.mp h1 b (bools_mem b)
  have h3 := List.all_eq_true.mp h2 c (bools_mem c)
  have h4 := List.all_eq_true.mp h3 d (bools_mem d)
  have h5 := List.all_eq_true.mp h4 e (bools_mem e)
  have h6 := List.all_eq_true.mp h5 f (bools_mem f)
  rw [ht] at h6
  simpa using h6
/-- four numbers, all different -/
theorem tri_of {x y z : Int} (h1 : x ≠ y) (h2 : y ≠ z) (h3 : x ≠ z) : tri (decide (x < y)) (decide (y < z)) (decide (x < z)) = true := by
  unfold tri
  by_cases a : x < y <;> by_cases b : y < z <;> by_cases c : x < z <;> simp [a, b, c] <;> omega
theorem chk_ok {n0 n1 n2 n3 : Int} (h : [n0, n1, n2, n3].Nodup) {p q r : List Int} (hp : p = [] ∨ p = [0]) (hq : q = [] ∨ q = [0] ∨ q = [1]) (hr : r = [] ∨ r = [0] ∨ r = [1] ∨ r = [2]) :
    chk (ltB (decide (n0 < n1)) (decide (n0 < n2)) (decide (n0 < n3)) (decide (n1 < n2)) (decide (n1 < n3)) (decide (n2 < n3))) [[], p, q, r] = true := by
  refine chk_lt (chk_any hp hq hr) ?_
  simp only [List.nodup_cons, List.mem_cons, List.not_mem_nil, or_false, not_or, List.nodup_nil, and_true, not_false_iff] at h
  unfold trB
  rw [tri_of h.1.1 h.2.1.1 h.1.2.1, tri_of h.1.1 h.2.1.2 h.1.2.2, tri_of h.1.2.1 h.2.2 h.1.2.2, tri_of h.2.1.1 h.2.2 h.2.1.2]; rfl
end Mine
end

section
set_option maxRecDepth 4000
namespace Mine
open R

/-! the four rows -/
def ldA (ns : List Int) (i : Nat) : List Nat := leadOf (nbAt ns i)
def sgA (ns : List Int) (i : Nat) : List Nat := (st1 ns i).signs.getD (nbAt ns i / 192 % (st1 ns i).signs.length) []
def duA (ns : List Int) (i : Nat) : Int := (st1 ns i).kinds.getD (nbAt ns i / 192 % (st1 ns i).signs.length) 0
def rowA (ns : List Int) (i : Nat) : List Nat := ldA ns i ++ (sgA ns i ++ [32, 9])
def kindOf (s : List Nat) : Int := (kinds0.zip signs0).foldr (fun p r => if p.2 = s then p.1 else r) 0
theorem drawn_4 (ns : List Int) : (st1 ns 4).drawn = [(ldA ns 0, sgA ns 0 ++ [32, 9]), (ldA ns 1, sgA ns 1 ++ [32, 9]), (ldA ns 2, sgA ns 2 ++ [32, 9]), (ldA ns 3, sgA ns 3 ++ [32, 9])] := rfl
theorem due_4 (ns : List Int) : (st1 ns 4).due = [duA ns 0, duA ns 1, duA ns 2, duA ns 3] := rfl
theorem places_4 (ns : List Int) : (st1 ns 4).places = [columnsOf (ldA ns 0), columnsOf (ldA ns 1), columnsOf (ldA ns 2), columnsOf (ldA ns 3)] := rfl
theorem kinds_signs : kinds0 = signs0.map kindOf := by decide +kernel
theorem kinds_of (ns : List Int) : ∀ i, (st1 ns i).kinds = (st1 ns i).signs.map kindOf
  | 0 => kinds_signs
  | i + 1 => by
    show (st1 ns i).kinds.eraseIdx _ = ((st1 ns i).signs.eraseIdx _).map kindOf
    rw [kinds_of ns i, erase_map]
theorem pick_lt (ns : List Int) {i : Nat} (hi : i < 4) : nbAt ns i / 192 % (st1 ns i).signs.length < (st1 ns i).signs.length := Nat.mod_lt _ (by have := (st1_ok ns i (by omega)).signs; omega)
theorem sg_mem (ns : List Int) {i : Nat} (hi : i < 4) : sgA ns i ∈ signs0 := by
  unfold sgA
  rw [List.getD_eq_getElem?_getD, List.getElem?_eq_getElem (pick_lt ns hi)]
  exact signs_sub ns i _ (List.getElem_mem _)
theorem du_eq (ns : List Int) {i : Nat} (hi : i < 4) : duA ns i = kindOf (sgA ns i) := by
  unfold duA sgA
  rw [kinds_of, List.getD_eq_getElem?_getD, List.getD_eq_getElem?_getD, List.getElem?_map, List.getElem?_eq_getElem (pick_lt ns hi)]; rfl
theorem perm_pick (l : List Int) : ∀ {k : Nat}, k < l.length → (l.getD k 0 :: l.eraseIdx k).Perm l := by
  induction l with
  | nil => intro k h; simp at h
  | cons a l ih =>
    intro k h
    cases k with
    | zero => exact List.Perm.refl _
    | succ k =>
      have := ih (k := k) (by simpa using h)
      show (l.getD k 0 :: a :: l.eraseIdx k).Perm (a :: l)
      exact (List.Perm.swap ..).trans (this.cons a)
theorem due_perm (ns : List Int) : ∀ i, i ≤ 4 → ((st1 ns i).due ++ (st1 ns i).kinds).Perm kinds0
  | 0, _ => List.Perm.refl _
  | i + 1, h => by
    have ih := due_perm ns i (by omega)
    refine List.Perm.trans ?_ ih
    show ((st1 ns i).due ++ [_] ++ (st1 ns i).kinds.eraseIdx _).Perm _
    rw [List.append_assoc]
    refine List.Perm.append_left _ ?_
    exact perm_pick _ (by rw [kinds_of, List.length_map]; exact pick_lt ns (by omega))
theorem due_nodup (ns : List Int) : [duA ns 0, duA ns 1, duA ns 2, duA ns 3].Nodup := by
  have h : ((st1 ns 4).due ++ (st1 ns 4).kinds).Nodup := (due_perm ns 4 (by omega)).nodup_iff.mpr (by decide)
  exact (List.nodup_append.mp h).1
theorem sent_4 (ns : List Int) : Txt.split ⟨(quoteT ((st1 ns 4).page ++ [13])).toArray⟩ ⟨#[13, 10]⟩ = [⟨(stuff (rowA ns 0)).toArray⟩, ⟨(stuff (rowA ns 1)).toArray⟩, ⟨(stuff (rowA ns 2)).toArray⟩, ⟨(stuff (rowA ns 3)).toArray⟩, ⟨#[]⟩, ⟨#[]⟩] := (sent_split ns).trans rfl
theorem pick_6 {α : Type} (a b c d e f : α) : pickL [a, b, c, d, e, f] none (some (-2)) = [a, b, c, d] := by
  have hc : clipAt 6 (-2) = 4 := by decide
  rw [pickL_plain]
  simp [hc]

/-! comprehensions, handily -/
def blkOk (scope sc : Scope) (cn : List Str) : Bool :=
  (freeN scope).all (cn.contains ·) && scope.kind == .function && scope.names.all (fun x => x.2 != .local || scope.names.lookup x.1 == some .local)
  && (freeN scope).all (fun y => sc.names.lookup y == some .cell || sc.names.lookup y == some .free)
  && (freeN scope).all (fun y => (relab scope sc).names.lookup y == some .cell || (relab scope sc).names.lookup y == some .free)
  && (cellN scope).all fun y => !(freeN scope).contains y
theorem or_some {a b c : Option NameKind} (h : (a == b || a == c) = true) : a = b ∨ a = c := by
  rcases Bool.or_eq_true _ _ ▸ h with h | h
  · exact .inl (beq_iff_eq.mp h)
  · exact .inr (beq_iff_eq.mp h)
theorem Blk.of {scope sc : Scope} {cn : List Str} (h : blkOk scope sc cn = true) : Blk scope sc cn := by
  unfold blkOk at h
  simp only [Bool.and_eq_true] at h
  obtain ⟨⟨⟨⟨⟨h1, h2⟩, h3⟩, h4⟩, h5⟩, h6⟩ := h
  refine ⟨h1, beq_iff_eq.mp h2, fun x hx hl => ?_, fun y hy => or_some (List.all_eq_true.mp h4 y hy), fun y hy => or_some (List.all_eq_true.mp h5 y hy), fun y hy => ?_⟩
  · have := List.all_eq_true.mp h3 x hx
    rw [hl] at this
    simpa using this
  · have := List.all_eq_true.mp h6 y hy
    simpa using this
theorem vis_look {scope : Scope} {ρ : Rho} {y : Str} {d : D} (h : ρ.lookup y = some d) (hf : (freeN scope).contains y = true := by kernel_rfl) : (vis scope ρ).lookup y = some d := lookup_filter_of (f := fun y => (freeN scope).contains y) hf h
theorem vis_sub1 {scope : Scope} {ρ : Rho} {x : Str} {d : D} (h : (freeN scope).contains x = false := by kernel_rfl) : Sub (vis scope ρ) ([(x, d)] ++ vis scope ρ) := fun y e hy => by
  have hf := (lookup_filter (f := fun y => (freeN scope).contains y) hy).1
  have hyx : y ≠ x := fun hyx => by
    rw [hyx] at hf
    rw [h] at hf; cases hf
  show List.lookup y ((x, d) :: vis scope ρ) = _
  rw [lookup_cons_of, if_neg hyx]; exact hy
theorem vis_sub2 {scope : Scope} {ρ : Rho} {x z : Str} {d f : D} (h : (freeN scope).contains x = false := by kernel_rfl) (h2 : (freeN scope).contains z = false := by kernel_rfl) : Sub (vis scope ρ) ([(x, d), (z, f)] ++ vis scope ρ) := fun y e hy => by
  have h1 := vis_sub1 (ρ := ρ) (d := f) h2 y e hy
  have hf := (lookup_filter (f := fun y => (freeN scope).contains y) hy).1
  have hyx : y ≠ x := fun hyx => by
    rw [hyx] at hf
    rw [h] at hf; cases hf
  show List.lookup y ((x, d) :: ([(z, f)] ++ vis scope ρ)) = _
  rw [lookup_cons_of, if_neg hyx]; exact h1
theorem sub_skip {ρ : Rho} {x : Str} {d : D} (h : ρ.lookup x = none) : Sub ρ ([(x, d)] ++ ρ) := fun y e hy => by
  have hyx : y ≠ x := fun hyx => by rw [hyx, h] at hy; cases hy
  show List.lookup y ((x, d) :: ρ) = _
  rw [lookup_cons_of, if_neg hyx]; exact hy
theorem outsOf_flat (p : Nat → Bool) (outs : Nat → List D) : ∀ n, outsOf p outs n = (List.range n).flatMap fun i => if p i then outs i else []
  | 0 => rfl
  | n + 1 => by rw [outsOf, outsOf_flat p outs n, List.range_succ, List.flatMap_append]; simp
theorem outsOf_map (f : Nat → D) : ∀ n, outsOf (fun _ => true) (fun i => [f i]) n = (List.range n).map f
  | 0 => rfl
  | n + 1 => by rw [outsOf, outsOf_map f n, List.range_succ, List.map_append]; rfl
theorem outsOf_filter (p : Nat → Bool) (f : Nat → D) : ∀ n, outsOf p (fun i => [f i]) n = ((List.range n).filter p).map f
  | 0 => rfl
  | n + 1 => by
    rw [outsOf, outsOf_filter p f n, List.range_succ, List.filter_append, List.map_append]
    cases h : p n <;> simp [h]
end Mine
end

section
set_option maxRecDepth 4000
namespace Mine
open R

theorem parts_len (x : Str) (cuts : List Nat) (w : Nat) : (Builtin.Str.partsBetween x cuts w).length = cuts.length + 1 := by
  unfold Builtin.Str.partsBetween
  simp
abbrev sO (x : String) : Str := Str.ofString x

section
variable {prog : Program} {w : World} {A : Around} {ρ : Rho}
variable {oc : Value} {odd : Option Addr} {osl : Array (Option Value)} {fd : FuncData} {body : List Stmt}
set_option maxHeartbeats 2000000 in
theorem law_4 {ns : List Int} (hA : Ok 20 A) (h : (KK w).lookup 157 = some ⟨oc, odd, .func fd, osl⟩) (hb : fd.body = .stmts body) (hp : ρ.lookup (Str.ofString "page") = some (strD (st1 ns 4).page)) :
    Ex prog w A fd.scope lawCn lawOwn ρ (body.getD 4 default) (.next ((Str.ofString "sent", .list [strD (stuff (rowA ns 0)), strD (stuff (rowA ns 1)), strD (stuff (rowA ns 2)), strD (stuff (rowA ns 3))]) :: ρ)) := by
  have h' : some (⟨_, _, .func _, _⟩ : Obj) = some _ := h
  cases h'
  cases hb
  have ok := st1_ok ns 4 (by omega)
  have hpl := ok.page
  have hq : (quoteT ((st1 ns 4).page ++ [13])).length ≤ 400 := by
    have := quote_len ((st1 ns 4).page ++ [13])
    rw [List.length_append] at this
    have e : ([13] : List Nat).length = 1 := rfl
    omega
  have hx : ((⟨(quoteT ((st1 ns 4).page ++ [13])).toArray⟩ : Str)).length ≤ 400 := by
    show Array.size _ ≤ _
    rw [List.size_toArray]; exact hq
  have hsp := sent_4 ns
  generalize hpg : (st1 ns 4).page = page at *
  generalize rowA ns 0 = r0 at *
  generalize rowA ns 1 = r1 at *
  generalize rowA ns 2 = r2 at *
  generalize rowA ns 3 = r3 at *
  have e : pickL ((Txt.split ⟨(quoteT (page ++ [13])).toArray⟩ ⟨#[13, 10]⟩).map D.str) none (some (-2)) = [strD (stuff r0), strD (stuff r1), strD (stuff r2), strD (stuff r3)] := by
    rw [hsp]; exact pick_6 ..
  have hlen : ((Txt.split ⟨(quoteT (page ++ [13])).toArray⟩ ⟨#[13, 10]⟩).map D.str).length ≤ 1048576 := by rw [hsp]; exact Nat.le_of_ble_eq_true rfl
  show Ex _ _ _ _ _ _ _ (.Assign [.Name _ _] _ _) _
  refine Ex.assign (Ev.cast (Ev.sliceL (Ev.split (x := ⟨(quoteT (page ++ [13])).toArray⟩) (y := ⟨#[13, 10]⟩) (Ev.callF (n := 2) (hA.le (by decide)) (by kernel_rfl) (by kernel_rfl) (by kernel_rfl) (Evs.cons (Ev.cast (d' := strD (page ++ [13])) (Ev.bin (Ev.name hp) Ev.str (Bin.addS ?_)) ?_) Evs.nil) (fun_quote ?_)) Ev.str (by rfl) (by omega) ?_) (show Part _ _ _ _ _ _ none none from trivial) (show Part _ _ _ _ _ _ (some _) (some (-2)) from Ev.neg Ev.int) hlen) (congrArg D.list e)) (.inl (by kernel_rfl)) (fun _ _ => rfl)
  · show page.toArray.size + 1 ≤ _
    rw [List.size_toArray]; omega
  · show D.str ⟨page.toArray ++ #[13]⟩ = _
    congr 2
    simp
  · show Array.size _ ≤ _
    rw [List.size_toArray, List.length_append]
    have e : ([13] : List Nat).length = 1 := rfl
    omega
  · rw [parts_len]
    have := StrLaws.occ_length_le (⟨(quoteT (page ++ [13])).toArray⟩ : Str) ⟨#[13, 10]⟩ 0 (⟨(quoteT (page ++ [13])).toArray⟩ : Str).length ((⟨(quoteT (page ++ [13])).toArray⟩ : Str).length + 1)
    omega

/-! rows: a dot is taken off -/
theorem slice_to (l : List Nat) (k : Nat) : Txt.slice ⟨l.toArray⟩ none (some (k : Int)) = ⟨(l.take k).toArray⟩ := by
  have key : ∀ j : Nat, j ≤ l.length → Txt.slice ⟨l.toArray⟩ none (some (j : Int)) = ⟨(l.take j).toArray⟩ := fun j hj => by
    have := eq_of_beq (slice_closes_toL (x := ⟨l.toArray⟩) (j := j) (by omega) (by show (j : Int) ≤ (l.toArray.size : Nat); rw [List.size_toArray]; omega))
    rw [this]; simp
  rcases Nat.le_total k l.length with h | h
  · exact key k h
  · have hl : (((⟨l.toArray⟩ : Str).length : Nat) : Int) ≤ (k : Int) := by show ((l.toArray.size : Nat) : Int) ≤ _; rw [List.size_toArray]; omega
    rw [slice_to_beyond hl]
    have e : ((⟨l.toArray⟩ : Str).length) = l.length := by show l.toArray.size = _; simp
    rw [e, key _ (Nat.le_refl _), List.take_of_length_le h, List.take_of_length_le (Nat.le_refl _)]
theorem slice_from (l : List Nat) (k : Nat) : Txt.slice ⟨l.toArray⟩ (some (k : Int)) none = ⟨(l.drop k).toArray⟩ := by
  have e : ((⟨l.toArray⟩ : Str).length) = l.length := by show l.toArray.size = _; simp
  rcases Nat.le_total k l.length with h | h
  · have := eq_of_beq (slice_closes_fromL (x := ⟨l.toArray⟩) (i := k) (b := l.length) (by omega) (by rw [e]; omega) (by rw [e]))
    rw [this]
    simp only [Int.toNat_natCast]
    have e2 : ((l.length : Int) - (k : Int)).toNat = l.length - k := by omega
    rw [e2, List.take_of_length_le (by simp)]
  · rw [slice_from_beyond (by rw [e]; omega), List.drop_eq_nil_of_le h]
theorem slice_to_neg (l : List Nat) (a b : Nat) : Txt.slice ⟨(l ++ [a, b]).toArray⟩ none (some (-2)) = ⟨l.toArray⟩ := by
  have e : ((⟨(l ++ [a, b]).toArray⟩ : Str).length) = l.length + 2 := by show (l ++ [a, b]).toArray.size = _; simp
  have := eq_of_beq (slice_closes_to_neg (x := ⟨(l ++ [a, b]).toArray⟩) (j := -2) (k := l.length) (by omega) (by rw [e]; omega) (by rw [e]; omega))
  rw [this]; simp
theorem stuff_len (r : List Nat) : (stuff r).length ≤ r.length + 1 := by
  unfold stuff
  split
  · exact Nat.le_refl _
  · exact Nat.le_succ _
end
end Mine
end

section
set_option maxRecDepth 4000
namespace Mine
open R

/-- four of a kind -/
abbrev four {α : Type} (f : Nat → α) : List α := [f 0, f 1, f 2, f 3]
theorem four_get {α : Type} {f : Nat → α} {i : Nat} {z : α} (hi : i < 4) : (four f).getD i z = f i := by
  match i, hi with
  | 0, _ => rfl
  | 1, _ => rfl
  | 2, _ => rfl
  | 3, _ => rfl
theorem four_get? {α : Type} {f : Nat → α} {i : Nat} (hi : i < 4) : (four f)[i]? = some (f i) := by
  match i, hi with
  | 0, _ => rfl
  | 1, _ => rfl
  | 2, _ => rfl
  | 3, _ => rfl
theorem four_map {α β : Type} {f : Nat → α} {g : α → β} : (four f).map g = four fun i => g (f i) := rfl
theorem four_outs {f : Nat → D} : outsOf (fun _ => true) (fun i => [f i]) 4 = four f := rfl

section
variable {prog : Program} {w : World} {A : Around} {ρ : Rho} {sc scope : Scope} {cn : List Str}
/-- a block over four, no tests -/
theorem comp4L {elt iter : Expr} {x : Str} {p pos : Pos} {g f : Nat → D} (hh : A.handled = none) (B : blkOk scope sc cn = true) (hi : Ev prog w A sc cn ρ iter (.list (four g)))
    (hk : (relab scope sc).names.lookup x = some .local ∨ ((relab scope sc).names.lookup x = some .cell ∧ x ∈ cellN scope ∧ x ∈ cellN scope ++ freeN scope)) (hx : (freeN scope).contains x = false)
    (he : ∀ i, i < 4 → Ev prog w A (relab scope sc) (cellN scope ++ freeN scope) ((x, g i) :: vis scope ρ) elt (f i))
    (hfs : ∀ env x, foldedSetIterable iter env x = pure x := by intro _ _; rfl) :
    CompGives prog w A sc cn ρ (.ListComp elt [⟨.Name x p, iter, [], 0⟩] scope pos) (.list (four f)) :=
  comp1 (p := fun _ => true) (f := f) hh (Blk.of B) (It.list hh hi hk) (fun i _ => vis_sub1 hx) (fun i _ => rfl) (fun i hi _ => by
    have := he i hi
    rw [four_get hi]
    exact this) (Nat.le_of_ble_eq_true rfl) hfs
/-- a block over range(4), no tests -/
theorem comp4R {elt : Expr} {x : Str} {p pn pc p4 pos : Pos} {k : Nat} {f : Nat → D} (hh : A.handled = none) (B : blkOk scope sc cn = true)
    (hk : (relab scope sc).names.lookup x = some .local ∨ ((relab scope sc).names.lookup x = some .cell ∧ x ∈ cellN scope ∧ x ∈ cellN scope ++ freeN scope)) (hx : (freeN scope).contains x = false)
    (hr : sc.names.lookup (Str.ofString "range") = some .globalImplicit) (hg : nsIn (KK w) mainGlobals (Str.ofString "range") = some none)
    (he : ∀ i : Nat, i < 4 → Ev prog w A (relab scope sc) (cellN scope ++ freeN scope) ((x, .int i) :: vis scope ρ) elt (f i)) :
    CompGives prog w A sc cn ρ (.ListComp elt [⟨.Name x p, .Call (.Name (Str.ofString "range") pn) [.Constant (.int 4) k p4] [] pc, [], 0⟩] scope pos) (.list (four f)) :=
  comp1 (p := fun _ => true) (f := f) hh (Blk.of B) (It.range1 (n := 4) hh Ev.int hk hr hg (by decide) (by decide)) (fun i _ => vis_sub1 hx) (fun i _ => rfl) (fun i hi _ => he i hi) (by decide)
end
end Mine
end

section
set_option maxRecDepth 4000
namespace Mine
open R

section
variable {prog : Program} {w : World} {A : Around} {ρ : Rho}
variable {oc : Value} {odd : Option Addr} {osl : Array (Option Value)} {fd : FuncData} {body : List Stmt}
theorem stuff_two (r : List Nat) : ((⟨((stuff r).take 2).toArray⟩ : Str) == Str.ofString "..") = decide (r.head? = some 46) := by
  unfold stuff
  by_cases h : r.head? = some 46
  · rw [if_pos h, decide_eq_true h]
    cases r with
    | nil => cases h
    | cons a r => cases h; rfl
  · rw [if_neg h, decide_eq_false h, beq_eq_false_iff_ne]
    intro e
    have e2 : (r.take 2).toArray = #[46, 46] := congrArg Str.cps e
    have e3 : r.take 2 = [46, 46] := by have := congrArg Array.toList e2; simpa using this
    cases r with
    | nil => cases e3
    | cons a r => rw [List.take_succ_cons] at e3; injection e3 with e4 _; exact h (by rw [e4]; rfl)
set_option maxHeartbeats 2000000 in
theorem law_5 {r : Nat → List Nat} (hA : Ok 20 A) (h : (KK w).lookup 157 = some ⟨oc, odd, .func fd, osl⟩) (hb : fd.body = .stmts body) (hz : ∀ i, i < 4 → (r i).length ≤ 100)
    (hp : ρ.lookup (sO "sent") = some (.list (four fun i => strD (stuff (r i))))) :
    Ex prog w A fd.scope lawCn lawOwn ρ (body.getD 5 default) (.next ((sO "rows", .list (four fun i => strD (r i))) :: ρ)) := by
  have h' : some (⟨_, _, .func _, _⟩ : Obj) = some _ := h
  cases h'
  cases hb
  show Ex _ _ _ _ _ _ _ (.Assign [.Name _ _] (.ListComp _ [⟨_, _, _, _⟩] _ _) _) _
  refine Ex.assignComp (comp4L (g := fun i => strD (stuff (r i))) (f := fun i => strD (r i)) hA.hh (by kernel_rfl) (Ev.name hp) (.inl (by kernel_rfl)) (by kernel_rfl) (fun i hi => ?_)) (by kernel_rfl) (fun env H => by cases env; cases H.scope; rfl)
  have hr := hz i hi
  generalize r i = r at *
  have hs : (stuff r).length ≤ 101 := by have := stuff_len r; omega
  have hs' : ((⟨(stuff r).toArray⟩ : Str)).length ≤ 1048576 := by show Array.size _ ≤ _; rw [List.size_toArray]; omega
  have h2 := slice_to (stuff r) 2
  have h1 := slice_from (stuff r) 1
  refine Ev.ifExp (Te.cmp (Ev.sliceS_to (Ev.name rfl) Ev.int hs') Ev.str Cmp.eqS) (fun hb => ?_) (fun hb => ?_)
  · rw [show ((2 : Int)) = ((2 : Nat) : Int) from rfl, h2, stuff_two] at hb
    have e : (stuff r).drop 1 = r := by unfold stuff; rw [if_pos (of_decide_eq_true hb)]; rfl
    rw [e] at h1
    exact Ev.cast (Ev.sliceS_from (Ev.name rfl) Ev.int hs') (congrArg D.str h1)
  · rw [show ((2 : Int)) = ((2 : Nat) : Int) from rfl, h2, stuff_two] at hb
    have e : stuff r = r := by unfold stuff; rw [if_neg (of_decide_eq_false hb)]
    rw [e]
    exact Ev.name rfl
end
end Mine
end

section
set_option maxRecDepth 4000
namespace Mine
open R

/-! a row's lead as Whitespace has it -/
abbrev wOf (r l : List Nat) : D := .white ⟨r.toArray⟩ (slead l).n (slead l).nt (slead l).count (slead l).b (decide ((slead l).count.length ≤ 1))
abbrev rowOfL (l s : List Nat) : List Nat := l ++ (s ++ [32, 9])
theorem signs_head : ∀ s ∈ signs0, s.takeWhile blank = [] ∧ s ≠ [] ∧ s.length ≤ 3 := by decide
theorem takeWhile_row {l : List Nat} (h : l.all blank = true) (m : List Nat) : (l ++ m).takeWhile blank = l ++ m.takeWhile blank := by
  induction l with
  | nil => rfl
  | cons a l ih =>
    rw [List.all_cons, Bool.and_eq_true] at h
    rw [List.cons_append, List.takeWhile_cons, if_pos h.1, ih h.2]; rfl
theorem takeWhile_sign {s : List Nat} (h : s.takeWhile blank = []) (hne : s ≠ []) (m : List Nat) : (s ++ m).takeWhile blank = [] := by
  cases s with
  | nil => exact absurd rfl hne
  | cons a s =>
    rw [List.takeWhile_cons] at h
    rw [List.cons_append, List.takeWhile_cons]
    split at h
    · cases h
    · rename_i ha
      rw [if_neg ha]
theorem white_row {l s : List Nat} (hl : l ∈ allLeads) (hs : s ∈ signs0) : whiteOf ⟨(rowOfL l s).toArray⟩ = wOf (rowOfL l s) l := by
  obtain ⟨h1, h2, _⟩ := signs_head s hs
  have e : scan (rowOfL l s) = slead l := by
    unfold scan slead
    rw [takeWhile_row (lead_blank l hl), takeWhile_sign h1 h2, List.append_nil]
  unfold whiteOf
  rw [List.toList_toArray, e]
theorem row_len {l s : List Nat} (hl : l ∈ allLeads) (hs : s ∈ signs0) : (rowOfL l s).length ≤ 10 := by
  have h1 := (lead_small l hl).1
  have h2 := (signs_head s hs).2.2
  show (l ++ (s ++ [32, 9])).length ≤ 10
  rw [List.length_append, List.length_append]
  show _ + (_ + 2) ≤ 10
  omega

section
variable {prog : Program} {w : World} {A : Around} {ρ : Rho}
variable {oc : Value} {odd : Option Addr} {osl : Array (Option Value)} {fd : FuncData} {body : List Stmt}

set_option maxHeartbeats 2000000 in
theorem law_6 {L S : Nat → List Nat} (hA : Ok 20 A) (h : (KK w).lookup 157 = some ⟨oc, odd, .func fd, osl⟩) (hb : fd.body = .stmts body)
    (hl : ∀ i, i < 4 → L i ∈ allLeads) (hs : ∀ i, i < 4 → S i ∈ signs0)
    (hp : ρ.lookup (sO "rows") = some (.list (four fun i => strD (rowOfL (L i) (S i))))) :
    Ex prog w A fd.scope lawCn lawOwn ρ (body.getD 6 default) (.next ((sO "leads", .list (four fun i => wOf (rowOfL (L i) (S i)) (L i))) :: ρ)) := by
  have h' : some (⟨_, _, .func _, _⟩ : Obj) = some _ := h
  cases h'
  cases hb
  show Ex _ _ _ _ _ _ _ (.Assign [.Name _ _] (.ListComp _ [⟨_, _, _, _⟩] _ _) _) _
  refine Ex.assign (Ev.comp (comp4L (g := fun i => strD (rowOfL (L i) (S i))) (f := fun i => wOf (rowOfL (L i) (S i)) (L i)) hA.hh (by kernel_rfl) (Ev.name hp) (.inl (by kernel_rfl)) (by kernel_rfl) (fun i hi => ?_))) (.inr ⟨by kernel_rfl, (by decide +kernel : Str.ofString "leads" ∈ lawCells), by decide +kernel⟩) (fun env H => by cases env; cases H.scope; rfl)
  have hl := hl i hi
  have hs := hs i hi
  exact Ev.cast (Ev.white (n := 17) hA (by kernel_rfl) (Ev.name rfl) (by show Array.size _ ≤ _; rw [List.size_toArray]; have := row_len hl hs; omega)) (white_row hl hs)
end
end Mine
end

section
set_option maxRecDepth 4000
namespace Mine
open R

theorem ok_lead : ∀ l ∈ allLeads, PyData.strOk ⟨l.toArray⟩ = true := by decide +kernel
theorem ok_sign : ∀ s ∈ signs0, PyData.strOk ⟨(s ++ [32, 9]).toArray⟩ = true := by decide +kernel
theorem eqv_pairs (f g : Nat → Str) : PyData.eqv (D.py (.list (four fun i => .list [.str (f i), .str (g i)]))) (D.py (.list (four fun i => .list [.str (f i), .str (g i)]))) = true := by
  simp [D.py, D.pys, PyData.eqv, PyData.eqvAll]
theorem plain_pairs (f g : Nat → Str) (hf : ∀ i, i < 4 → PyData.strOk (f i) = true) (hg : ∀ i, i < 4 → PyData.strOk (g i) = true) : D.plain (.list (four fun i => .list [.str (f i), .str (g i)])) = true := by
  simp [D.plain, D.plains, hf, hg]
theorem depth_pairs (f g : Nat → Str) : (D.py (.list (four fun i => .list [.str (f i), .str (g i)]))).depth ≤ 64 := by
  simp [D.py, D.pys, PyData.depth, PyData.depthAll]
/-- the pairs of four -/
abbrev six (f : Nat → Nat → D) : List D := [f 1 0, f 2 0, f 2 1, f 3 0, f 3 1, f 3 2]
theorem vis_none {scope : Scope} {ρ : Rho} {y : Str} (h : (freeN scope).contains y = false) : (vis scope ρ).lookup y = none := by
  cases e : (vis scope ρ).lookup y with
  | none => rfl
  | some d =>
    have := (lookup_filter (f := fun y => (freeN scope).contains y) e).1
    rw [h] at this; cases this
section
variable {prog : Program} {w : World} {A : Around} {ρ : Rho} {sc scope : Scope} {cn : List Str}
/-- for k in range(4) for j in range(k) -/
theorem comp6 {elt : Expr} {x y : Str} {p pn pc p4 pos q qn qc q4 : Pos} {k : Nat} {f : Nat → Nat → D} (hh : A.handled = none) (B : blkOk scope sc cn = true)
    (hk : (relab scope sc).names.lookup x = some .local) (hk2 : (relab scope sc).names.lookup y = some .local) (hx : (freeN scope).contains x = false) (hy : (freeN scope).contains y = false) (hxy : (y == x) = false)
    (hr : sc.names.lookup (Str.ofString "range") = some .globalImplicit) (hr2 : (relab scope sc).names.lookup (Str.ofString "range") = some .globalImplicit) (hg : nsIn (KK w) mainGlobals (Str.ofString "range") = some none)
    (hd : (x == ("__debug__" : Str)) = false) (hc : (x == ("__classdict__" : Str)) = false)
    (he : ∀ i j : Nat, i < 4 → j < i → Ev prog w A (relab scope sc) (cellN scope ++ freeN scope) ((y, .int j) :: (x, .int i) :: vis scope ρ) elt (f i j)) :
    CompGives prog w A sc cn ρ (.ListComp elt [⟨.Name x p, .Call (.Name (Str.ofString "range") pn) [.Constant (.int 4) k p4] [] pc, [], 0⟩, ⟨.Name y q, .Call (.Name (Str.ofString "range") qn) [.Name x q4] [] qc, [], 0⟩] scope pos) (.list (six f)) :=
  comp2 (p := fun _ => true) (p2 := fun _ _ => true) (f := f) (n2 := fun i => i) (bs2 := fun _ j => [(y, .int j)]) hh (Blk.of B) (It.range1 (n := 4) hh Ev.int (.inl hk) hr hg (by decide) (by decide)) (fun i _ => vis_sub1 hx) (fun i _ => rfl)
    (fun i hi _ => It.range1 (n := (i : Int)) hh (Ev.name (by show List.lookup x ((x, _) :: _) = _; rw [lookup_cons_of, if_pos rfl]) rfl hd hc) (.inl hk2) hr2 hg (by omega) (by omega))
    (fun i j _ _ => sub_skip (by
      show List.lookup y ((x, _) :: _) = none
      rw [lookup_cons_of, if_neg (fun e => by rw [e] at hxy; simp at hxy)]
      exact vis_none hy)) (fun i j _ _ _ => rfl) (fun i j hi _ hj _ => he i j hi hj) (Nat.le_of_ble_eq_true rfl)
end

section
variable {prog : Program} {w : World} {A : Around} {ρ : Rho}
variable {oc : Value} {odd : Option Addr} {osl : Array (Option Value)} {fd : FuncData} {body : List Stmt}

set_option maxHeartbeats 2000000 in
theorem law_7 {L S : Nat → List Nat} (hA : Ok 20 A) (h : (KK w).lookup 157 = some ⟨oc, odd, .func fd, osl⟩) (hb : fd.body = .stmts body)
    (hl : ∀ i, i < 4 → L i ∈ allLeads) (hs : ∀ i, i < 4 → S i ∈ signs0)
    (hp : ρ.lookup (sO "rows") = some (.list (four fun i => strD (rowOfL (L i) (S i)))))
    (hw : ρ.lookup (sO "leads") = some (.list (four fun i => wOf (rowOfL (L i) (S i)) (L i))))
    (hd : ρ.lookup (sO "drawn") = some (.list (four fun i => .list [strD (L i), strD (S i ++ [32, 9])]))) :
    Ex prog w A fd.scope lawCn lawOwn ρ (body.getD 7 default) (.next ρ) := by
  have h' : some (⟨_, _, .func _, _⟩ : Obj) = some _ := h
  cases h'
  cases hb
  show Ex _ _ _ _ _ _ _ (.If (.Compare (.ListComp _ [⟨_, _, _, _⟩] _ _) _ _ _) _ _ _) _
  refine Ex.if (c := false) (Te.cast (Te.cmp (Ev.comp (d := .list (four fun i => .list [strD (L i), strD (S i ++ [32, 9])])) (comp1 (p := fun _ => true) (f := fun i => .list [strD (L i), strD (S i ++ [32, 9])]) hA.hh (Blk.of (by kernel_rfl)) (It.cast (m := 4) (It.zip (as := four fun i => strD (rowOfL (L i) (S i))) (bs := four fun i => wOf (rowOfL (L i) (S i)) (L i)) hA.hh (Ev.name hp) (Ev.name hw) (.inl (by kernel_rfl)) (.inl (by kernel_rfl)) (by kernel_rfl) (by kernel_rfl)) rfl)
    (fun i _ => vis_sub2) (fun i _ => ?_) (fun i hi _ => ?_) (by decide))) (Ev.name hd) (Cmp.neD hA ?_ ?_ ?_ ?_)) ?_) (fun h => by cases h) (fun _ => Exs.nil)
  · unfold Tests; rfl
  · rw [four_get hi, four_get hi]
    have hl := hl i hi
    have hs := hs i hi
    have hz := row_len hl hs
    have hn := (lead_small _ hl).2.1
    have e1 := slice_to (rowOfL (L i) (S i)) (L i).length
    have e2 := slice_from (rowOfL (L i) (S i)) (L i).length
    rw [List.take_left] at e1
    rw [List.drop_left] at e2
    have hz' : ((⟨(rowOfL (L i) (S i)).toArray⟩ : Str)).length ≤ 1048576 := by show Array.size _ ≤ _; rw [List.size_toArray]; omega
    refine Ev.list (Evs.cons (Ev.cast (Ev.sliceS_to (b := ((L i).length : Nat)) (Ev.name rfl) (Ev.cast (Ev.attr (e := .int ((slead (L i)).n : Nat)) (Ev.name rfl) rfl) (by rw [hn])) hz') (congrArg D.str e1)) (Evs.cons (Ev.cast (Ev.sliceS_from (b := ((L i).length : Nat)) (Ev.name rfl) (Ev.cast (Ev.attr (e := .int ((slead (L i)).n : Nat)) (Ev.name rfl) rfl) (by rw [hn])) hz') (congrArg D.str e2)) Evs.nil)) (Nat.le_of_ble_eq_true rfl)
  · exact plain_pairs _ _ (fun i hi => ok_lead _ (hl i hi)) fun i hi => ok_sign _ (hs i hi)
  · exact plain_pairs _ _ (fun i hi => ok_lead _ (hl i hi)) fun i hi => ok_sign _ (hs i hi)
  · exact depth_pairs _ _
  · exact depth_pairs _ _
  · rw [eqv_pairs]; rfl
end
end Mine
end

section
set_option maxRecDepth 4000
namespace Mine
open R

theorem look_skip {x y : Str} {d e : D} {ρ : Rho} (h : ρ.lookup y = some e) (hxy : (y == x) = false := by decide) : List.lookup y ((x, d) :: ρ) = some e := by
  rw [lookup_cons_of, if_neg (fun h => by rw [h] at hxy; simp at hxy)]; exact h
theorem tab_sign {w : World} : ∀ s ∈ signs0, intIn (nsIn (KK w) 122 ⟨s.toArray⟩) = some (kindOf s) := by
  intro s hs
  simp only [signs0, List.mem_cons, List.not_mem_nil, or_false] at hs
  rcases hs with rfl | rfl | rfl | rfl | rfl | rfl | rfl | rfl <;> kernel_rfl
theorem int_in {o : Option (Option Value)} {i : Int} (h : intIn o = some i) : ∃ t, o = some (some (.int i t)) := by
  unfold intIn at h
  split at h
  · cases h; exact ⟨_, rfl⟩
  · cases h
theorem mem_cell {x : Str} (h : (lawCells.contains x && lawCn.contains x) = true) : x ∈ lawOwn ∧ x ∈ lawCn := by
  rw [Bool.and_eq_true] at h
  exact ⟨show x ∈ lawCells by simpa using h.1, by simpa using h.2⟩
theorem eqv_four (f : Nat → Int) : PyData.eqv (D.py (.list (four fun i => .int (f i)))) (D.py (.list (four fun i => .int (f i)))) = true := by
  simp [D.py, D.pys, PyData.eqv, PyData.eqvAll]
theorem eqv_six (f : Nat → Nat → Bool) : PyData.eqv (D.py (.list (six fun i j => .bool (f i j)))) (D.py (.list (six fun i j => .bool (f i j)))) = true := by
  simp [D.py, D.pys, PyData.eqv, PyData.eqvAll]
theorem plain_intsL (a : List Int) : D.plain (.list (a.map D.int)) = true := plains_ints a
theorem depth_intsL (a : List Int) : (D.py (.list (a.map D.int))).depth ≤ 64 := by
  have := depth_ints a
  show PyData.depthAll (D.pys (a.map D.int)) + 1 ≤ 64
  omega
theorem eqv_intsL (a b : List Int) : PyData.eqv (D.py (.list (a.map D.int))) (D.py (.list (b.map D.int))) = decide (a = b) := eqv_ints a b

section
variable {prog : Program} {w : World} {A : Around} {ρ : Rho}
variable {oc : Value} {odd : Option Addr} {osl : Array (Option Value)} {fd : FuncData} {body : List Stmt}

theorem ev_tab {sc : Scope} {cn : List Str} {i : Expr} {px pos : Pos} {s : List Nat} (hk : sc.names.lookup (sO "EXACT_TOKEN_TYPES") = some .globalImplicit) (hs : s ∈ signs0) (hi : Ev prog w A sc cn ρ i (.str ⟨s.toArray⟩))
    (hsb : ∀ o i', subscripted i false o i' = operate [o, i'] (getItem o i')) : Ev prog w A sc cn ρ (.Subscript (.Name (sO "EXACT_TOKEN_TYPES") px) i pos) (.int (kindOf s)) := by
  obtain ⟨t, ht⟩ := int_in (tab_sign (w := w) s hs)
  exact Ev.tab hk (by kernel_rfl : nsIn (KK w) mainGlobals (sO "EXACT_TOKEN_TYPES") = some (some (.ref 122))) hi rfl (by k_keys) ht (by decide) hsb
set_option maxHeartbeats 2000000 in
theorem law_8 {L S : Nat → List Nat} (hA : Ok 20 A) (h : (KK w).lookup 157 = some ⟨oc, odd, .func fd, osl⟩) (hb : fd.body = .stmts body)
    (hs : ∀ i, i < 4 → S i ∈ signs0)
    (hd : ρ.lookup (sO "drawn") = some (.list (four fun i => .list [strD (L i), strD (S i ++ [32, 9])]))) :
    Ex prog w A fd.scope lawCn lawOwn ρ (body.getD 8 default) (.next ((sO "numbers", .list (four fun i => .int (kindOf (S i)))) :: ρ)) := by
  have h' : some (⟨_, _, .func _, _⟩ : Obj) = some _ := h
  cases h'
  cases hb
  show Ex _ _ _ _ _ _ _ (.Assign [.Name _ _] (.ListComp _ [⟨_, _, _, _⟩] _ _) _) _
  refine Ex.assign (Ev.comp (comp4L (g := fun i => .list [strD (L i), strD (S i ++ [32, 9])]) (f := fun i => .int (kindOf (S i))) hA.hh (by kernel_rfl) (Ev.name hd) (.inl (by kernel_rfl)) (by kernel_rfl) (fun i hi => ?_))) (.inr ⟨by kernel_rfl, mem_cell (by decide +kernel)⟩) (fun env H => by cases env; cases H.scope; rfl)
  have hs := hs i hi
  have hz := (signs_head _ hs).2.2
  have hz' : ((⟨(S i ++ [32, 9]).toArray⟩ : Str)).length ≤ 1048576 := by
    show Array.size _ ≤ _
    rw [List.size_toArray, List.length_append]
    show _ + 2 ≤ _
    omega
  exact ev_tab (by kernel_rfl) hs (Ev.cast (Ev.sliceS_to (b := -2) (Ev.idxL (Ev.name rfl) Ev.int (by decide) (by decide) rfl) (Ev.neg Ev.int) hz') (congrArg D.str (slice_to_neg (S i) 32 9))) (fun _ _ => rfl)
set_option maxHeartbeats 2000000 in
theorem law_9 {L S : Nat → List Nat} (hA : Ok 20 A) (h : (KK w).lookup 157 = some ⟨oc, odd, .func fd, osl⟩) (hb : fd.body = .stmts body)
    (hw : ρ.lookup (sO "leads") = some (.list (four fun i => wOf (rowOfL (L i) (S i)) (L i)))) :
    Ex prog w A fd.scope lawCn lawOwn ρ (body.getD 9 default) (.next ((sO "alike", .list (six fun i j => .bool (sameNorm (L j) (L i)))) :: ρ)) := by
  have h' : some (⟨_, _, .func _, _⟩ : Obj) = some _ := h
  cases h'
  cases hb
  show Ex _ _ _ _ _ _ _ (.Assign [.Name _ _] (.ListComp _ [⟨_, _, _, _⟩, ⟨_, _, _, _⟩] _ _) _) _
  refine Ex.assignComp (comp6 (f := fun i j => .bool (sameNorm (L j) (L i))) hA.hh (by kernel_rfl) (by kernel_rfl) (by kernel_rfl) (by kernel_rfl) (by kernel_rfl) (by decide) (by kernel_rfl) (by kernel_rfl) (by kernel_rfl) (by decide) (by decide) (fun i j hi hj => ?_)) (by kernel_rfl) (fun env H => by cases env; cases H.scope; rfl)
  have hj4 : j < 4 := by omega
  refine Ev.meth (n := 3) (hA.le (by decide)) (Ev.idxL (k := (j : Int)) (Ev.name (look_skip (look_skip (vis_look hw)))) (Ev.name rfl) (by omega) (by omega) (four_get? hj4)) (Evs.cons (Ev.idxL (k := (i : Int)) (Ev.name (look_skip (look_skip (vis_look hw)))) (Ev.name rfl) (by omega) (by omega) (four_get? hi)) Evs.nil) (by kernel_rfl) (by kernel_rfl) (by kernel_rfl) (.inr (.inl rfl)) fun_equal rfl
end
end Mine
end

section
set_option maxRecDepth 4000
namespace Mine
open R

/-- how four numbers stand -/
abbrev ltN (n : Nat → Int) : Nat → Nat → Bool := ltB (decide (n 0 < n 1)) (decide (n 0 < n 2)) (decide (n 0 < n 3)) (decide (n 1 < n 2)) (decide (n 1 < n 3)) (decide (n 2 < n 3))
theorem not_lt_of {a b : Int} (h : a ≠ b) : (!decide (a < b)) = decide (b < a) := by
  by_cases h1 : a < b
  · rw [decide_eq_true h1, decide_eq_false (by omega)]; rfl
  · rw [decide_eq_false h1, decide_eq_true (by omega)]; rfl
theorem ltN_eq {n : Nat → Int} (h : (four n).Nodup) {i j : Nat} (hi : i < 4) (hj : j < 4) : ltN n i j = decide (n i < n j) := by
  simp only [four, List.nodup_cons, List.mem_cons, List.not_mem_nil, or_false, not_or, List.nodup_nil, and_true, not_false_iff] at h
  obtain ⟨⟨h01, h02, h03⟩, ⟨h12, h13⟩, h23⟩ := h
  have ir : ∀ k, false = decide (n k < n k) := fun k => (decide_eq_false (by omega)).symm
  match i, j, hi, hj with
  | 0, 0, _, _ => exact ir 0
  | 0, 1, _, _ => rfl
  | 0, 2, _, _ => rfl
  | 0, 3, _, _ => rfl
  | 1, 0, _, _ => exact not_lt_of h01
  | 1, 1, _, _ => exact ir 1
  | 1, 2, _, _ => rfl
  | 1, 3, _, _ => rfl
  | 2, 0, _, _ => exact not_lt_of h02
  | 2, 1, _, _ => exact not_lt_of h12
  | 2, 2, _, _ => exact ir 2
  | 2, 3, _, _ => rfl
  | 3, 0, _, _ => exact not_lt_of h03
  | 3, 1, _, _ => exact not_lt_of h13
  | 3, 2, _, _ => exact not_lt_of h23
  | 3, 3, _, _ => exact ir 3
theorem trN {n : Nat → Int} (h : (four n).Nodup) : trB (decide (n 0 < n 1)) (decide (n 0 < n 2)) (decide (n 0 < n 3)) (decide (n 1 < n 2)) (decide (n 1 < n 3)) (decide (n 2 < n 3)) = true := by
  simp only [four, List.nodup_cons, List.mem_cons, List.not_mem_nil, or_false, not_or, List.nodup_nil, and_true, not_false_iff] at h
  obtain ⟨⟨h01, h02, h03⟩, ⟨h12, h13⟩, h23⟩ := h
  unfold trB
  rw [tri_of h01 h12 h02, tri_of h01 h13 h03, tri_of h02 h23 h03, tri_of h12 h23 h13]; rfl
/-- the lesser numbers -/
def lesserL (n : Nat → Int) (i : Nat) : List Int := ((List.range 4).filter fun j => decide (n j < n i)).map n
theorem lens_key : ∀ a b c d e f : Bool, trB a b c d e f = true → List.isPerm ([0, 1, 2, 3] : List Int) (four fun i => ((((List.range 4).filter fun j => ltB a b c d e f j i).length : Nat) : Int)) = true := by decide +kernel
theorem lens_perm {n : Nat → Int} (h : (four n).Nodup) : ([0, 1, 2, 3] : List Int).Perm (four fun i => ((lesserL n i).length : Int)) := by
  have k := List.isPerm_iff.mp (lens_key _ _ _ _ _ _ (trN h))
  have e : ∀ i, i < 4 → ((List.range 4).filter fun j => ltN n j i).length = (lesserL n i).length := fun i hi => by
    unfold lesserL
    rw [List.length_map]
    congr 1
    refine List.filter_congr fun j hj => ?_
    exact ltN_eq h (List.mem_range.mp hj) hi
  have e2 : (four fun i => ((((List.range 4).filter fun j => ltN n j i).length : Nat) : Int)) = four fun i => ((lesserL n i).length : Int) := by
    simp only [four]
    rw [e 0 (by decide), e 1 (by decide), e 2 (by decide), e 3 (by decide)]
  rw [← e2]; exact k

section
variable {prog : Program} {w : World} {A : Around} {ρ : Rho}
variable {oc : Value} {odd : Option Addr} {osl : Array (Option Value)} {fd : FuncData} {body : List Stmt}

set_option maxHeartbeats 2000000 in
theorem law_10 {L S : Nat → List Nat} (hA : Ok 20 A) (h : (KK w).lookup 157 = some ⟨oc, odd, .func fd, osl⟩) (hb : fd.body = .stmts body)
    (hl : ∀ i, i < 4 → L i ∈ allLeads)
    (hn : ρ.lookup (sO "numbers") = some (.list (four fun i => .int (kindOf (S i))))) (hd : ρ.lookup (sO "due") = some (.list (four fun i => .int (kindOf (S i)))))
    (ha : ρ.lookup (sO "alike") = some (.list (six fun i j => .bool (sameNorm (L j) (L i))))) (hp : ρ.lookup (sO "places") = some (.list (four fun i => .list ((columnsOf (L i)).map D.int)))) :
    Ex prog w A fd.scope lawCn lawOwn ρ (body.getD 10 default) (.next ρ) := by
  have h' : some (⟨_, _, .func _, _⟩ : Obj) = some _ := h
  cases h'
  cases hb
  clear h
  show Ex _ _ _ _ _ _ _ (.If (.BoolOp _ [.Compare _ _ _ _, .Compare _ _ [.ListComp _ [⟨_, _, _, _⟩, ⟨_, _, _, _⟩] _ _] _] _) _ _ _) _
  refine Ex.if (c := false) (Te.cast (Te.or2 (a := false) (b := false) (Te.cast (Te.cmp (Ev.name hn) (Ev.name hd) (Cmp.neD hA ?_ ?_ ?_ ?_)) ?_)
    (fun _ => Te.cast (Te.cmp (Ev.name ha) (Ev.comp (comp6 (f := fun i j => .bool (sameNorm (L j) (L i))) hA.hh (by kernel_rfl) (by kernel_rfl) (by kernel_rfl) (by kernel_rfl) (by kernel_rfl) (by decide) (by kernel_rfl) (by kernel_rfl) (by kernel_rfl) (by decide) (by decide) (fun i j hi hj => ?_))) (Cmp.neD hA ?_ ?_ ?_ ?_)) ?_)) rfl) (fun h => by cases h) (fun _ => Exs.nil)
  · exact plain_intsL (four fun i => kindOf (S i))
  · exact plain_intsL (four fun i => kindOf (S i))
  · exact depth_intsL (four fun i => kindOf (S i))
  · exact depth_intsL (four fun i => kindOf (S i))
  · rw [eqv_four]; rfl
  · have hj4 : j < 4 := by omega
    have hl1 := hl i hi
    have hl2 := hl j hj4
    refine Ev.cast (Ev.cmp (Ev.idxL (k := (j : Int)) (Ev.name (look_skip (look_skip (vis_look hp)))) (Ev.name rfl) (by omega) (by omega) (four_get? hj4)) (Ev.idxL (k := (i : Int)) (Ev.name (look_skip (look_skip (vis_look hp)))) (Ev.name rfl) (by omega) (by omega) (four_get? hi)) (Cmp.eqD hA (plain_intsL _) (plain_intsL _) (depth_intsL _) (depth_intsL _))) ?_
    rw [eqv_intsL, norm_cols _ hl2 _ hl1]; rfl
  · rfl
  · rfl
  · exact Nat.le_of_ble_eq_true rfl
  · exact Nat.le_of_ble_eq_true rfl
  · rw [eqv_six]; rfl
end
end Mine
end

section
set_option maxRecDepth 4000
namespace Mine
open R

section
variable {prog : Program} {w : World} {A : Around} {ρ : Rho}
variable {oc : Value} {odd : Option Addr} {osl : Array (Option Value)} {fd : FuncData} {body : List Stmt}

set_option maxHeartbeats 2000000 in
theorem law_11 {n : Nat → Int} (hA : Ok 20 A) (h : (KK w).lookup 157 = some ⟨oc, odd, .func fd, osl⟩) (hb : fd.body = .stmts body)
    (hn : ρ.lookup (sO "numbers") = some (.list (four fun i => .int (n i)))) :
    Ex prog w A fd.scope lawCn lawOwn ρ (body.getD 11 default) (.next ((sO "lesser", .list (four fun i => .list ((lesserL n i).map D.int))) :: ρ)) := by
  have h' : some (⟨_, _, .func _, _⟩ : Obj) = some _ := h
  cases h'
  cases hb
  clear h
  show Ex _ _ _ _ _ _ _ (.Assign [.Name _ _] (.ListComp (.ListComp _ [⟨_, _, [_], _⟩] _ _) [⟨_, _, _, _⟩] _ _) _) _
  refine Ex.assignComp (comp4L (g := fun i => .int (n i)) (f := fun i => .list ((lesserL n i).map D.int)) hA.hh (by kernel_rfl) (Ev.name hn) (.inr ⟨by kernel_rfl, by decide +kernel, by decide +kernel⟩) (by kernel_rfl) (fun i hi => ?_)) (by kernel_rfl) (fun env H => by cases env; cases H.scope; rfl)
  have e : outsOf (fun j => decide (n j < n i)) (fun j => [.int (n j)]) 4 = (lesserL n i).map D.int := by
    rw [outsOf_filter]
    unfold lesserL
    rw [List.map_map]; rfl
  rw [← e]
  refine Ev.comp (comp1 hA.hh (Blk.of (by kernel_rfl)) (It.list (ds := four fun i => .int (n i)) hA.hh (Ev.name (look_skip (vis_look hn))) (.inl (by kernel_rfl))) (fun j _ => vis_sub1) (fun j hj => ?_) (fun j hj _ => ?_) (by decide))
  · have hj : j < 4 := hj
    rw [four_get hj]
    unfold Tests
    refine Te.cast (Te.cmp (Ev.callF (n := 2) (hA.le (by decide)) (by kernel_rfl) (by kernel_rfl) (by kernel_rfl) (Evs.cons (Ev.bin (Ev.bin (Ev.gI (i := 256) (by kernel_rfl) (by kernel_rfl)) (Ev.name rfl) Bin.addI) (Ev.name (look_skip (vis_look rfl))) Bin.subI) Evs.nil) fun_isterminal) Ev.bool Cmp.isB) ?_
    by_cases hc : n j < n i
    · rw [decide_eq_true hc, decide_eq_true (by omega)]; rfl
    · rw [decide_eq_false hc, decide_eq_false (by omega)]; rfl
  · have hj : j < 4 := hj
    rw [four_get hj]
    exact Ev.name rfl
set_option maxHeartbeats 2000000 in
theorem law_12 {n : Nat → Int} (hA : Ok 20 A) (h : (KK w).lookup 157 = some ⟨oc, odd, .func fd, osl⟩) (hb : fd.body = .stmts body)
    (hnd : (four n).Nodup) (hn : ρ.lookup (sO "lesser") = some (.list (four fun i => .list ((lesserL n i).map D.int)))) :
    Ex prog w A fd.scope lawCn lawOwn ρ (body.getD 12 default) (.next ρ) := by
  have h' : some (⟨_, _, .func _, _⟩ : Obj) = some _ := h
  cases h'
  cases hb
  clear h
  have hlen : ∀ i, (lesserL n i).length ≤ 4 := fun i => by
    unfold lesserL
    rw [List.length_map]
    exact List.length_filter_le _ (List.range 4)
  show Ex _ _ _ _ _ _ _ (.If (.Compare (.Call (.Name _ _) [.ListComp _ [⟨_, _, _, _⟩] _ _] _ _) _ _ _) _ _ _) _
  refine Ex.if (c := false) (Te.cast (Te.cmp (a := .list (([0, 1, 2, 3] : List Int).map D.int)) (Ev.callB1 (by kernel_rfl) (by kernel_rfl) bb_sorted (Ev.comp (comp4L (g := fun i => .list ((lesserL n i).map D.int)) (f := fun i => .int ((lesserL n i).length : Nat)) hA.hh (by kernel_rfl) (Ev.name hn) (.inl (by kernel_rfl)) (by kernel_rfl) (fun i hi => ?_)))
    (fun X s v hx i => gives_sorted (ns := four fun i => ((lesserL n i).length : Int)) hx i (Nat.le_of_ble_eq_true rfl) [0, 1, 2, 3] (lens_perm hnd) (by decide))) (Ev.list (Evs.cons Ev.int (Evs.cons Ev.int (Evs.cons Ev.int (Evs.cons Ev.int Evs.nil))))) (Cmp.neD hA rfl rfl (Nat.le_of_ble_eq_true rfl) (Nat.le_of_ble_eq_true rfl))) rfl) (fun h => by cases h) (fun _ => Exs.nil)
  refine Ev.callB1 (by kernel_rfl) (by kernel_rfl) bb_len (Ev.name rfl) (fun X s v _ j => ?_)
  have := gives_len (prog := prog) (w := w) (A := A) j (by rw [List.length_map]; have := hlen i; omega)
  rw [List.length_map] at this
  exact this
end
end Mine
end

section
set_option maxRecDepth 4000
namespace Mine
open R

/-- the last one of a list, as a list -/
def lastL {α : Type} (xs : List α) : List α := xs.drop (xs.length - 1)
theorem pick_last {α : Type} (xs : List α) : pickL xs (some (-1)) none = lastL xs := by
  have hc : clipAt xs.length (-1) = xs.length - 1 := by unfold clipAt; rw [if_pos (by decide)]; omega
  rw [pickL_plain]
  show ((xs.drop (clipAt xs.length (-1))).take (xs.length - clipAt xs.length (-1))) = _
  rw [hc]
  unfold lastL
  rw [List.take_of_length_le (by rw [List.length_drop]; omega)]
theorem last_map {α β : Type} (f : α → β) (xs : List α) : lastL (xs.map f) = (lastL xs).map f := by
  unfold lastL
  rw [List.length_map, List.map_drop]
def parL (L : Nat → List Nat) (k : Nat) : List Int := lastL (((List.range k).filter fun j => lessL (L j) (L k)).map fun j : Nat => (j : Int))

section
variable {prog : Program} {w : World} {A : Around} {ρ : Rho}
variable {oc : Value} {odd : Option Addr} {osl : Array (Option Value)} {fd : FuncData} {body : List Stmt}

set_option maxHeartbeats 2000000 in
theorem law_13 {L S : Nat → List Nat} (hA : Ok 20 A) (h : (KK w).lookup 157 = some ⟨oc, odd, .func fd, osl⟩) (hb : fd.body = .stmts body)
    (hl : ∀ i, i < 4 → L i ∈ allLeads) (hw : ρ.lookup (sO "leads") = some (.list (four fun i => wOf (rowOfL (L i) (S i)) (L i)))) :
    Ex prog w A fd.scope lawCn lawOwn ρ (body.getD 13 default) (.next ((sO "above", .list (four fun i => .list ((parL L i).map D.int))) :: ρ)) := by
  have h' : some (⟨_, _, .func _, _⟩ : Obj) = some _ := h
  cases h'
  cases hb
  clear h
  show Ex _ _ _ _ _ _ _ (.Assign [.Name _ _] (.ListComp (.Subscript (.ListComp _ [⟨_, _, [_], _⟩] _ _) _ _) [⟨_, _, _, _⟩] _ _) _) _
  refine Ex.assign (Ev.comp (comp4R (f := fun i => .list ((parL L i).map D.int)) hA.hh (by kernel_rfl) (.inr ⟨by kernel_rfl, by decide +kernel, by decide +kernel⟩) (by kernel_rfl) (by kernel_rfl) (by kernel_rfl) (fun k hk => ?_))) (.inr ⟨by kernel_rfl, mem_cell (by decide +kernel)⟩) (fun env H => by cases env; cases H.scope; rfl)
  have e : outsOf (fun j => lessL (L j) (L k)) (fun j => [.int j]) k = (((List.range k).filter fun j => lessL (L j) (L k)).map fun j : Nat => (j : Int)).map D.int := by
    rw [outsOf_filter, List.map_map]; rfl
  have e2 : pickL (outsOf (fun j => lessL (L j) (L k)) (fun j => [.int j]) k) (some (-1)) none = (parL L k).map D.int := by
    rw [e, pick_last, last_map]; rfl
  rw [← e2]
  refine Ev.sliceL (Ev.comp (comp1 hA.hh (Blk.of (by kernel_rfl)) (It.range1 (n := (k : Int)) hA.hh (Ev.name rfl) (.inl (by kernel_rfl)) (by kernel_rfl) (by kernel_rfl) (by omega) (by omega)) (fun j _ => vis_sub1) (fun j hj => ?_) (fun j hj _ => Ev.name rfl) ?_)) (show Part _ _ _ _ _ _ (some _) (some (-1)) from Ev.neg Ev.int) (show Part _ _ _ _ _ _ none none from trivial) ?_
  · have hj : j < k := hj
    have hj4 : j < 4 := by omega
    have s1 := (lead_small _ (hl j hj4)).2.2
    have s2 := (lead_small _ (hl k hk)).2.2
    unfold Tests
    refine Te.cast (Te.cmp (Ev.meth (n := 5) (hA.le (by decide)) (Ev.idxL (k := (j : Int)) (Ev.name (look_skip (vis_look (look_skip (vis_look hw))))) (Ev.name rfl) (by omega) (by omega) (four_get? hj4)) (Evs.cons (Ev.idxL (k := (k : Int)) (Ev.name (look_skip (vis_look (look_skip (vis_look hw))))) (Ev.name (look_skip (vis_look rfl))) (by omega) (by omega) (four_get? hk)) Evs.nil) (by kernel_rfl) (by kernel_rfl) (by kernel_rfl) (.inl rfl) (fun_less ?_ ?_ ?_ ?_ ?_ ?_) rfl) Ev.bool Cmp.isB) ?_
    · show (slead (L j)).count.length ≤ _; omega
    · show (slead (L k)).count.length ≤ _; omega
    · show ((slead (L j)).b : Int) < _; omega
    · show ((slead (L k)).b : Int) < _; omega
    · intro x hx; have := s1.2.2 x hx; omega
    · intro x hx; have := s2.2.2 x hx; omega
    · show (lessL (L j) (L k) == true) = _
      cases lessL (L j) (L k) <;> rfl
  · show k ≤ _; omega
  · have := outsOf_length (fun j => lessL (L j) (L k)) (fun j => .int j) k
    show (outsOf (fun j => lessL (L j) (L k)) (fun j => [.int j]) k).length ≤ _
    omega
end
end Mine
end

section
set_option maxRecDepth 4000
namespace Mine
open R

theorem look_none {x y : Str} {d : D} {ρ : Rho} (h : ρ.lookup y = none) (hxy : (y == x) = false := by decide) : List.lookup y ((x, d) :: ρ) = none := by
  rw [lookup_cons_of, if_neg (fun h => by rw [h] at hxy; simp at hxy)]; exact h
theorem look_ne {x y : Str} {e : D} {ρ : Rho} (h : ρ.lookup y = some e) (hx : ρ.lookup x = none) : (y == x) = false := by
  rw [beq_eq_false_iff_ne]
  intro e
  rw [e, hx] at h; cases h
def ordD (o : List Int) : D := .list (o.map D.int)
theorem flat_range {α β : Type} (g : α → List β) (z : α) : ∀ os : List α, (List.range os.length).flatMap (fun i => g (os.getD i z)) = os.flatMap g
  | [] => rfl
  | o :: os => by
    rw [List.length_cons, List.range_succ_eq_map, List.flatMap_cons, List.flatMap_map, List.flatMap_cons]
    congr 1
    rw [← flat_range g z os]; rfl
theorem orders_len (ab : List (List Int)) : ∀ n, (ordersOf ab n).length ≤ 4 ^ n
  | 0 => Nat.le_refl _
  | n + 1 => by
    have ih := orders_len ab n
    rw [ordersOf, List.length_flatMap]
    have : ∀ l : List (List Int), (l.map fun o => (((List.range 4).filter (okK ab o)).map fun k : Nat => o ++ [(k : Int)]).length).sum ≤ 4 * l.length := by
      intro l
      induction l with
      | nil => simp
      | cons o l ihl =>
        rw [List.map_cons, List.sum_cons, List.length_map, List.length_cons]
        have := List.length_filter_le (okK ab o) (List.range 4)
        rw [List.length_range] at this
        omega
    have := this (ordersOf ab n)
    rw [Nat.pow_succ]
    omega
theorem orders_of (ab : List (List Int)) : ∀ n, ∀ o ∈ ordersOf ab n, o.length = n ∧ ∀ x ∈ o, ∃ k : Nat, k < 4 ∧ x = k
  | 0, o, h => by
    simp only [ordersOf, List.mem_singleton] at h
    subst h
    exact ⟨rfl, fun _ h => by cases h⟩
  | n + 1, o, h => by
    obtain ⟨o', h1, h2⟩ := List.mem_flatMap.mp h
    obtain ⟨k, h3, rfl⟩ := List.mem_map.mp h2
    obtain ⟨i1, i2⟩ := orders_of ab n o' h1
    refine ⟨by rw [List.length_append, i1]; rfl, fun x hx => ?_⟩
    rcases List.mem_append.mp hx with hx | hx
    · exact i2 x hx
    · simp only [List.mem_singleton] at hx
      exact ⟨k, List.mem_range.mp (List.mem_filter.mp h3).1, hx⟩

section
variable {prog : Program} {w : World} {A : Around} {ρ : Rho}
variable {oc : Value} {odd : Option Addr} {osl : Array (Option Value)} {fd : FuncData} {body : List Stmt}

set_option maxHeartbeats 2000000 in
theorem law_14 (h : (KK w).lookup 157 = some ⟨oc, odd, .func fd, osl⟩) (hb : fd.body = .stmts body) :
    Ex prog w A fd.scope lawCn lawOwn ρ (body.getD 14 default) (.next ((sO "orders", .list [.list []]) :: ρ)) := by
  have h' : some (⟨_, _, .func _, _⟩ : Obj) = some _ := h
  cases h'
  cases hb
  clear h
  show Ex _ _ _ _ _ _ _ (.Assign [.Name _ _] (.List [.List _ _] _) _) _
  exact Ex.assign (Ev.list (Evs.cons (Ev.list Evs.nil) Evs.nil) (by decide)) (.inl (by kernel_rfl)) (fun _ _ => rfl)
set_option maxHeartbeats 2000000 in
theorem law_15 {par : Nat → List Int} {K : Rho} (hA : Ok 20 A) (h : (KK w).lookup 157 = some ⟨oc, odd, .func fd, osl⟩) (hb : fd.body = .stmts body)
    (ho : ρ.lookup (sO "orders") = some (.list [.list []]))
    (ha : ρ.lookup (sO "above") = some (.list (four fun i => .list ((par i).map D.int))))
    (hK : Sub K ρ) (hK1 : K.lookup (sO "orders") = none) (hK2 : K.lookup (sO "turn") = none) (hK3 : K.lookup (sO "above") = none) :
    Ex prog w A fd.scope lawCn lawOwn ρ (body.getD 15 default) (.next ((sO "orders", .list ((ordersOf (four par) 4).map ordD)) :: (sO "above", .list (four fun i => .list ((par i).map D.int))) :: K)) := by
  have h' : some (⟨_, _, .func _, _⟩ : Obj) = some _ := h
  cases h'
  cases hb
  clear h
  show Ex _ _ _ _ _ _ _ (.For _ _ [.Assign [.Name _ _] (.ListComp _ [⟨_, _, _, _⟩, ⟨_, _, [.BoolOp _ [.Compare _ _ _ _, .Compare (.ListComp _ [⟨_, _, [.BoolOp _ [.Compare _ _ _ _, .Compare _ _ _ _] _], _⟩] _ _) _ _ _] _], _⟩] _ _) _] _ _) _
  refine Ex.for (It.range1 hA.hh Ev.int (.inl (by kernel_rfl)) (by kernel_rfl) (by kernel_rfl) (by decide) (by decide)) (fun t => (sO "orders", .list ((ordersOf (four par) t).map ordD)) :: (sO "above", .list (four fun i => .list ((par i).map D.int))) :: K) 4 (by decide) (Sub.cons ho (Sub.cons ha hK)) (fun t ht => ?_) (.inl ⟨rfl, rfl⟩)
  refine ⟨_, Exs.one (Ex.assignComp (d := .list ((ordersOf (four par) (t + 1)).map ordD)) ?_ (by kernel_rfl) (fun env H => by cases env; cases H.scope; rfl)), Sub.cons rfl (Sub.cons rfl ?_)⟩
  · have hor := orders_of (four par) t
    have e : outsOf (fun _ => true) (fun i => outsOf (okK (four par) ((ordersOf (four par) t).getD i [])) (fun j => [ordD ((ordersOf (four par) t).getD i [] ++ [(j : Int)])]) 4) (ordersOf (four par) t).length = (ordersOf (four par) (t + 1)).map ordD := by
      rw [outsOf_flat]
      refine (flat_range (fun o => outsOf (okK (four par) o) (fun j => [ordD (o ++ [(j : Int)])]) 4) [] _).trans ?_
      rw [ordersOf, List.map_flatMap]
      congr 1
      funext o
      rw [outsOf_filter, List.map_map]; rfl
    have hsz : ((ordersOf (four par) (t + 1)).map ordD).length ≤ 1048576 := by
      have h1 := orders_len (four par) (t + 1)
      have h2 : 4 ^ (t + 1) ≤ 4 ^ 4 := Nat.pow_le_pow_right (by decide) (by omega)
      rw [List.length_map]
      omega
    rw [← e] at hsz ⊢
    generalize ordersOf (four par) t = os at *
    have go : ∀ i, i < os.length → (os.map ordD).getD i default = ordD (os.getD i []) ∧ (os.getD i []).length = t := fun i hi => by
      have hg : os.getD i [] = os[i] := by rw [List.getD_eq_getElem?_getD, List.getElem?_eq_getElem hi]; rfl
      refine ⟨?_, ?_⟩
      · rw [List.getD_eq_getElem?_getD, List.getElem?_map, List.getD_eq_getElem?_getD, List.getElem?_eq_getElem hi]; rfl
      · rw [hg]; exact (hor _ (List.getElem_mem hi)).1
    refine comp2 (p := fun _ => true) (p2 := fun i j => okK (four par) (os.getD i []) j) (f := fun i j => ordD (os.getD i [] ++ [(j : Int)])) (n2 := fun _ => 4) (bs2 := fun _ j => [(sO "k", .int j)]) hA.hh (Blk.of (by kernel_rfl)) (It.cast (It.list (ds := os.map ordD) hA.hh (Ev.name rfl) (.inr ⟨by kernel_rfl, by decide +kernel, by decide +kernel⟩)) (by rw [List.length_map])) (fun i _ => vis_sub1) (fun i _ => ?_) (fun i hi _ => It.range1 (n := 4) hA.hh Ev.int (.inr ⟨by kernel_rfl, by decide +kernel, by decide +kernel⟩) (by kernel_rfl) (by kernel_rfl) (by decide) (by decide)) (fun i j _ _ => sub_skip ?_) (fun i j hi _ hj => ?_) (fun i j hi _ hj hp => ?_) hsz
    · unfold Tests; rfl
    · exact (look_none (vis_none (by kernel_rfl)))
    · rw [(go i hi).1]
      generalize os.getD i [] = o at *
      have e : outsOf (fun i => decide (par i = [(j : Int)]) && !o.contains (i : Int)) (fun i => [.int i]) 4 = (((List.range 4).filter fun i => decide (par i = [(j : Int)]) && !o.contains (i : Int)).map fun i : Nat => (i : Int)).map D.int := by
        rw [outsOf_filter, List.map_map]; rfl
      unfold Tests
      refine Te.cast (Te.and2 (a := !o.contains (j : Int)) (b := decide ((((List.range 4).filter fun i => decide (par i = [(j : Int)]) && !o.contains (i : Int)).map fun i : Nat => (i : Int)) = [])) (Te.cmp (Ev.name rfl) (Ev.name rfl) Cmp.notInI)
        (fun _ => Te.cast (Te.cmp (Ev.cast (Ev.comp (comp1 (p := fun i => decide (par i = [(j : Int)]) && !o.contains (i : Int)) (f := fun i => .int i) hA.hh (Blk.of (by kernel_rfl)) (It.range1 (n := 4) hA.hh Ev.int (.inl (by kernel_rfl)) (by kernel_rfl) (by kernel_rfl) (by decide) (by decide)) (fun i _ => vis_sub1) (fun i hi => ?_) (fun i hi _ => Ev.name rfl) (by decide))) (congrArg D.list e)) (Ev.list (ds := ([] : List Int).map D.int) Evs.nil) (Cmp.eqD hA (plain_intsL _) (plain_intsL _) (depth_intsL _) (depth_intsL _))) (eqv_intsL _ _))) ?_
      · have hi : i < 4 := hi
        unfold Tests
        exact Te.and2 (Te.cast (Te.cmp (Ev.idxL (k := (i : Int)) (Ev.name (look_skip (vis_look (look_skip (look_skip (vis_look rfl)))))) (Ev.name rfl) (by omega) (by omega) (four_get? hi)) (Ev.list (ds := [(j : Int)].map D.int) (Evs.cons (Ev.name (look_skip (vis_look rfl))) Evs.nil) (Nat.le_of_ble_eq_true rfl)) (Cmp.eqD hA (plain_intsL _) (plain_intsL _) (depth_intsL _) (depth_intsL _))) (eqv_intsL _ _)) (fun _ => Te.cmp (Ev.name rfl) (Ev.name (look_skip (vis_look (look_skip rfl)))) Cmp.notInI)
      · unfold okK
        have e2 : ((List.range 4).filter fun i => decide ((four par).getD i [] = [(j : Int)]) && !o.contains (i : Int)) = (List.range 4).filter fun i => decide (par i = [(j : Int)]) && !o.contains (i : Int) :=
          List.filter_congr fun i hi => by rw [four_get (List.mem_range.mp hi)]
        rw [e2]
        congr 1
        cases (List.range 4).filter fun i => decide (par i = [(j : Int)]) && !o.contains (i : Int) <;> rfl
    · rw [(go i hi).1]
      have hol := (go i hi).2
      generalize os.getD i [] = o at *
      unfold ordD
      rw [List.map_append]
      exact Ev.bin (Ev.name rfl) (Ev.list (Evs.cons (Ev.name rfl) Evs.nil) (Nat.le_of_ble_eq_true rfl)) (Bin.addL (by rw [List.length_map]; show o.length + 1 ≤ _; omega))
  · intro y e hy
    exact look_skip (look_skip (look_skip (look_skip hy (look_ne hy hK3)) (look_ne hy hK1)) (look_ne hy hK2)) (look_ne hy hK1)
end
end Mine
end

section
set_option maxRecDepth 4000
namespace Mine
open R

theorem str_app (a b : List Nat) : (⟨a.toArray⟩ : Str) ++ ⟨b.toArray⟩ = ⟨(a ++ b).toArray⟩ := by
  show (⟨_ ++ _⟩ : Str) = _
  simp
theorem mul_dots (n : Int) : Txt.mul (Str.ofString ".") n = ⟨(List.replicate n.toNat 46).toArray⟩ := by
  have h := mul_one_list 46 n
  rw [← h]
  rfl
def descN (n : Nat → Int) (o : List Int) (q : Nat) : Nat := desc (ltN n) o q
def dotsN (n : Nat → Int) (o : List Int) : Nat → Nat
  | 0 => 0
  | q + 1 => dotsN n o q + descN n o q
theorem desc_le (lt : Nat → Nat → Bool) (o : List Int) (q : Nat) : desc lt o q ≤ q + 1 := by
  unfold desc; split <;> omega
theorem row_dots (n : Nat → Int) (o : List Int) : rowOf (ltN n) o = 1 + dotsN n o 3 := by
  show 1 + desc _ o 0 + desc _ o 1 + desc _ o 2 = 1 + (0 + desc _ o 0 + desc _ o 1 + desc _ o 2)
  omega
theorem dotsN_le (n : Nat → Int) (o : List Int) : ∀ q, q ≤ 3 → dotsN n o q ≤ 6 := by
  have h0 := desc_le (ltN n) o 0
  have h1 := desc_le (ltN n) o 1
  have h2 := desc_le (ltN n) o 2
  intro q hq
  match q, hq with
  | 0, _ => show 0 ≤ 6; omega
  | 1, _ => show 0 + desc _ o 0 ≤ 6; omega
  | 2, _ => show 0 + desc _ o 0 + desc _ o 1 ≤ 6; omega
  | 3, _ => show 0 + desc _ o 0 + desc _ o 1 + desc _ o 2 ≤ 6; omega
theorem lesser_has {n : Nat → Int} {a b : Nat} (ha : a < 4) : (lesserL n b).contains (n a) = decide (n a < n b) := by
  unfold lesserL
  by_cases h : n a < n b
  · rw [decide_eq_true h]
    rw [List.contains_iff_mem]
    exact List.mem_map_of_mem (List.mem_filter.mpr ⟨List.mem_range.mpr ha, decide_eq_true h⟩)
  · rw [decide_eq_false h]
    rw [Bool.eq_false_iff]
    intro hc
    rw [List.contains_iff_mem] at hc
    obtain ⟨j, hj, e⟩ := List.mem_map.mp hc
    have := of_decide_eq_true (List.mem_filter.mp hj).2
    rw [e] at this
    exact h this
theorem order_at {o : List Int} (ho : o.length = 4 ∧ ∀ x ∈ o, ∃ k : Nat, k < 4 ∧ x = k) {q : Nat} (hq : q < 4) : (o.map D.int)[q]? = some (.int ((o.getD q 0).toNat : Nat)) ∧ (o.getD q 0).toNat < 4 := by
  have hl : q < o.length := by omega
  have hg : o.getD q 0 = o[q] := by rw [List.getD_eq_getElem?_getD, List.getElem?_eq_getElem hl]; rfl
  obtain ⟨k, hk, e⟩ := ho.2 _ (List.getElem_mem hl)
  rw [List.getElem?_map, List.getElem?_eq_getElem hl, hg, e]
  exact ⟨rfl, by rw [Int.toNat_natCast]; exact hk⟩
theorem take_next {α β : Type} (f : α → β) (z : α) {os : List α} {m : Nat} (h : m < os.length) : (os.take (m + 1)).map f = (os.take m).map f ++ [f (os.getD m z)] := by
  rw [List.take_succ_eq_append_getElem h, List.map_append, List.getD_eq_getElem?_getD, List.getElem?_eq_getElem h]; rfl
theorem look_in {ρ : Rho} {y : Str} {d : D} (h : ρ.lookup y = some d) {τ : Rho} (hx : τ.all (fun p => (ρ.lookup p.1).isNone) = true) : (τ ++ ρ).lookup y = some d := by
  induction τ with
  | nil => exact h
  | cons p τ ih =>
    rw [List.all_cons, Bool.and_eq_true] at hx
    refine look_skip (ih hx.2) (look_ne h ?_)
    simpa using hx.1

section
variable {prog : Program} {w : World} {A : Around} {ρ : Rho}
variable {oc : Value} {odd : Option Addr} {osl : Array (Option Value)} {fd : FuncData} {body : List Stmt}

set_option maxHeartbeats 2000000 in
theorem law_16 (h : (KK w).lookup 157 = some ⟨oc, odd, .func fd, osl⟩) (hb : fd.body = .stmts body) :
    Ex prog w A fd.scope lawCn lawOwn ρ (body.getD 16 default) (.next ((sO "mail", strD []) :: ρ)) := by
  have h' : some (⟨_, _, .func _, _⟩ : Obj) = some _ := h
  cases h'
  cases hb
  clear h
  show Ex _ _ _ _ _ _ _ (.Assign [.Name _ _] (.Constant _ _ _) _) _
  exact Ex.assign Ev.str (.inl (by kernel_rfl)) (fun _ _ => rfl)
set_option maxHeartbeats 2000000 in
theorem law_17 {n : Nat → Int} {os : List (List Int)} {K : Rho} (hA : Ok 20 A) (h : (KK w).lookup 157 = some ⟨oc, odd, .func fd, osl⟩) (hb : fd.body = .stmts body)
    (hnd : (four n).Nodup) (hos : ∀ o ∈ os, o.length = 4 ∧ ∀ x ∈ o, ∃ k : Nat, k < 4 ∧ x = k) (hol : os.length ≤ 256)
    (hm : ρ.lookup (sO "mail") = some (strD [])) (ho : ρ.lookup (sO "orders") = some (.list (os.map ordD)))
    (hn : ρ.lookup (sO "numbers") = some (.list (four fun i => .int (n i)))) (hls : ρ.lookup (sO "lesser") = some (.list (four fun i => .list ((lesserL n i).map D.int))))
    (hK : Sub K ρ) (hK1 : [sO "mail", sO "numbers", sO "lesser", sO "order", sO "i"].all (fun x => (K.lookup x).isNone) = true) :
    Ex prog w A fd.scope lawCn lawOwn ρ (body.getD 17 default) (.next ((sO "mail", strD (txt (os.map (rowOf (ltN n))))) :: (sO "numbers", .list (four fun i => .int (n i))) :: (sO "lesser", .list (four fun i => .list ((lesserL n i).map D.int))) :: K)) := by
  have h' : some (⟨_, _, .func _, _⟩ : Obj) = some _ := h
  cases h'
  cases hb
  clear h
  have hrow : ∀ m, (txt ((os.take m).map (rowOf (ltN n)))).length ≤ 256 * 9 := fun m => by
    have h1 := txt_len ((os.take m).map (rowOf (ltN n))) 7 fun d hd => by
      obtain ⟨o, _, rfl⟩ := List.mem_map.mp hd
      have := dotsN_le n o 3 (by decide)
      rw [row_dots]; omega
    rw [List.length_map, List.length_take] at h1
    have : min m os.length * (7 + 2) ≤ 256 * 9 := Nat.mul_le_mul (by omega) (by decide)
    omega
  simp only [List.all_cons, List.all_nil, Bool.and_true, Bool.and_eq_true, Option.isNone_iff_eq_none] at hK1
  obtain ⟨k1, k2, k3, k4, k5⟩ := hK1
  show Ex _ _ _ _ _ _ _ (.For _ _ [.Assign [.Name _ _] (.BinOp _ _ _ _) _, .For _ _ [.If (.Compare _ _ _ _) [.Assign [.Name _ _] (.BinOp _ _ (.BinOp _ _ _ _) _) _] [] _] _ _, .Assign [.Name _ _] (.BinOp _ _ _ _) _] _ _) _
  refine Ex.for (It.cast (It.list (ds := os.map ordD) hA.hh (Ev.name ho) (.inl (by kernel_rfl))) (by rw [List.length_map])) (fun m => (sO "mail", strD (txt ((os.take m).map (rowOf (ltN n))))) :: (sO "numbers", .list (four fun i => .int (n i))) :: (sO "lesser", .list (four fun i => .list ((lesserL n i).map D.int))) :: K) os.length (Nat.le_refl _) (Sub.cons hm (Sub.cons hn (Sub.cons hls hK))) (fun m hlt => ?_) (.inl ⟨rfl, by rw [List.take_length]⟩)
  have hg : (os.map ordD).getD m default = ordD (os.getD m []) := by
    rw [List.getD_eq_getElem?_getD, List.getElem?_map, List.getD_eq_getElem?_getD, List.getElem?_eq_getElem hlt]; rfl
  have hoo : (os.getD m []).length = 4 ∧ ∀ x ∈ os.getD m [], ∃ k : Nat, k < 4 ∧ x = k := by
    have : os.getD m [] = os[m] := by rw [List.getD_eq_getElem?_getD, List.getElem?_eq_getElem hlt]; rfl
    rw [this]; exact hos _ (List.getElem_mem hlt)
  have hnx := take_next (rowOf (ltN n)) [] hlt
  have hm1 := hrow m
  rw [hg]
  generalize os.getD m [] = o at *
  have hnew : txt ((os.take (m + 1)).map (rowOf (ltN n))) = txt ((os.take m).map (rowOf (ltN n))) ++ [46] ++ List.replicate (dotsN n o 3) 46 ++ [13, 10] := by
    rw [hnx, txt_append, row_dots, Nat.add_comm 1]
    show _ ++ txt [dotsN n o 3 + 1] = _
    rw [txt_cons, List.replicate_succ]
    simp [txt]
  rw [hnew]
  generalize hml : txt ((os.take m).map (rowOf (ltN n))) = ml at *
  have kk : ∀ {y : Str} {e : D}, K.lookup y = some e → (y == sO "mail") = false ∧ (y == sO "numbers") = false ∧ (y == sO "lesser") = false ∧ (y == sO "order") = false ∧ (y == sO "i") = false := fun hy =>
    ⟨look_ne hy k1, look_ne hy k2, look_ne hy k3, look_ne hy k4, look_ne hy k5⟩
  have add : ∀ (l r : List Nat), D.str ((⟨l.toArray⟩ : Str) ++ ⟨r.toArray⟩) = strD (l ++ r) := fun l r => congrArg D.str (str_app l r)
  have sz : ∀ l : List Nat, ((⟨l.toArray⟩ : Str)).length = l.length := fun l => by show Array.size _ = _; rw [List.size_toArray]
  refine ⟨_, Exs.cons (Ex.assign (Ev.cast (Ev.bin (Ev.name (d := strD ml) rfl) Ev.str (Bin.addS ?_)) (add ml [46])) (.inl (by kernel_rfl)) (fun _ _ => rfl))
    (Exs.cons (Ex.for (It.range2 hA.hh Ev.int Ev.int (.inl (by kernel_rfl)) (by kernel_rfl) (by kernel_rfl) (by decide) (by decide) (by decide) (by decide))
      (fun q => (sO "mail", strD (ml ++ [46] ++ List.replicate (dotsN n o q) 46)) :: (sO "order", ordD o) :: (sO "numbers", .list (four fun i => .int (n i))) :: (sO "lesser", .list (four fun i => .list ((lesserL n i).map D.int))) :: K) 3 (by decide) (Sub.cons ?_ (Sub.cons rfl (Sub.cons rfl (Sub.cons rfl (fun y e hy => ?_))))) (fun q hq => ?_) (.inl ⟨rfl, rfl⟩))
      (Exs.one (Ex.assign (Ev.cast (Ev.bin (Ev.name (d := strD (ml ++ [46] ++ List.replicate (dotsN n o 3) 46)) rfl) Ev.str (Bin.addS ?_)) (add (ml ++ [46] ++ List.replicate (dotsN n o 3) 46) [13, 10])) (.inl (by kernel_rfl)) (fun _ _ => rfl)))), Sub.cons rfl (Sub.cons rfl (Sub.cons rfl (fun y e hy => ?_)))⟩
  · rw [sz]; show _ + 1 ≤ _; omega
  · show some (strD (ml ++ [46])) = some (strD (ml ++ [46] ++ []))
    rw [List.append_nil]
  · obtain ⟨h1, h2, h3, h4, h5⟩ := kk hy
    exact look_skip (look_skip (look_skip (look_skip (look_skip hy h3) h2) h1) h4) h1
  · have oa := order_at hoo (q := q + 1) (by omega)
    have ob := order_at hoo (q := q) (by omega)
    have hd : descN n o q = if decide (n (o.getD (q + 1) 0).toNat < n (o.getD q 0).toNat) then q + 1 else 0 := by
      show (if ltN n (o.getD (q + 1) 0).toNat (o.getD q 0).toNat then q + 1 else 0) = _
      rw [ltN_eq hnd oa.2 ob.2]
    have hlh := lesser_has (n := n) (b := (o.getD q 0).toNat) oa.2
    have hdq := dotsN_le n o q (by omega)
    generalize (o.getD (q + 1) 0).toNat = a at *
    generalize (o.getD q 0).toNat = b at *
    have e1 : ((1 : Int) + (q : Int)).toNat = q + 1 := by omega
    have e2 : ((1 : Int) + (q : Int) - 1).toNat = q := by omega
    refine ⟨(sO "mail", strD (ml ++ [46] ++ List.replicate (dotsN n o (q + 1)) 46)) :: (sO "i", .int (1 + (q : Int))) :: (sO "mail", strD (ml ++ [46] ++ List.replicate (dotsN n o q) 46)) :: (sO "order", ordD o) :: (sO "numbers", .list (four fun i => .int (n i))) :: (sO "lesser", .list (four fun i => .list ((lesserL n i).map D.int))) :: K, Exs.one (Ex.if (c := decide (n a < n b)) (Te.cast (Te.cmp (Ev.idxL (k := (a : Int)) (Ev.name rfl) (Ev.idxL (k := 1 + (q : Int)) (ds := o.map D.int) (Ev.name rfl) (Ev.name rfl) (by omega) (by omega) (by rw [e1]; exact oa.1)) (by omega) (by omega) (four_get? oa.2)) (Ev.idxL (k := (b : Int)) (Ev.name rfl) (Ev.idxL (k := 1 + (q : Int) - 1) (ds := o.map D.int) (Ev.name rfl) (Ev.bin (Ev.name rfl) Ev.int Bin.subI) (by omega) (by omega) (by rw [e2]; exact ob.1)) (by omega) (by omega) (four_get? ob.2)) Cmp.inI) hlh) (fun hc => ?_) (fun hc => ?_)), Sub.cons rfl (Sub.cons rfl (Sub.cons rfl (Sub.cons rfl (fun y e hy => ?_))))⟩
    · have e3 : dotsN n o (q + 1) = dotsN n o q + (q + 1) := by show dotsN n o q + descN n o q = _; rw [hd, if_pos hc]
      have e4 : strD (ml ++ [46] ++ List.replicate (dotsN n o (q + 1)) 46) = strD ((ml ++ [46] ++ List.replicate (dotsN n o q) 46) ++ List.replicate (q + 1) 46) := by
        rw [e3, List.append_assoc _ _ (List.replicate (q + 1) 46), List.replicate_append_replicate]
      rw [e4]
      refine Exs.one (Ex.assign (Ev.cast (Ev.bin (Ev.name (d := strD (ml ++ [46] ++ List.replicate (dotsN n o q) 46)) rfl) (Ev.cast (Ev.bin Ev.str (Ev.name rfl) (Bin.mulS (n := 1 + (q : Int)) (by omega) (by omega) ?_ rfl)) (congrArg D.str ((mul_dots (1 + (q : Int))).trans (by rw [e1])))) (Bin.addS ?_)) (add _ _)) (.inl (by kernel_rfl)) (fun _ _ => rfl))
      · rw [e1]; show 1 * (q + 1) ≤ _; omega
      · rw [sz, sz, List.length_append, List.length_append, List.length_replicate, List.length_replicate]
        show _ + 1 + _ + _ ≤ _
        omega
    · have e3 : dotsN n o (q + 1) = dotsN n o q := by show dotsN n o q + descN n o q = _; rw [hd, if_neg (by rw [hc]; decide)]; rfl
      rw [e3]
      exact Exs.weak Exs.nil (Sub.cons rfl (Sub.refl _))
    · obtain ⟨h1, h2, h3, h4, h5⟩ := kk hy
      exact look_skip (look_skip (look_skip (look_skip (look_skip (look_skip hy h3) h2) h4) h1) h5) h1
  · rw [sz, List.length_append, List.length_append, List.length_replicate]
    have := dotsN_le n o 3 (by decide)
    show _ + 1 + _ + 2 ≤ _
    omega
  · obtain ⟨h1, h2, h3, h4, h5⟩ := kk hy
    exact look_skip (look_skip (look_skip (look_skip (look_skip hy h3) h2) h4) h1) h1
end
end Mine
end

section
set_option maxRecDepth 4000
namespace Mine
open R

def stAt (lt : Nat → Nat → Bool) (ab : List (List Int)) : Nat → List Nat × Nat
  | 0 => ([1, 1, 1, 1], 1)
  | m + 1 => stepK lt ab (stAt lt ab m) (3 - m)
theorem hooks_eq (lt : Nat → Nat → Bool) (ab : List (List Int)) : hooks lt ab = stAt lt ab 3 := rfl
theorem hang_get (s : List Nat) (j k : Nat) {i : Nat} (hi : i < 4) : (hang s j k).getD i 0 = if i = j then s.getD i 0 + s.getD k 0 else s.getD i 0 := by
  match i, hi with
  | 0, _ => rfl
  | 1, _ => rfl
  | 2, _ => rfl
  | 3, _ => rfl
theorem hang_le {s : List Nat} {b : Nat} (h : ∀ i, i < 4 → s.getD i 0 ≤ b) (j : Nat) {k : Nat} (hk : k < 4) : ∀ i, i < 4 → (hang s j k).getD i 0 ≤ 2 * b := fun i hi => by
  rw [hang_get s j k hi]
  have h1 := h i hi
  have h2 := h k hk
  split <;> omega
theorem step_le (lt : Nat → Nat → Bool) (ab : List (List Int)) {st : List Nat × Nat} {k : Nat} (hk : k < 4) {b c : Nat} (h : ∀ i, i < 4 → st.1.getD i 0 ≤ b) (h2 : st.2 ≤ c) : (∀ i, i < 4 → (stepK lt ab st k).1.getD i 0 ≤ 2 * b) ∧ (stepK lt ab st k).2 ≤ c + 2 * b := by
  unfold stepK
  split
  · exact ⟨fun i hi => by have := h i hi; omega, by omega⟩
  · rename_i j _ _
    have hh := hang_le h j.toNat hk
    refine ⟨hh, ?_⟩
    show (if lt j.toNat k = true then st.2 + (hang st.1 j.toNat k).getD k 0 else st.2) ≤ _
    have := hh k hk
    split <;> omega
theorem st_le (lt : Nat → Nat → Bool) (ab : List (List Int)) : ∀ m, m ≤ 3 → (∀ i, i < 4 → (stAt lt ab m).1.getD i 0 ≤ 8) ∧ (stAt lt ab m).2 ≤ 100 := by
  have h0 : (∀ i, i < 4 → (stAt lt ab 0).1.getD i 0 ≤ 1) ∧ (stAt lt ab 0).2 ≤ 1 := ⟨fun i hi => by
    match i, hi with
    | 0, _ => exact Nat.le_refl _
    | 1, _ => exact Nat.le_refl _
    | 2, _ => exact Nat.le_refl _
    | 3, _ => exact Nat.le_refl _, Nat.le_refl _⟩
  have h1 := step_le lt ab (k := 3) (by decide) h0.1 h0.2
  have h2 := step_le lt ab (k := 2) (by decide) h1.1 h1.2
  have h3 := step_le lt ab (k := 1) (by decide) h2.1 h2.2
  intro m hm
  match m, hm with
  | 0, _ => exact ⟨fun i hi => by have := h0.1 i hi; omega, by have := h0.2; omega⟩
  | 1, _ => exact ⟨fun i hi => Nat.le_trans (h1.1 i hi) (by omega), Nat.le_trans h1.2 (by omega)⟩
  | 2, _ => exact ⟨fun i hi => Nat.le_trans (h2.1 i hi) (by omega), Nat.le_trans h2.2 (by omega)⟩
  | 3, _ => exact ⟨fun i hi => Nat.le_trans (h3.1 i hi) (by omega), Nat.le_trans h3.2 (by omega)⟩
theorem geL_range : ∀ (as bs : List Int), (List.range (min as.length bs.length)).flatMap (fun q => if decide (as.getD q 0 ≥ bs.getD q 0) = true then [D.int (as.getD q 0)] else []) = (geL as bs).map D.int
  | [], bs => by simp [geL]
  | a :: as, [] => by simp [geL]
  | a :: as, b :: bs => by
    have ih := geL_range as bs
    have e : min (a :: as).length (b :: bs).length = min as.length bs.length + 1 := by show min (as.length + 1) (bs.length + 1) = _; omega
    rw [e, List.range_succ_eq_map, List.flatMap_cons, List.flatMap_map]
    have e2 : (List.range (min as.length bs.length)).flatMap ((fun q => if decide ((a :: as).getD q 0 ≥ (b :: bs).getD q 0) = true then [D.int ((a :: as).getD q 0)] else []) ∘ Nat.succ) = (geL as bs).map D.int := ih
    show (if decide (a ≥ b) = true then [D.int a] else []) ++ _ = _
    unfold geL
    by_cases h : a ≥ b
    · rw [if_pos (decide_eq_true h), if_pos h, List.map_cons]
      exact congrArg (fun l => D.int a :: l) ih
    · rw [if_neg (by simpa using h), if_neg h]
      exact ih
theorem map_getD {as : List Int} {q : Nat} (h : q < as.length) : (as.map D.int).getD q default = .int (as.getD q 0) := by
  rw [List.getD_eq_getElem?_getD, List.getElem?_map, List.getD_eq_getElem?_getD, List.getElem?_eq_getElem h]; rfl
abbrev fr20 (L : Nat → List Nat) (n : Nat → Int) (st : List Nat × Nat) (K : Rho) : Rho := (sO "lone", strD (List.replicate st.2 46)) :: (sO "sizes", .list (four fun i => .int (st.1.getD i 0 : Nat))) :: (sO "places", .list (four fun i => .list ((columnsOf (L i)).map D.int))) :: (sO "due", .list (four fun i => .int (n i))) :: K
theorem step_none {lt : Nat → Nat → Bool} {ab : List (List Int)} {st : List Nat × Nat} {k : Nat} (h : ab.getD k [] = []) : stepK lt ab st k = st := by unfold stepK; rw [h]
theorem step_some {lt : Nat → Nat → Bool} {ab : List (List Int)} {st : List Nat × Nat} {k j : Nat} (h : ab.getD k [] = [(j : Int)]) : stepK lt ab st k = (hang st.1 j k, if lt j k then st.2 + (hang st.1 j k).getD k 0 else st.2) := by unfold stepK; rw [h]; rfl
theorem par_cases (L : Nat → List Nat) (k : Nat) : parL L k = [] ∨ ∃ j : Nat, j < k ∧ parL L k = [(j : Int)] := by
  have : ∀ xs : List Nat, (∀ x ∈ xs, x < k) → lastL (xs.map fun j : Nat => (j : Int)) = [] ∨ ∃ j : Nat, j < k ∧ lastL (xs.map fun j : Nat => (j : Int)) = [(j : Int)] := fun xs h => by
    rcases List.eq_nil_or_concat xs with rfl | ⟨ys, y, rfl⟩
    · exact .inl rfl
    · refine .inr ⟨y, h y (by simp), ?_⟩
      unfold lastL
      simp
  exact this _ fun x hx => List.mem_range.mp (List.mem_filter.mp hx).1

section
variable {prog : Program} {w : World} {A : Around} {ρ : Rho}
variable {oc : Value} {odd : Option Addr} {osl : Array (Option Value)} {fd : FuncData} {body : List Stmt}

set_option maxHeartbeats 2000000 in
theorem law_18 (h : (KK w).lookup 157 = some ⟨oc, odd, .func fd, osl⟩) (hb : fd.body = .stmts body) :
    Ex prog w A fd.scope lawCn lawOwn ρ (body.getD 18 default) (.next ((sO "lone", strD [46]) :: ρ)) := by
  have h' : some (⟨_, _, .func _, _⟩ : Obj) = some _ := h
  cases h'
  cases hb
  clear h
  show Ex _ _ _ _ _ _ _ (.Assign [.Name _ _] (.Constant _ _ _) _) _
  exact Ex.assign Ev.str (.inl (by kernel_rfl)) (fun _ _ => rfl)
set_option maxHeartbeats 2000000 in
theorem law_19 (h : (KK w).lookup 157 = some ⟨oc, odd, .func fd, osl⟩) (hb : fd.body = .stmts body) :
    Ex prog w A fd.scope lawCn lawOwn ρ (body.getD 19 default) (.next ((sO "sizes", .list (four fun _ => .int 1)) :: ρ)) := by
  have h' : some (⟨_, _, .func _, _⟩ : Obj) = some _ := h
  cases h'
  cases hb
  clear h
  show Ex _ _ _ _ _ _ _ (.Assign [.Name _ _] (.List _ _) _) _
  exact Ex.assign (Ev.list (Evs.cons Ev.int (Evs.cons Ev.int (Evs.cons Ev.int (Evs.cons Ev.int Evs.nil)))) (by decide)) (.inr ⟨by kernel_rfl, mem_cell (by decide +kernel)⟩) (fun env H => by cases env; cases H.scope; rfl)
set_option maxHeartbeats 2000000 in
theorem law_20 {L : Nat → List Nat} {n : Nat → Int} {K : Rho} (hA : Ok 20 A) (h : (KK w).lookup 157 = some ⟨oc, odd, .func fd, osl⟩) (hb : fd.body = .stmts body)
    (hl : ∀ i, i < 4 → L i ∈ allLeads) (hnd : (four n).Nodup)
    (h1 : ρ.lookup (sO "lone") = some (strD [46])) (h2 : ρ.lookup (sO "sizes") = some (.list (four fun _ => .int 1)))
    (h3 : ρ.lookup (sO "places") = some (.list (four fun i => .list ((columnsOf (L i)).map D.int)))) (h4 : ρ.lookup (sO "due") = some (.list (four fun i => .int (n i))))
    (hK : Sub K ρ) (hK1 : [sO "lone", sO "sizes", sO "places", sO "due", sO "k", sO "j"].all (fun x => (K.lookup x).isNone) = true) :
    Ex prog w A fd.scope lawCn lawOwn ρ (body.getD 20 default) (.next ((sO "lone", strD (List.replicate (stAt (ltN n) (four (parL L)) 3).2 46)) :: (sO "sizes", .list (four fun i => .int ((stAt (ltN n) (four (parL L)) 3).1.getD i 0 : Nat))) :: (sO "places", .list (four fun i => .list ((columnsOf (L i)).map D.int))) :: (sO "due", .list (four fun i => .int (n i))) :: K)) := by
  have h' : some (⟨_, _, .func _, _⟩ : Obj) = some _ := h
  cases h'
  cases hb
  clear h
  simp only [List.all_cons, List.all_nil, Bool.and_true, Bool.and_eq_true, Option.isNone_iff_eq_none] at hK1
  obtain ⟨k1, k2, k3, k4, k5, k6⟩ := hK1
  have kk : ∀ {y : Str} {e : D}, K.lookup y = some e → (y == sO "lone") = false ∧ (y == sO "sizes") = false ∧ (y == sO "places") = false ∧ (y == sO "due") = false ∧ (y == sO "k") = false ∧ (y == sO "j") = false := fun hy =>
    ⟨look_ne hy k1, look_ne hy k2, look_ne hy k3, look_ne hy k4, look_ne hy k5, look_ne hy k6⟩
  show Ex _ _ _ _ _ _ _ (.For _ _ [.For _ (.Subscript (.ListComp _ [⟨_, _, [.Compare (.ListComp _ [⟨_, _, [.Compare _ _ _ _], _⟩] _ _) _ _ _], _⟩] _ _) _ _) [.Assign [.Name _ _] (.ListComp (.IfExp _ _ _ _) [⟨_, _, _, _⟩] _ _) _, .If (.Compare _ _ _ _) [.Assign [.Name _ _] (.BinOp _ _ (.BinOp _ _ _ _) _) _] [] _] _ _] _ _) _
  refine Ex.for (It.list (ds := [.int 3, .int 2, .int 1]) hA.hh (Ev.list (Evs.cons Ev.int (Evs.cons Ev.int (Evs.cons Ev.int Evs.nil))) (by decide)) (.inr ⟨by kernel_rfl, mem_cell (by decide +kernel)⟩))
    (fun m => (sO "lone", strD (List.replicate (stAt (ltN n) (four (parL L)) m).2 46)) :: (sO "sizes", .list (four fun i => .int ((stAt (ltN n) (four (parL L)) m).1.getD i 0 : Nat))) :: (sO "places", .list (four fun i => .list ((columnsOf (L i)).map D.int))) :: (sO "due", .list (four fun i => .int (n i))) :: K) 3 (by decide) (Sub.cons h1 (Sub.cons h2 (Sub.cons h3 (Sub.cons h4 hK)))) (fun m hm => ?_) (.inl ⟨rfl, rfl⟩)
  have hgk : [D.int 3, D.int 2, D.int 1].getD m default = .int ((3 - m : Nat) : Int) := by
    match m, hm with
    | 0, _ => rfl
    | 1, _ => rfl
    | 2, _ => rfl
  rw [hgk]
  have hst := st_le (ltN n) (four (parL L)) m (by omega)
  have hnext : stAt (ltN n) (four (parL L)) (m + 1) = stepK (ltN n) (four (parL L)) (stAt (ltN n) (four (parL L)) m) (3 - m) := rfl
  rw [hnext]
  have hk4 : 3 - m < 4 := by omega
  generalize 3 - m = k at *
  generalize stAt (ltN n) (four (parL L)) m = st at *
  have hpk : (four (parL L)).getD k [] = parL L k := four_get hk4
  have e : outsOf (fun i => lessL (L i) (L k)) (fun i => [.int i]) k = (((List.range k).filter fun i => lessL (L i) (L k)).map fun i : Nat => (i : Int)).map D.int := by
    rw [outsOf_filter, List.map_map]; rfl
  have e2 : pickL (outsOf (fun i => lessL (L i) (L k)) (fun i => [.int i]) k) (some (-1)) none = (parL L k).map D.int := by
    rw [e, pick_last, last_map]; rfl
  have hsz := outsOf_length (fun i => lessL (L i) (L k)) (fun i => .int i) k
  refine ⟨_, Exs.one (Ex.for (It.list (ds := (parL L k).map D.int) hA.hh (Ev.cast (Ev.sliceL (Ev.comp (comp1 (p := fun i => lessL (L i) (L k)) (f := fun i => .int i) hA.hh (Blk.of (by kernel_rfl)) (It.range1 (n := (k : Int)) hA.hh (Ev.name rfl) (.inl (by kernel_rfl)) (by kernel_rfl) (by kernel_rfl) (by omega) (by omega)) (fun i _ => vis_sub1) (fun i hi => ?_) (fun i hi _ => Ev.name rfl) ?_)) (show Part _ _ _ _ _ _ (some _) (some (-1)) from Ev.neg Ev.int) (show Part _ _ _ _ _ _ none none from trivial) ?_) (congrArg D.list e2)) (.inr ⟨by kernel_rfl, mem_cell (by decide +kernel)⟩))
    (fun q => fr20 L n (if q = 0 then st else stepK (ltN n) (four (parL L)) st k) ((sO "k", .int k) :: K)) _ (Nat.le_refl _) ?_ (fun q hq => ?_) (.inl ⟨rfl, rfl⟩)), ?_⟩
  · have hi : i < k := hi
    have hi4 : i < 4 := by omega
    have eg : outsOf (fun q => decide ((columnsOf (L i)).getD q 0 ≥ (columnsOf (L k)).getD q 0)) (fun q => [.int ((columnsOf (L i)).getD q 0)]) (min (columnsOf (L i)).length (columnsOf (L k)).length) = (geL (columnsOf (L i)) (columnsOf (L k))).map D.int := by
      rw [outsOf_flat]; exact geL_range _ _
    have hlen : min (columnsOf (L i)).length (columnsOf (L k)).length = 6 := rfl
    unfold Tests
    refine Te.cast (Te.cmp (Ev.cast (Ev.comp (comp1 (p := fun q => decide ((columnsOf (L i)).getD q 0 ≥ (columnsOf (L k)).getD q 0)) (f := fun q => .int ((columnsOf (L i)).getD q 0)) hA.hh (Blk.of (by kernel_rfl)) (It.cast (m := min (columnsOf (L i)).length (columnsOf (L k)).length) (It.zip (as := (columnsOf (L i)).map D.int) (bs := (columnsOf (L k)).map D.int) hA.hh (Ev.idxL (k := (i : Int)) (Ev.name (look_skip (vis_look rfl))) (Ev.name rfl) (by omega) (by omega) (four_get? hi4)) (Ev.idxL (k := (k : Int)) (Ev.name (look_skip (vis_look rfl))) (Ev.name (look_skip (vis_look rfl))) (by omega) (by omega) (four_get? hk4)) (.inl (by kernel_rfl)) (.inl (by kernel_rfl)) (by kernel_rfl) (by kernel_rfl)) rfl) (fun q _ => vis_sub2) (fun q hq => ?_) (fun q hq _ => ?_) (by rw [hlen]; decide))) (congrArg D.list eg)) (Ev.list (ds := ([] : List Int).map D.int) Evs.nil) (Cmp.eqD hA (plain_intsL _) (plain_intsL _) (depth_intsL _) (depth_intsL _))) ((eqv_intsL _ _).trans ?_)
    · rw [map_getD (by omega), map_getD (by omega)]
      unfold Tests
      exact Te.cmp (Ev.name rfl) (Ev.name rfl) Cmp.geI
    · rw [map_getD (by omega), map_getD (by omega)]
      exact Ev.name rfl
    · exact (less_cols _ (hl i hi4) _ (hl k hk4)).symm
  · show k ≤ _; omega
  · show (outsOf (fun i => lessL (L i) (L k)) (fun i => [.int i]) k).length ≤ _; omega
  · exact Sub.cons rfl (Sub.cons rfl (Sub.cons rfl (Sub.cons rfl (Sub.cons rfl (fun y e hy => by
      obtain ⟨a1, a2, a3, a4, a5, a6⟩ := kk hy
      exact look_skip (look_skip (look_skip (look_skip (look_skip hy a4) a3) a2) a1) a5)))))
  · rcases par_cases L k with hp | ⟨j, hj, hp⟩
    · rw [hp] at hq; exact absurd hq (Nat.not_lt_zero _)
    · rw [hp] at hq ⊢
      have hq0 : q = 0 := by have : q < 1 := hq; omega
      subst hq0
      have hj4 : j < 4 := by omega
      rw [if_pos rfl, if_neg (by decide), step_some (hpk.trans hp)]
      have hh := hang_le hst.1 j hk4
      have hlt := ltN_eq hnd hj4 hk4
      have hs2 := hst.2
      refine ⟨(sO "lone", strD (List.replicate (if ltN n j k then st.2 + (hang st.1 j k).getD k 0 else st.2) 46)) :: (sO "sizes", .list (four fun i => .int ((hang st.1 j k).getD i 0 : Nat))) :: (sO "j", .int (j : Int)) :: fr20 L n st ((sO "k", .int k) :: K), Exs.cons (Ex.assign (Ev.comp (comp4R (f := fun i => .int ((hang st.1 j k).getD i 0 : Nat)) hA.hh (by kernel_rfl) (.inl (by kernel_rfl)) (by kernel_rfl) (by kernel_rfl) (by kernel_rfl) (fun i hi => ?_))) (.inr ⟨by kernel_rfl, mem_cell (by decide +kernel)⟩) (fun env H => by cases env; cases H.scope; rfl)) (Exs.one (Ex.if (c := ltN n j k) (Te.cast (Te.cmp (Ev.idxL (k := (k : Int)) (Ev.name rfl) (Ev.name rfl) (by omega) (by omega) (four_get? hk4)) (Ev.idxL (k := (j : Int)) (Ev.name rfl) (Ev.name rfl) (by omega) (by omega) (four_get? hj4)) Cmp.gtI) hlt.symm) (fun hc => ?_) (fun hc => ?_))), ?_⟩
      · rw [hang_get st.1 j k hi]
        refine Ev.ifExp (Te.cmp (Ev.name rfl) (Ev.name (look_skip (vis_look rfl))) Cmp.eqI) (fun hb => ?_) (fun hb => ?_)
        · have hij : i = j := by have := beq_iff_eq.mp hb; omega
          rw [if_pos hij]
          exact Ev.bin (Ev.idxL (k := (i : Int)) (Ev.name (look_skip (vis_look rfl))) (Ev.name rfl) (by omega) (by omega) (four_get? hi)) (Ev.idxL (k := (k : Int)) (Ev.name (look_skip (vis_look rfl))) (Ev.name (look_skip (vis_look rfl))) (by omega) (by omega) (four_get? hk4)) Bin.addI
        · have hij : ¬ i = j := fun e => by have := beq_eq_false_iff_ne.mp hb; omega
          rw [if_neg hij]
          exact Ev.idxL (k := (i : Int)) (Ev.name (look_skip (vis_look rfl))) (Ev.name rfl) (by omega) (by omega) (four_get? hi)
      · rw [if_pos hc]
        have hz := hh k hk4
        refine Exs.one (Ex.assign (Ev.cast (Ev.bin (Ev.name (d := strD (List.replicate st.2 46)) rfl) (Ev.cast (Ev.bin Ev.str (Ev.idxL (k := (k : Int)) (d := .int ((hang st.1 j k).getD k 0 : Nat)) (Ev.name rfl) (Ev.name rfl) (by omega) (by omega) (four_get? hk4)) (Bin.mulS (by omega) (by omega) ?_ rfl)) (congrArg D.str (mul_dots _))) (Bin.addS ?_)) ?_) (.inl (by kernel_rfl)) (fun _ _ => rfl))
        · show 1 * _ ≤ _
          rw [Int.toNat_natCast]; omega
        · show Array.size _ + Array.size _ ≤ _
          rw [List.size_toArray, List.size_toArray, List.length_replicate, List.length_replicate, Int.toNat_natCast]; omega
        · rw [Int.toNat_natCast]
          refine congrArg D.str ((str_app _ _).trans ?_)
          rw [List.replicate_append_replicate]
      · rw [if_neg (by rw [hc]; decide)]
        exact Exs.weak Exs.nil (Sub.cons rfl (Sub.refl _))
      · exact Sub.cons rfl (Sub.cons rfl (Sub.cons rfl (Sub.cons rfl (Sub.cons rfl (fun y e hy => by
          obtain ⟨a1, a2, a3, a4, a5, a6⟩ := kk hy
          exact look_skip (look_skip (look_skip (look_skip (look_skip (look_skip (look_skip (look_skip hy a5) a4) a3) a2) a1) a6) a2) a1)))))
  · rw [List.length_map]
    have hE : (if (parL L k).length = 0 then st else stepK (ltN n) (four (parL L)) st k) = stepK (ltN n) (four (parL L)) st k := by
      rcases par_cases L k with hp | ⟨j, _, hp⟩
      · rw [step_none (hpk.trans hp)]; exact ite_self _
      · rw [hp]; rfl
    rw [hE]
    exact Sub.cons rfl (Sub.cons rfl (Sub.cons rfl (Sub.cons rfl (fun y e hy => by
      obtain ⟨a1, a2, a3, a4, a5, a6⟩ := kk hy
      exact look_skip (look_skip (look_skip (look_skip (look_skip hy a5) a4) a3) a2) a1))))
end
end Mine
end

section
set_option maxRecDepth 4000
namespace Mine
open R

structure Small (l : List Nat) : Prop where
  len : l.length ≤ 24
  ge : ∀ d ∈ l, 1 ≤ d
  le : ∀ d ∈ l, d ≤ 20
theorem Small.of {l : List Nat} (h : small l = true) : Small l := by
  unfold small at h
  rw [Bool.and_eq_true, List.all_eq_true] at h
  refine ⟨of_decide_eq_true h.1, fun d hd => ?_, fun d hd => ?_⟩
  · have := h.2 d hd
    rw [Bool.and_eq_true] at this
    exact of_decide_eq_true this.1
  · have := h.2 d hd
    rw [Bool.and_eq_true] at this
    exact of_decide_eq_true this.2
theorem lead_scan (l : List Nat) : (scan (Txt.replace (Txt.replace ⟨(txt l).toArray⟩ (Str.ofString ".") (Str.ofString " ")) (Str.ofString "\r\n") (Str.ofString "\t")).cps.toList).count = bumps l ∧ (scan (Txt.replace (Txt.replace ⟨(txt l).toArray⟩ (Str.ofString ".") (Str.ofString " ")) (Str.ofString "\r\n") (Str.ofString "\t")).cps.toList).b = 0 := by
  rw [lead_txt]; exact scan_lrow l
theorem lead_len {l : List Nat} (h : Small l) : (Txt.replace (Txt.replace ⟨(txt l).toArray⟩ (Str.ofString ".") (Str.ofString " ")) (Str.ofString "\r\n") (Str.ofString "\t")).length ≤ 100000 := by
  have h1 := lrow_len l (fun d hd => by have := h.le d hd; omega) (by have := h.len; omega)
  rw [← lead_txt, Array.length_toList] at h1
  exact Nat.le_trans h1 (by decide)
theorem txt_small {l : List Nat} (h : Small l) : (txt l).length ≤ 1000 := by
  have h1 := txt_len l 20 h.le
  have h2 := Nat.mul_le_mul_right (20 + 2) h.len
  omega

section
variable {prog : Program} {w : World} {A : Around} {ρ : Rho}
variable {oc : Value} {odd : Option Addr} {osl : Array (Option Value)} {fd : FuncData} {body : List Stmt}

set_option maxHeartbeats 2000000 in
theorem law_21 {d : Nat} (h : (KK w).lookup 157 = some ⟨oc, odd, .func fd, osl⟩) (hb : fd.body = .stmts body) (hd : d ≤ 100) (hp : ρ.lookup (sO "lone") = some (strD (List.replicate d 46))) :
    Ex prog w A fd.scope lawCn lawOwn ρ (body.getD 21 default) (.next ((sO "lone", strD (txt [d])) :: ρ)) := by
  have h' : some (⟨_, _, .func _, _⟩ : Obj) = some _ := h
  cases h'
  cases hb
  clear h
  show Ex _ _ _ _ _ _ _ (.Assign [.Name _ _] (.BinOp _ _ _ _) _) _
  refine Ex.assign (Ev.cast (Ev.bin (Ev.name hp) Ev.str (Bin.addS ?_)) ?_) (.inl (by kernel_rfl)) (fun _ _ => rfl)
  · show Array.size _ + 2 ≤ _
    rw [List.size_toArray, List.length_replicate]; omega
  · have e : txt [d] = List.replicate d 46 ++ [13, 10] := by simp [txt]
    rw [e]
    exact congrArg D.str (str_app _ [13, 10])
theorem ev_times {sc : Scope} {cn : List Str} {x y : Str} {l : List Nat} {k : Nat} {pn p1 p2 pos : Pos} (hA : Ok 20 A) (hl : Small l) (h1 : 1 ≤ k) (h4 : k ≤ 4) (hr : sc.names.lookup (sO "_law_times") = some .globalImplicit)
    (hx : Ev prog w A sc cn ρ (.Name x p1) (strD (txt l))) (hy : Ev prog w A sc cn ρ (.Name y p2) (.int (k : Int))) : Ev prog w A sc cn ρ (.Call (.Name (sO "_law_times") pn) [.Name x p1, .Name y p2] [] pos) (strD (txt (rowsT l (k - 1)))) := by
  have hf := fun_times (prog := prog) (w := w) (y := txt l) (n := k) h1 (by omega) (times_small l hl.ge hl.le hl.len h4)
  rw [times_txt l hl.ge] at hf
  exact Ev.callF (n := 5) (hA.le (by decide)) hr (by kernel_rfl) (by kernel_rfl) (Evs.cons hx (Evs.cons hy Evs.nil)) hf
set_option maxHeartbeats 2000000 in
theorem law_22 {r : Nat → List Nat} {s : Nat → Nat} {K : Rho} (hA : Ok 20 A) (h : (KK w).lookup 157 = some ⟨oc, odd, .func fd, osl⟩) (hb : fd.body = .stmts body)
    (hs : ∀ m, m < 4 → 1 ≤ s m ∧ s m ≤ 4) (hr : ∀ m, m < 4 → Small (r m) ∧ r (m + 1) = rowsT (r m) (s m - 1))
    (h1 : ρ.lookup (sO "mail") = some (strD (txt (r 0)))) (h2 : ρ.lookup (sO "sizes") = some (.list (four fun i => .int (s i : Nat))))
    (hK : Sub K ρ) (hK1 : [sO "mail", sO "size"].all (fun x => (K.lookup x).isNone) = true) :
    Ex prog w A fd.scope lawCn lawOwn ρ (body.getD 22 default) (.next ((sO "mail", strD (txt (r 4))) :: K)) := by
  have h' : some (⟨_, _, .func _, _⟩ : Obj) = some _ := h
  cases h'
  cases hb
  clear h
  simp only [List.all_cons, List.all_nil, Bool.and_true, Bool.and_eq_true, Option.isNone_iff_eq_none] at hK1
  obtain ⟨k1, k2⟩ := hK1
  show Ex _ _ _ _ _ _ _ (.For _ _ [.Assign [.Name _ _] (.Call _ _ _ _) _] _ _) _
  refine Ex.for (It.list (ds := four fun i => .int (s i : Nat)) hA.hh (Ev.name h2) (.inl (by kernel_rfl))) (fun m => (sO "mail", strD (txt (r m))) :: K) 4 (Nat.le_refl _) (Sub.cons h1 hK) (fun m hm => ?_) (.inl ⟨rfl, rfl⟩)
  obtain ⟨hsm, he⟩ := hr m hm
  obtain ⟨s1, s4⟩ := hs m hm
  rw [four_get hm, he]
  exact ⟨_, Exs.one (Ex.assign (ev_times hA hsm s1 s4 (by kernel_rfl) (Ev.name rfl) (Ev.name rfl)) (.inl (by kernel_rfl)) (fun _ _ => rfl)), Sub.cons rfl (fun y e hy => look_skip (look_skip (look_skip hy (look_ne hy k1)) (look_ne hy k2)) (look_ne hy k1))⟩
set_option maxHeartbeats 2000000 in
theorem law_23 {r : Nat → List Nat} {K : Rho} (hA : Ok 20 A) (h : (KK w).lookup 157 = some ⟨oc, odd, .func fd, osl⟩) (hb : fd.body = .stmts body)
    (hr : ∀ m, m < 3 → Small (r m) ∧ r (m + 1) = rowsT (r m) (m + 1))
    (h1 : ρ.lookup (sO "lone") = some (strD (txt (r 0))))
    (hK : Sub K ρ) (hK1 : [sO "lone", sO "size"].all (fun x => (K.lookup x).isNone) = true) :
    Ex prog w A fd.scope lawCn lawOwn ρ (body.getD 23 default) (.next ((sO "lone", strD (txt (r 3))) :: K)) := by
  have h' : some (⟨_, _, .func _, _⟩ : Obj) = some _ := h
  cases h'
  cases hb
  clear h
  simp only [List.all_cons, List.all_nil, Bool.and_true, Bool.and_eq_true, Option.isNone_iff_eq_none] at hK1
  obtain ⟨k1, k2⟩ := hK1
  show Ex _ _ _ _ _ _ _ (.For _ _ [.Assign [.Name _ _] (.Call _ _ _ _) _] _ _) _
  refine Ex.for (It.list (ds := [.int 2, .int 3, .int 4]) hA.hh (Ev.list (Evs.cons Ev.int (Evs.cons Ev.int (Evs.cons Ev.int Evs.nil))) (by decide)) (.inl (by kernel_rfl))) (fun m => (sO "lone", strD (txt (r m))) :: K) 3 (by decide) (Sub.cons h1 hK) (fun m hm => ?_) (.inl ⟨rfl, rfl⟩)
  obtain ⟨hsm, he⟩ := hr m hm
  have hg : [D.int 2, D.int 3, D.int 4].getD m default = .int ((m + 2 : Nat) : Int) := by
    match m, hm with
    | 0, _ => rfl
    | 1, _ => rfl
    | 2, _ => rfl
  rw [hg, he]
  exact ⟨_, Exs.one (Ex.assign (ev_times (k := m + 2) hA hsm (by omega) (by omega) (by kernel_rfl) (Ev.name rfl) (Ev.name rfl)) (.inl (by kernel_rfl)) (fun _ _ => rfl)), Sub.cons rfl (fun y e hy => look_skip (look_skip (look_skip hy (look_ne hy k1)) (look_ne hy k2)) (look_ne hy k1))⟩
set_option maxHeartbeats 2000000 in
theorem law_24 {a b : List Nat} (hA : Ok 20 A) (h : (KK w).lookup 157 = some ⟨oc, odd, .func fd, osl⟩) (hb : fd.body = .stmts body)
    (ha : Small a) (hb' : Small b) (he : bumps a = bumps b)
    (h1 : ρ.lookup (sO "mail") = some (strD (txt a))) (h2 : ρ.lookup (sO "lone") = some (strD (txt b))) :
    Ex prog w A fd.scope lawCn lawOwn ρ (body.getD 24 default) (.ret (.bool true)) := by
  have h' : some (⟨_, _, .func _, _⟩ : Obj) = some _ := h
  cases h'
  cases hb
  clear h
  have za : (⟨(txt a).toArray⟩ : Str).length ≤ 50000 := by show Array.size _ ≤ _; rw [List.size_toArray]; have := txt_small ha; omega
  have zb : (⟨(txt b).toArray⟩ : Str).length ≤ 50000 := by show Array.size _ ≤ _; rw [List.size_toArray]; have := txt_small hb'; omega
  have sa := lead_scan a
  have sb := lead_scan b
  have la := lead_len ha
  have lb := lead_len hb'
  have fa := fun_lead (prog := prog) (w := w) za la
  have fb := fun_lead (prog := prog) (w := w) zb lb
  generalize Txt.replace (Txt.replace ⟨(txt a).toArray⟩ (Str.ofString ".") (Str.ofString " ")) (Str.ofString "\r\n") (Str.ofString "\t") = ya at *
  generalize Txt.replace (Txt.replace ⟨(txt b).toArray⟩ (Str.ofString ".") (Str.ofString " ")) (Str.ofString "\r\n") (Str.ofString "\t") = yb at *
  have hv : (decide ((scan ya.cps.toList).count = (scan yb.cps.toList).count ∧ ((scan ya.cps.toList).b : Int) = ((scan yb.cps.toList).b : Int)) == true) = true := by
    rw [sa.1, sb.1, sa.2, sb.2, he]; simp
  show Ex _ _ _ _ _ _ _ (.Return (some (.Compare (.Call (.Attribute (.Call _ _ _ _) _ _) [.Call _ _ _ _] _ _) _ _ _)) _) _
  exact Ex.ret (Ev.cast (Ev.cmp (Ev.meth (n := 3) (hA.le (by decide)) (Ev.callF (n := 5) (hA.le (by decide)) (by kernel_rfl) (by kernel_rfl) (by kernel_rfl) (Evs.cons (Ev.name h1) Evs.nil) fa) (Evs.cons (Ev.callF (n := 5) (hA.le (by decide)) (by kernel_rfl) (by kernel_rfl) (by kernel_rfl) (Evs.cons (Ev.name h2) Evs.nil) fb) Evs.nil) (by kernel_rfl) (by kernel_rfl) (by kernel_rfl) (.inr (.inl rfl)) fun_equal rfl) Ev.bool Cmp.isB) (congrArg D.bool hv))
end
end Mine
end

section
set_option maxRecDepth 4000
namespace Mine
open R

def rAt (rows : List Nat) (s : Nat → Nat) : Nat → List Nat
  | 0 => rows
  | m + 1 => rowsT (rAt rows s m) (s m - 1)
def lAt (d : Nat) : Nat → List Nat
  | 0 => [d]
  | m + 1 => rowsT (lAt d m) (m + 1)
theorem step_len (lt : Nat → Nat → Bool) (ab : List (List Int)) {st : List Nat × Nat} {k : Nat} (h : st.1.length = 4) : (stepK lt ab st k).1.length = 4 := by
  unfold stepK
  split
  · exact h
  · show (hang _ _ _).length = 4
    unfold hang
    rw [List.length_map, List.length_range]
theorem st_len (lt : Nat → Nat → Bool) (ab : List (List Int)) : ∀ m, (stAt lt ab m).1.length = 4
  | 0 => rfl
  | m + 1 => step_len lt ab (st_len lt ab m)
structure Plain (rows : List Nat) (s : Nat → Nat) (d : Nat) : Prop where
  size : ∀ m, m < 4 → 1 ≤ s m ∧ s m ≤ 4
  mail : ∀ m, m ≤ 4 → Small (rAt rows s m)
  lone : ∀ m, m ≤ 3 → Small (lAt d m)
  same : bumps (rAt rows s 4) = bumps (lAt d 3)
theorem plain_of {lt : Nat → Nat → Bool} {ab : List (List Int)} (h : chk lt ab = true) : Plain ((ordersOf ab 4).map (rowOf lt)) (fun i => (stAt lt ab 3).1.getD i 0) (stAt lt ab 3).2 := by
  have h' : ((((((((((((stAt lt ab 3).1.all fun s => decide (1 ≤ s) && decide (s ≤ 4)) && small ((ordersOf ab 4).map (rowOf lt))) && small (rAt ((ordersOf ab 4).map (rowOf lt)) (fun i => (stAt lt ab 3).1.getD i 0) 1)) && small (rAt ((ordersOf ab 4).map (rowOf lt)) (fun i => (stAt lt ab 3).1.getD i 0) 2)) && small (rAt ((ordersOf ab 4).map (rowOf lt)) (fun i => (stAt lt ab 3).1.getD i 0) 3)) && small (rAt ((ordersOf ab 4).map (rowOf lt)) (fun i => (stAt lt ab 3).1.getD i 0) 4)) && small (lAt (stAt lt ab 3).2 0)) && small (lAt (stAt lt ab 3).2 1)) && small (lAt (stAt lt ab 3).2 2)) && small (lAt (stAt lt ab 3).2 3)) && decide (bumps (rAt ((ordersOf ab 4).map (rowOf lt)) (fun i => (stAt lt ab 3).1.getD i 0) 4) = bumps (lAt (stAt lt ab 3).2 3))) = true := h
  have hlen := st_len lt ab 3
  generalize stAt lt ab 3 = st at *
  generalize (ordersOf ab 4).map (rowOf lt) = rows at *
  simp only [Bool.and_eq_true] at h'
  obtain ⟨⟨⟨⟨⟨⟨⟨⟨⟨⟨a1, a2⟩, a3⟩, a4⟩, a5⟩, a6⟩, a7⟩, a8⟩, a9⟩, a10⟩, a11⟩ := h'
  refine ⟨fun m hm => ?_, fun m hm => ?_, fun m hm => ?_, of_decide_eq_true a11⟩
  · have hl : m < st.1.length := by omega
    have hg : st.1.getD m 0 = st.1[m] := by rw [List.getD_eq_getElem?_getD, List.getElem?_eq_getElem hl]; rfl
    have := List.all_eq_true.mp a1 _ (List.getElem_mem hl)
    rw [Bool.and_eq_true] at this
    show 1 ≤ st.1.getD m 0 ∧ st.1.getD m 0 ≤ 4
    rw [hg]
    exact ⟨of_decide_eq_true this.1, of_decide_eq_true this.2⟩
  · match m, hm with
    | 0, _ => exact .of a2
    | 1, _ => exact .of a3
    | 2, _ => exact .of a4
    | 3, _ => exact .of a5
    | 4, _ => exact .of a6
  · match m, hm with
    | 0, _ => exact .of a7
    | 1, _ => exact .of a8
    | 2, _ => exact .of a9
    | 3, _ => exact .of a10
theorem par_forms (L : Nat → List Nat) : (parL L 0 = []) ∧ (parL L 1 = [] ∨ parL L 1 = [0]) ∧ (parL L 2 = [] ∨ parL L 2 = [0] ∨ parL L 2 = [1]) ∧ (parL L 3 = [] ∨ parL L 3 = [0] ∨ parL L 3 = [1] ∨ parL L 3 = [2]) := by
  refine ⟨?_, ?_, ?_, ?_⟩
  · rcases par_cases L 0 with h | ⟨j, hj, h⟩
    · exact h
    · omega
  · rcases par_cases L 1 with h | ⟨j, hj, h⟩
    · exact .inl h
    · have : j = 0 := by omega
      subst this; exact .inr h
  · rcases par_cases L 2 with h | ⟨j, hj, h⟩
    · exact .inl h
    · match j, hj with
      | 0, _ => exact .inr (.inl h)
      | 1, _ => exact .inr (.inr h)
  · rcases par_cases L 3 with h | ⟨j, hj, h⟩
    · exact .inl h
    · match j, hj with
      | 0, _ => exact .inr (.inl h)
      | 1, _ => exact .inr (.inr (.inl h))
      | 2, _ => exact .inr (.inr (.inr h))
theorem plain_law {n : Nat → Int} (L : Nat → List Nat) (hnd : (four n).Nodup) : Plain ((ordersOf (four (parL L)) 4).map (rowOf (ltN n))) (fun i => (stAt (ltN n) (four (parL L)) 3).1.getD i 0) (stAt (ltN n) (four (parL L)) 3).2 := by
  obtain ⟨p0, p1, p2, p3⟩ := par_forms L
  refine plain_of ?_
  have := chk_ok hnd p1 p2 p3
  show chk (ltN n) [parL L 0, parL L 1, parL L 2, parL L 3] = true
  rw [p0]; exact this

section
variable {prog : Program} {w : World} {A : Around} {ρ : Rho}
variable {oc : Value} {odd : Option Addr} {osl : Array (Option Value)} {fd : FuncData} {body : List Stmt}

theorem law_split (h : (KK w).lookup 157 = some ⟨oc, odd, .func fd, osl⟩) (hb : fd.body = .stmts body) :
    body = body.take 4 ++ [body.getD 4 default, body.getD 5 default, body.getD 6 default, body.getD 7 default, body.getD 8 default, body.getD 9 default, body.getD 10 default, body.getD 11 default, body.getD 12 default, body.getD 13 default, body.getD 14 default, body.getD 15 default, body.getD 16 default, body.getD 17 default, body.getD 18 default, body.getD 19 default, body.getD 20 default, body.getD 21 default, body.getD 22 default, body.getD 23 default, body.getD 24 default] := by
  have h' : some (⟨_, _, .func _, _⟩ : Obj) = some _ := h
  cases h'
  cases hb
  rfl
set_option maxHeartbeats 2000000 in
theorem law_body {ns : List Int} (hns : ns.length ≤ 63) (hA : Ok 20 A) (h : (KK w).lookup 157 = some ⟨oc, odd, .func fd, osl⟩) (hb : fd.body = .stmts body) :
    Exs prog w A fd.scope lawCn lawOwn [(Str.ofString "script", .soft (ns.map D.int))] body (.ret (.bool true)) := by
  have hl : ∀ i, i < 4 → ldA ns i ∈ allLeads := fun i _ => leadOf_mem _
  have hs : ∀ i, i < 4 → sgA ns i ∈ signs0 := fun i hi => sg_mem ns hi
  have hnd : (four fun i => kindOf (sgA ns i)).Nodup := by
    have := due_nodup ns
    rw [du_eq ns (by decide : 0 < 4), du_eq ns (by decide : 1 < 4), du_eq ns (by decide : 2 < 4), du_eq ns (by decide : 3 < 4)] at this
    exact this
  have hdue : (st1 ns 4).due.map D.int = four fun i => .int (kindOf (sgA ns i)) := by
    rw [due_4, du_eq ns (by decide : 0 < 4), du_eq ns (by decide : 1 < 4), du_eq ns (by decide : 2 < 4), du_eq ns (by decide : 3 < 4)]; rfl
  have hpl : (st1 ns 4).places.map (fun l => D.list (l.map D.int)) = four fun i => .list ((columnsOf (ldA ns i)).map D.int) := by rw [places_4]; rfl
  have hdr : (st1 ns 4).drawn.map pairD = four fun i => .list [strD (ldA ns i), strD (sgA ns i ++ [32, 9])] := by rw [drawn_4]; rfl
  have P := plain_law (n := fun i => kindOf (sgA ns i)) (ldA ns) hnd
  have h1 := law_1 (prog := prog) (w := w) (A := A) hns hA h hb
  rw [hdue, hpl, hdr] at h1
  have hrow : ∀ i, i < 4 → (rowA ns i).length ≤ 100 := fun i hi => by
    have := row_len (hl i hi) (hs i hi)
    show (rowOfL (ldA ns i) (sgA ns i)).length ≤ 100
    omega
  rw [law_split h hb]
  refine Exs.append h1 ?_
  refine Exs.cons (law_4 hA h hb rfl) ?_
  refine Exs.cons (law_5 (r := rowA ns) hA h hb hrow rfl) ?_
  refine Exs.cons (law_6 (L := ldA ns) (S := sgA ns) hA h hb hl hs rfl) ?_
  refine Exs.cons (law_7 (L := ldA ns) (S := sgA ns) hA h hb hl hs rfl rfl rfl) ?_
  refine Exs.cons (law_8 (L := ldA ns) (S := sgA ns) hA h hb hs rfl) ?_
  refine Exs.cons (law_9 (L := ldA ns) (S := sgA ns) hA h hb rfl) ?_
  refine Exs.cons (law_10 (L := ldA ns) (S := sgA ns) hA h hb hl rfl rfl rfl rfl) ?_
  refine Exs.cons (law_11 (n := fun i => kindOf (sgA ns i)) hA h hb rfl) ?_
  refine Exs.cons (law_12 (n := fun i => kindOf (sgA ns i)) hA h hb hnd rfl) ?_
  refine Exs.cons (law_13 (L := ldA ns) (S := sgA ns) hA h hb hl rfl) ?_
  refine Exs.cons (law_14 h hb) ?_
  refine Exs.cons (law_15 (par := parL (ldA ns)) (K := [(sO "numbers", .list (four fun i => .int (kindOf (sgA ns i)))), (sO "lesser", .list (four fun i => .list ((lesserL (fun i => kindOf (sgA ns i)) i).map D.int))), (sO "places", .list (four fun i => .list ((columnsOf (ldA ns i)).map D.int))), (sO "due", .list (four fun i => .int (kindOf (sgA ns i))))]) hA h hb rfl rfl (Sub.cons rfl (Sub.cons rfl (Sub.cons rfl (Sub.cons rfl .nil)))) rfl rfl rfl) ?_
  refine Exs.cons (law_16 h hb) ?_
  refine Exs.cons (law_17 (n := fun i => kindOf (sgA ns i)) (os := ordersOf (four (parL (ldA ns))) 4) (K := [(sO "places", .list (four fun i => .list ((columnsOf (ldA ns i)).map D.int))), (sO "due", .list (four fun i => .int (kindOf (sgA ns i))))]) hA h hb hnd (orders_of _ 4) (orders_len _ 4) rfl rfl rfl rfl (Sub.cons rfl (Sub.cons rfl .nil)) rfl) ?_
  refine Exs.cons (law_18 h hb) ?_
  refine Exs.cons (law_19 h hb) ?_
  refine Exs.cons (law_20 (L := ldA ns) (n := fun i => kindOf (sgA ns i)) (K := [(sO "mail", strD (txt ((ordersOf (four (parL (ldA ns))) 4).map (rowOf (ltN fun i => kindOf (sgA ns i))))))]) hA h hb hl hnd rfl rfl rfl rfl (Sub.cons rfl .nil) rfl) ?_
  refine Exs.cons (law_21 h hb (st_le _ _ 3 (Nat.le_refl _)).2 rfl) ?_
  generalize (stAt (ltN fun i => kindOf (sgA ns i)) (four (parL (ldA ns))) 3) = st at *
  generalize (ordersOf (four (parL (ldA ns))) 4).map (rowOf (ltN fun i => kindOf (sgA ns i))) = rows at *
  refine Exs.cons (law_22 (r := rAt rows fun i => st.1.getD i 0) (s := fun i => st.1.getD i 0) (K := [(sO "lone", strD (txt [st.2]))]) hA h hb P.size (fun m hm => ⟨P.mail m (by omega), rfl⟩) rfl rfl (Sub.cons rfl .nil) rfl) ?_
  refine Exs.cons (law_23 (r := lAt st.2) (K := [(sO "mail", strD (txt (rAt rows (fun i => st.1.getD i 0) 4)))]) hA h hb (fun m hm => ⟨P.lone m (by omega), rfl⟩) rfl (Sub.cons rfl .nil) rfl) ?_
  exact Exs.ret (law_24 (a := rAt rows (fun i => st.1.getD i 0) 4) (b := lAt st.2 3) hA h hb (P.mail 4 (by decide)) (P.lone 3 (by decide)) P.same rfl rfl)
end
end Mine
end

section
set_option maxRecDepth 4000
namespace Mine

section
variable {prog : Program} {w : World} {A : Around} {X : V0} {s : Shared}

/-- a def with cells of its own starts -/
theorem law_run {n : Nat} {R : Result → Shared → Prop} {oc : Value} {odd : Option Addr} {osl : Array (Option Value)} {fd : FuncData} {body : List Stmt} {x : Str} {cn : List Str} {a la : Addr} {vs : List Value} {ns : List Int} {d : D}
    (hA : Ok (n + 1) A) (G : Gr w (fun _ => False) s.heap) (hl : (KK w).lookup a = some ⟨oc, odd, .func fd, osl⟩) (hc : codeIn (KK w) fd.code fd.qualname = true) (hb : fd.body = .stmts body)
    (hbind : bindArgs fd ⟨[.ref la], []⟩ = pure [(x, .ref la)]) (hloc : fd.scope.names.lookup x = some .local) (hcn : ((fd.scope.names.filter (·.2 == .cell)).map (·.1)).reverse = cn)
    (hco : fd.scope.isCoroutine = false) (hgen : fd.scope.isGenerator = false) (hk : fd.scope.kind = .function) (hg : fd.globals = mainGlobals) (hbu : fd.builtins = builtinsNs) (hcl : fd.closure = [])
    (hL : s.heap.IsList la vs.toArray) (hI : IntsAre vs ns) {own : List Str}
    (hbody : ∀ A', Ok n A' → Exs prog w A' fd.scope cn ⟨own, []⟩ [(x, .soft (ns.map D.int))] body (.ret d)) (q : ∀ v s', Kp s s' → Is (fun _ => False) s'.heap v d → R (.ok (.ret v)) s') :
    codeAny (model prog w) A (.call (.ref a) ⟨[.ref la], []⟩) R s := by
  have G0 := G.gr0
  refine codeAny_call_cells (fd := fd) (binds := [(x, .ref la)]) hA.room (G0.X _ _ hl) rfl G0.lim (codeRec_of G0.X hc) hb hbind hcl (fun p hp => ?_) (fun s₁ Y => ?_) hco hgen hk
  · rw [List.mem_singleton.mp hp]; exact .inl hloc
  have hloc' : (callEnvC fd s.heap.objs.size a).locals = s.heap.objs.size := rfl
  have hkx : (callEnvC fd s.heap.objs.size a).kindOf x = some .local := hloc
  have hns : s₁.heap.Ns (callEnvC fd s.heap.objs.size a).locals _ := Y.toInCall.ns
  have lt : s.heap.objs.size < s₁.heap.objs.size := hns.lt
  obtain ⟨h', tk, he, hext⟩ := Y.done
  have kp : Kp s s₁ := by
    subst he
    exact Kp.of hext (Nat.le_of_lt lt)
  have hcell : ∀ y c, (callEnvC fd s.heap.objs.size a).cells.lookup y = some c → s.heap.objs.size < c ∧ ∃ v, s₁.heap.IsCell c v := fun y c e => ⟨Y.above y c (mem_of_lookup e), _, Y.cell y c e⟩
  have hlt : ∀ y c, (callEnvC fd s.heap.objs.size a).cells.lookup y = some c → c < s₁.heap.objs.size := fun y c e => let ⟨_, _, o, ho, _⟩ := hcell y c e; Heap.lt_size ho
  have hinj : ∀ y z c, (callEnvC fd s.heap.objs.size a).cells.lookup y = some c → (callEnvC fd s.heap.objs.size a).cells.lookup z = some c → y = z := fun y z c e e' => name_of_addr Y.apart (mem_of_lookup e) (mem_of_lookup e')
  have hnew : ∀ c, (s.heap.objs.size ≤ c ∧ c < s₁.heap.objs.size) → s.heap.get? c = none := fun c h => Heap.get?_none_of_le h.1
  have H : Sh fd.scope cn (callEnvC fd s.heap.objs.size a) := ⟨rfl, by
    show (cellsFrom (s.heap.objs.size + 1) fd.scope.names []).map (·.1) = cn
    rw [← hcn]
    exact Mine.cellsFrom_names _ _, hg, hbu, hk⟩
  have mv : bindL (callEnvC fd s.heap.objs.size a).kindOf [(x, .ref la)] (fun _ => none) x = some (.ref la) := by
    unfold bindL bindL
    rw [if_pos hkx, if_pos rfl]
  have hla : la < s.heap.objs.size := let ⟨_, ho, _⟩ := hL; Heap.lt_size ho
  have F : FrOk ⟨own, []⟩ w (fun c => False ∨ (s.heap.objs.size ≤ c ∧ c < s₁.heap.objs.size)) (callEnvC fd s.heap.objs.size a) [(x, .soft (ns.map D.int))] s₁ := by
    refine ⟨⟨G.more kp.heap hnew, fun c z => z.elim False.elim fun z => z.2, fun y e hy _ => ?_, fun y c e => (hcell y c e).2, hinj⟩, .inr ⟨Nat.le_refl _, lt⟩, ⟨_, hns⟩, fun y _ c e => .inr ⟨Nat.le_of_lt (hcell y c e).1, hlt y c e⟩, fun y c e => ⟨Nat.ne_of_gt (hcell y c e).1, (hcell y c e).2⟩, hinj, fun _ h => (noMu h).elim, fun _ _ _ h => (nomatch h), fun _ _ _ h => nomatch h⟩
    rw [lookup_cons_of] at hy
    split at hy
    · rename_i hyx
      cases hy
      subst hyx
      refine ⟨.ref la, .loc _ hkx hns mv, .soft (fun z => z.elim id fun z => absurd hla (Nat.not_lt.mpr z.1)) ?_ (isAll_ints hI)⟩
      obtain ⟨o, ho, r1, r2⟩ := hL
      exact ⟨o, kp.heap _ _ ho, r1, r2⟩
    · cases hy
  refine hbody _ (hA.deeper _) _ _ _ H F _ _ fun f s2 m2 o2 => ?_
  obtain ⟨v, rfl, i2⟩ := o2
  refine q v s2 (Moves.keeps kp m2 fun c h => ?_) (i2.less fun c z => .inl z)
  rcases h with h | ⟨y, _, e⟩ | h
  · exact Heap.get?_none_of_le (by rw [h]; exact Nat.le_refl _)
  · exact Heap.get?_none_of_le (Nat.le_of_lt (hcell y c e).1)
  · exact (noMu h).elim
end
end Mine
end

section
set_option maxRecDepth 100000
namespace Mine
theorem caller_ok : Ok 21 callerA := by
  refine ⟨rfl, ?_, ?_⟩
  · decide +kernel
  · decide +kernel
theorem law_called {prog : Program} {w : World} {s : Shared} {R : Result → Shared → Prop} {la : Addr} {vs : List Value} {ns : List Int} (G : Gr0 w s.heap) (hL : s.heap.IsList la vs.toArray) (hI : IntsAre vs ns) (hns : ns.length ≤ 63)
    (q : ∀ s', Kp s s' → R (.ok (.ret (.bool true))) s') : codeAny (model prog w) callerA (.call (.ref 157) ⟨[.ref la], []⟩) R s := by
  refine law_run (n := 20) (x := Str.ofString "script") (cn := lawCn) (own := lawCells) caller_ok ⟨s.heap, G, fun _ _ h => h.elim, fun _ _ e => e⟩ (by rfl) (by kernel_rfl) rfl rfl (by kernel_rfl) (by kernel_rfl) rfl rfl rfl rfl rfl rfl hL hI (fun A' hA' => law_body hns hA' (by rfl) rfl) fun v s' k i => ?_
  cases i
  exact q s' k
set_option maxHeartbeats 8000000 in
theorem jj : PySem.Challenge.rw_rw0099_01.Holds := head (by
  intro w s₀ s₁ mg mb G Y fa o pm cd doc dV kV ho hdt hcd hD hmg hg args vals as hpre hlay hrd hwl hlo
  have KX : (KK w).In s₁.heap := kIn_of Y
  clear hcd hD
  refine Ground.open G ?_
  intro T B D TE TW
  have G0 : Gr0 w s₁.heap := ⟨KX, ⟨mb, T.b, T.builtins⟩, T.nolimit⟩
  have hfa : mg (Str.ofString "law") = some (.ref 157) := mg_of KX T.g (by kernel_rfl)
  have e := hmg.symm.trans hfa
  have e2 : fa = 157 := by injection e with e; injection e
  subst e2
  clear e hfa hmg hdt ho
  wrow_args hpre hlay hrd hwl hlo
  rename_i ns hs hlay0 hL1 hr1 hl2 as1 as2 la vs as3 hL ra w1 r0 hI hr hcond h0
  refine enter_call ?_
  refine law_called G0 hL hI (by omega) fun s' k => GoodW.toG ?_
  obtain ⟨h', tk, rfl⟩ := k.eq
  refine ⟨.inl ⟨.bool true, .bool true, [], rfl, fun _ => ?_, .bool true, ?_, fun _ => ⟨List.nodup_nil, fun _ h => nomatch h⟩⟩, k.heap, rfl, hg⟩
  · rfl
  · wrow_post)
end Mine
end

theorem PySem.Challenge.cw_rw0099_01_holds : PySem.Challenge.rw_rw0099_01.Holds := by
  exact Mine.jj
