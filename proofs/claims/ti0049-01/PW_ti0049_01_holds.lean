import PyProof.Rows.All
import Wide.All
import OpenK.AllK
import Wide.FinOn
import PySem.Challenge.RW_ti0049_01
set_option Elab.async false
set_option maxRecDepth 100000
set_option linter.all false
set_option maxHeartbeats 0
namespace Mine
open PySem PySem.SeqAt PySem.W PySem.W.X PySem.Spec PySem.Calls PyProof.Rows
open Sem (wp)
set_option tactic.hygienic false
noncomputable def zs(x:String)(t:Nat):Value:= .str (.ofString x) t
noncomputable def zi(i:Int):Value:= .int i 0
noncomputable def zr(a:Nat):Value:= .ref a
noncomputable def e(P:Params)(x:String)(t:Nat)(v:Value):DictEntry:=⟨PyData.keyHash P (.ofString x),.str (.ofString x) t,v⟩
noncomputable def b8(l:Array Value):Obj:={cls:= .type "tuple",data:= .seq l}
noncomputable def cO(l:Array Value):Obj:={cls:= .type "code",data:= .fields l}
noncomputable def tp(i:Nat):Stmt:=(PySem.Challenge.pw_ti0049_01.main.body[i]?).getD (.Pass ⟨0,0,0,0⟩)
noncomputable def Jq:Stmt→List Stmt
 | .ClassDef _ _ _ b .. =>b
 |_=>[]
noncomputable def mt(i j:Nat):Stmt:=((Jq (tp i))[j]?).getD (.Pass ⟨0,0,0,0⟩)
noncomputable def D3:Stmt→Arguments
 | .FunctionDef _ a .. =>a
 |_=>default
noncomputable def HR:Stmt→List Stmt
 | .FunctionDef _ _ b .. =>b
 |_=>[]
noncomputable def DZ:Stmt→Scope
 | .FunctionDef _ _ _ _ _ _ s .. =>s
 |_=>default
noncomputable def fO(s:Stmt)(nm qn:String)(cl:List (Str×Addr))(df:Value)(md:String)(mt cd:Nat)(ct:Value):Obj:={cls:= .type "function",data:= .func {name:= .ofString nm,qualname:= .ofString qn,params:=D3 s,body:= .stmts (HR s),scope:=DZ s,globals:=3,closure:=cl,defaults:=df,kwdefaults:= .none,pyModule:=zs md mt,code:=zr cd,closureTuple:=ct}}
noncomputable def Ab(P:Params):List (Addr×Obj):=[
(2,{cls:=.none,data:=.dict #[]}),
(3,{cls:=.type "dict",data:=.dict #[e P "__name__" 165 (zs "law_ti0049_01" 587),e P "__doc__" 166 .none,e P "__package__" 167 .none,e P "__loader__" 168 (.builtin "__main__.__loader__#opaque"),e P "__spec__" 169 .none,e P "__annotations__" 170 (zr 6),e P "__builtins__" 171 (zr 4),e P "__file__" 173 (zs "/claim/cut.py" 172),e P "__cached__" 174 .none,e P "_wall" 193 (zr 21),e P "EMPTYSTRING" 197 (zs "" 196),e P "_Accumulator" 291 (zr 99),e P "Whitespace" 393 (zr 165),e P "LPAR" 395 (.int 7 394),e P "RPAR" 397 (.int 8 396),e P "LSQB" 399 (.int 9 398),e P "RSQB" 401 (.int 10 400),e P "COLON" 403 (.int 11 402),e P "COMMA" 405 (.int 12 404),e P "SEMI" 407 (.int 13 406),e P "PLUS" 409 (.int 14 408),e P "MINUS" 411 (.int 15 410),e P "STAR" 413 (.int 16 412),e P "SLASH" 415 (.int 17 414),e P "VBAR" 417 (.int 18 416),e P "AMPER" 419 (.int 19 418),e P "LESS" 421 (.int 20 420),e P "GREATER" 423 (.int 21 422),e P "EQUAL" 425 (.int 22 424),e P "DOT" 427 (.int 23 426),e P "PERCENT" 429 (.int 24 428),e P "LBRACE" 431 (.int 25 430),e P "RBRACE" 433 (.int 26 432),e P "EQEQUAL" 435 (.int 27 434),e P "NOTEQUAL" 437 (.int 28 436),e P "LESSEQUAL" 439 (.int 29 438),e P "GREATEREQUAL" 441 (.int 30 440),e P "TILDE" 443 (.int 31 442),e P "CIRCUMFLEX" 445 (.int 32 444),e P "LEFTSHIFT" 447 (.int 33 446),e P "RIGHTSHIFT" 449 (.int 34 448),e P "DOUBLESTAR" 451 (.int 35 450),e P "PLUSEQUAL" 453 (.int 36 452),e P "MINEQUAL" 455 (.int 37 454),e P "STAREQUAL" 457 (.int 38 456),e P "SLASHEQUAL" 459 (.int 39 458),e P "PERCENTEQUAL" 461 (.int 40 460),e P "AMPEREQUAL" 463 (.int 41 462),e P "VBAREQUAL" 465 (.int 42 464),e P "CIRCUMFLEXEQUAL" 467 (.int 43 466),e P "LEFTSHIFTEQUAL" 469 (.int 44 468),e P "RIGHTSHIFTEQUAL" 471 (.int 45 470),e P "DOUBLESTAREQUAL" 473 (.int 46 472),e P "DOUBLESLASH" 475 (.int 47 474),e P "DOUBLESLASHEQUAL" 477 (.int 48 476),e P "AT" 479 (.int 49 478),e P "ATEQUAL" 481 (.int 50 480),e P "RARROW" 483 (.int 51 482),e P "ELLIPSIS" 485 (.int 52 484),e P "COLONEQUAL" 487 (.int 53 486),e P "EXCLAMATION" 489 (.int 54 488),e P "EXACT_TOKEN_TYPES" 586 (zr 170),e P "_law_drawn" 598 (zr 179),e P "_law_rows" 604 (zr 184),e P "_law_levels" 610 (zr 189),e P "_law_swept" 624 (zr 196),e P "_law_pieces" 630 (zr 201),e P "_law_area" 640 (zr 208),e P "_law_pairs" 646 (zr 213),e P "_law_page" 652 (zr 218),e P "law" 658 (zr 223)] 71}),
(15,b8 #[]),
(17,b8 #[zs "k" 190]),
(18,b8 #[]),
(20,cO #[zs "_wall" 187,zs "_wall" 188,zs "/claim/cut.py" 189,zi 1,zi 1,zi 0,zi 0,zi 3,zr 15,.bool true,zi 181,zr 16,.none,zr 17,zr 18,zr 19,zi 191,zi 1,zs "/claim/cut.py" 192]),
(21,fO (tp 0) "_wall" "_wall" [] .none "__main__" 164 20 .none),
(22,b8 #[.type "list"]),
(25,{cls:=.type "cell",data:=.cell (some (zr 99))}),
(30,b8 #[.int 0 210]),
(31,b8 #[zr 25]),
(32,b8 #[zs "__class__" 214]),
(34,b8 #[zs "self" 215,zs "initial_size" 216]),
(35,b8 #[]),
(37,cO #[zs "__init__" 211,zs "_Accumulator.__init__" 212,zs "/claim/cut.py" 213,zi 8,zi 2,zi 0,zi 0,zi 3,zr 32,.bool true,zi 181,zr 33,.none,zr 34,zr 35,zr 36,zi 217,zi 8,zs "/claim/cut.py" 218]),
(38,fO (mt 3 0) "__init__" "_Accumulator.__init__" [(.ofString "__class__",25)] (zr 30) "cpy313.email.header" 194 37 (zr 31)),
(39,b8 #[]),
(41,b8 #[zs "self" 223,zs "fws" 224,zs "string" 225]),
(42,b8 #[]),
(44,cO #[zs "push" 220,zs "_Accumulator.push" 221,zs "/claim/cut.py" 222,zi 12,zi 3,zi 0,zi 0,zi 3,zr 39,.bool true,zi 181,zr 40,.none,zr 41,zr 42,zr 43,zi 226,zi 12,zs "/claim/cut.py" 227]),
(45,fO (mt 3 1) "push" "_Accumulator.push" [] .none "cpy313.email.header" 194 44 .none),
(46,b8 #[.int 0 229]),
(47,b8 #[]),
(49,b8 #[zs "self" 233,zs "i" 234,zs "popped" 235]),
(50,b8 #[]),
(52,cO #[zs "pop_from" 230,zs "_Accumulator.pop_from" 231,zs "/claim/cut.py" 232,zi 15,zi 2,zi 0,zi 0,zi 3,zr 47,.bool true,zi 181,zr 48,.none,zr 49,zr 50,zr 51,zi 236,zi 15,zs "/claim/cut.py" 237]),
(53,fO (mt 3 2) "pop_from" "_Accumulator.pop_from" [] (zr 46) "cpy313.email.header" 194 52 .none),
(54,b8 #[]),
(56,b8 #[zs "self" 242]),
(57,b8 #[]),
(59,cO #[zs "pop" 239,zs "_Accumulator.pop" 240,zs "/claim/cut.py" 241,zi 20,zi 1,zi 0,zi 0,zi 3,zr 54,.bool true,zi 181,zr 55,.none,zr 56,zr 57,zr 58,zi 243,zi 20,zs "/claim/cut.py" 244]),
(60,fO (mt 3 3) "pop" "_Accumulator.pop" [] .none "cpy313.email.header" 194 59 .none),
(61,b8 #[]),
(63,b8 #[zs "self" 249]),
(64,b8 #[]),
(66,cO #[zs "__len__" 246,zs "_Accumulator.__len__" 247,zs "/claim/cut.py" 248,zi 23,zi 1,zi 0,zi 0,zi 3,zr 61,.bool true,zi 181,zr 62,.none,zr 63,zr 64,zr 65,zi 250,zi 23,zs "/claim/cut.py" 251]),
(67,fO (mt 3 4) "__len__" "_Accumulator.__len__" [] .none "cpy313.email.header" 194 66 .none),
(68,b8 #[]),
(70,b8 #[zs "self" 256]),
(71,b8 #[]),
(73,cO #[zs "__str__" 253,zs "_Accumulator.__str__" 254,zs "/claim/cut.py" 255,zi 26,zi 1,zi 0,zi 0,zi 3,zr 68,.bool true,zi 181,zr 69,.none,zr 70,zr 71,zr 72,zi 257,zi 26,zs "/claim/cut.py" 258]),
(74,fO (mt 3 5) "__str__" "_Accumulator.__str__" [] .none "cpy313.email.header" 194 73 .none),
(75,b8 #[.none]),
(76,b8 #[]),
(78,b8 #[zs "self" 263,zs "startval" 264]),
(79,b8 #[]),
(81,cO #[zs "reset" 260,zs "_Accumulator.reset" 261,zs "/claim/cut.py" 262,zi 29,zi 2,zi 0,zi 0,zi 3,zr 76,.bool true,zi 181,zr 77,.none,zr 78,zr 79,zr 80,zi 265,zi 29,zs "/claim/cut.py" 266]),
(82,fO (mt 3 6) "reset" "_Accumulator.reset" [] (zr 75) "cpy313.email.header" 194 81 .none),
(83,b8 #[]),
(85,b8 #[zs "self" 271]),
(86,b8 #[]),
(88,cO #[zs "is_onlyws" 268,zs "_Accumulator.is_onlyws" 269,zs "/claim/cut.py" 270,zi 35,zi 1,zi 0,zi 0,zi 3,zr 83,.bool true,zi 181,zr 84,.none,zr 85,zr 86,zr 87,zi 272,zi 35,zs "/claim/cut.py" 273]),
(89,fO (mt 3 7) "is_onlyws" "_Accumulator.is_onlyws" [] .none "cpy313.email.header" 194 88 .none),
(90,b8 #[]),
(92,b8 #[zs "self" 278]),
(93,b8 #[]),
(95,cO #[zs "part_count" 275,zs "_Accumulator.part_count" 276,zs "/claim/cut.py" 277,zi 38,zi 1,zi 0,zi 0,zi 3,zr 90,.bool true,zi 181,zr 91,.none,zr 92,zr 93,zr 94,zi 279,zi 38,zs "/claim/cut.py" 280]),
(96,fO (mt 3 8) "part_count" "_Accumulator.part_count" [] .none "cpy313.email.header" 194 95 .none),
(97,b8 #[zs "_initial_size" 282]),
(98,{cls:=.type "dict",data:=.dict #[e P "__module__" 205 (zs "cpy313.email.header" 194),e P "__firstlineno__" 209 (.int 6 208),e P "__init__" 219 (zr 38),e P "push" 228 (zr 45),e P "pop_from" 238 (zr 53),e P "pop" 245 (zr 60),e P "__len__" 252 (zr 67),e P "__str__" 259 (zr 74),e P "reset" 267 (zr 82),e P "is_onlyws" 274 (zr 89),e P "part_count" 281 (zr 96),e P "__static_attributes__" 283 (zr 97),e P "__dict__" 286 (zr 100),e P "__weakref__" 288 (zr 101),e P "__doc__" 289 .none] 5}),
(99,{cls:=.type "type",data:=.cls {name:=.ofString "_Accumulator",bases:=[.type "list"],mro:=[zr 99,.type "list",.type "object"],ns:=98,qualname:=.ofString "_Accumulator"},slots:=#[some (zr 22),none,some (zs "_Accumulator" 198),some (zs "_Accumulator" 206),some (.builtin "list.__new__"),some (.bool true)]}),
(100,{cls:=.type "getset_descriptor",data:=.fields #[zs "__dict__" 285,zr 99,.builtin "function.__dict__",.builtin "function.__dict__#set"]}),
(101,{cls:=.type "getset_descriptor",data:=.fields #[zs "__weakref__" 287,zr 99,.builtin "ExceptionGroup.__weakref__",.none]}),
(114,b8 #[]),
(116,b8 #[zs "self" 314,zs "ws" 315,zs "S" 316,zs "T" 317,zs "count" 318,zs "b" 319,zs "n" 320,zs "nt" 321,zs "ch" 322]),
(117,b8 #[]),
(119,cO #[zs "__init__" 311,zs "Whitespace.__init__" 312,zs "/claim/cut.py" 313,zi 44,zi 2,zi 0,zi 0,zi 3,zr 114,.bool true,zi 181,zr 115,.none,zr 116,zr 117,zr 118,zi 323,zi 44,zs "/claim/cut.py" 324]),
(120,fO (mt 5 1) "__init__" "Whitespace.__init__" [] .none "cpy313.tabnanny" 292 119 .none),
(121,b8 #[]),
(123,b8 #[zs "self" 329,zs "count" 330,zs "trailing" 331]),
(124,b8 #[]),
(126,cO #[zs "longest_run_of_spaces" 326,zs "Whitespace.longest_run_of_spaces" 327,zs "/claim/cut.py" 328,zi 67,zi 1,zi 0,zi 0,zi 3,zr 121,.bool true,zi 181,zr 122,.none,zr 123,zr 124,zr 125,zi 332,zi 67,zs "/claim/cut.py" 333]),
(127,fO (mt 5 2) "longest_run_of_spaces" "Whitespace.longest_run_of_spaces" [] .none "cpy313.tabnanny" 292 126 .none),
(128,b8 #[]),
(130,b8 #[zs "self" 338,zs "tabsize" 339,zs "count" 340,zs "trailing" 341,zs "il" 342,zs "i" 343]),
(131,b8 #[]),
(133,cO #[zs "indent_level" 335,zs "Whitespace.indent_level" 336,zs "/claim/cut.py" 337,zi 71,zi 2,zi 0,zi 0,zi 3,zr 128,.bool true,zi 181,zr 129,.none,zr 130,zr 131,zr 132,zi 344,zi 71,zs "/claim/cut.py" 345]),
(134,fO (mt 5 3) "indent_level" "Whitespace.indent_level" [] .none "cpy313.tabnanny" 292 133 .none),
(135,b8 #[]),
(137,b8 #[zs "self" 350,zs "other" 351]),
(138,b8 #[]),
(140,cO #[zs "equal" 347,zs "Whitespace.equal" 348,zs "/claim/cut.py" 349,zi 78,zi 2,zi 0,zi 0,zi 3,zr 135,.bool true,zi 181,zr 136,.none,zr 137,zr 138,zr 139,zi 352,zi 78,zs "/claim/cut.py" 353]),
(141,fO (mt 5 4) "equal" "Whitespace.equal" [] .none "cpy313.tabnanny" 292 140 .none),
(142,b8 #[]),
(144,b8 #[zs "self" 358,zs "other" 359]),
(145,b8 #[]),
(147,cO #[zs "not_equal_witness" 355,zs "Whitespace.not_equal_witness" 356,zs "/claim/cut.py" 357,zi 81,zi 2,zi 0,zi 0,zi 3,zr 142,.bool true,zi 181,zr 143,.none,zr 144,zr 145,zr 146,zi 360,zi 81,zs "/claim/cut.py" 361]),
(148,fO (mt 5 5) "not_equal_witness" "Whitespace.not_equal_witness" [] .none "cpy313.tabnanny" 292 147 .none),
(149,b8 #[]),
(151,b8 #[zs "self" 366,zs "other" 367,zs "n" 368,zs "ts" 369]),
(152,b8 #[]),
(154,cO #[zs "less" 363,zs "Whitespace.less" 364,zs "/claim/cut.py" 365,zi 84,zi 2,zi 0,zi 0,zi 3,zr 149,.bool true,zi 181,zr 150,.none,zr 151,zr 152,zr 153,zi 370,zi 84,zs "/claim/cut.py" 371]),
(155,fO (mt 5 6) "less" "Whitespace.less" [] .none "cpy313.tabnanny" 292 154 .none),
(156,b8 #[]),
(158,b8 #[zs "self" 376,zs "other" 377]),
(159,b8 #[]),
(161,cO #[zs "not_less_witness" 373,zs "Whitespace.not_less_witness" 374,zs "/claim/cut.py" 375,zi 95,zi 2,zi 0,zi 0,zi 3,zr 156,.bool true,zi 181,zr 157,.none,zr 158,zr 159,zr 160,zi 378,zi 95,zs "/claim/cut.py" 379]),
(162,fO (mt 5 7) "not_less_witness" "Whitespace.not_less_witness" [] .none "cpy313.tabnanny" 292 161 .none),
(163,b8 #[zs "is_simple" 381,zs "n" 382,zs "norm" 383,zs "nt" 384,zs "raw" 385]),
(164,{cls:=.type "dict",data:=.dict #[e P "__module__" 301 (zs "cpy313.tabnanny" 292),e P "__firstlineno__" 305 (.int 41 304),e P "S" 309 (zs " " 307),e P "T" 310 (zs "\t" 308),e P "__init__" 325 (zr 120),e P "longest_run_of_spaces" 334 (zr 127),e P "indent_level" 346 (zr 134),e P "equal" 354 (zr 141),e P "not_equal_witness" 362 (zr 148),e P "less" 372 (zr 155),e P "not_less_witness" 380 (zr 162),e P "__static_attributes__" 386 (zr 163),e P "__dict__" 388 (zr 166),e P "__weakref__" 390 (zr 167),e P "__doc__" 391 .none] 4}),
(165,{cls:=.type "type",data:=.cls {name:=.ofString "Whitespace",bases:=[.type "object"],mro:=[zr 165,.type "object"],ns:=164,qualname:=.ofString "Whitespace"},slots:=#[none,none,some (zs "Whitespace" 294),some (zs "Whitespace" 302),some (.builtin "object.__new__"),some (.bool true)]}),
(166,{cls:=.type "getset_descriptor",data:=.fields #[zs "__dict__" 387,zr 165,.builtin "function.__dict__",.builtin "function.__dict__#set"]}),
(167,{cls:=.type "getset_descriptor",data:=.fields #[zs "__weakref__" 389,zr 165,.builtin "ExceptionGroup.__weakref__",.none]}),
(170,{cls:=.type "dict",data:=.dict #[e P "!" 490 (.int 54 488),e P "!=" 492 (.int 28 436),e P "%" 494 (.int 24 428),e P "%=" 496 (.int 40 460),e P "&" 498 (.int 19 418),e P "&=" 500 (.int 41 462),e P "(" 502 (.int 7 394),e P ")" 504 (.int 8 396),e P "*" 506 (.int 16 412),e P "**" 508 (.int 35 450),e P "**=" 510 (.int 46 472),e P "*=" 512 (.int 38 456),e P "+" 514 (.int 14 408),e P "+=" 516 (.int 36 452),e P "," 518 (.int 12 404),e P "-" 520 (.int 15 410),e P "-=" 522 (.int 37 454),e P "->" 524 (.int 51 482),e P "." 526 (.int 23 426),e P "..." 528 (.int 52 484),e P "/" 530 (.int 17 414),e P "//" 532 (.int 47 474),e P "//=" 534 (.int 48 476),e P "/=" 536 (.int 39 458),e P ":" 538 (.int 11 402),e P ":=" 540 (.int 53 486),e P ";" 542 (.int 13 406),e P "<" 544 (.int 20 420),e P "<<" 546 (.int 33 446),e P "<<=" 548 (.int 44 468),e P "<=" 550 (.int 29 438),e P "=" 552 (.int 22 424),e P "==" 554 (.int 27 434),e P ">" 556 (.int 21 422),e P ">=" 558 (.int 30 440),e P ">>" 559 (.int 34 448),e P ">>=" 560 (.int 45 470),e P "@" 561 (.int 49 478),e P "@=" 562 (.int 50 480),e P "[" 563 (.int 9 398),e P "]" 564 (.int 10 400),e P "^" 565 (.int 32 444),e P "^=" 566 (.int 43 466),e P "{" 567 (.int 25 430),e P "|" 568 (.int 18 416),e P "|=" 569 (.int 42 464),e P "}" 570 (.int 26 432),e P "~" 571 (.int 31 442)] 48}),
(173,b8 #[]),
(175,b8 #[zs "numbers" 592,zs "page" 593,zs "depth" 594,zs "number" 595]),
(176,b8 #[]),
(178,cO #[zs "_law_drawn" 589,zs "_law_drawn" 590,zs "/claim/cut.py" 591,zi 147,zi 1,zi 0,zi 0,zi 3,zr 173,.bool true,zi 181,zr 174,.none,zr 175,zr 176,zr 177,zi 596,zi 147,zs "/claim/cut.py" 597]),
(179,fO (tp 56) "_law_drawn" "_law_drawn" [] .none "law_ti0049_01" 587 178 .none),
(180,b8 #[]),
(183,cO #[zs "_law_rows" 599,zs "_law_rows" 600,zs "/claim/cut.py" 601,zi 153,zi 2,zi 0,zi 0,zi 3,zr 180,.bool true,zi 181,zr 181,.none,.none,.none,zr 182,zi 602,zi 153,zs "/claim/cut.py" 603]),
(184,fO (tp 57) "_law_rows" "_law_rows" [] .none "law_ti0049_01" 587 183 .none),
(185,b8 #[]),
(188,cO #[zs "_law_levels" 605,zs "_law_levels" 606,zs "/claim/cut.py" 607,zi 162,zi 1,zi 0,zi 0,zi 3,zr 185,.bool true,zi 181,zr 186,.none,.none,.none,zr 187,zi 608,zi 162,zs "/claim/cut.py" 609]),
(189,fO (tp 58) "_law_levels" "_law_levels" [] .none "law_ti0049_01" 587 188 .none),
(190,b8 #[]),
(192,b8 #[zs "levels" 614,zs "signs" 615,zs "row" 616,zs "closing" 617,zs "ahead" 618,zs "level" 619,zs "place" 620,zs "sign" 621]),
(193,b8 #[]),
(195,cO #[zs "_law_swept" 611,zs "_law_swept" 612,zs "/claim/cut.py" 613,zi 170,zi 2,zi 0,zi 0,zi 3,zr 190,.bool true,zi 181,zr 191,.none,zr 192,zr 193,zr 194,zi 622,zi 170,zs "/claim/cut.py" 623]),
(196,fO (tp 59) "_law_swept" "_law_swept" [] .none "law_ti0049_01" 587 195 .none),
(197,b8 #[]),
(200,cO #[zs "_law_pieces" 625,zs "_law_pieces" 626,zs "/claim/cut.py" 627,zi 179,zi 1,zi 0,zi 0,zi 3,zr 197,.bool true,zi 181,zr 198,.none,.none,.none,zr 199,zi 628,zi 179,zs "/claim/cut.py" 629]),
(201,fO (tp 60) "_law_pieces" "_law_pieces" [] .none "law_ti0049_01" 587 200 .none),
(202,b8 #[]),
(204,b8 #[zs "numbers" 634,zs "area" 635,zs "height" 636,zs "number" 637]),
(205,b8 #[]),
(207,cO #[zs "_law_area" 631,zs "_law_area" 632,zs "/claim/cut.py" 633,zi 189,zi 1,zi 0,zi 0,zi 3,zr 202,.bool true,zi 181,zr 203,.none,zr 204,zr 205,zr 206,zi 638,zi 189,zs "/claim/cut.py" 639]),
(208,fO (tp 61) "_law_area" "_law_area" [] .none "law_ti0049_01" 587 207 .none),
(209,b8 #[]),
(212,cO #[zs "_law_pairs" 641,zs "_law_pairs" 642,zs "/claim/cut.py" 643,zi 198,zi 2,zi 0,zi 0,zi 3,zr 209,.bool true,zi 181,zr 210,.none,.none,.none,zr 211,zi 644,zi 198,zs "/claim/cut.py" 645]),
(213,fO (tp 62) "_law_pairs" "_law_pairs" [] .none "law_ti0049_01" 587 212 .none),
(214,b8 #[]),
(217,cO #[zs "_law_page" 647,zs "_law_page" 648,zs "/claim/cut.py" 649,zi 206,zi 1,zi 0,zi 0,zi 3,zr 214,.bool true,zi 181,zr 215,.none,.none,.none,zr 216,zi 650,zi 206,zs "/claim/cut.py" 651]),
(218,fO (tp 63) "_law_page" "_law_page" [] .none "law_ti0049_01" 587 217 .none),
(219,b8 #[]),
(222,cO #[zs "law" 653,zs "law" 654,zs "/claim/cut.py" 655,zi 220,zi 1,zi 0,zi 0,zi 3,zr 219,.bool true,zi 181,zr 220,.none,.none,.none,zr 221,zi 656,zi 220,zs "/claim/cut.py" 657]),
(223,fO (tp 64) "law" "law" [] .none "law_ti0049_01" 587 222 .none)
]
noncomputable def bi(P:Params):Obj:={cls:= .type "dict",data:= .dict #[e P "__name__" 1 (zs "builtins" 160),e P "__doc__" 2 (.builtin "builtins.__doc__:str#opaque"),e P "__package__" 3 (.builtin "builtins.__package__:str#opaque"),e P "__loader__" 4 (.builtin "builtins.__loader__:shared#opaque"),e P "__spec__" 5 (.builtin "builtins.__spec__#opaque"),e P "__build_class__" 6 (.builtin "__build_class__"),e P "__import__" 7 (.builtin "__import__"),e P "abs" 8 (.builtin "abs"),e P "all" 9 (.builtin "all"),e P "any" 10 (.builtin "any"),e P "ascii" 11 (.builtin "ascii"),e P "bin" 12 (.builtin "bin"),e P "breakpoint" 13 (.builtin "breakpoint"),e P "callable" 14 (.builtin "callable"),e P "chr" 15 (.builtin "chr"),e P "compile" 16 (.builtin "compile"),e P "delattr" 17 (.builtin "delattr"),e P "dir" 18 (.builtin "dir"),e P "divmod" 19 (.builtin "divmod"),e P "eval" 20 (.builtin "eval"),e P "exec" 21 (.builtin "exec"),e P "format" 22 (.builtin "format"),e P "getattr" 23 (.builtin "getattr"),e P "globals" 24 (.builtin "globals"),e P "hasattr" 25 (.builtin "hasattr"),e P "hash" 26 (.builtin "hash"),e P "hex" 27 (.builtin "hex"),e P "id" 28 (.builtin "id"),e P "input" 29 (.builtin "input"),e P "isinstance" 30 (.builtin "isinstance"),e P "issubclass" 31 (.builtin "issubclass"),e P "iter" 32 (.builtin "iter"),e P "aiter" 33 (.builtin "aiter"),e P "len" 34 (.builtin "len"),e P "locals" 35 (.builtin "locals"),e P "max" 36 (.builtin "max"),e P "min" 37 (.builtin "min"),e P "next" 38 (.builtin "next"),e P "anext" 39 (.builtin "anext"),e P "oct" 40 (.builtin "oct"),e P "ord" 41 (.builtin "ord"),e P "pow" 42 (.builtin "pow"),e P "print" 43 (.builtin "print"),e P "repr" 44 (.builtin "repr"),e P "round" 45 (.builtin "round"),e P "setattr" 46 (.builtin "setattr"),e P "sorted" 47 (.builtin "sorted"),e P "sum" 48 (.builtin "sum"),e P "vars" 49 (.builtin "vars"),e P "None" 50 .none,e P "Ellipsis" 51 .ellipsis,e P "NotImplemented" 52 (.notImplemented),e P "False" 53 (.bool false),e P "True" 54 (.bool true),e P "bool" 55 (.type "bool"),e P "memoryview" 56 (.type "memoryview"),e P "bytearray" 57 (.type "bytearray"),e P "bytes" 58 (.type "bytes"),e P "classmethod" 59 (.type "classmethod"),e P "complex" 60 (.type "complex"),e P "dict" 61 (.type "dict"),e P "enumerate" 62 (.type "enumerate"),e P "filter" 63 (.type "filter"),e P "float" 64 (.type "float"),e P "frozenset" 65 (.type "frozenset"),e P "property" 66 (.type "property"),e P "int" 67 (.type "int"),e P "list" 68 (.type "list"),e P "map" 69 (.type "map"),e P "object" 70 (.type "object"),e P "range" 71 (.type "range"),e P "reversed" 72 (.type "reversed"),e P "set" 73 (.type "set"),e P "slice" 74 (.type "slice"),e P "staticmethod" 75 (.type "staticmethod"),e P "str" 76 (.type "str"),e P "super" 77 (.type "super"),e P "tuple" 78 (.type "tuple"),e P "type" 79 (.type "type"),e P "zip" 80 (.type "zip"),e P "__debug__" 81 (.bool true),e P "BaseException" 82 (.type "BaseException"),e P "BaseExceptionGroup" 83 (.type "BaseExceptionGroup"),e P "Exception" 84 (.type "Exception"),e P "GeneratorExit" 85 (.type "GeneratorExit"),e P "KeyboardInterrupt" 86 (.type "KeyboardInterrupt"),e P "SystemExit" 87 (.type "SystemExit"),e P "ArithmeticError" 88 (.type "ArithmeticError"),e P "AssertionError" 89 (.type "AssertionError"),e P "AttributeError" 90 (.type "AttributeError"),e P "BufferError" 91 (.type "BufferError"),e P "EOFError" 92 (.type "EOFError"),e P "ImportError" 93 (.type "ImportError"),e P "LookupError" 94 (.type "LookupError"),e P "MemoryError" 95 (.type "MemoryError"),e P "NameError" 96 (.type "NameError"),e P "OSError" 97 (.type "OSError"),e P "ReferenceError" 98 (.type "ReferenceError"),e P "RuntimeError" 99 (.type "RuntimeError"),e P "StopAsyncIteration" 100 (.type "StopAsyncIteration"),e P "StopIteration" 101 (.type "StopIteration"),e P "SyntaxError" 102 (.type "SyntaxError"),e P "SystemError" 103 (.type "SystemError"),e P "TypeError" 104 (.type "TypeError"),e P "ValueError" 105 (.type "ValueError"),e P "Warning" 106 (.type "Warning"),e P "FloatingPointError" 107 (.type "FloatingPointError"),e P "OverflowError" 108 (.type "OverflowError"),e P "ZeroDivisionError" 109 (.type "ZeroDivisionError"),e P "BytesWarning" 110 (.type "BytesWarning"),e P "DeprecationWarning" 111 (.type "DeprecationWarning"),e P "EncodingWarning" 112 (.type "EncodingWarning"),e P "FutureWarning" 113 (.type "FutureWarning"),e P "ImportWarning" 114 (.type "ImportWarning"),e P "PendingDeprecationWarning" 115 (.type "PendingDeprecationWarning"),e P "ResourceWarning" 116 (.type "ResourceWarning"),e P "RuntimeWarning" 117 (.type "RuntimeWarning"),e P "SyntaxWarning" 118 (.type "SyntaxWarning"),e P "UnicodeWarning" 119 (.type "UnicodeWarning"),e P "UserWarning" 120 (.type "UserWarning"),e P "BlockingIOError" 121 (.type "BlockingIOError"),e P "ChildProcessError" 122 (.type "ChildProcessError"),e P "ConnectionError" 123 (.type "ConnectionError"),e P "FileExistsError" 124 (.type "FileExistsError"),e P "FileNotFoundError" 125 (.type "FileNotFoundError"),e P "InterruptedError" 126 (.type "InterruptedError"),e P "IsADirectoryError" 127 (.type "IsADirectoryError"),e P "NotADirectoryError" 128 (.type "NotADirectoryError"),e P "PermissionError" 129 (.type "PermissionError"),e P "ProcessLookupError" 130 (.type "ProcessLookupError"),e P "TimeoutError" 131 (.type "TimeoutError"),e P "IndentationError" 132 (.type "IndentationError"),e P "_IncompleteInputError" 133 (.type "_IncompleteInputError"),e P "IndexError" 134 (.type "IndexError"),e P "KeyError" 135 (.type "KeyError"),e P "ModuleNotFoundError" 136 (.type "ModuleNotFoundError"),e P "NotImplementedError" 137 (.type "NotImplementedError"),e P "PythonFinalizationError" 138 (.type "PythonFinalizationError"),e P "RecursionError" 139 (.type "RecursionError"),e P "UnboundLocalError" 140 (.type "UnboundLocalError"),e P "UnicodeError" 141 (.type "UnicodeError"),e P "BrokenPipeError" 142 (.type "BrokenPipeError"),e P "ConnectionAbortedError" 143 (.type "ConnectionAbortedError"),e P "ConnectionRefusedError" 144 (.type "ConnectionRefusedError"),e P "ConnectionResetError" 145 (.type "ConnectionResetError"),e P "TabError" 146 (.type "TabError"),e P "UnicodeDecodeError" 147 (.type "UnicodeDecodeError"),e P "UnicodeEncodeError" 148 (.type "UnicodeEncodeError"),e P "UnicodeTranslateError" 149 (.type "UnicodeTranslateError"),e P "ExceptionGroup" 150 (.type "ExceptionGroup"),e P "EnvironmentError" 151 (.type "OSError"),e P "IOError" 152 (.type "OSError"),e P "open" 153 (.builtin "open"),e P "quit" 154 (.builtin "builtins.quit#opaque"),e P "exit" 155 (.builtin "builtins.exit#opaque"),e P "copyright" 156 (.builtin "builtins.copyright#opaque"),e P "credits" 157 (.builtin "builtins.credits#opaque"),e P "license" 158 (.builtin "builtins.license#opaque"),e P "help" 159 (.builtin "builtins.help#opaque")] 159}
section
set_option tactic.hygienic true
open PySem.W.ZRun
theorem said0:PySem.Challenge.rw_ti0049_01.wellSaid=true:=by kernel_rfl!
noncomputable def de:Obj:={cls:=.none,data:=.fields #[]}
noncomputable def xz(k:Nat):Obj:={cls:=.none,data:=.fields ([zi 1,zi 0,zr 20,zi 6,zi 0,zr 28,zi 41,zi 0,zr 109,zi 147,zi 0,zr 178,zi 153,zi 0,zr 183,zi 162,zi 0,zr 188,zi 170,zi 0,zr 195,zi 179,zi 0,zr 200,zi 189,zi 0,zr 207,zi 198,zi 0,zr 212,zi 206,zi 0,zr 217,zi 220,zi 0,zr 222].take (3*k)).toArray}
noncomputable def rD:List (Addr×Obj)→Nat→Obj
 |[],_=>de
 |(a,o)::l,b=>match Nat.beq a b with|true=>o|false=>rD l b
noncomputable def b5(P:Params)(a:Nat):Obj:=match(rD (Ab P) a).data with
 |.func f=>{cls:=.none,data:=.func {name:=f.name,qualname:=f.qualname,params:=f.params,body:=f.body,scope:=f.scope,globals:=0,closure:=[],defaults:=.none,kwdefaults:=.none}}
 |_=>de
noncomputable def HT(P:Params):List (Addr×Obj):=[(0,boot_o_0 P),(1,boot_o_1 P),(4,boot_o_4 P),(5,boot_o_5 P),(6,boot_o_6 P),(7,boot_o_7 P),(8,boot_o_8 P),(9,boot_o_9 P),(10,boot_o_10 P),(11,b8 #[]),(12,xz 14),(13,cO #[zs "<module>" 182,zs "<module>" 183,zs "/claim/cut.py" 184,zi 1,zi 0,zi 0,zi 0,zi 0,zr 11,.bool false,zi 181,zr 12,.none,.none,.none,.none,zi 185,zi 1,zs "/claim/cut.py" 186]),(14,{cls:=.type "frame",slots:=#[some (zr 13),some (zr 3),some (zr 3),none,some (zs "__main__" 164),none,some (zr 0)]}),(16,de),(19,b5 P 21),(23,{cls:=.type "builtin_function_or_method",data:=.fields #[.builtin "type.__prepare__",.type "type"]}),(24,{cls:=.type "dict",data:=.dict #[e P "__module__" 205 (zs "cpy313.email.header" 194),e P "__qualname__" 207 (zs "_Accumulator" 206),e P "__firstlineno__" 209 (.int 6 208),e P "__init__" 219 (zr 38),e P "push" 228 (zr 45),e P "pop_from" 238 (zr 53),e P "pop" 245 (zr 60),e P "__len__" 252 (zr 67),e P "__str__" 259 (zr 74),e P "reset" 267 (zr 82),e P "is_onlyws" 274 (zr 89),e P "part_count" 281 (zr 96),e P "__static_attributes__" 283 (zr 97),e P "__classcell__" 284 (zr 25)] 14}),(26,b8 #[]),(27,{cls:=.none,data:=.fields #[zi 8,zi 4,zr 37,zi 12,zi 4,zr 44,zi 15,zi 4,zr 52,zi 20,zi 4,zr 59,zi 23,zi 4,zr 66,zi 26,zi 4,zr 73,zi 29,zi 4,zr 81,zi 35,zi 4,zr 88,zi 38,zi 4,zr 95]}),(28,cO #[zs "_Accumulator" 200,zs "_Accumulator" 201,zs "/claim/cut.py" 202,zi 6,zi 0,zi 0,zi 0,zi 0,zr 26,.bool false,zi 181,zr 27,.none,.none,.none,.none,zi 203,zi 6,zs "/claim/cut.py" 204]),(29,{cls:=.type "frame",slots:=#[some (zr 28),some (zr 3),some (zr 24),none,some (zs "cpy313.email.header" 194),none,some (zr 0)]}),(33,de),(36,b5 P 38),(40,de),(43,b5 P 45),(48,de),(51,b5 P 53),(55,de),(58,b5 P 60),(62,de),(65,b5 P 67),(69,de),(72,b5 P 74),(77,de),(80,b5 P 82),(84,de),(87,b5 P 89),(91,de),(94,b5 P 96),(102,{cls:=.type "super",data:=.fields #[zr 99,zr 99,zr 99]}),(103,{cls:=.type "builtin_function_or_method",data:=.fields #[.builtin "object.__init_subclass__",zr 99]}),(104,b8 #[]),(105,{cls:=.type "builtin_function_or_method",data:=.fields #[.builtin "type.__prepare__",.type "type"]}),(106,{cls:=.type "dict",data:=.dict #[e P "__module__" 301 (zs "cpy313.tabnanny" 292),e P "__qualname__" 303 (zs "Whitespace" 302),e P "__firstlineno__" 305 (.int 41 304),e P "S" 309 (zs " " 307),e P "T" 310 (zs "\t" 308),e P "__init__" 325 (zr 120),e P "longest_run_of_spaces" 334 (zr 127),e P "indent_level" 346 (zr 134),e P "equal" 354 (zr 141),e P "not_equal_witness" 362 (zr 148),e P "less" 372 (zr 155),e P "not_less_witness" 380 (zr 162),e P "__static_attributes__" 386 (zr 163)] 13}),(107,b8 #[]),(108,{cls:=.none,data:=.fields #[zi 44,zi 4,zr 119,zi 67,zi 4,zr 126,zi 71,zi 4,zr 133,zi 78,zi 4,zr 140,zi 81,zi 4,zr 147,zi 84,zi 4,zr 154,zi 95,zi 4,zr 161]}),(109,cO #[zs "Whitespace" 296,zs "Whitespace" 297,zs "/claim/cut.py" 298,zi 41,zi 0,zi 0,zi 0,zi 0,zr 107,.bool false,zi 181,zr 108,.none,.none,.none,.none,zi 299,zi 41,zs "/claim/cut.py" 300]),(110,{cls:=.type "frame",slots:=#[some (zr 109),some (zr 3),some (zr 106),none,some (zs "cpy313.tabnanny" 292),none,some (zr 0)]}),(111,{cls:=.type "str_ascii_iterator",data:=.fields #[.none,zi 2]}),(112,b8 #[]),(113,{cls:=.type "StopIteration",data:=.fields #[zr 112,.none,.none,.none,.bool false,.none]}),(115,de),(118,b5 P 120),(122,de),(125,b5 P 127),(129,de),(132,b5 P 134),(136,de),(139,b5 P 141),(143,de),(146,b5 P 148),(150,de),(153,b5 P 155),(157,de),(160,b5 P 162),(168,{cls:=.type "super",data:=.fields #[zr 165,zr 165,zr 165]}),(169,{cls:=.type "builtin_function_or_method",data:=.fields #[.builtin "object.__init_subclass__",zr 165]}),(171,{cls:=.type "dict",data:=.dict #[e P "->" 524 (.int 51 482),e P "." 526 (.int 23 426),e P "..." 528 (.int 52 484),e P "/" 530 (.int 17 414),e P "//" 532 (.int 47 474),e P "//=" 534 (.int 48 476),e P "/=" 536 (.int 39 458),e P ":" 538 (.int 11 402),e P ":=" 540 (.int 53 486),e P ";" 542 (.int 13 406),e P "<" 544 (.int 20 420),e P "<<" 546 (.int 33 446),e P "<<=" 548 (.int 44 468),e P "<=" 550 (.int 29 438),e P "=" 552 (.int 22 424),e P "==" 554 (.int 27 434),e P ">" 556 (.int 21 422)] 17}),(172,{cls:=.type "dict",data:=.dict #[e P ">=" 558 (.int 30 440),e P ">>" 559 (.int 34 448),e P ">>=" 560 (.int 45 470),e P "@" 561 (.int 49 478),e P "@=" 562 (.int 50 480),e P "[" 563 (.int 9 398),e P "]" 564 (.int 10 400),e P "^" 565 (.int 32 444),e P "^=" 566 (.int 43 466),e P "{" 567 (.int 25 430),e P "|" 568 (.int 18 416),e P "|=" 569 (.int 42 464),e P "}" 570 (.int 26 432),e P "~" 571 (.int 31 442)] 14}),(174,de),(177,b5 P 179),(181,de),(182,b5 P 184),(186,de),(187,b5 P 189),(191,de),(194,b5 P 196),(198,de),(199,b5 P 201),(203,de),(206,b5 P 208),(210,de),(211,b5 P 213),(215,de),(216,b5 P 218),(220,de),(221,b5 P 223)]
noncomputable def mv:Nat→List (Addr×Obj)→List (Addr×Obj)→List Obj
 |n+1,(a,x)::l,(b,y)::r=>match Nat.blt a b with|true=>x::mv n l ((b,y)::r)|false=>y::mv n ((a,x)::l) r
 |n+1,[],(_,y)::r=>y::mv n [] r
 |n+1,(_,x)::l,[]=>x::mv n l []
 |_,_,_=>[]
noncomputable def xT(P:Params):List Obj:=mv 224 (Ab P) (HT P)
noncomputable def iC(P:Params)(m:Nat)(v:String)(t:Nat):Obj:=match(rD (Ab P) 3).data with
 |.dict es _=>{cls:=.type "dict",data:=.dict (e P "__name__" 165 (zs v t)::(es.toList.drop 1).take (m-1)).toArray m}
 |_=>de
noncomputable def wx:Nat→List Obj→BT→BT
 |_,[],t=>t
 |i,o::l,t=>wx (i+1) l (t.ins i o)
noncomputable def db(P:Params)(n:Nat)(g:Obj)(k t:Nat)(os:OsState):SharedT:=⟨wx 0 ((((xT P).take n).set 3 g).set 12 (xz k)) .nil,n,{},#[],{},t,os⟩
noncomputable def dw:List Stmt:=behindTheImports PySem.Challenge.pw_ti0049_01
noncomputable def dv:Env:={scope:=PySem.Challenge.pw_ti0049_01.main.scope,locals:=mainNs,globals:=mainNs,cells:=[],code:=.ref 13,frame:=some 14}
noncomputable def cb(w:World)(f:Nat)(s:SharedT)(a b:Nat)(p:Pos):=segRunT treeTable PySem.Challenge.pw_ti0049_01 w 11 (some (.ref 6)) 1 f s (piecesOf ((dw.drop a).take b) dv (.body dw dv) p [topFrame ⟨0,0,0,0⟩])
theorem BL(w:World)(os:OsState):cb w 48 (db w.params 15 (boot_o_3 w.params) 0 187 os) 0 3 ⟨0,0,0,0⟩=some (.next,db w.params 22 (iC w.params 11 "cpy313.email.header" 194) 1 198 os,.body dw dv,⟨5,0,5,11⟩):=by
 unfold cb
 simp only[Fast.te10110043849684766642,Fast.te14364793385576792824,Fast.te11892475500146522536]
 kernel_rfl!
theorem BK(w:World)(os:OsState):cb w 501 (db w.params 22 (iC w.params 11 "cpy313.email.header" 194) 1 198 os) 3 1 ⟨5,0,5,11⟩=some (.next,db w.params 104 (iC w.params 12 "cpy313.email.header" 194) 2 292 os,.body dw dv,⟨6,0,39,16⟩):=by
 unfold cb
 simp only[Fast.te10110043849684766642,Fast.te14364793385576792824,Fast.te11892475500146522536]
 kernel_rfl!
theorem BJ(w:World)(os:OsState):cb w 10 (db w.params 104 (iC w.params 12 "cpy313.email.header" 194) 2 292 os) 4 1 ⟨6,0,39,16⟩=some (.next,db w.params 104 (iC w.params 12 "cpy313.tabnanny" 292) 2 294 os,.body dw dv,⟨40,0,40,8⟩):=by
 unfold cb
 simp only[Fast.te10110043849684766642,Fast.te14364793385576792824,Fast.te11892475500146522536]
 kernel_rfl!
theorem yu(w:World)(os:OsState):cb (w.withFollow "special-get-raises" false) 493 (db (w.withFollow "special-get-raises" false).params 104 (iC (w.withFollow "special-get-raises" false).params 12 "cpy313.tabnanny" 292) 2 294 os) 5 1 ⟨40,0,40,8⟩=some (.next,db (w.withFollow "special-get-raises" false).params 170 (iC (w.withFollow "special-get-raises" false).params 13 "cpy313.tabnanny" 292) 3 394 os,.body dw dv,⟨41,0,96,16⟩):=by
 unfold cb
 simp only[Fast.te10110043849684766642,Fast.te14364793385576792824,Fast.te11892475500146522536]
 kernel_rfl!
theorem yt(w:World)(os:OsState):cb (w.withFollow "special-get-raises" true) 493 (db (w.withFollow "special-get-raises" true).params 104 (iC (w.withFollow "special-get-raises" true).params 12 "cpy313.tabnanny" 292) 2 294 os) 5 1 ⟨40,0,40,8⟩=some (.next,db (w.withFollow "special-get-raises" true).params 170 (iC (w.withFollow "special-get-raises" true).params 13 "cpy313.tabnanny" 292) 3 394 os,.body dw dv,⟨41,0,96,16⟩):=by
 unfold cb
 simp only[Fast.te10110043849684766642,Fast.te14364793385576792824,Fast.te11892475500146522536]
 kernel_rfl!
theorem BH(w:World)(os:OsState):cb w 397 (db w.params 170 (iC w.params 13 "cpy313.tabnanny" 292) 3 394 os) 6 44 ⟨41,0,96,16⟩=some (.next,db w.params 170 (iC w.params 57 "cpy313.tabnanny" 292) 3 482 os,.body dw dv,⟨140,0,140,7⟩):=by
 unfold cb
 simp only[Fast.te10110043849684766642,Fast.te14364793385576792824,Fast.te11892475500146522536]
 kernel_rfl!
theorem BG(w:World)(os:OsState):cb w 37 (db w.params 170 (iC w.params 57 "cpy313.tabnanny" 292) 3 482 os) 50 4 ⟨140,0,140,7⟩=some (.next,db w.params 170 (iC w.params 61 "cpy313.tabnanny" 292) 3 490 os,.body dw dv,⟨144,0,144,11⟩):=by
 unfold cb
 simp only[Fast.te10110043849684766642,Fast.te14364793385576792824,Fast.te11892475500146522536]
 kernel_rfl!
theorem yq(w:World)(os:OsState):cb (w.withFollow "special-get-raises" false) 979 (db (w.withFollow "special-get-raises" false).params 170 (iC (w.withFollow "special-get-raises" false).params 61 "cpy313.tabnanny" 292) 3 490 os) 54 1 ⟨144,0,144,11⟩=some (.next,db (w.withFollow "special-get-raises" false).params 173 (iC (w.withFollow "special-get-raises" false).params 62 "cpy313.tabnanny" 292) 3 587 os,.body dw dv,⟨145,0,145,17⟩):=by
 unfold cb
 simp only[Fast.te10110043849684766642,Fast.te14364793385576792824,Fast.te11892475500146522536]
 kernel_rfl!
theorem yp(w:World)(os:OsState):cb (w.withFollow "special-get-raises" true) 979 (db (w.withFollow "special-get-raises" true).params 170 (iC (w.withFollow "special-get-raises" true).params 61 "cpy313.tabnanny" 292) 3 490 os) 54 1 ⟨144,0,144,11⟩=some (.next,db (w.withFollow "special-get-raises" true).params 173 (iC (w.withFollow "special-get-raises" true).params 62 "cpy313.tabnanny" 292) 3 587 os,.body dw dv,⟨145,0,145,17⟩):=by
 unfold cb
 simp only[Fast.te10110043849684766642,Fast.te14364793385576792824,Fast.te11892475500146522536]
 kernel_rfl!
theorem BE(w:World)(os:OsState):cb w 266 (db w.params 173 (iC w.params 62 "cpy313.tabnanny" 292) 3 587 os) 55 10 ⟨145,0,145,17⟩=some (.next,db w.params 224 (iC w.params 71 "law_ti0049_01" 587) 14 659 os,.body dw dv,⟨220,0,230,36⟩):=by
 unfold cb
 simp only[Fast.te10110043849684766642,Fast.te14364793385576792824,Fast.te11892475500146522536]
 kernel_rfl!
theorem BI(w:World)(os:OsState):cb w 493 (db w.params 104 (iC w.params 12 "cpy313.tabnanny" 292) 2 294 os) 5 1 ⟨40,0,40,8⟩=some (.next,db w.params 170 (iC w.params 13 "cpy313.tabnanny" 292) 3 394 os,.body dw dv,⟨41,0,96,16⟩):=byRow2 "special-get-raises" (P:=λw=>∀os:OsState,cb w 493 (db w.params 104 (iC w.params 12 "cpy313.tabnanny" 292) 2 294 os) 5 1 ⟨40,0,40,8⟩=some (.next,db w.params 170 (iC w.params 13 "cpy313.tabnanny" 292) 3 394 os,.body dw dv,⟨41,0,96,16⟩)) (λw os=>yu w os) (λw os=>yt w os) w os
theorem BF(w:World)(os:OsState):cb w 979 (db w.params 170 (iC w.params 61 "cpy313.tabnanny" 292) 3 490 os) 54 1 ⟨144,0,144,11⟩=some (.next,db w.params 173 (iC w.params 62 "cpy313.tabnanny" 292) 3 587 os,.body dw dv,⟨145,0,145,17⟩):=byRow2 "special-get-raises" (P:=λw=>∀os:OsState,cb w 979 (db w.params 170 (iC w.params 61 "cpy313.tabnanny" 292) 3 490 os) 54 1 ⟨144,0,144,11⟩=some (.next,db w.params 173 (iC w.params 62 "cpy313.tabnanny" 292) 3 587 os,.body dw dv,⟨145,0,145,17⟩)) (λw os=>yq w os) (λw os=>yp w os) w os
noncomputable def BU:List Nat:=[0,1,2,4]++(List.range 48).map (·+6)++(List.range 10).map (·+55)
noncomputable def vw:Program:=view PySem.Challenge.pw_ti0049_01 BU
noncomputable def looseI:List PySem.Str:=[.ofString "_Accumulator",.ofString "Whitespace",.ofString "EXACT_TOKEN_TYPES"]
noncomputable def Kf(P:Params):Frag:=(0,bi P)::(62,tableObj #[])::(69,tableObj #[])::Ab P
noncomputable def adrI:List Nat:=[0,62,69,2,3,15,17,18,20,21,22,25,30,31,32,34,35,37,38,39,41,42,44,45,46,47,49,50,52,53,54,56,57,59,60,61,63,64,66,67,68,70,71,73,74,75,76,78,79,81,82,83,85,86,88,89,90,92,93,95,96,97,98,99,100,101,114,116,117,119,120,121,123,124,126,127,128,130,131,133,134,135,137,138,140,141,142,144,145,147,148,149,151,152,154,155,156,158,159,161,162,163,164,165,166,167,170,173,175,176,178,179,180,183,184,185,188,189,190,192,193,195,196,197,200,201,202,204,205,207,208,209,212,213,214,217,218,219,222,223]
theorem adrI_eq(P:Params):adrI=(Kf P).map (·.1):=by kernel_rfl!
noncomputable def wL(P:Params):Heap:={objs:=⟨(((xT P).take 15).set 3 (boot_o_3 P)).set 12 (xz 0)⟩}
noncomputable def ib(P:Params):Heap:={objs:=⟨xT P⟩}
theorem BD(w:World)(os:OsState):topGo treeTable PySem.Challenge.pw_ti0049_01 w 11 (some (.ref 6)) 12 ⟨boot_heap w.params,#[],boot_drawn,boot_toks,os⟩ (topStub PySem.Challenge.pw_ti0049_01)=some (⟨wL w.params,#[],{},187,os⟩,⟨denote treeTable (.body dw dv),.body dw dv,⟨0,0,0,0⟩,[topFrame ⟨0,0,0,0⟩]⟩):=by
 simp only[Fast.te15667345088766844465,Fast.te14364793385576792824,Fast.te11892475500146522536]
 kernel_rfl!
theorem BC(w:World)(os:OsState):segRun treeTable PySem.Challenge.pw_ti0049_01 w 11 (some (.ref 6)) 1 1 ⟨wL w.params,#[],{},187,os⟩ (blockOf dw dv (.body dw dv) ⟨0,0,0,0⟩ [topFrame ⟨0,0,0,0⟩])=some (.next,(db w.params 15 (boot_o_3 w.params) 0 187 os).abs,.body dw dv,⟨0,0,0,0⟩):=by
 simp only[Fast.te14374325043358763698,Fast.te14364793385576792824]
 kernel_rfl!
theorem BB(w:World)(os:OsState):topRun treeTable PySem.Challenge.pw_ti0049_01 w 11 (some (.ref 6)) 2 (db w.params 224 (iC w.params 71 "law_ti0049_01" 587) 14 659 os).abs (restOf (dw.drop 65) dv (.body dw dv) ⟨220,0,230,36⟩ [topFrame ⟨0,0,0,0⟩])=some ⟨ib w.params,#[],{},659,os⟩:=by
 simp only[Fast.te14082659384304107361,Fast.te14364793385576792824]
 kernel_rfl!
theorem eP{w:World}{f N a b:Nat}{s s':SharedT}{p p':Pos}{r:Shared}(h:cb w f s a b p=some (.next,s',.body dw dv,p'))(k:topRun treeTable PySem.Challenge.pw_ti0049_01 w 11 (some (.ref 6)) N s'.abs (restOf (dw.drop (a+b)) dv (.body dw dv) p' [topFrame ⟨0,0,0,0⟩])=some r):
 topRun treeTable PySem.Challenge.pw_ti0049_01 w 11 (some (.ref 6)) (f+N) s.abs (restOf (dw.drop a) dv (.body dw dv) p [topFrame ⟨0,0,0,0⟩])=some r:=by
 have z:=piece_app (segRun_of h) k
 rw[←List.drop_drop,List.take_append_drop] at z
 exact z
theorem yd(w:World)(os:OsState):topRun treeTable PySem.Challenge.pw_ti0049_01 w 11 (some (.ref 6)) (12+(1+(48+(501+(10+(493+(397+(37+(979+(266+2)))))))))) ⟨boot_heap w.params,#[],boot_drawn,boot_toks,os⟩ (topStub PySem.Challenge.pw_ti0049_01)=some ⟨ib w.params,#[],{},659,os⟩:=
 go_top (BD w os) (piece_block (BC w os) (eP (a:=0) (BL w os) (eP (BK w os) (eP (BJ w os) (eP (BI w os) (eP (BH w os) (eP (BG w os) (eP (BF w os) (eP (BE w os) (BB w os))))))))))
theorem BS(w:World)(os:OsState):(staticsOk (importedModules PySem.Challenge.pw_ti0049_01.main.body) (boot_heap w.params) (ib w.params)&&namesBound PySem.Challenge.pw_ti0049_01 (ib w.params)&&gensDone ⟨ib w.params,#[],{},659,os⟩&&laidKept (boot_heap w.params) (ib w.params))=true:=by kernel_rfl!
theorem BR(w:World)(os:OsState):openSeen vw looseI (importedModules PySem.Challenge.pw_ti0049_01.main.body) (λs=>xlAt vw [] s&&recOk [] s) true ⟨ib w.params,#[],{},659,os⟩=openGood vw looseI:=by
 simp only[Fast.te4187177175401517315]
 kernel_rfl!
theorem BQ(w:World)(os:OsState):obsZ adrI ⟨ib w.params,#[],{},659,os⟩=valZ Kf 224 659 w:=by kernel_rfl!
theorem BM:opening PySem.Challenge.pw_ti0049_01=plainProg PySem.Challenge.pw_ti0049_01.main.scope.names:=by kernel_rfl!
theorem Bo(w:World):((boot_heap w.params).isNs mainGlobals&&(#[]:Array GenState).size==0,(boot_heap w.params).objs.size,(boot_heap w.params).nsMap mainGlobals "__annotations__")=(true,11,some (.ref 6)):=by kernel_rfl!
theorem hl:LeftO PySem.Challenge.pw_ti0049_01 vw looseI (λs=>xlAt vw [] s&&recOk [] s) (obsZ adrI) (valZ Kf 224 659) 5572:=
 LeftO.of_pieces (H₀:=boot_heap) (H₁:=ib) (boot_open BM rfl (λO=>rfl)) Bo yd (by decide+kernel) (λw=>funext λos=>looks_pair (BS w os) (looks_pair (BR w os) (BQ w os)))
end
theorem gV{α:Type}{a b:α}{l:List α}:a∈b::l↔b=a∨a∈l:=List.mem_cons.trans (or_congr eq_comm Iff.rfl)
theorem e6{α:Type}{a b:α}{l:List α}(h:a∈b::l):b=a∨a∈l:=gV.mp h
theorem Jz{α:Type}{a b:α}:a∈[b]↔b=a:=List.mem_singleton.trans eq_comm
inductive E3 {α0 α1 α2:Type} (P:α0→α1→α2→Prop):Prop
 |mk a b c:P a b c→E3 P
inductive E4 {α0 α1 α2 α3:Type} (P:α0→α1→α2→α3→Prop):Prop
 |mk a b c d:P a b c d→E4 P
inductive E5 {α0 α1 α2 α3 α4:Type} (P:α0→α1→α2→α3→α4→Prop):Prop
 |mk a b c d e:P a b c d e→E5 P
inductive E6 {α0 α1 α2 α3 α4 α5:Type} (P:α0→α1→α2→α3→α4→α5→Prop):Prop
 |mk a b c d e f:P a b c d e f→E6 P
inductive E7 {α0 α1 α2 α3 α4 α5 α6:Type} (P:α0→α1→α2→α3→α4→α5→α6→Prop):Prop
 |mk a b c d e f g:P a b c d e f g→E7 P
inductive E8 {α0 α1 α2 α3 α4 α5 α6 α7:Type} (P:α0→α1→α2→α3→α4→α5→α6→α7→Prop):Prop
 |mk a b c d e f g h:P a b c d e f g h→E8 P
inductive E9 {α0 α1 α2 α3 α4 α5 α6 α7 α8:Type} (P:α0→α1→α2→α3→α4→α5→α6→α7→α8→Prop):Prop
 |mk a b c d e f g h i:P a b c d e f g h i→E9 P
inductive Iq {α0 α1 α2 α3 α4 α5 α6 α7 α8 α9:Type} (P:α0→α1→α2→α3→α4→α5→α6→α7→α8→α9→Prop):Prop
 |mk a b c d e f g h i j:P a b c d e f g h i j→Iq P
inductive A3 (a b c:Prop):Prop
 |mk:a→b→c→A3 a b c
inductive A4 (a b c d:Prop):Prop
 |mk:a→b→c→d→A4 a b c d
inductive A5 (a b c d e:Prop):Prop
 |mk:a→b→c→d→e→A5 a b c d e
inductive A6 (a b c d e f:Prop):Prop
 |mk:a→b→c→d→e→f→A6 a b c d e f
theorem CZ{p:Prop}(h:false=true):p:=Bool.noConfusion h
theorem Id{α:Type}(c:Nat)(l:List α):(l.drop c++l.take c).length=l.length:=by rw[List.length_append,Nat.add_comm,←List.length_append,List.take_append_drop]
theorem pY{α:Type}{M:Model}{A:Around}{s:Shared}{c:Prop}[Decidable c]{t e:Sem α}{Q:α→Shared→Prop}{E:Value→Shared→Prop}(h:c)(x:wpAny M A t Q E s):wpAny M A (ite c t e) Q E s:=by rw[if_pos h];exact x
theorem Do{α β γ:Type}(ps:List α)(d:α)(g:α→γ)(G:γ→α→β):ps.map (λp=>G (g p) p)=(List.range (ps.map g).length).map λi=>G ((ps.map g).getD i (g d)) (ps.getD i d):=by
 refine List.ext_getElem? λi=> ?_
 by_cases h:i<ps.length
 ·simp[h,List.getD_eq_getElem?_getD]
 ·simp[h]
theorem CQ{n m:Nat}(h:m<n):n-m=(n-(m+1))+1:=by omega
theorem Jy{b:Bool}(h:(!b)=true):b=false:=by cases b<;>first|rfl|exact CZ h
abbrev KL:=List (Addr×Obj)
abbrev br:=Nat→Nat
noncomputable def oI:Code→Sem Fin:=ZFast.zw11892475500146522536 ZFast.tableZ
theorem oc:denote table=oI:=by
 unfold oI
 rw[←ZFast.tableZ_eq,←ZFast.ze11892475500146522536]
inductive iB where
 |ld (a:Addr) (o:iB)
 |hk (c:Code) (K:KL) (o:br→iB)
 |fin (r:Result) (K:KL)
 |again (c:Code) (K:KL)
 |bad (n:Nat)
structure aD where
 code:Code
 js:List Nat
 K:KL
 res:br→Result
 objs:br→List Obj
 news:br→KL
inductive fC where
 |fin (os:List Nat) (r:Result) (js:List Nat) (K:KL)
 |again (os:List Nat) (c:Code) (js:List Nat) (K:KL)
 |hook (os:List Nat) (m:Nat) (H:aD) (rest:br→fC)
noncomputable def fC.os:fC→List Nat
 | .fin os .. =>os
 | .again os .. =>os
 | .hook os .. =>os
noncomputable def sel(K:KL):List Nat→KL
 |[]=>[]
 |j::js=>match K[j]? with
  |some p=>p::sel K js
  |none=>sel K js
noncomputable def d3:KL→Nat→(Obj→Obj)→KL
 |[],_,_=>[]
 |p::K,j,f=>match j with
  |0=>(p.1,f p.2)::K
  |j+1=>p::d3 K j f
noncomputable def jD(K:KL):List Nat→List Obj→KL
 |j::js,o::os=>jD (d3 K j (λO=>o)) js os
 |_,_=>K
structure ui where
 c:Code
 dA:Nat
 uA:Nat
 k:Result→Sem Fin
noncomputable def eF(S:Setting)(kt:KT)(tl:Bool):Nat→fC→List Nat→Nat→Nat→Nat→Nat→Nat→Nat→Code→List ui→Sem Fin→KL→iB
 |0,_,_,_,_,_,_,_,_,_,_,_,_=> .bad 0
 |f+1,scr,os,n,m,t,i,dA,uA,c,κ,tree,K=>match tree with
  | .pure fin=>match fin with
   | .done fl=>match κ with
    |[]=>match scr with
     | .fin _ _ js _=> .fin (.ok fl) (sel K js)
     |_=> .bad 1
    |fr::κ=>eF S kt tl f scr os n m t i fr.dA fr.uA fr.c κ (fr.k (.ok fl)) K
   | .again c'=>match c'.quiet with
    |false=> .bad 5
    |true=>match κ with
     |[]=>match os with
      |[]=>match scr with
       | .again _ _ js _=> .again c' (sel K js)
       |_=>match tl with
        |true=>eF S kt tl f scr os n m t i dA uA c' κ (oI c') K
        |false=> .bad 15
      |_::_=>match tl with
       |true=>eF S kt tl f scr os n m t i dA uA c' κ (oI c') K
       |false=> .bad 15
     |_::_=>eF S kt tl f scr os n m t i dA uA c' κ (oI c') K
  | .raise e=>match κ with
   |[]=>match scr with
    | .fin _ _ js _=> .fin (.error e) (sel K js)
    |_=> .bad 1
   |fr::κ=>eF S kt tl f scr os n m t i fr.dA fr.uA fr.c κ (fr.k (.error e)) K
  | .rule _ k=>eF S kt tl f scr os n m t i dA uA c κ (k ()) K
  | .at _ k=>eF S kt tl f scr os n m t i dA uA c κ (k ()) K
  | .point _ k=>eF S kt tl f scr os n m t i dA uA c κ (k ()) K
  | .ask k=>eF S kt tl f scr os n m t i dA uA c κ (k S) K
  | .load a _ k=>match os with
   |[]=> .bad 2
   |j::os=>match j with
    |0=>match kt.get a with
     |some o=>eF S kt tl f scr os n m t i dA uA c κ (k o) K
     |none=> .bad 3
    |j+1=>match K[j]? with
     |some p=> .ld a (eF S kt tl f scr os n m t i dA uA c κ (k p.2) K)
     |none=> .bad 4
  | .update a _ g k=>match os with
   |[]=> .bad 2
   |j::os=>match j with
    |0=> .bad 6
    |j+1=>match K[j]? with
     |some p=>match(g p.2).isFreed with
      |true=> .bad 7
      |false=> .ld a (eF S kt tl f scr os n m t i dA uA c κ (k ()) (d3 K j g))
     |none=> .bad 4
  | .alloc o k=>match o.isFreed with
   |true=> .bad 7
   |false=>eF S kt tl f scr os n (m+1) t i dA uA c κ (k (n+m)) (K++[(n+m,o)])
  | .fresh k=>eF S kt tl f scr os n m t (i+1) dA uA c κ (k (t+i)) K
  | .handled own k=>match own with
   |false=>eF S kt tl f scr os n m t i dA uA c κ (k none) K
   |true=> .bad 8
  | .call c' hd _ _ k=>match hd with
   |some _=> .bad 10
   |none=>match os with
    |[]=>match scr with
     | .hook _ m' H rest=>match(Nat.ble (dA+c.weight) 40&&Nat.ble (uA+c.cUnits) 400)&&Nat.beq m m' with
      |true=> .hk c' (sel K H.js) (λρ=>eF S kt tl f (rest ρ) (rest ρ).os (ρ 0) 0 (ρ 1) 0 dA uA c κ (k (H.res ρ)) (jD K H.js (H.objs ρ)++H.news ρ))
      |false=> .bad 11
     |_=> .bad 12
    |j::os=>match j with
     |0=>eF S kt tl f scr os n m t i (dA+c.weight) (uA+c.cUnits) c' (⟨c,dA,uA,k⟩::κ) (oI c') K
     |_+1=> .bad 13
  |_=> .bad 9
noncomputable def DK(A:List Addr)(n j:Nat):Addr:=match A[j]? with
 |some a=>a
 |none=>n+(j-A.length)
noncomputable def kx(A:List Addr)(n:Nat):List Nat→iB→iB
 |[],o=>o
 |j::os,o=>match j with
  |0=>kx A n os o
  |j+1=> .ld (DK A n j) (kx A n os o)
noncomputable def kR:fC→List Addr→Nat→iB
 | .fin os r _ K,A,n=>kx A n os (.fin r K)
 | .again os c _ K,A,n=>kx A n os (.again c K)
 | .hook os m H rest,A,n=>kx A n os (.hk H.code H.K λρ=>kR (rest ρ) (A++(List.range m).map (n+ ·)++(H.news ρ).map (·.1)) (ρ 0))
set_option tactic.hygienic true
structure Gw where
 prog:Program
 w:World
 h0:Heap
 tb:List Addr
 d:Drawn
 os:OsState
 gp:Array GenState→Prop
noncomputable def z9(V:Gw)(a:Addr):Prop:=V.h0.objs.size≤a∨a∈V.tb
structure f8(V:Gw)(s:Shared):Prop where
 old:∀b o,V.h0.get? b=some o→b∉V.tb→s.heap.get? b=some o
 size:V.h0.objs.size≤s.heap.objs.size
 gens:V.gp s.gens
 drawn:s.drawn=V.d
 os:s.os=V.os
structure At(V:Gw)(K:KL)(s:Shared):Prop where
 base:f8 V s
 get:∀p∈K,s.heap.get? p.1=some p.2
 nodup:(K.map (·.1)).Nodup
 ok:∀p∈K,z9 V p.1
noncomputable def uM(W:List Addr)(h h':Heap):Prop:=∀b o,h.get? b=some o→b∉W→h'.get? b=some o
noncomputable def Bd(L:Nat)(A:Around):Prop:=A.depth+40*L≤900∧A.units+400*L≤9000∧A.handled=none
structure nN(V:Gw)(H:aD)(s s':Shared)(ρ:br):Prop where
 base:f8 V s'
 size:s'.heap.objs.size=ρ 0
 toks:s'.toks=ρ 1
 grow:s.heap.objs.size≤s'.heap.objs.size
 objs:(H.K.map (·.1)).map s'.heap.get?=(H.objs ρ).map some
 news:∀p∈H.news ρ,s'.heap.get? p.1=some p.2
 fresh:∀p∈H.news ρ,s.heap.objs.size≤p.1
 nodup:((H.news ρ).map (·.1)).Nodup
 pres:uM (H.K.map (·.1)) s.heap s'.heap
inductive bO (V:Gw) (H:aD) (P:br→Prop) (s:Shared) (r:Result) (s':Shared):Prop
 |mk ρ:r=H.res ρ→nN V H s s' ρ→P ρ→bO V H P s r s'
inductive mG (V:Gw) (H:aD) (P:br→Prop) (X:br→KL) (s:Shared) (r:Result) (s':Shared):Prop
 |mk ρ:r=H.res ρ→nN V H s s' ρ→P ρ→(∀p∈X ρ,s'.heap.get? p.1=some p.2∧s.heap.objs.size≤p.1∧p.1∉(H.news ρ).map (·.1))→mG V H P X s r s'
noncomputable def ai(V:Gw)(L:Nat)(H:aD)(P:br→Prop):Prop:=
 ∀A s,Bd L A→At V H.K s→codeAny (model V.prog V.w) A H.code (bO V H P s) s
structure am(V:Gw)(W:List Addr)(s₀:Shared)(K:KL)(s':Shared):Prop where
 at':At V K s'
 pres:uM W s₀.heap s'.heap
 grow:s₀.heap.objs.size≤s'.heap.objs.size
noncomputable def RQ(Q:PySem.Fin→Shared→Prop)(E:Value→Shared→Prop):Result→Shared→Prop
 | .ok f,s=>Q (.done f) s
 | .error e,s=>E e s
noncomputable def Fz(V:Gw)(F K:KL)(s:Shared):Prop:=∀p∈F,s.heap.get? p.1=some p.2∧p.1∉K.map (·.1)∧z9 V p.1
noncomputable def aQ(V:Gw)(L:Nat)(H:aD)(F:KL)(P:br→Prop)(X:br→KL):Prop:=
 ∀A s,Bd L A→At V H.K s→Fz V F H.K s→codeAny (model V.prog V.w) A H.code (mG V H P X s) s
inductive dB (V:Gw) (Q:PySem.Fin→Shared→Prop) (E:Value→Shared→Prop) (L:Nat) (W:List Addr) (s₀:Shared):KL→fC→Prop
 |fin {F os r js K}:js.Nodup→(∀s',am V W s₀ K s'→Fz V F K s'→RQ Q E r s')→dB V Q E L W s₀ F (.fin os r js K)
 |again {F os c js K}:js.Nodup→(∀s',am V W s₀ K s'→Fz V F K s'→Q (.again c) s')→dB V Q E L W s₀ F (.again os c js K)
 |hook {F os m H rest} (P:br→Prop) (X:br→KL) (l:Nat):H.js.Nodup→H.js.length=H.K.length→l<L→aQ V l H F P X→
   (∀ρ,P ρ→s₀.heap.objs.size≤ρ 0→(∀p∈H.news ρ,s₀.heap.objs.size≤p.1)→(∀p∈X ρ,s₀.heap.objs.size≤p.1)→dB V Q E L W s₀ (F++X ρ) (rest ρ))→dB V Q E L W s₀ F (.hook os m H rest)
abbrev ux (V:Gw) (Q:PySem.Fin→Shared→Prop) (E:Value→Shared→Prop) (L:Nat) (W:List Addr) (s₀:Shared) (scr:fC):Prop:=dB V Q E L W s₀ [] scr
theorem ai.hookF{V:Gw}{L:Nat}{H:aD}{F:KL}{P:br→Prop}(h:ai V L H P):aQ V L H F P (λO=>[]):=λA s hA hs O=>
 codeAny_mono (h A s hA hs) λO O ⟨ρ,a,b,c⟩=>⟨ρ,a,b,c,λO h=>nomatch h⟩
theorem Fz.nil{V:Gw}{K:KL}{s:Shared}:Fz V [] K s:=λO h=>nomatch h
theorem gz{K:KL}:∀{js:List Nat} {p},p∈sel K js→p∈K
 |[],_,h=>nomatch h
 |j::js,p,h=>by
  unfold sel at h
  split at h
  ·rename_i q hq
   rcases e6 h with rfl|h
   ·exact List.mem_of_getElem? hq
   ·exact gz h
  ·exact gz h
theorem nQ{K:KL}:∀{js:List Nat} {p},p∈sel K js→∃j∈js,K[j]?=some p
 |[],_,h=>nomatch h
 |j::js,p,h=>by
  unfold sel at h
  split at h
  ·rename_i q hq
   rcases e6 h with rfl|h
   ·exact⟨j,.head _,hq⟩
   ·obtain⟨i,hi,e⟩:=nQ h;exact⟨i,.tail _ hi,e⟩
  ·obtain⟨i,hi,e⟩:=nQ h;exact⟨i,.tail _ hi,e⟩
theorem n5{K:KL}(hn:(K.map (·.1)).Nodup){i j:Nat}{p q}(hi:K[i]?=some p)(hj:K[j]?=some q)(e:p.1=q.1):i=j:=by
 have hi':(K.map (·.1))[i]?=some p.1:=by rw[List.getElem?_map,hi];rfl
 have hj':(K.map (·.1))[j]?=some p.1:=by rw[List.getElem?_map,hj,e];rfl
 obtain⟨li,ei⟩:=List.getElem?_eq_some_iff.mp hi'
 obtain⟨lj,ej⟩:=List.getElem?_eq_some_iff.mp hj'
 exact(List.getElem_inj hn).mp (ei.trans ej.symm)
theorem iL{K:KL}(hn:(K.map (·.1)).Nodup):∀{js:List Nat},js.Nodup→((sel K js).map (·.1)).Nodup
 |[],_=>List.nodup_nil
 |j::js,h=>by
  obtain⟨h1,h2⟩:=List.nodup_cons.mp h
  unfold sel
  split
  ·rename_i q hq
   rw[List.map_cons,List.nodup_cons]
   refine⟨λhm=> ?_,iL hn h2⟩
   obtain⟨p,hp,e⟩:=List.mem_map.mp hm
   obtain⟨i,hi,hpi⟩:=nQ hp
   have:=n5 hn hpi hq e
   exact h1 (this▸hi)
  ·exact iL hn h2
theorem fq(f:Obj→Obj):∀(K:KL) (j:Nat),(d3 K j f).map (·.1)=K.map (·.1)
 |[],_=>rfl
 |p::K,0=>rfl
 |p::K,j+1=>by
  show p.1::(d3 K j f).map (·.1)=_
  rw[fq f K j];rfl
theorem jq(f:Obj→Obj):∀(K:KL) (j i:Nat),(d3 K j f)[i]?=if i=j then(K[i]?).map (λp=>(p.1,f p.2)) else K[i]?
 |[],j,i=>by simp[d3]
 |p::K,0,i=>by cases i<;>simp[d3]
 |p::K,j+1,0=>by simp[d3]
 |p::K,j+1,i+1=>by
  have:=jq f K j i
  simp only[d3,List.getElem?_cons_succ,this]
  by_cases h:i=j<;>simp[h]
theorem mP{K:KL}{j:Nat}{f:Obj→Obj}:∀{js:List Nat},j∉js→sel (d3 K j f) js=sel K js
 |[],_=>rfl
 |i::js,h=>by
  have hij:i≠j:=λe=>h (e▸ .head _)
  have hj:j∉js:=λe=>h (.tail _ e)
  unfold sel
  rw[jq,if_neg hij,mP hj]
theorem m4:∀(js:List Nat) (os:List Obj) (K:KL),(jD K js os).map (·.1)=K.map (·.1)
 |[],_,_=>by unfold jD;rfl
 |_::_,[],_=>by unfold jD;rfl
 |j::js,o::os,K=>by
  show(jD (d3 K j λO=>o) js os).map (·.1)=_
  rw[m4 js os,fq]
theorem gR{K:KL}:∀(js:List Nat),(sel K js).length≤js.length
 |[]=>Nat.le_refl _
 |j::js=>by
  unfold sel
  split
  ·simp only[List.length_cons];have:=gR (K:=K) js;lia
  ·simp only[List.length_cons];have:=gR (K:=K) js;lia
theorem m3{g:Addr→Option Obj}:∀(js:List Nat) (os:List Obj) (K:KL),(K.map (·.1)).Nodup→js.Nodup→(sel K js).length=js.length→
  ((sel K js).map (·.1)).map g=os.map some→(∀p∈K,p.1∉(sel K js).map (·.1)→g p.1=some p.2)→∀p∈jD K js os,g p.1=some p.2
 |[],os,K,_,_,_,_,h,p,hp=>h p (by unfold jD at hp;exact hp) (by simp[sel])
 |j::js,os,K,hn,hj,hl,ho,h,p,hp=>by
  obtain⟨h1,h2⟩:=List.nodup_cons.mp hj
  unfold sel at hl ho h
  split at hl
  case h_2=>have:=gR (K:=K) js;simp only[List.length_cons] at hl;lia
  rename_i q hq
  rw[hq] at ho h
  dsimp only at ho h
  cases os with
  |nil=>simp at ho
  |cons o os=>
   simp only[List.map_cons,List.cons.injEq] at ho
   obtain⟨hg,ho⟩:=ho
   have e:sel (d3 K j λO=>o) js=sel K js:=mP h1
   refine m3 js os (d3 K j λO=>o) (by rw[fq];exact hn) h2 (by rw[e];simpa using hl) (by rw[e];exact ho) (λp' hp' hns=> ?_) p hp
   rw[e] at hns
   obtain⟨i,hi⟩:=List.getElem?_of_mem hp'
   rw[jq] at hi
   by_cases hij:i=j
   ·subst hij
    rw[if_pos rfl,hq] at hi
    cases hi
    exact hg
   ·rw[if_neg hij] at hi
    refine h p' (List.mem_of_getElem? hi) (λhm=> ?_)
    rw[List.map_cons] at hm
    rcases List.mem_cons.mp hm with e'|hm
    ·exact hij (n5 hn hi hq e')
    ·exact hns hm
theorem sr{K:KL}{A:List Addr}{n m j:Nat}{p}(h:K.map (·.1)=A++(List.range m).map (n+ ·))(hj:K[j]?=some p):DK A n j=p.1:=by
 have e:(K.map (·.1))[j]?=some p.1:=by rw[List.getElem?_map,hj];rfl
 rw[h,List.getElem?_append] at e
 unfold DK
 split at e
 ·rename_i hl;rw[e]
 ·rename_i hl
  rw[List.getElem?_eq_none (Nat.le_of_not_lt hl)]
  rw[List.getElem?_map] at e
  cases q:(List.range m)[j-A.length]? with
  |none=>rw[q] at e;cases e
  |some x=>
   rw[q] at e
   obtain⟨lx,ex⟩:=List.getElem?_eq_some_iff.mp q
   simp only[List.getElem_range] at ex
   subst ex
   exact Option.some.inj e
noncomputable def qa:fC→List Addr→Nat→iB
 | .fin _ r _ K,_,_=> .fin r K
 | .again _ c _ K,_,_=> .again c K
 | .hook _ m H rest,A,n=> .hk H.code H.K λρ=>kR (rest ρ) (A++(List.range m).map (n+ ·)++(H.news ρ).map (·.1)) (ρ 0)
theorem iu(scr:fC)(A:List Addr)(n:Nat):kR scr A n=kx A n scr.os (qa scr A n):=by cases scr<;>rfl
structure gT(V:Gw)(W:List Addr)(s₀:Shared)(A:List Addr)(n m t i:Nat)(F K:KL)(s:Shared):Prop where
 at':At V K s
 size:s.heap.objs.size=n+m
 toks:s.toks=t+i
 pres:uM W s₀.heap s.heap
 grow:s₀.heap.objs.size≤s.heap.objs.size
 wr:∀p∈K,p.1∈W∨s₀.heap.objs.size≤p.1
 adrs:K.map (·.1)=A++(List.range m).map (n+ ·)
 fz:Fz V F K s
theorem pp{V:Gw}{a b:Addr}{o:Obj}(h:z9 V a)(e:V.h0.get? b=some o)(hb:b∉V.tb):b≠a:=by
 rintro rfl
 rcases h with h|h
 ·exact absurd (Heap.lt_size e) (Nat.not_lt.mpr h)
 ·exact hb h
theorem f8.update{V:Gw}{s:Shared}{a:Addr}{f:Obj→Obj}(B:f8 V s)(h:z9 V a):f8 V {s with heap:=s.heap.update a f}:=by
 have hs:Heap.SameBut a s.heap (s.heap.update a f):=Heap.SameBut.update ..
 exact⟨λb o e hb=>(hs.2 b (pp h e hb)).trans (B.old b o e hb),by rw[hs.1];exact B.size,B.gens,B.drawn,B.os⟩
theorem f8.push{V:Gw}{s:Shared}{o:Obj}(B:f8 V s):f8 V {s with heap:=s.heap.push o}:=
 ⟨λb ob e hb=>Heap.get?_push_of_some _ (B.old b ob e hb),by rw[Heap.size_push];exact Nat.le_succ_of_le B.size,B.gens,B.drawn,B.os⟩
theorem gT.alloc{V:Gw}{W:List Addr}{s₀:Shared}{A:List Addr}{n m t i:Nat}{F K:KL}{s:Shared}{o:Obj}(I:gT V W s₀ A n m t i F K s)(hf:o.isFreed=false):
  gT V W s₀ A n (m+1) t i F (K++[(n+m,o)]) {s with heap:=s.heap.push o}:=by
 have hget:∀p∈K++[(n+m,o)],(s.heap.push o).get? p.1=some p.2:=λp hp=>by
  rcases List.mem_append.mp hp with hp|hp
  ·exact Heap.get?_push_of_some _ (I.at'.get p hp)
  ·rw[List.mem_singleton.mp hp,←I.size];exact Heap.get?_push_size _ hf
 refine⟨⟨I.at'.base.push,hget,?_,λp hp=> ?_⟩,?_,I.toks,λb ob e hb=>Heap.get?_push_of_some _ (I.pres b ob e hb),?_,λp hp=> ?_,?_,λp hp=> ?_⟩
 ·rw[List.map_append,List.nodup_append]
  refine⟨I.at'.nodup,by simp,λa ha b hb=> ?_⟩
  obtain⟨p,hp,rfl⟩:=List.mem_map.mp ha
  simp only[List.map_cons,List.map_nil,List.mem_singleton] at hb
  subst hb
  have:=Heap.lt_size (I.at'.get p hp)
  rw[I.size] at this
  exact Nat.ne_of_lt this
 ·rcases List.mem_append.mp hp with hp|hp
  ·exact I.at'.ok p hp
  ·rw[List.mem_singleton.mp hp];left;show V.h0.objs.size≤n+m;rw[←I.size];exact I.at'.base.size
 ·show(s.heap.push o).objs.size=_;rw[Heap.size_push,I.size];lia
 ·show _≤(s.heap.push o).objs.size;rw[Heap.size_push];exact Nat.le_succ_of_le I.grow
 ·rcases List.mem_append.mp hp with hp|hp
  ·exact I.wr p hp
  ·rw[List.mem_singleton.mp hp];right;show _≤n+m;rw[←I.size];exact I.grow
 ·rw[List.map_append,I.adrs,List.range_succ,List.map_append,List.append_assoc];rfl
 ·obtain⟨h1,h2,h3⟩:=I.fz p hp
  refine⟨Heap.get?_push_of_some _ h1,λhm=> ?_,h3⟩
  rw[List.map_append] at hm
  rcases List.mem_append.mp hm with hm|hm
  ·exact h2 hm
  ·simp only[List.map_cons,List.map_nil,List.mem_singleton] at hm
   have:=Heap.lt_size h1
   rw[I.size] at this
   exact absurd hm (Nat.ne_of_lt this)
theorem gT.update{V:Gw}{W:List Addr}{s₀:Shared}{A:List Addr}{n m t i:Nat}{F K:KL}{s:Shared}{j:Nat}{p:Addr×Obj}{f:Obj→Obj}(I:gT V W s₀ A n m t i F K s)(hj:K[j]?=some p)(hf:(f p.2).isFreed=false):
  gT V W s₀ A n m t i F (d3 K j f) {s with heap:=s.heap.update p.1 f}:=by
 have hm:=List.mem_of_getElem? hj
 have hs:Heap.SameBut p.1 s.heap (s.heap.update p.1 f):=Heap.SameBut.update ..
 have mem:∀q∈d3 K j f,∃i o,K[i]?=some (q.1,o)∧(i=j→q.2=f p.2)∧(i≠j→o=q.2):=λq hq=>by
  obtain⟨i,hi⟩:=List.getElem?_of_mem hq
  rw[jq] at hi
  by_cases hij:i=j
  ·subst hij
   rw[if_pos rfl,hj] at hi
   cases hi
   exact⟨i,_,hj,λO=>rfl,λe=>absurd rfl e⟩
  ·rw[if_neg hij] at hi
   exact⟨i,_,hi,λe=>absurd e hij,λO=>rfl⟩
 refine⟨⟨I.at'.base.update (I.at'.ok p hm),λq hq=> ?_,by rw[fq];exact I.at'.nodup,λq hq=> ?_⟩,?_,I.toks,λb ob e hb=> ?_,?_,λq hq=> ?_,by rw[fq];exact I.adrs,λq hq=> ?_⟩
 ·obtain⟨i,o,hi,he,hne⟩:=mem q hq
  by_cases hij:i=j
  ·subst hij
   have e1:q.1=p.1:=by rw[hj] at hi;exact(congrArg Prod.fst (Option.some.inj hi)).symm
   rw[he rfl,e1]
   first|exact Heap.get?_update_self f (I.at'.get p hm) hf|exact Heap.get?_update_self _ (I.at'.get p hm) hf
  ·obtain rfl:=hne hij
   have hne:q.1≠p.1:=λe=>hij (n5 I.at'.nodup hi hj e)
   exact(hs.2 _ hne).trans (I.at'.get (q.1,q.2) (List.mem_of_getElem? hi))
 ·obtain⟨i,o,hi,_⟩:=mem q hq
  exact I.at'.ok (q.1,o) (List.mem_of_getElem? hi)
 ·show(s.heap.update p.1 f).objs.size=_;rw[hs.1];exact I.size
 ·have hne:b≠p.1:=by
   rintro rfl
   rcases I.wr p hm with h|h
   ·exact hb h
   ·exact absurd (Heap.lt_size e) (Nat.not_lt.mpr h)
  exact(hs.2 b hne).trans (I.pres b ob e hb)
 ·show _≤(s.heap.update p.1 f).objs.size;rw[hs.1];exact I.grow
 ·obtain⟨i,o,hi,_⟩:=mem q hq
  exact I.wr (q.1,o) (List.mem_of_getElem? hi)
 ·obtain⟨h1,h2,h3⟩:=I.fz q hq
  refine⟨(hs.2 _ λe=>h2 (by rw[e];exact List.mem_map_of_mem hm)).trans h1,by rw[fq];exact h2,h3⟩
theorem At.sel{V:Gw}{K:KL}{s:Shared}(h:At V K s){js:List Nat}(hj:js.Nodup):At V (sel K js) s:=
 ⟨h.base,λp hp=>h.get p (gz hp),iL h.nodup hj,λp hp=>h.ok p (gz hp)⟩
theorem gT.hook{V:Gw}{W:List Addr}{s₀:Shared}{A:List Addr}{n m t i:Nat}{F K X:KL}{s s':Shared}{H:aD}{ρ:br}(I:gT V W s₀ A n m t i F K s)(hK:sel K H.js=H.K)(hj:H.js.Nodup)(hl:H.js.length=H.K.length)(E:nN V H s s' ρ)
  (hX:∀p∈X,s'.heap.get? p.1=some p.2∧s.heap.objs.size≤p.1∧p.1∉(H.news ρ).map (·.1)):
  gT V W s₀ (A++(List.range m).map (n+ ·)++(H.news ρ).map (·.1)) (ρ 0) 0 (ρ 1) 0 (F++X) (jD K H.js (H.objs ρ)++H.news ρ) s':=by
 have hk:∀p∈jD K H.js (H.objs ρ),s'.heap.get? p.1=some p.2:=m3 H.js (H.objs ρ) K I.at'.nodup hj (by rw[hK];exact hl.symm) (by rw[hK];exact E.objs)
  (λp hp hn=>E.pres _ _ (I.at'.get p hp) (by rw[←hK];exact hn))
 have hfst:=m4 H.js (H.objs ρ) K
 have inK:∀p∈jD K H.js (H.objs ρ),∃q∈K,q.1=p.1:=λp hp=>by
  have:p.1∈K.map (·.1):=hfst▸List.mem_map_of_mem hp
  obtain⟨q,hq,e⟩:=List.mem_map.mp this
  exact⟨q,hq,e⟩
 have subK:∀a∈H.K.map (·.1),∃q∈K,q.1=a:=λa ha=>by
  obtain⟨q,hq,e⟩:=List.mem_map.mp ha
  rw[←hK] at hq
  exact⟨q,gz hq,e⟩
 refine⟨⟨E.base,λp hp=> ?_,?_,λp hp=> ?_⟩,E.size,E.toks,λb ob e hb=> ?_,Nat.le_trans I.grow E.grow,λp hp=> ?_,?_,λp hp=> ?_⟩
 ·rcases List.mem_append.mp hp with hp|hp
  ·exact hk p hp
  ·exact E.news p hp
 ·rw[List.map_append,hfst,List.nodup_append]
  refine⟨I.at'.nodup,E.nodup,λa ha b hb=> ?_⟩
  obtain⟨p,hp,rfl⟩:=List.mem_map.mp ha
  obtain⟨q,hq,rfl⟩:=List.mem_map.mp hb
  exact Nat.ne_of_lt (Nat.lt_of_lt_of_le (Heap.lt_size (I.at'.get p hp)) (E.fresh q hq))
 ·rcases List.mem_append.mp hp with hp|hp
  ·obtain⟨q,hq,e⟩:=inK p hp
   exact e▸I.at'.ok q hq
  ·left;exact Nat.le_trans I.at'.base.size (E.fresh p hp)
 ·refine E.pres _ _ (I.pres b ob e hb) (λhm=> ?_)
  obtain⟨q,hq,rfl⟩:=subK b hm
  rcases I.wr q hq with h|h
  ·exact hb h
  ·exact absurd (Heap.lt_size e) (Nat.not_lt.mpr h)
 ·rcases List.mem_append.mp hp with hp|hp
  ·obtain⟨q,hq,e⟩:=inK p hp
   exact e▸I.wr q hq
  ·right;exact Nat.le_trans I.grow (E.fresh p hp)
 ·rw[List.map_append,hfst,I.adrs];simp
 ·have hnew:∀a,s.heap.objs.size>a→a∉(H.news ρ).map (·.1):=λa ha hm=>by
   obtain⟨q,hq,rfl⟩:=List.mem_map.mp hm
   exact absurd (E.fresh q hq) (Nat.not_le.mpr ha)
  rcases List.mem_append.mp hp with hp|hp
  ·obtain⟨h1,h2,h3⟩:=I.fz p hp
   refine⟨E.pres _ _ h1 λhm=> ?_,λhm=> ?_,h3⟩
   ·obtain⟨q,hq,e⟩:=subK _ hm
    exact h2 (e▸List.mem_map_of_mem hq)
   ·rw[List.map_append,hfst] at hm
    rcases List.mem_append.mp hm with hm|hm
    ·exact h2 hm
    ·exact hnew _ (Heap.lt_size h1) hm
  ·obtain⟨h1,h2,h3⟩:=hX p hp
   refine⟨h1,λhm=> ?_,.inl (Nat.le_trans I.at'.base.size h2)⟩
   rw[List.map_append,hfst] at hm
   rcases List.mem_append.mp hm with hm|hm
   ·obtain⟨q,hq,e⟩:=List.mem_map.mp hm
    have e':q.1=p.1:=e
    have h4:q.1<s.heap.objs.size:=Heap.lt_size (I.at'.get q hq)
    exact absurd h2 (by rw[←e'];exact Nat.not_le.mpr h4)
   ·exact h3 hm
theorem Fz.sel{V:Gw}{F K:KL}{s:Shared}(h:Fz V F K s)(js:List Nat):Fz V F (sel K js) s:=λp hp=>
 ⟨(h p hp).1,λhm=>(h p hp).2.1 (by obtain⟨q,hq,e⟩:=List.mem_map.mp hm;exact e▸List.mem_map_of_mem (gz hq)),(h p hp).2.2⟩
theorem cN{scr:fC}{A A':List Addr}{n n' k:Nat}:∀{os:List Nat},iB.bad k=kx A n os (qa scr A' n')→False
 |[],e=>by cases scr<;>cases e
 |j::os,e=>by
  cases j with
  |zero=>exact cN (os:=os) e
  |succ j=>cases e
theorem rA{scr:fC}{A A':List Addr}{n n':Nat}{r K}:∀{os:List Nat},iB.fin r K=kx A n os (qa scr A' n')→iB.fin r K=qa scr A' n'
 |[],e=>e
 |j::os,e=>by
  cases j with
  |zero=>exact rA (os:=os) e
  |succ j=>cases e
noncomputable def c0:Code:= .block [] {scope:=default,locals:=0,globals:=0,cells:=[]}
noncomputable def rf(b:Code→Around):ui→List ui→Around
 |fr,[]=>(b fr.c).mark none
 |fr,f2::κ=>((rf b f2 κ).under fr.c).mark none
noncomputable def T2(V:Gw)(b:Code→Around)(κ:List ui)(c:Code)(t:Sem PySem.Fin)(Q:PySem.Fin→Shared→Prop)(E:Value→Shared→Prop)(s:Shared):Prop:=match κ with
 |[]=>wpAny (model V.prog V.w) (b c) t Q E s
 |fr::κ=>wpOwn (model V.prog V.w) (rf b fr κ) c t Q E s
noncomputable def qZ(V:Gw)(b:Code→Around)(Q:PySem.Fin→Shared→Prop)(E:Value→Shared→Prop):List ui→(PySem.Fin→Shared→Prop)×(Value→Shared→Prop)
 |[]=>(Q,E)
 |fr::κ=>(postC V.prog V.w (rf b fr κ) (λr s'=>T2 V b κ fr.c (fr.k r) (qZ V b Q E κ).1 (qZ V b Q E κ).2 s'),postE (λr s'=>T2 V b κ fr.c (fr.k r) (qZ V b Q E κ).1 (qZ V b Q E κ).2 s'))
noncomputable def qc(ok:Code→Prop):List ui→Nat→Nat→Prop
 |[],dA,uA=>dA=0∧uA=0
 |[fr],dA,uA=>dA=fr.dA+fr.c.weight∧uA=fr.uA+fr.c.cUnits∧ok fr.c∧fr.dA=0∧fr.uA=0
 |fr::κ,dA,uA=>dA=fr.dA+fr.c.weight∧uA=fr.uA+fr.c.cUnits∧qc ok κ fr.dA fr.uA
noncomputable def DP(A:Around)(ok:Code→Prop)(b:Code→Around):Prop:=∀c,ok c→(b c).depth=A.depth+c.weight∧(b c).units=A.units+c.cUnits∧(b c).handled=A.handled
theorem lW{A:Around}{ok:Code→Prop}{b:Code→Around}(hb:DP A ok b):∀{κ:List ui} {fr:ui} {dA uA:Nat},qc ok (fr::κ) dA uA→(rf b fr κ).depth=A.depth+dA∧(rf b fr κ).units=A.units+uA∧(rf b fr κ).handled=A.handled
 |[],fr,_,_,h=>by
  obtain⟨rfl,rfl,h1,h2,h3⟩:=h
  obtain⟨a,b',c⟩:=hb _ h1
  rw[h2,h3,Nat.zero_add,Nat.zero_add]
  exact⟨a,b',by show(Option.none.or (b fr.c).handled)=_;rw[c];rfl⟩
 |fr2::κ,fr,_,_,h=>by
  obtain⟨rfl,rfl,h⟩:=h
  obtain⟨a,b',c⟩:=lW hb h
  refine⟨?_,?_,?_⟩
  ·show(rf b fr2 κ).depth+fr.c.weight=_;rw[a];lia
  ·show(rf b fr2 κ).units+fr.c.cUnits=_;rw[b'];lia
  ·show(Option.none.or (rf b fr2 κ).handled)=_;rw[c];rfl
section
variable {V:Gw} {b:Code→Around} {κ:List ui} {c:Code} {Q:PySem.Fin→Shared→Prop} {E:Value→Shared→Prop} {s:Shared}
theorem ic{a:PySem.Fin}(h:Q a s):T2 V b κ c (.pure a) Q E s:=by
 cases κ with
 |nil=>exact x_pure h
 |cons=>exact y_pure _ _ _ _ _ _ _ _ _ h
theorem mL{e:Value}(h:E e s):T2 V b κ c (.raise e) Q E s:=by
 cases κ with
 |nil=>exact x_raise h
 |cons=>exact y_raise _ _ _ _ _ _ _ _ _ h
theorem jm(n:Nat){t:Sem PySem.Fin}(h:T2 V b κ c (skim ⟨V.prog,V.w.params⟩ n t) Q E s):T2 V b κ c t Q E s:=by
 cases κ with
 |nil=>exact x_skim n h
 |cons=>exact y_skim _ _ _ _ _ _ _ _ _ n h
theorem o0{a:Addr}{q:Option Value}{k:Obj→Sem PySem.Fin}{o:Obj}(ho:s.heap.get? a=some o)(h:T2 V b κ c (k o) Q E s):T2 V b κ c (.load a q k) Q E s:=by
 cases κ with
 |nil=>exact x_load ho h
 |cons=>exact y_load _ _ _ _ _ _ _ _ _ _ _ _ _ _ _ _ ho h
theorem qf{a:Addr}{q:Option Value}{g:Obj→Obj}{k:Unit→Sem PySem.Fin}{o:Obj}(ho:s.heap.get? a=some o)(h:T2 V b κ c (k ()) Q E {s with heap:=s.heap.update a g}):T2 V b κ c (.update a q g k) Q E s:=by
 cases κ with
 |nil=>exact wpAny_bind (m:=updatePart a q g) (f:=k) (wpAny_updatePart ho h)
 |cons=>exact wpOwn_bind (m:=updatePart a q g) (f:=k) (wpOwn_of_wpAny (wpAny_updatePart ho h))
theorem sC{o:Obj}{k:Addr→Sem PySem.Fin}(h:T2 V b κ c (k s.heap.objs.size) Q E {s with heap:=s.heap.push o}):T2 V b κ c (.alloc o k) Q E s:=by
 cases κ with
 |nil=>exact wpAny_bind (m:=alloc o) (f:=k) (wpAny_alloc h)
 |cons=>exact wpOwn_bind (m:=alloc o) (f:=k) (wpOwn_of_wpAny (wpAny_alloc h))
theorem sA{k:Tok→Sem PySem.Fin}(h:T2 V b κ c (k s.toks) Q E {s with toks:=s.toks+1}):T2 V b κ c (.fresh k) Q E s:=by
 cases κ with
 |nil=>exact x_fresh h
 |cons=>exact y_fresh _ _ _ _ _ _ _ _ _ _ _ _ _ h
theorem oj{k:Option Value→Sem PySem.Fin}{A:Around}{ok:Code→Prop}{dA uA:Nat}(hb:DP A ok b)(hK:qc ok κ dA uA)(hc:κ=[]→ok c)(h:T2 V b κ c (k A.handled) Q E s):T2 V b κ c (.handled false k) Q E s:=by
 cases κ with
 |nil=>exact x_handled (by rw[(hb c (hc rfl)).2.2];exact h)
 |cons=>exact y_handled _ _ _ _ _ _ _ _ _ (by rw[(lW hb hK).2.2];exact h)
end
theorem jT{V:Gw}{A₀:Around}{Q:PySem.Fin→Shared→Prop}{E:Value→Shared→Prop}{L:Nat}{W:List Addr}{s₀:Shared}{kt:KT}{tl:Bool}{b:Code→Around}{ok:Code→Prop}(hA:Bd L A₀)(hbO:DP A₀ ok b)(hT:tl=true→∀c s,c.quiet=true→ok c∧(wpAny (model V.prog V.w) (b c) (oI c) Q E s→Q (.again c) s))
  (hkt:∀a o,kt.get a=some o→V.h0.get? a=some o∧a∉V.tb):∀(f:Nat) (scr:fC) (os:List Nat) (n m t i dA uA:Nat) (c:Code) (κ:List ui) (tree:Sem PySem.Fin) (F K:KL) (A:List Addr) (s:Shared),
  eF ⟨V.prog,V.w.params⟩ kt tl f scr os n m t i dA uA c κ tree K=kx A n os (qa scr A n)→dB V Q E L W s₀ F scr→qc ok κ dA uA→(κ=[]→ok c)→gT V W s₀ A n m t i F K s→
  T2 V b κ c tree (qZ V b Q E κ).1 (qZ V b Q E κ).2 s:=by
 intro f
 induction f with
 |zero=>intro scr os n m t i dA uA c κ tree F K A s e;exact(cN e).elim
 |succ f ih=>
  intro scr os n m t i dA uA c κ tree F K A s e hS hK hc0 I
  have ends:∀js K',K'=sel K js→js.Nodup→am V W s₀ K' s:=λjs K' e hj=>⟨e▸I.at'.sel hj,I.pres,I.grow⟩
  have fzs:∀js K',K'=sel K js→Fz V F K' s:=λjs K' e=>e▸I.fz.sel js
  have popK:∀{fr κ'},κ=fr::κ'→qc ok κ' fr.dA fr.uA∧(κ'=[]→ok fr.c):=by
   rintro fr κ' rfl
   cases κ' with
   |nil=>obtain⟨_,_,h1,h2,h3⟩:=hK;exact⟨⟨h2,h3⟩,λO=>h1⟩
   |cons fr2 κ''=>obtain⟨_,_,h⟩:=hK;exact⟨h,λx=>nomatch x⟩
  cases tree with
  |pure fin=>
   cases fin with
   |done fl=>
    cases κ with
    |nil=>
     cases scr with
     |fin os' r js K'=>
      have e':=rA e
      injection e' with e1 e2
      cases hS with
      |fin hj hR=>exact ic (show RQ Q E (.ok fl) s from e1▸hR s (ends js K' e2.symm hj) (fzs js K' e2.symm))
     |again=>exact(cN e).elim
     |hook=>exact(cN e).elim
    |cons fr κ=>
     obtain⟨p1,p2⟩:=popK rfl
     exact ic (show T2 V b κ fr.c (fr.k (.ok fl)) _ _ s from ih _ _ _ _ _ _ _ _ _ _ _ _ _ _ _ e hS p1 p2 I)
   |again c'=>
    conv at e=>lhs;whnf
    cases hq:c'.quiet with
    |false=>rw[hq] at e;exact(cN e).elim
    |true=>
     rw[hq] at e
     dsimp only at e
     cases κ with
     |cons fr κ=>
      have z:=ih _ _ _ _ _ _ _ _ c' (fr::κ) _ _ _ _ _ e hS (by cases κ<;>exact hK) (λx=>nomatch x) I
      unfold T2 at z
      dsimp only at z
      rw[←oc] at z
      exact ic (y_again _ _ _ _ _ _ hq (y_code _ _ _ _ _ _ z))
     |nil=>
      have go:tl=true→eF ⟨V.prog,V.w.params⟩ kt tl f scr os n m t i dA uA c' [] (oI c') K=kx A n os (qa scr A n)→T2 V b [] c (.pure (.again c')) Q E s:=λht e=>by
       obtain⟨h1,h2⟩:=hT ht c' s hq
       exact ic (h2 (ih _ _ _ _ _ _ _ _ _ _ _ _ _ _ _ e hS hK (λO=>h1) I))
      cases os with
      |cons=>
       cases tl with
       |false=>exact(cN e).elim
       |true=>exact go rfl e
      |nil=>
       cases scr with
       |again os' c'' js K'=>
        injection e with e1 e2
        subst e1
        cases hS with
        |again hj hR=>exact ic (hR s (ends js K' e2.symm hj) (fzs js K' e2.symm))
       |fin=>
        cases tl with
        |false=>exact(cN e).elim
        |true=>exact go rfl e
       |hook=>
        cases tl with
        |false=>exact(cN e).elim
        |true=>exact go rfl e
  |raise x=>
   cases κ with
   |nil=>
    cases scr with
    |fin os' r js K'=>
     have e':=rA e
     injection e' with e1 e2
     cases hS with
     |fin hj hR=>exact mL (show RQ Q E (.error x) s from e1▸hR s (ends js K' e2.symm hj) (fzs js K' e2.symm))
    |again=>exact(cN e).elim
    |hook=>exact(cN e).elim
   |cons fr κ=>
    obtain⟨p1,p2⟩:=popK rfl
    exact mL (show T2 V b κ fr.c (fr.k (.error x)) _ _ s from ih _ _ _ _ _ _ _ _ _ _ _ _ _ _ _ e hS p1 p2 I)
  |rule _ k=>exact jm 1 (ih _ _ _ _ _ _ _ _ _ _ _ _ _ _ _ e hS hK hc0 I)
  |«at» _ k=>exact jm 1 (ih _ _ _ _ _ _ _ _ _ _ _ _ _ _ _ e hS hK hc0 I)
  |point _ k=>exact jm 1 (ih _ _ _ _ _ _ _ _ _ _ _ _ _ _ _ e hS hK hc0 I)
  |ask k=>exact jm 1 (ih _ _ _ _ _ _ _ _ _ _ _ _ _ _ _ e hS hK hc0 I)
  |load a q k=>
   cases os with
   |nil=>exact(cN e).elim
   |cons j os=>
    cases j with
    |zero=>
     conv at e=>lhs;whnf
     split at e
     ·rename_i o ho
      obtain⟨h1,h2⟩:=hkt a o ho
      exact o0 (I.at'.base.old a o h1 h2) (ih _ _ _ _ _ _ _ _ _ _ _ _ _ _ s e hS hK hc0 I)
     ·exact(cN (os:=os) e).elim
    |succ j=>
     conv at e=>lhs;whnf
     split at e
     ·rename_i p hp
      injection e with e1 e2
      rw[sr I.adrs hp] at e1
      subst e1
      exact o0 (I.at'.get p (List.mem_of_getElem? hp)) (ih _ _ _ _ _ _ _ _ _ _ _ _ _ _ s e2 hS hK hc0 I)
     ·cases e
  |update a q g k=>
   cases os with
   |nil=>exact(cN e).elim
   |cons j os=>
    cases j with
    |zero=>exact(cN (os:=os) e).elim
    |succ j=>
     conv at e=>lhs;whnf
     split at e
     ·rename_i p hp
      split at e
      ·cases e
      ·rename_i hf
       injection e with e1 e2
       rw[sr I.adrs hp] at e1
       subst e1
       exact qf (I.at'.get p (List.mem_of_getElem? hp)) (ih _ _ _ _ _ _ _ _ _ _ _ _ _ _ _ e2 hS hK hc0 (I.update hp hf))
     ·cases e
  |alloc o k=>
   conv at e=>lhs;whnf
   split at e
   ·exact(cN e).elim
   ·rename_i hf
    exact sC (by rw[I.size];exact ih _ _ _ _ _ _ _ _ _ _ _ _ _ _ _ e hS hK hc0 (I.alloc hf))
  |fresh k=>
   have I':gT V W s₀ A n m t (i+1) F K {s with toks:=s.toks+1}:=⟨⟨⟨I.at'.base.old,I.at'.base.size,I.at'.base.gens,I.at'.base.drawn,I.at'.base.os⟩,I.at'.get,I.at'.nodup,I.at'.ok⟩,I.size,by show s.toks+1=_;rw[I.toks];lia,I.pres,I.grow,I.wr,I.adrs,I.fz⟩
   have z:=ih _ _ _ _ _ _ _ _ _ _ _ _ _ _ _ e hS hK hc0 I'
   rw[←I.toks] at z
   exact sA z
  |handled own k=>
   cases own with
   |true=>exact(cN e).elim
   |false=>
    have z:=ih _ _ _ _ _ _ _ _ _ _ _ _ _ _ _ e hS hK hc0 I
    exact oj hbO hK hc0 (by rw[hA.2.2];exact z)
  |call c' hd g l k=>
   cases hd with
   |some _=>exact(cN e).elim
   |none=>
    have hnext:∀(R:Result→Shared→Prop),codeAny (model V.prog V.w) (rf b ⟨c,dA,uA,k⟩ κ) c' R s→(∀r s',R r s'→T2 V b κ c (k r) (qZ V b Q E κ).1 (qZ V b Q E κ).2 s')→T2 V b κ c (.call c' none g l k) (qZ V b Q E κ).1 (qZ V b Q E κ).2 s:=by
     intro R hcode hR
     cases κ with
     |nil=>exact x_call (codeAny_mono hcode λr s' x=>hR r s' x) (by intro x;cases x)
     |cons fr κ=>exact y_call _ _ _ _ _ _ _ _ _ _ _ _ _ (by intro x;cases x) (codeAny_mono hcode λr s' x=>hR r s' x)
    have hKn:qc ok (⟨c,dA,uA,k⟩::κ) (dA+c.weight) (uA+c.cUnits):=by
     cases κ with
     |nil=>obtain⟨rfl,rfl⟩:=hK;exact⟨rfl,rfl,hc0 rfl,rfl,rfl⟩
     |cons fr κ=>exact⟨rfl,rfl,hK⟩
    cases os with
    |nil=>
     cases scr with
     |fin=>exact(cN e).elim
     |again=>exact(cN e).elim
     |hook os' m' H rest=>
      conv at e=>lhs;whnf
      split at e
      ·rename_i hb
       injection e with e1 e2 e3
       subst e1
       cases hS with
       |hook P X l hj hlen hl hH hrest=>
        obtain⟨b1,b3⟩:=Bool.and_eq_true_iff.mp hb
        obtain rfl:=Nat.eq_of_beq_eq_true b3
        obtain⟨b1,b2⟩:=Bool.and_eq_true_iff.mp b1
        have b1:=Nat.le_of_ble_eq_true b1
        have b2:=Nat.le_of_ble_eq_true b2
        have hbd:Bd l (rf b ⟨c,dA,uA,k⟩ κ):=by
         obtain⟨a1,a2,a3⟩:=hA
         obtain⟨n1,n2,n3⟩:=lW hbO hKn
         exact⟨by rw[n1];lia,by rw[n2];lia,by rw[n3];exact a3⟩
        refine hnext _ (hH _ s hbd (by rw[←e2];exact I.at'.sel hj) (by rw[←e2];exact I.fz.sel _)) ?_
        rintro r s' ⟨ρ,rfl,E',hP,hX⟩
        have e4:=congrFun e3 ρ
        rw[iu] at e4
        exact ih _ _ _ _ _ _ _ _ _ _ _ _ _ _ _ e4 (hrest ρ hP (by rw[←E'.size];exact Nat.le_trans I.grow E'.grow) (λp hp=>Nat.le_trans I.grow (E'.fresh p hp)) (λp hp=>Nat.le_trans I.grow (hX p hp).2.1)) hK hc0 (I.hook e2 hj hlen E' hX)
      ·exact(cN e).elim
    |cons j os=>
     cases j with
     |succ j=>cases e
     |zero=>
      have z:=ih scr os n m t i (dA+c.weight) (uA+c.cUnits) c' (⟨c,dA,uA,k⟩::κ) (oI c') F K A s e hS hKn (λx=>nomatch x) I
      unfold T2 at z
      dsimp only at z
      rw[←oc] at z
      exact hnext (λr s'=>T2 V b κ c (k r) (qZ V b Q E κ).1 (qZ V b Q E κ).2 s') (y_code _ _ _ _ _ _ z) (λr s' x=>x)
  |_=>exact(cN e).elim
theorem sK{V:Gw}{A₀:Around}{Q:PySem.Fin→Shared→Prop}{E:Value→Shared→Prop}{L:Nat}{s:Shared}{kt:KT}{scr:fC}{c:Code}{tree:Sem PySem.Fin}{K:KL}{n t:Nat}(f:Nat)(hA:Bd L A₀)
  (hkt:∀a o,kt.get a=some o→V.h0.get? a=some o∧a∉V.tb) {F:KL} (hF:Fz V F K s) (h:At V K s) (hn:s.heap.objs.size=n) (ht:s.toks=t)
  (e:eF ⟨V.prog,V.w.params⟩ kt false f scr scr.os n 0 t 0 0 0 c [] tree K=kR scr (K.map (·.1)) n) (hS:dB V Q E L (K.map (·.1)) s F scr):
  wpOwn (model V.prog V.w) A₀ c tree Q E s:=by
 rw[iu] at e
 exact wpOwn_of_wpAny (jT (tl:=false) (b:=λc=>A₀.under c) (ok:=λO=>True) hA (λO O=>⟨rfl,rfl,rfl⟩) (λh=>nomatch h) hkt f scr scr.os n 0 t 0 0 0 c [] tree F K _ s e hS ⟨rfl,rfl⟩ (λO=>trivial)
  ⟨h,hn,ht,λO O e O=>e,Nat.le_refl _,λp hp=> .inl (List.mem_map_of_mem hp),by simp,hF⟩)
theorem sL{V:Gw}{A₀:Around}{R₀:Result→Shared→Prop}{L:Nat}{s:Shared}{kt:KT}{scr:fC}{c:Code}{K:KL}{n t:Nat}(f:Nat)(hA:Bd L A₀)
  (hkt:∀a o,kt.get a=some o→V.h0.get? a=some o∧a∉V.tb) {F:KL} (hF:Fz V F K s) (h:At V K s) (hn:s.heap.objs.size=n) (ht:s.toks=t)
  (e:eF ⟨V.prog,V.w.params⟩ kt true f scr scr.os n 0 t 0 0 0 c [] (oI c) K=kR scr (K.map (·.1)) n) (hS:dB V (postC V.prog V.w A₀ R₀) (postE R₀) L (K.map (·.1)) s F scr):
  codeAny (model V.prog V.w) A₀ c R₀ s:=by
 rw[iu] at e
 have key:∀c s,wpAny (model V.prog V.w) (A₀.under c) (oI c) (postC V.prog V.w A₀ R₀) (postE R₀) s→codeAny (model V.prog V.w) A₀ c R₀ s:=λc s z=>x_code (by
  rw[←oc] at z
  exact wpAny_mono z (λfin s' h=>by cases fin<;>exact h) (λO O h=>h))
 exact key c s (jT (V:=V) (A₀:=A₀) (Q:=postC V.prog V.w A₀ R₀) (E:=postE R₀) (tl:=true) (b:=λc=>A₀.under c) (ok:=λO=>True) hA (λO O=>⟨rfl,rfl,rfl⟩) (λO c' s' hq=>⟨trivial,λx=>y_again _ _ _ _ _ _ hq (key c' s' x)⟩) hkt f scr scr.os n 0 t 0 0 0 c [] (oI c) F K _ s e hS ⟨rfl,rfl⟩ (λO=>trivial)
  ⟨h,hn,ht,λO O e O=>e,Nat.le_refl _,λp hp=> .inl (List.mem_map_of_mem hp),by simp,hF⟩)
set_option tactic.hygienic false
noncomputable def lQ(P:Params)(b1 b2:Bool)(r:String):Bool:=match S.strDecS r "comprehension-iter-twice" with
 | .isTrue _=>b1
 | .isFalse _=>match S.strDecS r "special-get-raises" with
  | .isTrue _=>b2
  | .isFalse _=>P.followText r
noncomputable def dX(P:Params)(b1 b2:Bool):Params:={P with followText:=lQ P b1 b2}
noncomputable def Ar:List (Addr×Obj)→Nat→Obj
 |[],_=>{cls:= .none}
 |p::l,k=>match k with
  |0=>p.2
  |k+1=>Ar l k
noncomputable def o(P:Params)(k:Nat):Obj:=Ar (Ab P) k
noncomputable def ck(P:Params):KT:=(.node (some (bi P)) (.node none (.node (some (o P 1)) (.node none (.node (some (o P 2)) (.node (some (o P 10)) (.node (some (o P 33)) (.node (some (o P 72)) .nil .nil) .nil) (.node (some (o P 56)) (.node (some (o P 95)) .nil .nil) (.node (some (o P 136)) .nil .nil))) (.node (some (o P 22)) (.node (some (o P 45)) .nil (.node (some (o P 126)) .nil .nil)) (.node none (.node (some (o P 105)) .nil .nil) .nil))) (.node none (.node (some (o P 16)) (.node (some (o P 39)) (.node (some (o P 78)) .nil .nil) .nil) (.node none (.node (some (o P 102)) .nil .nil) .nil)) (.node none (.node none (.node (some (o P 89)) .nil .nil) .nil) (.node (some (o P 66)) (.node (some (o P 110)) .nil .nil) .nil)))) (.node none (.node none (.node (some (o P 13)) (.node (some (o P 36)) (.node (some (o P 75)) .nil .nil) (.node (some (o P 118)) .nil .nil)) (.node (some (o P 60)) (.node (some (o P 98)) .nil .nil) .nil)) (.node none (.node (some (o P 48)) (.node (some (o P 86)) .nil .nil) .nil) (.node none (.node (some (o P 108)) .nil .nil) .nil))) (.node none (.node none (.node (some (o P 42)) .nil .nil) .nil) (.node (some (o P 30)) (.node none (.node (some (o P 92)) .nil .nil) (.node (some (o P 134)) .nil .nil)) (.node (some (o P 69)) .nil .nil))))) (.node none (.node none (.node (some (o P 3)) (.node none (.node none .nil (.node (some (o P 117)) .nil .nil)) (.node (some (o P 58)) (.node (some (o P 96)) .nil .nil) .nil)) (.node (some (o P 23)) (.node (some (o P 46)) (.node (some (o P 85)) .nil .nil) (.node (some (o P 128)) .nil .nil)) .nil)) (.node (some (o P 8)) (.node (some (o P 17)) (.node (some (o P 40)) (.node (some (o P 79)) .nil .nil) (.node (some (o P 122)) .nil .nil)) .nil) (.node (some (o P 29)) (.node (some (o P 52)) .nil (.node (some (o P 132)) .nil .nil)) (.node (some (o P 68)) (.node (some (o P 112)) .nil .nil) .nil)))) (.node none (.node (some (o P 6)) (.node (some (o P 14)) (.node none (.node (some (o P 76)) .nil .nil) (.node (some (o P 120)) .nil .nil)) (.node (some (o P 62)) (.node (some (o P 100)) .nil .nil) .nil)) (.node (some (o P 26)) (.node (some (o P 49)) (.node (some (o P 88)) .nil .nil) (.node (some (o P 130)) .nil .nil)) (.node (some (o P 65)) .nil .nil))) (.node none (.node (some (o P 20)) (.node none (.node (some (o P 82)) .nil .nil) (.node (some (o P 125)) .nil .nil)) (.node none (.node (some (o P 104)) .nil .nil) .nil)) (.node (some (o P 32)) (.node (some (o P 55)) .nil .nil) (.node none (.node (some (o P 114)) .nil .nil) .nil)))))) (.node (some (o P 0)) (.node none (.node none (.node none (.node (some (o P 11)) (.node (some (o P 34)) (.node (some (o P 73)) .nil .nil) (.node (some (o P 116)) .nil .nil)) (.node (some (o P 57)) .nil .nil)) (.node none (.node none (.node (some (o P 84)) .nil .nil) (.node (some (o P 127)) .nil .nil)) (.node none (.node (some (o P 106)) .nil .nil) .nil))) (.node none (.node none (.node none .nil (.node (some (o P 121)) .nil .nil)) .nil) (.node (some (o P 28)) (.node (some (o P 51)) (.node (some (o P 90)) .nil .nil) .nil) (.node (some (o P 67)) (.node (some (o P 111)) .nil .nil) .nil)))) (.node none (.node (some (o P 5)) (.node none (.node (some (o P 37)) .nil (.node (some (o P 119)) .nil .nil)) (.node (some (o P 61)) (.node (some (o P 99)) .nil .nil) .nil)) (.node (some (o P 25)) (.node none (.node (some (o P 87)) .nil .nil) (.node (some (o P 129)) .nil .nil)) (.node (some (o P 64)) (.node (some (o P 109)) .nil .nil) .nil))) (.node none (.node (some (o P 19)) (.node (some (o P 43)) (.node (some (o P 81)) .nil .nil) (.node (some (o P 124)) .nil .nil)) .nil) (.node (some (o P 31)) (.node (some (o P 54)) (.node (some (o P 93)) .nil .nil) .nil) (.node (some (o P 70)) (.node (some (o P 113)) .nil .nil) .nil))))) (.node none (.node none (.node (some (o P 4)) (.node (some (o P 12)) (.node (some (o P 35)) (.node (some (o P 74)) .nil .nil) .nil) (.node (some (o P 59)) (.node (some (o P 97)) .nil .nil) .nil)) (.node (some (o P 24)) (.node (some (o P 47)) .nil .nil) (.node (some (o P 63)) (.node (some (o P 107)) .nil .nil) .nil))) (.node none (.node (some (o P 18)) (.node (some (o P 41)) (.node (some (o P 80)) .nil .nil) (.node (some (o P 123)) .nil .nil)) (.node none (.node (some (o P 103)) .nil .nil) .nil)) (.node none (.node (some (o P 53)) (.node (some (o P 91)) .nil .nil) (.node (some (o P 133)) .nil .nil)) .nil))) (.node none (.node (some (o P 7)) (.node (some (o P 15)) (.node (some (o P 38)) (.node (some (o P 77)) .nil .nil) .nil) (.node none (.node (some (o P 101)) .nil .nil) .nil)) (.node (some (o P 27)) (.node (some (o P 50)) .nil (.node (some (o P 131)) .nil .nil)) .nil)) (.node (some (o P 9)) (.node (some (o P 21)) (.node (some (o P 44)) (.node (some (o P 83)) .nil .nil) .nil) .nil) (.node none (.node none (.node (some (o P 94)) .nil .nil) (.node (some (o P 135)) .nil .nil)) (.node (some (o P 71)) (.node (some (o P 115)) .nil .nil) .nil)))))))
structure bu where
 S:Setting
 kt:KT
 tl:Bool
 c:Code
 tree:Sem PySem.Fin
 K:KL
 n:Nat
 t:Nat
 scr:fC
noncomputable def bu.run(J:bu)(f:Nat):iB:=eF J.S J.kt J.tl f J.scr J.scr.os J.n 0 J.t 0 0 0 J.c [] J.tree J.K
noncomputable def bu.exp(J:bu):iB:=kR J.scr (J.K.map (·.1)) J.n
noncomputable def gY(P:Params)(b1 b2:Bool):Setting:=⟨PySem.Challenge.pw_ti0049_01,dX P b1 b2⟩
noncomputable def Qk{α:Type}(m:Nat)(g:(bu→iB)→α):Prop:=g (·.run m)=g bu.exp
set_option tactic.hygienic true
noncomputable def jz(a:Addr)(fd:FuncData)(args:Args):Sem Env:=do
 let compiled ←match fd.code with
  | .none=>pure fd.qualname
  |c=>do match←field c 1 with
   | .str q _=>pure q
   |_=>pure fd.qualname
 newFunctionEnv fd.scope fd.globals fd.closure (←bindArgs fd args) (compiled++".<locals>.") (some a) fd.code none fd.builtins
noncomputable def aA(fd:FuncData):List Stmt:=match fd.body with
 | .stmts b=>b
 |_=>[]
noncomputable def iv(a:Addr)(fd:FuncData)(args:Args):Sem PySem.Fin:=jz a fd args>>=λenv=>pure (.again (.func (aA fd) env))
theorem ji{a:Addr}{fd:FuncData}{args:Args}{b:List Stmt}(hb:fd.body= .stmts b)(hg:fd.scope.isGenerator=false)(hc:fd.scope.isCoroutine=false):
  callFunction a fd args=jz a fd args>>=λenv=>enterFrame>>=λO=>pure (.again (.func (aA fd) env)):=by
 unfold callFunction jz aA
 simp only[hb,hg,hc,bind_assoc]
 have key:∀(x:Sem Str) (f:Str→Sem Env) (g:Env→Sem PySem.Fin),(x>>=λc=>f c>>=g)=(x>>=f)>>=g:=λx f g=>(bind_assoc x f g).symm
 cases fd.code<;>first|rfl|(try simp only[bind_assoc,pure_bind];refine congrArg _ (funext λv=> ?_);cases v<;>first|rfl|(simp only[bind_assoc,pure_bind];rfl))
theorem wc{V:Gw}{A:Around}{R:Result→Shared→Prop}{s:Shared}{a:Addr}{fd:FuncData}{args:Args}{b:List Stmt}{o:Obj}{Q:PySem.Fin→Shared→Prop}{E:Value→Shared→Prop}
  (ho:s.heap.get? a=some o) (hd:o.data= .func fd) (hb:fd.body= .stmts b) (hg:fd.scope.isGenerator=false) (hc:fd.scope.isCoroutine=false) (hA:A.depth<recursionLimit)
  (h:wpOwn (model V.prog V.w) A (.call (.ref a) args) (iv a fd args) Q E s)
  (hQ:∀env s',Q (.again (.func (aA fd) env)) s'→s'.heap.NoLimit∧codeAny (model V.prog V.w) A (.func (aA fd) env) R s') (hE:∀e s',E e s'→R (.error e) s'):
  codeAny (model V.prog V.w) A (.call (.ref a) args) R s:=by
 refine codeAny_of_own ?_
 show wpOwn _ A _ (callAny (.ref a) args) _ _ s
 unfold callAny
 refine wpOwn_bind (wpOwn_of_wpAny (wpAny_load ho ?_))
 simp only[hd]
 rw[ji hb hg hc]
 intro Γ p hc' hΓ
 have z:=h Γ p hc' hΓ
 unfold iv at z
 rw[Sem.wp_bind'] at z⊢
 refine Sem.wp_mono _ Γ _ (λenv p' s' h'=> ?_) (λe O s' h'=>hE e s' h') p s z
 obtain⟨hl,hk⟩:=hQ env s' h'
 have y:wpAny (model V.prog V.w) (A.under (.call (.ref a) args)) (enterFrame>>=λO=>(pure (.again (.func (aA fd) env)):Sem PySem.Fin))
   (λfin s'=>match fin with| .done f=>R (.ok f) s'| .again c'=>c'.quiet=true∧codeAny (model V.prog V.w) A c' R s') (λe s'=>R (.error e) s') s':=
  wpAny_bind (wpAny_enterFrame hl (by show A.depth+0<_;exact hA) (wpAny_pure ⟨rfl,hk⟩))
 exact y Γ p' (hc'▸hΓ.in)
noncomputable def hz(P:Params)(x:Array Nat):Int:=ZFast.zw12210062019545310541 (P.strHash x)
noncomputable def nb(a:Addr)(fd:FuncData)(args:Args):Sem Env:=do
 let compiled ←match fd.code with
  | .none=>pure fd.qualname
  |c=>do match←ZFast.zw6609576154772507232 c 1 with
   | .str q _=>pure q
   |_=>pure fd.qualname
 ZFast.zw11113344188204177931 fd.scope fd.globals fd.closure (←ZFast.zw9782568553167038054 fd args) (compiled++".<locals>.") (some a) fd.code none fd.builtins
noncomputable def fv(a:Addr)(fd:FuncData)(args:Args):Sem PySem.Fin:=nb a fd args>>=λenv=>pure (.again (.func (aA fd) env))
theorem l5:fv=iv:=by
 funext a fd args
 unfold fv iv nb jz
 rw[←ZFast.ze6609576154772507232,←ZFast.ze11113344188204177931,←ZFast.ze9782568553167038054]
noncomputable def aU(P:Params)(a:Addr):FuncData:=match(ck P).get a with
 |some o=>match o.data with
  | .func fd=>fd
  |_=>default
 |none=>default
noncomputable def f6(fd:FuncData)(a L:Addr)(cells:List (Str×Addr)):Env:=
 {scope:=fd.scope,locals:=L,globals:=fd.globals,cells:=cells,qual:=fd.qualname++(".<locals>.":Str),func:=some a,code:=fd.code,frame:=some L,builtins:=fd.builtins}
noncomputable def aC(V:Gw):Bool:=V.w.params.followText "comprehension-iter-twice"
noncomputable def aB(V:Gw):Bool:=V.w.params.followText "special-get-raises"
theorem na(P:Params):dX P (P.followText "comprehension-iter-twice") (P.followText "special-get-raises")=P:=by
 have:lQ P (P.followText "comprehension-iter-twice") (P.followText "special-get-raises")=P.followText:=by
  funext r
  unfold lQ
  split
  ·rename_i h _;rw[h]
  ·split
   ·rename_i h _;rw[h]
   ·rfl
 unfold dX
 rw[this]
structure au(V:Gw):Prop where
 prog:V.prog=PySem.Challenge.pw_ti0049_01
 kt:∀a o,(ck V.w.params).get a=some o→V.h0.get? a=some o∧a∉V.tb
 lim:∀s,f8 V s→s.heap.NoLimit
theorem au.set{V:Gw}(G:au V):gY V.w.params (aC V) (aB V)=⟨V.prog,V.w.params⟩:=by
 unfold gY aC aB
 rw[na,G.prog]
theorem au.ktP{V:Gw}(_:au V):ck (dX V.w.params (aC V) (aB V))=ck V.w.params:=by
 unfold aC aB
 rw[na]
theorem CI{V:Gw}(G:au V){A₀:Around}{R₀:Result→Shared→Prop}{L f:Nat}{s:Shared}(J:bu)(h1:J.S=gY V.w.params (aC V) (aB V))(h2:J.kt=ck (dX V.w.params (aC V) (aB V)))(h3:J.tl=true)(h4:J.tree=oI J.c)
  (e:J.run f=J.exp) (hA:Bd L A₀) {F:KL} (hF:Fz V F J.K s) (h:At V J.K s) (hn:s.heap.objs.size=J.n) (ht:s.toks=J.t)
  (hS:dB V (postC V.prog V.w A₀ R₀) (postE R₀) L (J.K.map (·.1)) s F J.scr):codeAny (model V.prog V.w) A₀ J.c R₀ s:=by
 unfold bu.run bu.exp at e
 rw[h1,h2,h3,h4,G.set,G.ktP] at e
 exact sL f hA G.kt hF h hn ht e hS
theorem Bk{V:Gw}(G:au V){A₀:Around}{Q:PySem.Fin→Shared→Prop}{E:Value→Shared→Prop}{L f:Nat}{s:Shared}(J:bu)(h1:J.S=gY V.w.params (aC V) (aB V))(h2:J.kt=ck (dX V.w.params (aC V) (aB V)))(h3:J.tl=false)
  (e:J.run f=J.exp) (hA:Bd L A₀) {F:KL} (hF:Fz V F J.K s) (h:At V J.K s) (hn:s.heap.objs.size=J.n) (ht:s.toks=J.t)
  (hS:dB V Q E L (J.K.map (·.1)) s F J.scr):wpOwn (model V.prog V.w) A₀ J.c J.tree Q E s:=by
 unfold bu.run bu.exp at e
 rw[h1,h2,h3,G.set,G.ktP] at e
 exact sK f hA G.kt hF h hn ht e hS
noncomputable def d4(P:Params)(a:Addr):Bool:=match(ck P).get a with
 |some o=>match o.data with
  | .func fd=>(match fd.body with| .stmts _=>true|_=>false)&&(!fd.scope.isGenerator&& !fd.scope.isCoroutine)
  |_=>false
 |none=>false
theorem vE{P:Params}{a:Addr}(h:d4 P a=true):∃o b,(ck P).get a=some o∧o.data= .func (aU P a)∧(aU P a).body= .stmts b∧(aU P a).scope.isGenerator=false∧(aU P a).scope.isCoroutine=false:=by
 unfold d4 at h
 unfold aU
 generalize (ck P).get a=x at h⊢
 cases x with
 |none=>cases h
 |some o=>
  obtain⟨c,d,dt,sl⟩:=o
  cases dt with
  |func fd=>
   simp only[Bool.and_eq_true,Bool.not_eq_true'] at h
   obtain⟨h1,h2,h3⟩:=h
   cases hb:fd.body with
   |stmts b=>exact⟨_,b,rfl,rfl,rfl,h2,h3⟩
   |expr _=>rw[hb] at h1;cases h1
  |_=>exact CZ h
noncomputable def ap(P:Params)(b1 b2:Bool)(c:Code)(K:KL)(n t:Nat)(scr:fC):bu:=⟨gY P b1 b2,ck (dX P b1 b2),true,c,oI c,K,n,t,scr⟩
noncomputable def cc(P:Params)(a L:Addr)(cells:List (Str×Addr)):Code:= .func (aA (aU P a)) (f6 (aU P a) a L cells)
noncomputable def bK(P:Params)(b1 b2:Bool)(a:Addr)(args:List Value)(K:KL)(n t:Nat)(os:List Nat)(L:Addr)(cells:List (Str×Addr))(js:List Nat)(K₁:KL):bu:=
 ⟨gY P b1 b2,ck (dX P b1 b2),false,.call (.ref a) ⟨args,[]⟩,fv a (aU P a) ⟨args,[]⟩,K,n,t,.again os (cc P a L cells) js K₁⟩
theorem aR{V:Gw}(G:au V){A₀:Around}{R₀:Result→Shared→Prop}{L f:Nat}{s:Shared}{c:Code}{K F:KL}{scr:fC}(hF:Fz V F K s)
  (e:(ap V.w.params (aC V) (aB V) c K s.heap.objs.size s.toks scr).run f=(ap V.w.params (aC V) (aB V) c K s.heap.objs.size s.toks scr).exp) (hA:Bd L A₀) (h:At V K s)
  (hS:dB V (postC V.prog V.w A₀ R₀) (postE R₀) L (K.map (·.1)) s F scr):codeAny (model V.prog V.w) A₀ c R₀ s:=
 CI G (ap V.w.params (aC V) (aB V) c K s.heap.objs.size s.toks scr) (by dsimp only[ap]) (by dsimp only[ap]) (by dsimp only[ap]) (by dsimp only[ap]) e hA (F:=F) (by dsimp only[ap];exact hF) h (by dsimp only[ap]) (by dsimp only[ap]) hS
theorem bc{V:Gw}(G:au V){A₀:Around}{R₀:Result→Shared→Prop}{L f:Nat}{s:Shared}{c:Code}{K:KL}{scr:fC}
  (e:(ap V.w.params (aC V) (aB V) c K s.heap.objs.size s.toks scr).run f=(ap V.w.params (aC V) (aB V) c K s.heap.objs.size s.toks scr).exp) (hA:Bd L A₀) (h:At V K s)
  (hS:ux V (postC V.prog V.w A₀ R₀) (postE R₀) L (K.map (·.1)) s scr):codeAny (model V.prog V.w) A₀ c R₀ s:=aR G Fz.nil e hA h hS
section
variable {P:Params} {b1 b2:Bool} {a:Addr} {args:List Value} {K:KL} {n t:Nat} {os:List Nat} {L:Addr} {cells:List (Str×Addr)} {js:List Nat} {K₁:KL}
theorem yK:(bK P b1 b2 a args K n t os L cells js K₁).S=gY P b1 b2:=by dsimp only[bK]
theorem vA:(bK P b1 b2 a args K n t os L cells js K₁).kt=ck (dX P b1 b2):=by dsimp only[bK]
theorem vz:(bK P b1 b2 a args K n t os L cells js K₁).tl=false:=by dsimp only[bK]
theorem yI:(bK P b1 b2 a args K n t os L cells js K₁).n=n:=by dsimp only[bK]
theorem yL:(bK P b1 b2 a args K n t os L cells js K₁).K=K:=by dsimp only[bK]
theorem tj:(bK P b1 b2 a args K n t os L cells js K₁).scr= .again os (cc P a L cells) js K₁:=by dsimp only[bK]
theorem qt:(bK P b1 b2 a args K n t os L cells js K₁).tree=fv a (aU P a) ⟨args,[]⟩:=by dsimp only[bK]
theorem yJ:(bK P b1 b2 a args K n t os L cells js K₁).c= .call (.ref a) ⟨args,[]⟩:=by dsimp only[bK]
theorem yH:(bK P b1 b2 a args K n t os L cells js K₁).t=t:=by dsimp only[bK]
end
theorem xV{V:Gw}(G:au V){A₀:Around}{Q:PySem.Fin→Shared→Prop}{E:Value→Shared→Prop}{L f:Nat}{s:Shared}(J:bu){c:Code}{tree:Sem PySem.Fin}{K:KL}{scr:fC}(h1:J.S=gY V.w.params (aC V) (aB V))(h2:J.kt=ck (dX V.w.params (aC V) (aB V)))(h3:J.tl=false)
  (hc:J.c=c) (htr:J.tree=tree) (hK:J.K=K) (hscr:J.scr=scr)
  (e:J.run f=J.exp) (hA:Bd L A₀) {F:KL} (hF:Fz V F K s) (h:At V K s) (hn:J.n=s.heap.objs.size) (ht:J.t=s.toks)
  (hS:dB V Q E L (K.map (·.1)) s F scr):wpOwn (model V.prog V.w) A₀ c tree Q E s:=by
 subst hc htr hK hscr
 exact Bk G J h1 h2 h3 e hA hF h hn.symm ht.symm hS
theorem sM{V:Gw}(G:au V){A₀:Around}{R₀:Result→Shared→Prop}{L f:Nat}{s:Shared}{a:Addr}{args:List Value}{K K₁:KL}{os js:List Nat}{fd:FuncData}{env:Env}{b:List Stmt}{o:Obj}(hA:Bd L A₀)
  (ho:s.heap.get? a=some o) (hd:o.data= .func fd) (hb:fd.body= .stmts b) (hg:fd.scope.isGenerator=false) (hc:fd.scope.isCoroutine=false) {F:KL} (hF:Fz V F K s) (h:At V K s) (J:bu)
  (h1:J.S=gY V.w.params (aC V) (aB V)) (h2:J.kt=ck (dX V.w.params (aC V) (aB V))) (h3:J.tl=false) (hJc:J.c= .call (.ref a) ⟨args,[]⟩) (htr:J.tree=fv a fd ⟨args,[]⟩) (hK:J.K=K)
  (hscr:J.scr= .again os (.func (aA fd) env) js K₁) (hn:J.n=s.heap.objs.size) (ht:J.t=s.toks) (e:J.run f=J.exp) (hj:js.Nodup)
  (hk:∀s',am V (K.map (·.1)) s K₁ s'→Fz V F K₁ s'→codeAny (model V.prog V.w) A₀ (.func (aA fd) env) R₀ s'):codeAny (model V.prog V.w) A₀ (.call (.ref a) ⟨args,[]⟩) R₀ s:=by
 refine wc (Q:=λfin s'=>fin= .again (.func (aA fd) env)∧am V (K.map (·.1)) s K₁ s'∧Fz V F K₁ s') (E:=λO O=>False) ho hd hb hg hc (by have:=hA.1;show A₀.depth<1000;lia) ?_ (λenv' s' hq=> ?_) (λO O x=>x.elim)
 ·rw[←l5]
  exact xV G J h1 h2 h3 hJc htr hK hscr e hA hF h hn ht (.again hj λs' hs' hf=>⟨rfl,hs',hf⟩)
 ·obtain⟨q,hs',hf⟩:=hq
  have q':env'=env:=by injection q with q;injection q
  rw[q']
  exact⟨G.lim s' hs'.at'.base,hk s' hs' hf⟩
theorem ga{V:Gw}(G:au V){A₀:Around}{R₀:Result→Shared→Prop}{L:Nat}{s:Shared}{a:Addr}{args:List Value}{K K₁ F:KL}{os js:List Nat}{f:Nat}{l:Addr}{cells:List (Str×Addr)}(hA:Bd L A₀)
  (hf:d4 V.w.params a=true) (hF:Fz V F K s) (h:At V K s)
  (e:(bK V.w.params (aC V) (aB V) a args K s.heap.objs.size s.toks os l cells js K₁).run f=(bK V.w.params (aC V) (aB V) a args K s.heap.objs.size s.toks os l cells js K₁).exp)
  (hj:js.Nodup) (h2:∀s',am V (K.map (·.1)) s K₁ s'→Fz V F K₁ s'→codeAny (model V.prog V.w) A₀ (cc V.w.params a l cells) R₀ s'):
  codeAny (model V.prog V.w) A₀ (.call (.ref a) ⟨args,[]⟩) R₀ s:=
 match vE hf with
 |⟨_,_,ho,hd,hb,hg,hc⟩=>sM (env:=f6 (aU V.w.params a) a l cells) G hA (h.base.old a _ (G.kt a _ ho).1 (G.kt a _ ho).2) hd hb hg hc hF h _ yK vA vz yJ qt yL tj yI yH e hj h2
theorem jB{V:Gw}(G:au V){A₀:Around}{R₀:Result→Shared→Prop}{L:Nat}{s:Shared}{a:Addr}{args:List Value}{K K₁:KL}{os js:List Nat}{f:Nat}{l:Addr}{cells:List (Str×Addr)}(hA:Bd L A₀)
  (hf:d4 V.w.params a=true) (h:At V K s)
  (e:(bK V.w.params (aC V) (aB V) a args K s.heap.objs.size s.toks os l cells js K₁).run f=(bK V.w.params (aC V) (aB V) a args K s.heap.objs.size s.toks os l cells js K₁).exp)
  (hj:js.Nodup) (h2:∀s',am V (K.map (·.1)) s K₁ s'→codeAny (model V.prog V.w) A₀ (cc V.w.params a l cells) R₀ s'):
  codeAny (model V.prog V.w) A₀ (.call (.ref a) ⟨args,[]⟩) R₀ s:=
 ga G hA hf Fz.nil h e hj λs' hs' O=>h2 s' hs'
noncomputable def cY(P:Params)(l:List (Array Nat×Nat×Value)):Obj:={cls:= .type "frame",data:= .dict ⟨l.map λp=>⟨hz P p.1,.str ⟨p.1⟩ p.2.1,p.2.2⟩⟩ l.length}
noncomputable def jg(C d:Addr):Obj:={cls:= .ref C,dict:=some d}
noncomputable def bn(P:Params)(l:List (Array Nat×Nat×Value)):Obj:={cls:= .type "dict",data:= .dict ⟨l.map λp=>⟨hz P p.1,.str ⟨p.1⟩ p.2.1,p.2.2⟩⟩ l.length}
noncomputable def al(vs:List Value):Obj:={cls:= .type "tuple",data:= .seq ⟨vs⟩}
noncomputable def aa(vs:List Value)(ep:Nat):Obj:={cls:= .type "list",data:= .seq ⟨vs⟩ ep}
set_option tactic.hygienic false
noncomputable def fT(f:Bool→iB):List iB:=[f true,f false]
theorem a6{f g:Bool→iB}(h:fT f=fT g):∀b,f b=g b:=by
 injection h with h1 h2
 injection h2 with h2 _
 intro b;cases b<;>assumption
noncomputable def ay(f:Bool→Bool→iB):List iB:=[f true true,f true false,f false true,f false false]
theorem ad{f g:Bool→Bool→iB}(h:ay f=ay g):∀b c,f b c=g b c:=by
 injection h with h1 h
 injection h with h2 h
 injection h with h3 h
 injection h with h4 _
 intro b c;cases b<;>cases c<;>assumption
noncomputable def lm:Nat→(Nat→Bool→iB)→List iB
 |0,_=>[]
 |n+1,f=>f n true::f n false::lm n f
theorem fI{f g:Nat→Bool→iB}:∀{n:Nat},lm n f=lm n g→∀i,i<n→∀b,f i b=g i b
 |0,_,i,hi,_=>absurd hi (Nat.not_lt_zero i)
 |n+1,h,i,hi,b=>by
  injection h with h1 h
  injection h with h2 h
  by_cases e:i=n
  ·subst e;cases b<;>assumption
  ·exact fI h i (by lia) b
noncomputable def dS:List Nat→Bool
 |[]=>true
 |a::l=>(l.all λb=> !Nat.beq a b)&&dS l
theorem aS:∀{l:List Nat},dS l=true→l.Nodup
 |[],_=>List.nodup_nil
 |a::l,h=>by
  obtain⟨h1,h2⟩:=Bool.and_eq_true_iff.mp h
  refine List.nodup_cons.mpr ⟨λhm=> ?_,aS h2⟩
  have:=List.all_eq_true.mp h1 a hm
  simp[Nat.beq_refl] at this
section
variable {V:Gw} {Q:PySem.Fin→Shared→Prop} {E:Value→Shared→Prop} {L:Nat} {W:List Addr} {s₀:Shared}
theorem an{F os r js K}(hj:dS js=true)(h:∀s',am V W s₀ K s'→Fz V F K s'→RQ Q E r s'):dB V Q E L W s₀ F (.fin os r js K):= .fin (aS hj) h
theorem ax{F os c js K}(hj:dS js=true)(h:∀s',am V W s₀ K s'→Fz V F K s'→Q (.again c) s'):dB V Q E L W s₀ F (.again os c js K):= .again (aS hj) h
theorem dD{F os m H rest}{P:br→Prop}{X:br→KL}{l:Nat}(hH:aQ V l H F P X)(hl:Nat.blt l L=true)(hj:dS H.js=true)(hlen:H.js.length=H.K.length)
  (h:∀ρ,P ρ→s₀.heap.objs.size≤ρ 0→dB V Q E L W s₀ (F++X ρ) (rest ρ)):dB V Q E L W s₀ F (.hook os m H rest):=
 .hook P X l (aS hj) hlen (Nat.le_of_ble_eq_true hl) hH λρ hP hn O O=>h ρ hP hn
theorem bh{F os m H rest}{P:br→Prop}{X:br→KL}{l:Nat}(hH:aQ V l H F P X)(hl:Nat.blt l L=true)(hj:dS H.js=true)(hlen:H.js.length=H.K.length)
  (h:∀ρ,P ρ→s₀.heap.objs.size≤ρ 0→(∀p∈H.news ρ,s₀.heap.objs.size≤p.1)→(∀p∈X ρ,s₀.heap.objs.size≤p.1)→dB V Q E L W s₀ (F++X ρ) (rest ρ)):dB V Q E L W s₀ F (.hook os m H rest):=
 .hook P X l (aS hj) hlen (Nat.le_of_ble_eq_true hl) hH h
theorem jR{F os m H rest}{P:br→Prop}{l:Nat}(hH:ai V l H P)(hl:Nat.blt l L=true)(hj:dS H.js=true)(hlen:H.js.length=H.K.length)
  (h:∀ρ,P ρ→s₀.heap.objs.size≤ρ 0→(∀p∈H.news ρ,s₀.heap.objs.size≤p.1)→dB V Q E L W s₀ F (rest ρ)):dB V Q E L W s₀ F (.hook os m H rest):=
 bh hH.hookF hl hj hlen λρ hP hn h1 O=>by rw[List.append_nil];exact h ρ hP hn h1
theorem ac{F os m H rest}{P:br→Prop}{l:Nat}(hH:ai V l H P)(hl:Nat.blt l L=true)(hj:dS H.js=true)(hlen:H.js.length=H.K.length)
  (h:∀ρ,P ρ→s₀.heap.objs.size≤ρ 0→dB V Q E L W s₀ F (rest ρ)):dB V Q E L W s₀ F (.hook os m H rest):=
 dD hH.hookF hl hj hlen λρ hP hn=>by rw[List.append_nil];exact h ρ hP hn
theorem aO{os r js K}(hj:dS js=true)(h:∀s',am V W s₀ K s'→RQ Q E r s'):ux V Q E L W s₀ (.fin os r js K):=an hj λs' hs' O=>h s' hs'
theorem aE{os c js K}(hj:dS js=true)(h:∀s',am V W s₀ K s'→Q (.again c) s'):ux V Q E L W s₀ (.again os c js K):=ax hj λs' hs' O=>h s' hs'
theorem ae{os m H rest}{P:br→Prop}{l:Nat}(hH:ai V l H P)(hl:Nat.blt l L=true)(hj:dS H.js=true)(hlen:H.js.length=H.K.length)
  (h:∀ρ,P ρ→s₀.heap.objs.size≤ρ 0→ux V Q E L W s₀ (rest ρ)):ux V Q E L W s₀ (.hook os m H rest):=ac hH hl hj hlen h
end
noncomputable def a7(a b:Nat)(σ:Nat→Nat):br
 |0=>a
 |1=>b
 |k+2=>σ k
theorem rI{V:Gw}(G:au V){H:aD}{P:br→Prop}{L f:Nat}(scr:Nat→Nat→fC)
  (e:∀n t,(ap V.w.params (aC V) (aB V) H.code H.K n t (scr n t)).run f=(ap V.w.params (aC V) (aB V) H.code H.K n t (scr n t)).exp)
  (hS:∀A s,Bd L A→At V H.K s→ux V (postC V.prog V.w A (bO V H P s)) (postE (bO V H P s)) L (H.K.map (·.1)) s (scr s.heap.objs.size s.toks)):ai V L H P:=
 λA s hA h=>bc G (e _ _) hA h (hS A s hA h)
theorem aW{V:Gw}{H:aD}{s s':Shared}{K:KL}(hE:am V (H.K.map (·.1)) s K s')(σ:Nat→Nat)
  (hl:(H.objs (a7 s'.heap.objs.size s'.toks σ)).length=H.K.length)
  (hK:K=(H.K.map (·.1)).zip (H.objs (a7 s'.heap.objs.size s'.toks σ))++H.news (a7 s'.heap.objs.size s'.toks σ))
  (hf:∀p∈H.news (a7 s'.heap.objs.size s'.toks σ),s.heap.objs.size≤p.1):nN V H s s' (a7 s'.heap.objs.size s'.toks σ):=by
 subst hK
 have hn:=hE.at'.nodup
 rw[List.map_append,List.nodup_append] at hn
 refine⟨hE.at'.base,rfl,rfl,hE.grow,?_,λp hp=>hE.at'.get p (List.mem_append_right _ hp),hf,hn.2.1,hE.pres⟩
 have hg:∀p∈(H.K.map (·.1)).zip (H.objs (a7 s'.heap.objs.size s'.toks σ)),s'.heap.get? p.1=some p.2:=λp hp=>hE.at'.get p (List.mem_append_left _ hp)
 have hl':(H.K.map (·.1)).length=(H.objs (a7 s'.heap.objs.size s'.toks σ)).length:=by rw[List.length_map,hl]
 generalize H.K.map (·.1)=as at hl' hg⊢
 generalize H.objs (a7 s'.heap.objs.size s'.toks σ)=os at hl' hg⊢
 clear hn hl hf hE
 induction as generalizing os with
 |nil=>cases os with
  |nil=>rfl
  |cons=>cases hl'
 |cons a as ih=>cases os with
  |nil=>cases hl'
  |cons o os=>
   simp only[List.map_cons]
   rw[hg (a,o) (by simp),ih os (by simpa using hl') (λp hp=>hg p (by simp[hp]))]
theorem il{p:Prop}(d:Decidable p){β:Bool}(h:β=true↔p): @decide p d=β:=by
 cases d with
 |isTrue hp=>exact(h.mpr hp).symm
 |isFalse hp=>cases hb:β with
  |false=>rfl
  |true=>exact absurd (h.mp hb) hp
noncomputable def aN(c:Code)(v:br→Value):aD:=⟨c,[],[],λρ=> .ok (.ret (v ρ)),λO=>[],λO=>[]⟩
theorem ij{V:Gw}(G:au V){c:Code}{v w:Value}{L f:Nat}(os:List Nat)(hvw:v=w)
  (e:∀n t,(ap V.w.params (aC V) (aB V) c [] n t (.fin os (.ok (.ret v)) [] [])).run f=(ap V.w.params (aC V) (aB V) c [] n t (.fin os (.ok (.ret v)) [] [])).exp):ai V L (aN c λO=>w) (λO=>True):=by
 subst hvw
 refine rI G (H:=aN c λO=>v) (λO O=> .fin os (.ok (.ret v)) [] []) e (λA s hA h=> .fin List.nodup_nil λs' hs' O=> ?_)
 exact⟨a7 s'.heap.objs.size s'.toks (λO=>0),rfl,aW hs' (λO=>0) rfl rfl (λO hp=>nomatch hp),trivial⟩
abbrev aY (id:String) (a b:Int) (u v:Nat):Code:= .call (.builtin id) ⟨[.int a u,.int b v],[]⟩
theorem zp(P b1 b2 a b u v n t):(ap P b1 b2 (aY "int.__ge__" a b u v) [] n t (.fin [] (.ok (.ret (.bool (@decide _ (Z.leZ b a))))) [] [])).run 20=(ap P b1 b2 (aY "int.__ge__" a b u v) [] n t (.fin [] (.ok (.ret (.bool (@decide _ (Z.leZ b a))))) [] [])).exp:=by
 kernel_rfl!
theorem zn(P b1 b2 a b u v n t):(ap P b1 b2 (aY "int.__gt__" a b u v) [] n t (.fin [] (.ok (.ret (.bool (@decide _ (Z.ltZ b a))))) [] [])).run 20=(ap P b1 b2 (aY "int.__gt__" a b u v) [] n t (.fin [] (.ok (.ret (.bool (@decide _ (Z.ltZ b a))))) [] [])).exp:=by
 kernel_rfl!
theorem yF(P b1 b2 a b u v n t):(ap P b1 b2 (aY "int.__le__" a b u v) [] n t (.fin [] (.ok (.ret (.bool (@decide _ (Z.leZ a b))))) [] [])).run 20=(ap P b1 b2 (aY "int.__le__" a b u v) [] n t (.fin [] (.ok (.ret (.bool (@decide _ (Z.leZ a b))))) [] [])).exp:=by
 kernel_rfl!
theorem yA(P b1 b2 a b u v n t):(ap P b1 b2 (aY "int.__lt__" a b u v) [] n t (.fin [] (.ok (.ret (.bool (@decide _ (Z.ltZ a b))))) [] [])).run 20=(ap P b1 b2 (aY "int.__lt__" a b u v) [] n t (.fin [] (.ok (.ret (.bool (@decide _ (Z.ltZ a b))))) [] [])).exp:=by
 kernel_rfl!
theorem mA{V:Gw}(G:au V){a b:Int}{u v:Nat}{L:Nat}(β:Bool)(h:β=true↔b≤a):ai V L (aN (aY "int.__ge__" a b u v) λO=> .bool β) (λO=>True):=
 ij G [] (congrArg Value.bool (il (Z.leZ b a) h)) (λn t=>zp _ _ _ _ _ _ _ _ _)
theorem wN{V:Gw}(G:au V){a b:Int}{u v:Nat}{L:Nat}(β:Bool)(h:β=true↔b<a):ai V L (aN (aY "int.__gt__" a b u v) λO=> .bool β) (λO=>True):=
 ij G [] (congrArg Value.bool (il (Z.ltZ b a) h)) (λn t=>zn _ _ _ _ _ _ _ _ _)
theorem B8{V:Gw}(G:au V){a b:Int}{u v:Nat}{L:Nat}(β:Bool)(h:β=true↔a≤b):ai V L (aN (aY "int.__le__" a b u v) λO=> .bool β) (λO=>True):=
 ij G [] (congrArg Value.bool (il (Z.leZ a b) h)) (λn t=>yF _ _ _ _ _ _ _ _ _)
theorem wM{V:Gw}(G:au V){a b:Int}{u v:Nat}{L:Nat}(β:Bool)(h:β=true↔a<b):ai V L (aN (aY "int.__lt__" a b u v) λO=> .bool β) (λO=>True):=
 ij G [] (congrArg Value.bool (il (Z.ltZ a b) h)) (λn t=>yA _ _ _ _ _ _ _ _ _)
set_option tactic.hygienic true
theorem xc{V:Gw}(G:au V){A₀:Around}{Q:PySem.Fin→Shared→Prop}{E:Value→Shared→Prop}{L f:Nat}{s:Shared}(J:bu){tree:Sem PySem.Fin}{K:KL}{scr:fC}(h1:J.S=gY V.w.params (aC V) (aB V))(h2:J.kt=ck (dX V.w.params (aC V) (aB V)))(h3:J.tl=false)
  (hc:J.c=c0) (htr:J.tree=tree) (hK:J.K=K) (hscr:J.scr=scr) (hn:J.n=s.heap.objs.size) (ht:J.t=s.toks)
  (e:J.run f=J.exp) (hA:Bd L A₀) {F:KL} (hF:Fz V F K s) (h:At V K s)
  (hS:dB V Q E L (K.map (·.1)) s F scr):wpAny (model V.prog V.w) A₀ tree Q E s:=by
 unfold bu.run bu.exp at e
 rw[h1,h2,h3,G.set,G.ktP,iu,hc,htr,hK,hscr,hn,ht] at e
 exact jT (tl:=false) (b:=λO=>A₀) (ok:=λc=>c=c0) hA (λc hc=>by subst hc;exact⟨rfl,rfl,rfl⟩) (λh=>nomatch h) G.kt f scr scr.os s.heap.objs.size 0 s.toks 0 0 0 c0 [] tree F K _ s e hS ⟨rfl,rfl⟩ (λO=>rfl)
  ⟨h,rfl,rfl,λO O e O=>e,Nat.le_refl _,λp hp=> .inl (List.mem_map_of_mem hp),by simp,hF⟩
theorem HS{V:Gw}(G:au V){A₀:Around}{Q:PySem.Fin→Shared→Prop}{E:Value→Shared→Prop}{L f:Nat}{s:Shared}(J:bu){tree:Sem PySem.Fin}{K:KL}{scr:fC}(h1:J.S=gY V.w.params (aC V) (aB V))(h2:J.kt=ck (dX V.w.params (aC V) (aB V)))(h3:J.tl=false)
  (hc:J.c=c0) (htr:J.tree=tree) (hK:J.K=K) (hscr:J.scr=scr) (hn:J.n=s.heap.objs.size) (ht:J.t=s.toks)
  (e:J.run f=J.exp) (hA:Bd L A₀) (h:At V K s)
  (hS:ux V Q E L (K.map (·.1)) s scr):wpAny (model V.prog V.w) A₀ tree Q E s:=xc G J h1 h2 h3 hc htr hK hscr hn ht e hA Fz.nil h hS
set_option tactic.hygienic false
noncomputable def wz(a b:Int)(u v:Nat):fC:= .hook [1,1,0,1,2,3,2,0,2,2,2,1,2,2,3,3,3,3,2,0,2,2,2,1,2,2] 3 {aN (aY "int.__gt__" b a v u) (λO=> .bool true) with js:=[]} λρ=> .fin [3,3,3,3,2,0,2,2,2,1,2,2,5,3,3,3] (.ok (.ret (.int b v))) [] []
noncomputable def wH(P:Params)(b1 b2:Bool)(n t:Nat)(a b:Int)(u v:Nat):bu:=ap P b1 b2 (aY "max" a b u v) [] n t (wz a b u v)
noncomputable def wA(a b:Int)(u v:Nat):fC:= .hook [1,1,0,1,2,3,2,0,2,2,2,1,2,2,3,3,3,3,2,0,2,2,2,1,2,2] 3 {aN (aY "int.__gt__" b a v u) (λO=> .bool false) with js:=[]} λρ=> .fin [3,2,0,2,2,2,1,2,2,5,3,3,3] (.ok (.ret (.int a u))) [] []
noncomputable def wI(P:Params)(b1 b2:Bool)(n t:Nat)(a b:Int)(u v:Nat):bu:=ap P b1 b2 (aY "max" a b u v) [] n t (wA a b u v)
theorem to(P b1 b2 n t a b u v):(wH P b1 b2 n t a b u v).run 200=(wH P b1 b2 n t a b u v).exp:=by cases b1<;>cases b2<;>kernel_rfl!
theorem tq(P b1 b2 n t a b u v):(wI P b1 b2 n t a b u v).run 200=(wI P b1 b2 n t a b u v).exp:=by cases b1<;>cases b2<;>kernel_rfl!
theorem pI{V:Gw}(G:au V){a b:Int}{u v:Nat}(h:a<b):ai V 1 (aN (aY "max" a b u v) λO=> .int b v) (λO=>True):=by
 refine rI G (H:=aN (aY "max" a b u v) λO=> .int b v) (λO O=>wz a b u v) (λn t=>to V.w.params (aC V) (aB V) n t a b u v) (λA s hA h'=> ?_)
 refine ae (wN G (L:=0) true (by simp[h])) rfl rfl rfl λρ O hρ=>aO rfl λs' hs'=> ?_
 exact⟨a7 s'.heap.objs.size s'.toks (λO=>0),rfl,aW hs' (λO=>0) rfl rfl (λO hp=>nomatch hp),trivial⟩
theorem pJ{V:Gw}(G:au V){a b:Int}{u v:Nat}(h:b≤a):ai V 1 (aN (aY "max" a b u v) λO=> .int a u) (λO=>True):=by
 refine rI G (H:=aN (aY "max" a b u v) λO=> .int a u) (λO O=>wA a b u v) (λn t=>tq V.w.params (aC V) (aB V) n t a b u v) (λA s hA h'=> ?_)
 refine ae (wN G (L:=0) false (by simp;lia)) rfl rfl rfl λρ O hρ=>aO rfl λs' hs'=> ?_
 exact⟨a7 s'.heap.objs.size s'.toks (λO=>0),rfl,aW hs' (λO=>0) rfl rfl (λO hp=>nomatch hp),trivial⟩
theorem oT{V:Gw}{c:Code}{v:br→Value}{s s':Shared}(hs:s'.heap=s.heap)(hB:f8 V s')(σ:Nat→Nat):nN V (aN c v) s s' (a7 s'.heap.objs.size s'.toks σ):=
 ⟨hB,rfl,rfl,by rw[hs];exact Nat.le_refl _,rfl,(λO h=>nomatch h),(λO h=>nomatch h),List.nodup_nil,λb o e O=>by rw[hs];exact e⟩
theorem f8.toks{V:Gw}{s:Shared}(B:f8 V s)(t:Nat):f8 V {s with toks:=t}:=⟨B.old,B.size,B.gens,B.drawn,B.os⟩
theorem n7{V:Gw}{T:String}{name:Str}{id:String}{B:Builtin}{self:Value}{rest:List Value}{v:Int}{L:Nat}(slot:Slot T name id)(hT:∀s:Shared,s.TypeIs self T)
  (entry:entryFor table id=some B) (args:argsOk id ⟨self::rest,[]⟩) (g:Gives (B ⟨self::rest,[]⟩) (.int v)):
  ai V L (aN (.call (.builtin id) ⟨self::rest,[]⟩) λρ=> .int v (ρ 2)) (λO=>True):=by
 intro A s hA h
 show codeAny _ _ _ (bO V (aN (.call (.builtin id) ⟨self::rest,[]⟩) λρ=> .int v (ρ 2)) (λO=>True) s) s
 refine codeAny_call_builtin slot.plain entry (slot.check _ _ _ _ _ _ _ _ (hT s) args (g V.prog V.w A (bO V (aN (.call (.builtin id) ⟨self::rest,[]⟩) λρ=> .int v (ρ 2)) (λO=>True) s) s ?_))
 exact⟨a7 s.heap.objs.size (s.toks+1) (λO=>s.toks),rfl,oT (s:=s) (s':={s with toks:=s.toks+1}) rfl (h.base.toks _) _,trivial⟩
theorem n6{V:Gw}{a b:Int}{u v:Nat}{L:Nat}(hm:IntMulOk a b):ai V L (aN (aY "int.__mul__" a b u v) λρ=> .int (a*b) (ρ 2)) (λO=>True):=
 n7 F.slot_int_mul (λs=>rfl) F.entry_int_mul (F.args_int_mul_2 _ _) (AutoIntG1.int___mul___int_int_0 a u b v hm)
theorem zf{V:Gw}{a b:Int}{u v:Nat}{L:Nat}(hb:b≠0):ai V L (aN (aY "int.__mod__" a b u v) λρ=> .int (a.fmod b) (ρ 2)) (λO=>True):=
 n7 F.slot_int_mod (λs=>rfl) F.entry_int_mod (F.args_int_mod_2 _ _) (AutoIntG6.int___mod___int_int_1 a u b v (by simpa using hb))
noncomputable def uB:Array Nat:=#[114,97,119]
noncomputable def kN:Array Nat:=#[110]
noncomputable def CV:Array Nat:=#[110,116]
noncomputable def oP:Array Nat:=#[110,111,114,109]
noncomputable def jr:Array Nat:=#[105,115,95,115,105,109,112,108,101]
noncomputable def b4:Array Nat:=#[115,101,108,102]
noncomputable def iI:Array Nat:=#[111,116,104,101,114]
noncomputable def sH:Array Nat:=#[116,97,98,115,105,122,101]
noncomputable def Da(P:Params)(k:Nat→Nat)(raw:Value)(n nt:Int)(tn:Addr)(b:Bool):Obj:=
 bn P [(uB,k 0,raw),(kN,k 1,.int n (k 5)),(CV,k 2,.int nt (k 6)),(oP,k 3,.ref tn),(jr,k 4,.bool b)]
noncomputable def pW(l:Nat)(c:Nat→Int)(k:Nat→Nat):List Value:=match l with
 |0=>[]
 |1=>[.int (c 0) (k 8)]
 |2=>[.int (c 0) (k 8),.int (c 1) (k 9)]
 |_=>[.int (c 0) (k 8),.int (c 1) (k 9),.int (c 2) (k 10)]
structure WS where
 self:Addr
 d:Addr
 tn:Addr
 tc:Addr
 k:Nat→Nat
 raw:Value
 n:Int
 nt:Int
 tr:Int
 l:Nat
 c:Nat→Int
noncomputable def WS.K(x:WS)(P:Params):KL:=
 [(x.self,jg 165 x.d),(x.d,Da P x.k x.raw x.n x.nt x.tn (Nat.ble x.l 1)),(x.tn,al [.ref x.tc,.int x.tr (x.k 7)]),(x.tc,al (pW x.l x.c x.k))]
noncomputable def iw(c:Code)(js:List Nat)(K:KL)(v:br→Value):aD:=⟨c,js,K,λρ=> .ok (.ret (v ρ)),λO=>K.map (·.2),λO=>[]⟩
theorem am.trans{V:Gw}{W:List Addr}{s s1 s2:Shared}{K₁ K₂:KL}(h1:am V W s K₁ s1)(h2:am V (K₁.map (·.1)) s1 K₂ s2)(hw:∀a∈K₁.map (·.1),a∈W∨s.heap.objs.size≤a):am V W s K₂ s2:=
 ⟨h2.at',λb o e hb=>h2.pres b o (h1.pres b o e hb) λhm=>(hw b hm).elim hb λhh=>absurd (Heap.lt_size e) (Nat.not_lt.mpr hh),Nat.le_trans h1.grow h2.grow⟩
theorem mH:∀(K:KL),(K.map (·.1)).zip (K.map (·.2))=K
 |[]=>rfl
 |p::K=>by simp[mH K]
theorem cM{V:Gw}{c:Code}{js:List Nat}{K:KL}{v:br→Value}{s s':Shared}(hE:am V (K.map (·.1)) s K s')(σ:Nat→Nat):nN V (iw c js K v) s s' (a7 s'.heap.objs.size s'.toks σ):=by
 refine aW (H:=iw c js K v) hE σ ?_ ?_ (λO hp=>nomatch hp)
 ·show(K.map (·.2)).length=K.length;simp
 ·show K=(K.map (·.1)).zip (K.map (·.2))++[];rw[mH];simp
theorem ef{W:List Addr}{n:Nat}{o:Obj}{K:KL}{s:Shared}(hn:s.heap.objs.size≤n)(hW:K.map (·.1)=W):∀a∈((n,o)::K).map (·.1),a∈W∨s.heap.objs.size≤a:=by
 intro a ha
 rw[List.map_cons,hW] at ha
 rcases e6 ha with rfl|h
 ·exact .inr hn
 ·exact .inl h
noncomputable def rE(P:Params)(x:WS)(n t:Nat):KL:=(n,cY P [(b4,t,.ref x.self)])::x.K P
noncomputable def r6(P:Params)(b1 b2:Bool)(n t:Nat)(x:WS):bu:=bK P b1 b2 127 [.ref x.self] (x.K P) n t [0,5,5] n [] [4,0,1,2,3] (rE P x n t)
noncomputable def x4(P:Params)(x:WS)(b:Nat):fC:= .hook [1,2,0,0,0,0,2,0,0,0,2,2,0,3,4,4,4,0,4,6,6,0,6,6,6,4,6,6,6,0,6,6,6,4,6,6,6,0,6,6,6,4,6,6,8,1,1,1,1,0,0,0,0,1,0,5,0,5,5,0,1] 3 {aN (aY "max" (x.l-1) x.tr (b+6) (x.k 7)) (λO=> .int x.tr (x.k 7)) with js:=[]} λρ=> .fin [] (.ok (.ret (.int x.tr (x.k 7)))) [1,2,3,4] (x.K P)
noncomputable def nZ(P:Params)(b1 b2:Bool)(n t a b:Nat)(x:WS):bu:=ap P b1 b2 (cc P 127 n []) (rE P x n t) a b (x4 P x b)
noncomputable def x5(P:Params)(x:WS)(b:Nat):fC:= .hook [1,2,0,0,0,0,2,0,0,0,2,2,0,3,4,4,4,0,4,6,6,0,6,6,6,4,6,6,6,0,6,6,6,4,6,6,6,0,6,6,6,4,6,6,8,1,1,1,1,0,0,0,0,1,0,5,0,5,5,0,1] 3 {aN (aY "max" (x.l-1) x.tr (b+6) (x.k 7)) (λO=> .int (x.l-1) (b+6)) with js:=[]} λρ=> .fin [] (.ok (.ret (.int (x.l-1) (b+6)))) [1,2,3,4] (x.K P)
noncomputable def n4(P:Params)(b1 b2:Bool)(n t a b:Nat)(x:WS):bu:=ap P b1 b2 (cc P 127 n []) (rE P x n t) a b (x5 P x b)
theorem CB(P):d4 P 127=true:=by kernel_rfl!
theorem qy(P b1 b2 n t x):(r6 P b1 b2 n t x).run 60=(r6 P b1 b2 n t x).exp:=by kernel_rfl!
theorem zq(P b1 n t a b self d tn tc k raw nn nt tr c):Qk 300 λr=>lm 4 λl b2=>r (nZ P b1 b2 n t a b ⟨self,d,tn,tc,k,raw,nn,nt,tr,l,c⟩):=by unfold Qk;kernel_rfl!
theorem zu(P b1 n t a b self d tn tc k raw nn nt tr c):Qk 300 λr=>lm 4 λl b2=>r (n4 P b1 b2 n t a b ⟨self,d,tn,tc,k,raw,nn,nt,tr,l,c⟩):=by unfold Qk;kernel_rfl!
theorem qw(P b1 b2 n t a b)(x:WS)(hl:x.l<4):(nZ P b1 b2 n t a b x).run 300=(nZ P b1 b2 n t a b x).exp:=fI (zq ..) x.l hl b2
theorem qx(P b1 b2 n t a b)(x:WS)(hl:x.l<4):(n4 P b1 b2 n t a b x).run 300=(n4 P b1 b2 n t a b x).exp:=fI (zu ..) x.l hl b2
theorem pK{V:Gw}(G:au V){x:WS}(hl:x.l<4){js:List Nat}(m:Int)(hm:m=if(x.l:Int)-1<x.tr then x.tr else(x.l:Int)-1):
  ai V 2 (iw (.call (.ref 127) ⟨[.ref x.self],[]⟩) js (x.K V.w.params) λρ=> .int m (ρ 2)) (λO=>True):=by
 intro A s hA h
 refine jB G hA (CB _) h (qy V.w.params (aC V) (aB V) s.heap.objs.size s.toks x) (aS rfl) λs1 hs1=> ?_
 by_cases hc:(x.l:Int)-1<x.tr
 ·rw[if_pos hc] at hm
  refine bc G (qw V.w.params (aC V) (aB V) s.heap.objs.size s.toks s1.heap.objs.size s1.toks x hl) hA hs1.at' ?_
  refine ae (pI G hc) rfl rfl rfl λρ O hρ=>aO rfl λs2 hs2=> ?_
  exact⟨_,by subst hm;rfl,cM (hs1.trans hs2 (ef (Nat.le_refl _) rfl)) (λO=>x.k 7),trivial⟩
 ·rw[if_neg hc] at hm
  refine bc G (qx V.w.params (aC V) (aB V) s.heap.objs.size s.toks s1.heap.objs.size s1.toks x hl) hA hs1.at' ?_
  refine ae (pJ G (by lia)) rfl rfl rfl λρ O hρ=>aO rfl λs2 hs2=> ?_
  exact⟨_,by subst hm;rfl,cM (hs1.trans hs2 (ef (Nat.le_refl _) rfl)) (λO=>s1.toks+6),trivial⟩
noncomputable def xI(P:Params)(x:WS)(ts:Nat)(v n t:Nat):KL:=(n,cY P [(b4,t,.ref x.self),(sH,t+1,.int ts v)])::x.K P
noncomputable def rF(P:Params)(b1 b2:Bool)(n t:Nat)(x:WS)(ts v:Nat):bu:=bK P b1 b2 134 [.ref x.self,.int ts v] (x.K P) n t [0,5,5,5,5] n [] [4,0,1,2,3] (xI P x ts v n t)
noncomputable def Bx(P:Params)(x:WS)(ts v b:Nat):fC:= .hook [1,2,0,0,0,0,2,0,0,0,2,2,0,3,4,4,4,0,4,6,6,0,6,6,6,4,6,6,6,0,6,6,6,4,6,6,6,0,6,6,6,4,6,6,8,1,1,1,1,1,1,0,0,1,0,0,1,0,5,0,5,5,0,0,9,9,0,9,9,9,9,0,9,9,9,9,10,0,10,0,10,10,10,10,12,1,1,1,1,2,0,0,0,0,2,0,0,0,2,2,0,3,0] 7 {aN (aY "int.__mul__" ts (0+x.nt) v (b+9)) (λρ=> .int (ts*(0+x.nt)) (ρ 2)) with js:=[]} λρ=> .fin [0] (.ok (.ret (.int (x.tr+ts*(0+x.nt)) (ρ 1)))) [1,2,3,4] (x.K P)
noncomputable def rH(P:Params)(b1 b2:Bool)(n t a b:Nat)(x:WS)(ts v:Nat):bu:=ap P b1 b2 (cc P 134 n []) (xI P x ts v n t) a b (Bx P x ts v b)
noncomputable def Bw(P:Params)(x:WS)(ts v b:Nat):fC:= .hook [1,2,0,0,0,0,2,0,0,0,2,2,0,3,4,4,4,0,4,6,6,0,6,6,6,4,6,6,6,0,6,6,6,4,6,6,6,0,6,6,6,4,6,6,8,1,1,1,1,1,1,0,0,1,0,0,1,0,5,0,5,5,0,0,9,9,0,9,9,9,9,0,9,9,9,9,10,0,10,0,10,10,10,10,10,10,10,10,1,1,1,1,1,0,1,1,5,5,5,0,5,5] 5 {aN (aY "int.__mul__" (Z.divQ 2 2) (x.c 2) (b+10) (x.k 10)) (λρ=> .int (Z.divQ 2 2*x.c 2) (ρ 2)) with js:=[]} λρ=>
 .hook [0,1,1,10,0,10,10,10,10,12,1,1,1,1,2,0,0,0,0,2,0,0,0,2,2,0,3,0] 2 {aN (aY "int.__mul__" ts (0+Z.divQ 2 2*x.c 2+x.nt) v (ρ 1+3)) (λρ=> .int (ts*(0+Z.divQ 2 2*x.c 2+x.nt)) (ρ 2)) with js:=[]} λρ=> .fin [0] (.ok (.ret (.int (x.tr+ts*(0+Z.divQ 2 2*x.c 2+x.nt)) (ρ 1)))) [1,2,3,4] (x.K P)
noncomputable def rG(P:Params)(b1 b2:Bool)(n t a b:Nat)(x:WS)(ts v:Nat):bu:=ap P b1 b2 (cc P 134 n []) (xI P x ts v n t) a b (Bw P x ts v b)
theorem CA(P):d4 P 134=true:=by kernel_rfl!
noncomputable def xy(i:Nat):Nat:=match Nat.beq i 3 with|true=>3|false=>2+i/4
theorem Ck(P b1 b2 n t x v):Qk 60 λr=>lm 7 λts O=>r (rF P b1 b2 n t x ts v):=by unfold Qk;kernel_rfl!
theorem Cm(P b1 n t a b self d tn tc k raw nn nt tr c v):Qk 500 λr=>lm 20 λi b2=>r (rH P b1 b2 n t a b ⟨self,d,tn,tc,k,raw,nn,nt,tr,i%4,c⟩ (xy i) v):=by unfold Qk;kernel_rfl!
theorem Cl(P b1 n t a b self d tn tc k raw nn nt tr c v):Qk 500 λr=>fT λb2=>r (rG P b1 b2 n t a b ⟨self,d,tn,tc,k,raw,nn,nt,tr,3,c⟩ 2 v):=by unfold Qk;kernel_rfl!
theorem tw(P b1 b2 n t x ts v)(h:ts<7):(rF P b1 b2 n t x ts v).run 60=(rF P b1 b2 n t x ts v).exp:=fI (Ck ..) ts h true
theorem tz(P b1 b2 n t a b)(x:WS)(ts v)(h2:2≤ts)(h6:ts<7)(hl:x.l<4)(h: ¬(ts=2∧x.l=3)):(rH P b1 b2 n t a b x ts v).run 500=(rH P b1 b2 n t a b x ts v).exp:=by
 have z:=fI (Cm P b1 n t a b x.self x.d x.tn x.tc x.k x.raw x.n x.nt x.tr x.c v) (4*(ts-2)+x.l) (by lia) b2
 obtain⟨self,d,tn,tc,k,raw,nn,nt,tr,l,c⟩:=x
 try dsimp only at z h hl
 have e1:(4*(ts-2)+l)%4=l:=by rw[Nat.mul_add_mod];exact Nat.mod_eq_of_lt hl
 have e2:xy (4*(ts-2)+l)=ts:=by
  unfold xy
  rw[BT.beq_eq,decide_eq_false (by lia)]
  show 2+(4*(ts-2)+l)/4=ts
  rw[Nat.mul_add_div (by decide),Nat.div_eq_of_lt hl];exact Nat.add_sub_of_le h2
 rw[e1,e2] at z
 exact z
theorem sh:Z.divQ 2 2=1:=by rw[←Z.divQ_eq];rfl
theorem jW{a:Int}(h1: -1000000≤a)(h2:a≤1000000):Builtin.Int.intBits a≤64:=intBits_le_64 (by lia) (by lia)
theorem se{V:Gw}(G:au V){x:WS}(hl:x.l<4){ts v:Nat}(h2:2≤ts)(h6:ts<7){js:List Nat}(m:Int)(hm:m=x.tr+ts*((if ts=2∧x.l=3 then x.c 2 else 0)+x.nt)):
  ai V 1 (iw (.call (.ref 134) ⟨[.ref x.self,.int ts v],[]⟩) js (x.K V.w.params) λρ=> .int m (ρ 2)) (λO=>True):=by
 intro A s hA h
 refine jB G hA (CA _) h (tw V.w.params (aC V) (aB V) s.heap.objs.size s.toks x ts v h6) (aS rfl) λs1 hs1=> ?_
 have hts:IntMulOk (ts:Int) (0+x.nt)∧IntMulOk (ts:Int) (0+Z.divQ 2 2*x.c 2+x.nt):=⟨.of_left (jW (by lia) (by lia)),.of_left (jW (by lia) (by lia))⟩
 by_cases hc:ts=2∧x.l=3
 ·rw[if_pos hc] at hm
  obtain⟨rfl,hl3⟩:=hc
  have hJ:(rG V.w.params (aC V) (aB V) s.heap.objs.size s.toks s1.heap.objs.size s1.toks x 2 v).run 500=(rG V.w.params (aC V) (aB V) s.heap.objs.size s.toks s1.heap.objs.size s1.toks x 2 v).exp:=by
   obtain⟨self,d,tn,tc,k,raw,nn,nt,tr,l,c⟩:=x
   try dsimp only at hl3
   subst hl3
   exact a6 (Cl ..) (aB V)
  refine bc G hJ hA hs1.at' ?_
  refine ae (n6 (L:=0) (.of_left (by rw[sh];decide+kernel))) rfl rfl rfl λρ O hρ=>ae (n6 (L:=0) hts.2) rfl rfl rfl λρ' O hρ'=>aO rfl λs2 hs2=> ?_
  refine⟨_,?_,cM (hs1.trans hs2 (ef (Nat.le_refl _) rfl)) (λO=>ρ' 1),trivial⟩
  rw[hm,sh,Int.one_mul,Int.zero_add];rfl
 ·rw[if_neg hc] at hm
  refine bc G (tz V.w.params (aC V) (aB V) s.heap.objs.size s.toks s1.heap.objs.size s1.toks x ts v h2 h6 hl hc) hA hs1.at' ?_
  refine ae (n6 (L:=0) hts.1) rfl rfl rfl λρ O hρ=>aO rfl λs2 hs2=> ?_
  refine⟨_,?_,cM (hs1.trans hs2 (ef (Nat.le_refl _) rfl)) (λO=>ρ 1),trivial⟩
  rw[hm];rfl
set_option tactic.hygienic true
noncomputable def WS.Kb(x:WS)(P:Params)(b:Bool):KL:=
 [(x.self,jg 165 x.d),(x.d,Da P x.k x.raw x.n x.nt x.tn b),(x.tn,al [.ref x.tc,.int x.tr (x.k 7)]),(x.tc,al (pW x.l x.c x.k))]
noncomputable def oQ(P:Params)(x y:WS)(b b':Bool)(n t:Nat):KL:=(n,cY P [(b4,t,.ref x.self),(iI,t+1,.ref y.self)])::(x.Kb P b++y.Kb P b')
noncomputable def r7(P:Params)(b1 b2:Bool)(n t:Nat)(x y:WS)(b b':Bool):bu:=bK P b1 b2 155 [.ref x.self,.ref y.self] (x.Kb P b++y.Kb P b') n t [0,9,9,9,9] n [] [8,0,1,2,3,4,5,6,7] (oQ P x y b b' n t)
noncomputable def x8(P:Params)(x y:WS)(b b':Bool):fC:= .hook [1,2,0,0,0,0,2,0,0,0,2,2,0,3,1,6,0,0,0,0,6,0,0,0,6,6,0,7] 0 {aN (aY "int.__ge__" x.n y.n (x.k 5) (y.k 5)) (λO=> .bool true) with js:=[]} λρ=> .fin [] (.ok (.ret (.bool false))) [1,2,3,4,5,6,7,8] (x.Kb P b++y.Kb P b')
noncomputable def yS(P:Params)(b1 b2:Bool)(n t α β:Nat)(x y:WS)(b b':Bool):bu:=ap P b1 b2 (cc P 155 n []) (oQ P x y b b' n t) α β (x8 P x y b b')
noncomputable def x7(P:Params)(x y:WS)(β:Bool):fC:= .hook [1,2,0,0,0,0,2,0,0,0,2,2,0,3,1,6,0,0,0,0,6,0,0,0,6,6,0,7] 0 {aN (aY "int.__ge__" x.n y.n (x.k 5) (y.k 5)) (λO=> .bool false) with js:=[]} λρ=> .hook [1,2,0,0,0,0,2,0,0,0,2,2,0,3,1,6,0,0,0,0,6,0,0,0,6,6,0,7,1,2,0,0,0,0,2,0,0,0,2,2,0,3,1,6,0,0,0,0,6,0,0,0,6,6,0,7] 0 {aN (aY "int.__le__" x.nt y.nt (x.k 6) (y.k 6)) (λO=> .bool β) with js:=[]} λρ=> .fin [] (.ok (.ret (.bool β))) [1,2,3,4,5,6,7,8] (x.Kb P true++y.Kb P true)
noncomputable def yR(P:Params)(b1 b2:Bool)(n t α β:Nat)(x y:WS)(v:Bool):bu:=ap P b1 b2 (cc P 155 n []) (oQ P x y true true n t) α β (x7 P x y v)
noncomputable def ry(P:Params)(x y:WS)(b b':Bool)(ix iy:Nat→Int):Nat→Nat→List Nat→Nat→Nat→Nat→fC
 |0,_,_,_,_,_=> .fin [11,0,11,11,11,11,13] (.ok (.ret (.bool true))) [1,2,3,4,5,6,7,8] (x.Kb P b++y.Kb P b')
 |r+1,p,os,m,ts,τ=>
  .hook os m (iw (.call (.ref 134) ⟨[.ref x.self,.int ts τ],[]⟩) [1,2,3,4] (x.Kb P b) λρ=> .int (ix ts) (ρ 2)) λρi=>
  .hook [1,6,0,0,0,6,0,0,0,6,0,0,0,0,6,7,1,0] 0 (iw (.call (.ref 134) ⟨[.ref y.self,.int ts τ],[]⟩) [5,6,7,8] (y.Kb P b') λρ=> .int (iy ts) (ρ 2)) λρj=>
  match p with
  |0=> .hook [] 0 (aN (aY "int.__ge__" (ix ts) (iy ts) (ρi 2) (ρj 2)) (λρ=> .bool true)) λρ=> .fin [] (.ok (.ret (.bool false))) [1,2,3,4,5,6,7,8] (x.Kb P b++y.Kb P b')
  |p+1=> .hook [] 0 (aN (aY "int.__ge__" (ix ts) (iy ts) (ρi 2) (ρj 2)) (λρ=> .bool false)) λρ=>ry P x y b b' ix iy r p [11,0,11,11,11,11,11,11,11,11,1,1,1,2,0,0,0,2,0,0,0,2,0,0,0,0,2,3,1,0] 0 (ts+1) (ρ 1)
noncomputable def x6(P:Params)(x y:WS)(b b':Bool)(mx my:Int)(m:Nat)(ix iy:Nat→Int)(p:Nat):fC:=
 .hook [1,2,0,0,0,0,2,0,0,0,2,2,0,3,1,6,0,0,0,0,6,0,0,0,6,6,0,7] 0 (aN (aY "int.__ge__" x.n y.n (x.k 5) (y.k 5)) (λO=> .bool false)) λρ=>
 .hook (match b with|true=>[1,2,0,0,0,0,2,0,0,0,2,2,0,3,1,6,0,0,0,0,6,0,0,0,6,6,0,7,0,0,1,2,0,0,0,2,0,0,0,2,0,0,0,0,2,3,0]|false=>[1,2,0,0,0,0,2,0,0,0,2,2,0,3,0,0,1,2,0,0,0,2,0,0,0,2,0,0,0,0,2,3,0]) 0 (iw (.call (.ref 127) ⟨[.ref x.self],[]⟩) [1,2,3,4] (x.Kb P b) λρ=> .int mx (ρ 2)) λρ=>
 .hook [1,6,0,0,0,6,0,0,0,6,0,0,0,0,6,7,0] 0 (iw (.call (.ref 127) ⟨[.ref y.self],[]⟩) [5,6,7,8] (y.Kb P b') λρ=> .int my (ρ 2)) λρ'=>
 .hook [] 0 (aN (aY "max" mx my (ρ 2) (ρ' 2)) (λρ=> .int m (ρ 2))) λρ=>
 ry P x y b b' ix iy m p [0,1,1,0,0,1,0,0,0,10,10,0,10,10,10,10,0,10,10,10,10,11,0,11,0,11,11,11,11,11,11,11,11,1,1,1,2,0,0,0,2,0,0,0,2,0,0,0,0,2,3,1,0] 2 2 (ρ 1+7)
noncomputable def lC(P:Params)(b1 b2:Bool)(n t α β:Nat)(x y:WS)(b b':Bool)(mx my:Int)(m:Nat)(ix iy:Nat→Int)(p:Nat):bu:=ap P b1 b2 (cc P 155 n []) (oQ P x y b b' n t) α β (x6 P x y b b' mx my m ix iy p)
noncomputable def r5(P:Params)(x:WS)(b:Bool)(n t:Nat):KL:=(n,cY P [(b4,t,.ref x.self),(iI,t+1,.ref x.self)])::x.Kb P b
noncomputable def pA(P:Params)(b1 b2:Bool)(n t:Nat)(x:WS)(b:Bool):bu:=bK P b1 b2 155 [.ref x.self,.ref x.self] (x.Kb P b) n t [0,5,5,5,5] n [] [4,0,1,2,3] (r5 P x b n t)
noncomputable def x9(P:Params)(x:WS)(b:Bool):fC:= .hook [1,2,0,0,0,0,2,0,0,0,2,2,0,3,1,2,0,0,0,0,2,0,0,0,2,2,0,3] 0 {aN (aY "int.__ge__" x.n x.n (x.k 5) (x.k 5)) (λO=> .bool true) with js:=[]} λρ=> .fin [] (.ok (.ret (.bool false))) [1,2,3,4] (x.Kb P b)
noncomputable def yT(P:Params)(b1 b2:Bool)(n t α β:Nat)(x:WS)(b:Bool):bu:=ap P b1 b2 (cc P 155 n []) (r5 P x b n t) α β (x9 P x b)
theorem wT(P):d4 P 155=true:=by kernel_rfl!
theorem qz(P b1 b2 n t x y b b'):(r7 P b1 b2 n t x y b b').run 60=(r7 P b1 b2 n t x y b b').exp:=by kernel_rfl!
theorem oy(P b1 b2 n t x b):(pA P b1 b2 n t x b).run 60=(pA P b1 b2 n t x b).exp:=by kernel_rfl!
theorem zx(P b1 n t α β x b):Qk 300 λr=>fT λb2=>r (yT P b1 b2 n t α β x b):=by unfold Qk;kernel_rfl!
theorem zw(P b1 n t α β x y b b'):Qk 300 λr=>fT λb2=>r (yS P b1 b2 n t α β x y b b'):=by unfold Qk;kernel_rfl!
theorem zv(P b1 n t α β x y v):Qk 300 λr=>fT λb2=>r (yR P b1 b2 n t α β x y v):=by unfold Qk;kernel_rfl!
theorem vW(P b1 n t α β x y b' mx my ix iy):Qk 1500 λr=>lm 30 λi b2=>r (lC P b1 b2 n t α β x y false b' mx my (i/6+1) ix iy (i%6)):=by unfold Qk;kernel_rfl!
theorem vV(P b1 n t α β x y mx my ix iy):Qk 1500 λr=>lm 30 λi b2=>r (lC P b1 b2 n t α β x y true false mx my (i/6+1) ix iy (i%6)):=by unfold Qk;kernel_rfl!
theorem qA(P b1 b2 n t α β x y b b' mx my m ix iy p)(hb: ¬(b=true∧b'=true))(h1:1≤m)(h5:m≤5)(hp:p<6):(lC P b1 b2 n t α β x y b b' mx my m ix iy p).run 1500=(lC P b1 b2 n t α β x y b b' mx my m ix iy p).exp:=by
 have hi:6*(m-1)+p<30:=by lia
 have e1:(6*(m-1)+p)/6+1=m:=by rw[Nat.mul_add_div (by decide),Nat.div_eq_of_lt hp];exact Nat.sub_add_cancel h1
 have e2:(6*(m-1)+p)%6=p:=by rw[Nat.mul_add_mod];exact Nat.mod_eq_of_lt hp
 cases b with
 |false=>
  have z:=fI (vW P b1 n t α β x y b' mx my ix iy) _ hi b2
  rw[e1,e2] at z;exact z
 |true=>
  cases b' with
  |true=>exact absurd ⟨rfl,rfl⟩ hb
  |false=>
   have z:=fI (vV P b1 n t α β x y mx my ix iy) _ hi b2
   rw[e1,e2] at z;exact z
set_option tactic.hygienic false
noncomputable def eD(x:WS)(ts:Nat):Int:=x.tr+ts*((if ts=2∧x.l=3 then x.c 2 else 0)+x.nt)
noncomputable def cQ(x:WS):Int:=if(x.l:Int)-1<x.tr then x.tr else(x.l:Int)-1
noncomputable def kP(ix iy:Nat→Int):Nat→Nat→Nat
 |0,_=>0
 |r+1,ts=>if iy ts≤ix ts then 0 else kP ix iy r (ts+1)+1
noncomputable def nH(ix iy:Nat→Int):Nat→Nat→Bool
 |0,_=>true
 |r+1,ts=>if iy ts≤ix ts then false else nH ix iy r (ts+1)
theorem mV(ix iy:Nat→Int):∀r ts,kP ix iy r ts≤r
 |0,_=>Nat.le_refl _
 |r+1,ts=>by unfold kP;split<;>have:=mV ix iy r (ts+1)<;>lia
noncomputable def lq(x y:WS):Nat:=(if cQ x<cQ y then cQ y else cQ x).toNat
noncomputable def dJ(x y:WS):Bool:=
 if y.n≤x.n then false else if x.l≤1∧y.l≤1 then decide (x.nt≤y.nt) else nH (eD x) (eD y) (lq x y) 2
structure WS.Ok(x:WS):Prop where
 l:x.l<4
 tr0:0≤x.tr
 tr5:x.tr≤5
theorem i6(x:WS)(P:Params):x.Kb P (Nat.ble x.l 1)=x.K P:=by unfold WS.Kb WS.K;rfl
theorem sJ{V:Gw}(G:au V){x y:WS}(hx:x.l<4)(hy:y.l<4){b b':Bool}(hb:Nat.ble x.l 1=b)(hb':Nat.ble y.l 1=b')
  {Q:PySem.Fin→Shared→Prop} {E:Value→Shared→Prop} {L:Nat} (hL:3≤L) {W:List Addr} {s₀:Shared}:∀(r ts τ:Nat) (os:List Nat) (m:Nat),2≤ts→ts+r≤7→
  (∀s' t,s₀.heap.objs.size≤t→am V W s₀ (x.Kb V.w.params b++y.Kb V.w.params b') s'→RQ Q E (.ok (.ret (.bool (nH (eD x) (eD y) r ts)))) s')→
  ux V Q E L W s₀ (ry V.w.params x y b b' (eD x) (eD y) r (kP (eD x) (eD y) r ts) os m ts τ):=by
 intro r
 induction r with
 |zero=>
  intro ts τ os m h2 h7 h
  exact aO rfl λs' hs'=>h s' s₀.heap.objs.size (Nat.le_refl _) hs'
 |succ r ih=>
  intro ts τ os m h2 h7 h
  subst hb hb'
  have hl1:Nat.blt 1 L=true:=Nat.ble_eq_true_of_le (by lia)
  have hl0:Nat.blt 0 L=true:=Nat.ble_eq_true_of_le (by lia)
  refine ae (l:=1) (by rw[i6];exact se G hx h2 (by lia) (eD x ts) rfl) hl1 rfl rfl λρi O O=>ae (l:=1) (by rw[i6];exact se G hy h2 (by lia) (eD y ts) rfl) hl1 rfl rfl λρj O O=> ?_
  unfold kP
  unfold nH at h
  by_cases hc:eD y ts≤eD x ts
  ·rw[if_pos hc]
   rw[if_pos hc] at h
   exact ae (l:=0) (mA G true ⟨λO=>hc,λO=>rfl⟩) hl0 rfl rfl λρ O O=>aO rfl λs' hs'=>h s' s₀.heap.objs.size (Nat.le_refl _) hs'
  ·rw[if_neg hc]
   rw[if_neg hc] at h
   exact ae (l:=0) (mA G false ⟨(λh=>nomatch h),λh=>absurd h hc⟩) hl0 rfl rfl λρ O O=>ih (ts+1) (ρ 1) _ _ (by lia) (by lia) h
theorem l3{V:Gw}(G:au V){x:WS}{js:List Nat}:ai V 2 (iw (.call (.ref 155) ⟨[.ref x.self,.ref x.self],[]⟩) js (x.K V.w.params) λρ=> .bool false) (λO=>True):=by
 intro A s hA h
 refine jB G hA (wT _) h (oy V.w.params (aC V) (aB V) s.heap.objs.size s.toks x (Nat.ble x.l 1)) (aS rfl) λs1 hs1=> ?_
 refine bc G (a6 (zx V.w.params (aC V) s.heap.objs.size s.toks s1.heap.objs.size s1.toks x (Nat.ble x.l 1)) (aB V)) hA hs1.at' ?_
 refine ae (mA (L:=0) G true ⟨λO=>Int.le_refl _,λO=>rfl⟩) rfl rfl rfl λρ O hρ=>aO rfl λs2 hs2=> ?_
 exact⟨_,rfl,cM (hs1.trans hs2 (ef (Nat.le_refl _) rfl)) (λO=>0),trivial⟩
theorem zg{V:Gw}(G:au V){a b:Int}{u v:Nat}{m:Nat}(hm:(m:Int)=if a<b then b else a):ai V 1 (aN (aY "max" a b u v) λρ=> .int m (ρ 2)) (λO=>True):=by
 intro A s hA h
 by_cases hc:a<b
 ·rw[if_pos hc] at hm
  refine codeAny_mono (pI G hc A s hA h) ?_
  rintro r s' ⟨ρ,hr,hE,hP⟩
  refine⟨a7 (ρ 0) (ρ 1) (λO=>v),?_,?_,trivial⟩
  ·rw[hr,hm];rfl
  ·exact⟨hE.base,hE.size,hE.toks,hE.grow,rfl,(λO h=>nomatch h),(λO h=>nomatch h),List.nodup_nil,hE.pres⟩
 ·rw[if_neg hc] at hm
  refine codeAny_mono (pJ G (by lia) A s hA h) ?_
  rintro r s' ⟨ρ,hr,hE,hP⟩
  refine⟨a7 (ρ 0) (ρ 1) (λO=>u),?_,?_,trivial⟩
  ·rw[hr,hm];rfl
  ·exact⟨hE.base,hE.size,hE.toks,hE.grow,rfl,(λO h=>nomatch h),(λO h=>nomatch h),List.nodup_nil,hE.pres⟩
theorem cX{n:Nat}{o:Obj}{K:KL}{s:Shared}(hn:s.heap.objs.size≤n):∀a∈((n,o)::K).map (·.1),a∈K.map (·.1)∨s.heap.objs.size≤a:=ef hn rfl
theorem vP{V:Gw}(G:au V){x y:WS}(hx:x.Ok)(hy:y.Ok){js:List Nat}:ai V 3 (iw (.call (.ref 155) ⟨[.ref x.self,.ref y.self],[]⟩) js (x.K V.w.params++y.K V.w.params) λρ=> .bool (dJ x y)) (λO=>True):=by
 intro A s hA h
 have hA2:Bd 3 A:=hA
 refine jB G hA (wT _) h (qz V.w.params (aC V) (aB V) s.heap.objs.size s.toks x y (Nat.ble x.l 1) (Nat.ble y.l 1)) (aS rfl) λs1 hs1=> ?_
 by_cases hn:y.n≤x.n
 ·have hr:dJ x y=false:=by unfold dJ;rw[if_pos hn]
  rw[hr]
  refine bc G (a6 (zw V.w.params (aC V) s.heap.objs.size s.toks s1.heap.objs.size s1.toks x y (Nat.ble x.l 1) (Nat.ble y.l 1)) (aB V)) hA hs1.at' ?_
  refine ae (mA (L:=0) G true ⟨λO=>hn,λO=>rfl⟩) rfl rfl rfl λρ O hρ=>aO rfl λs2 hs2=> ?_
  exact⟨_,rfl,cM (hs1.trans hs2 (cX (Nat.le_refl _))) (λO=>0),trivial⟩
 ·have hge:∀{u v},ai V 0 (aN (aY "int.__ge__" x.n y.n u v) λO=> .bool false) (λO=>True):=mA G false ⟨(λh=>nomatch h),λh=>absurd h hn⟩
  by_cases hs:x.l≤1∧y.l≤1
  ·have hr:dJ x y=decide (x.nt≤y.nt):=by unfold dJ;rw[if_neg hn,if_pos hs]
   rw[hr]
   have e1:Nat.ble x.l 1=true:=Nat.ble_eq_true_of_le hs.1
   have e2:Nat.ble y.l 1=true:=Nat.ble_eq_true_of_le hs.2
   rw[e1,e2] at hs1
   refine bc G (a6 (zv V.w.params (aC V) s.heap.objs.size s.toks s1.heap.objs.size s1.toks x y (decide (x.nt≤y.nt))) (aB V)) hA hs1.at' ?_
   refine ae hge rfl rfl rfl λρ O hρ=>ae (B8 (L:=0) G (decide (x.nt≤y.nt)) (decide_eq_true_iff)) rfl rfl rfl λρ O O=>aO rfl λs2 hs2=> ?_
   have hs2':=hs1.trans hs2 (cX (Nat.le_refl _))
   rw[←e1,i6,e1,←e2,i6] at hs2'
   exact⟨_,rfl,cM hs2' (λO=>0),trivial⟩
  ·have hr:dJ x y=nH (eD x) (eD y) (lq x y) 2:=by unfold dJ;rw[if_neg hn,if_neg hs]
   rw[hr]
   have hm0:1≤(if cQ x<cQ y then cQ y else cQ x)∧(if cQ x<cQ y then cQ y else cQ x)≤5:=by
    have:=hx.l;have:=hx.tr0;have:=hx.tr5;have:=hy.l;have:=hy.tr0;have:=hy.tr5
    unfold cQ
    constructor<;>(repeat' split)<;>lia
   have hmv:(lq x y:Int)=if cQ x<cQ y then cQ y else cQ x:=by unfold lq;lia
   have hm1:1≤lq x y:=by lia
   have hm5:lq x y≤5:=by lia
   have hbb: ¬(Nat.ble x.l 1=true∧Nat.ble y.l 1=true):=λ⟨a,b⟩=>hs ⟨Nat.le_of_ble_eq_true a,Nat.le_of_ble_eq_true b⟩
   refine bc G (qA V.w.params (aC V) (aB V) s.heap.objs.size s.toks s1.heap.objs.size s1.toks x y (Nat.ble x.l 1) (Nat.ble y.l 1) (cQ x) (cQ y) (lq x y) (eD x) (eD y) (kP (eD x) (eD y) (lq x y) 2) hbb hm1 hm5 (by have:=mV (eD x) (eD y) (lq x y) 2;lia)) hA hs1.at' ?_
   refine ae hge rfl rfl rfl λρ O hρ=>ae (l:=2) (by rw[i6];exact pK G hx.l (cQ x) rfl) rfl rfl rfl λρ O O=>ae (l:=2) (by rw[i6];exact pK G hy.l (cQ y) rfl) rfl rfl rfl λρ' O O=>
    ae (l:=1) (zg G hmv) rfl rfl rfl λρ O O=>sJ G hx.l hy.l rfl rfl (Nat.le_refl _) _ _ _ _ _ (Nat.le_refl _) (by lia) λs2 O O hs2=> ?_
   have hs2':=hs1.trans hs2 (cX (Nat.le_refl _))
   rw[i6,i6] at hs2'
   exact⟨_,rfl,cM hs2' (λO=>0),trivial⟩
set_option tactic.hygienic true
noncomputable def mC:=ZFast.zw14044960220447912780
theorem gr:eval=mC:=by unfold mC;exact ZFast.ze14044960220447912780
noncomputable def fg(e:Expr)(env:Env):Sem PySem.Fin:=mC e env>>=λv=>pure (.done (.ret v))
noncomputable def dQ(P:Params)(b1 b2:Bool)(e:Expr)(env:Env)(K:KL)(n t:Nat)(scr:fC):bu:=⟨gY P b1 b2,ck (dX P b1 b2),false,c0,fg e env,K,n,t,scr⟩
noncomputable def DO(Q:Value→Shared→Prop):PySem.Fin→Shared→Prop:=λf s=>match f with
 | .done (.ret v)=>Q v s
 |_=>False
theorem cC{prog:Program}{w:World}{A:Around}{t:Sem Value}{Q:Value→Shared→Prop}{E:Value→Shared→Prop}{s:Shared}
  (h:wpAny (model prog w) A (t>>=λv=>pure (.done (.ret v))) (DO Q) E s):wpAny (model prog w) A t Q E s:=λΓ p hΓ=>by
 have z:=h Γ p hΓ
 rw[Sem.wp_bind'] at z
 exact Sem.wp_mono _ Γ _ (λv p' s' h'=>h') (λO O O x=>x) _ _ z
section
variable {P:Params} {b1 b2:Bool} {e:Expr} {env:Env} {K:KL} {n t:Nat} {scr:fC}
theorem yP:(dQ P b1 b2 e env K n t scr).S=gY P b1 b2:=by dsimp only[dQ]
theorem vC:(dQ P b1 b2 e env K n t scr).kt=ck (dX P b1 b2):=by dsimp only[dQ]
theorem vB:(dQ P b1 b2 e env K n t scr).tl=false:=by dsimp only[dQ]
theorem yO:(dQ P b1 b2 e env K n t scr).c=c0:=by dsimp only[dQ]
theorem qv:(dQ P b1 b2 e env K n t scr).tree=fg e env:=by dsimp only[dQ]
theorem yQ:(dQ P b1 b2 e env K n t scr).K=K:=by dsimp only[dQ]
theorem tm:(dQ P b1 b2 e env K n t scr).scr=scr:=by dsimp only[dQ]
theorem yN:(dQ P b1 b2 e env K n t scr).n=n:=by dsimp only[dQ]
theorem yM:(dQ P b1 b2 e env K n t scr).t=t:=by dsimp only[dQ]
end
theorem gu{V:Gw}(G:au V){A:Around}{Q:Value→Shared→Prop}{E:Value→Shared→Prop}{L f:Nat}{s:Shared}{x:Expr}{env:Env}{K:KL}{scr:fC}
  (e:(dQ V.w.params (aC V) (aB V) x env K s.heap.objs.size s.toks scr).run f=(dQ V.w.params (aC V) (aB V) x env K s.heap.objs.size s.toks scr).exp) (hA:Bd L A) (h:At V K s)
  (hS:ux V (DO Q) E L (K.map (·.1)) s scr):wpAny (model V.prog V.w) A (eval x env) Q E s:=by
 refine cC ?_
 rw[gr]
 exact HS G _ yP vC vB yO qv yQ tm yN yM e hA h hS
noncomputable def z5:List Stmt→Expr
 |[.Return (some (.Compare l [_] [_] _)) _]=>l
 |_=> .Constant .none 0 ⟨0,0,0,0⟩
noncomputable def zT:List Stmt→Expr
 |[.Return (some (.Compare _ [_] [r] _)) _]=>r
 |_=> .Constant .none 0 ⟨0,0,0,0⟩
noncomputable def ID:List Stmt→Expr
 |[.Return (some e) _]=>e
 |_=> .Constant .none 0 ⟨0,0,0,0⟩
noncomputable def rn(op:CmpOp)(body:List Stmt):Prop:=E4 λl r p p'=>body=[.Return (some (.Compare l [op] [r] p)) p']∧behindInMarks op r=false
theorem pB{op:CmpOp}{body:List Stmt}(h:body=[.Return (some (.Compare (z5 body) [op] [zT body] (ID body).pos)) (body.headD (.Pass ⟨0,0,0,0⟩)).pos])(h2:behindInMarks op (zT body)=false):rn op body:=⟨_,_,_,_,h,h2⟩
theorem j6{prog:Program}{w:World}{A:Around}{R:Result→Shared→Prop}{s:Shared}{body:List Stmt}{env:Env}{op:CmpOp}(hb:rn op body)
  (h:wpAny (model prog w) (A.deeper env) (eval (z5 body) env) (λa s₁=>wpAny (model prog w) (A.deeper env) (eval (zT body) env) (λb s₂=>wpAny (model prog w) (A.deeper env) (compareOp op a b) (λv s'=>R (.ok (.ret v)) s') (λO O=>False) s₂) (λO O=>False) s₁) (λO O=>False) s):
  codeAny (model prog w) A (.func body env) R s:=by
 obtain⟨l,r,pos,pos',rfl,h2⟩:=hb
 ·refine codeAny_func (wpAny_execs_cons (wpAny_Return_some (wpAny_Compare1 (wpAny_mono h (λa s₁ h₁=>wpAny_mono h₁ (λb s₂ h₂=>wpAny_mono h₂ (λv s' h'=>h') λO O x=>x.elim) λO O x=>x.elim) λO O x=>x.elim) h2)))
theorem Bd.deeper{L:Nat}{A:Around}(h:Bd (L+1) A)(env:Env):Bd L (A.deeper env):=by
 obtain⟨a,b,c⟩:=h
 refine⟨?_,?_,c⟩
 ·show A.depth+1+40*L≤900;lia
 ·show A.units+3+400*L≤9000;lia
theorem Bd.in1{L:Nat}{A:Around}(h:Bd (L+1) A):Bd L A.in1:=by
 obtain⟨a,b,c⟩:=h
 refine⟨?_,?_,c⟩
 ·show A.depth+40*L≤900;lia
 ·show A.units+1+400*L≤9000;lia
theorem Bd.line{L:Nat}{A:Around}(h:Bd L A):A.units<cLine:=by have:=h.2.1;show _<9900;lia
theorem Bd.weak{l L:Nat}{A:Around}(h:Bd L A)(hl:l≤L):Bd l A:=by
 obtain⟨a,b,c⟩:=h
 exact⟨by lia,by lia,c⟩
set_option tactic.hygienic false
noncomputable def C9(P:Params):List Stmt:=aA (aU P 141)
noncomputable def zY(P:Params)(n:Nat):Env:=f6 (aU P 141) 141 n []
noncomputable def zX(P:Params)(x y:WS)(n t:Nat):KL:=(n,cY P [(b4,t,.ref x.self),(iI,t+1,.ref y.self)])::(x.K P++y.K P)
noncomputable def Ax(P:Params)(b1 b2:Bool)(n t:Nat)(x y:WS):bu:=bK P b1 b2 141 [.ref x.self,.ref y.self] (x.K P++y.K P) n t [0,9,9,9,9] n [] [8,0,1,2,3,4,5,6,7] (zX P x y n t)
noncomputable def ER(P:Params)(b1 b2:Bool)(n t α β:Nat)(x y:WS):bu:=dQ P b1 b2 (z5 (C9 P)) (zY P n) (zX P x y n t) α β (.fin [1,2,0,0,0,0,2,0,0,0,2,2,0,3] (.ok (.ret (.ref x.tn))) [0,1,2,3,4,5,6,7,8] (zX P x y n t))
noncomputable def EQ(P:Params)(b1 b2:Bool)(n t α β:Nat)(x y:WS):bu:=dQ P b1 b2 (zT (C9 P)) (zY P n) (zX P x y n t) α β (.fin [1,6,0,0,0,0,6,0,0,0,6,6,0,7] (.ok (.ret (.ref y.tn))) [0,1,2,3,4,5,6,7,8] (zX P x y n t))
theorem Cz(P):d4 P 141=true:=by kernel_rfl!
theorem Bz(P):rn .Eq (C9 P):=pB (by kernel_rfl!) (by kernel_rfl!)
theorem vD(P b1 b2 n t x y):(Ax P b1 b2 n t x y).run 60=(Ax P b1 b2 n t x y).exp:=by kernel_rfl!
theorem G2(P b1 n t α β x y):Qk 300 λr=>fT λb2=>r (ER P b1 b2 n t α β x y):=by unfold Qk;kernel_rfl!
theorem G1(P b1 n t α β x y):Qk 300 λr=>fT λb2=>r (EQ P b1 b2 n t α β x y):=by unfold Qk;kernel_rfl!
noncomputable def WS.cs(x:WS):List Int:=match x.l with
 |0=>[]
 |1=>[x.c 0]
 |2=>[x.c 0,x.c 1]
 |_=>[x.c 0,x.c 1,x.c 2]
noncomputable def ky(x y:WS):Bool:=decide (x.cs=y.cs)&&decide (x.tr=y.tr)
inductive aI:List Value→List Int→Prop
 |nil:aI [] []
 |cons {a t l m}:aI l m→aI (.int a t::l) (a::m)
theorem aI.at{l:List Value}{m:List Int}(h:aI l m):∀j (hj:j<l.length),∃t,∃hm:j<m.length,l[j]= .int m[j] t:=by
 induction h with
 |nil=>intro j hj;exact absurd hj (Nat.not_lt_zero _)
 | @cons a t l m h ih=>
  intro j hj
  cases j with
  |zero=>exact⟨t,by simp,rfl⟩
  |succ j=>
   obtain⟨t',hm,e⟩:=ih j (by simpa using hj)
   exact⟨t',by simpa using hm,by simpa using e⟩
theorem aI.length{l:List Value}{m:List Int}(h:aI l m):l.length=m.length:=by
 induction h with
 |nil=>rfl
 |cons _ ih=>simp[ih]
theorem ng(x:WS):aI (pW x.l x.c x.k) x.cs:=by
 obtain⟨self,d,tn,tc,k,raw,n,nt,tr,l,c⟩:=x
 unfold pW WS.cs
 dsimp only
 match l with
 |0=>exact .nil
 |1=>exact .cons .nil
 |2=>exact .cons (.cons .nil)
 |_+3=>exact .cons (.cons (.cons .nil))
theorem lG{A:Around}{s:Shared}{a b:Addr}{l l':List Value}{m m':List Int}(ha:s.heap.get? a=some (al l))(hb:s.heap.get? b=some (al l'))(h:aI l m)(h':aI l' m')(hu:A.units<cLine):
  RcAt A s (.ref a) (.ref b) (decide (m=m')):=by
 have z:=RcAt.tuples (A:=A) (s:=s) (l:=a) (b:=b) (items:=⟨l⟩) (items2:=⟨l'⟩) (e:=λj=>decide (m[j]?=m'[j]?)) ⟨_,ha,rfl,0,rfl⟩ ⟨_,hb,rfl,0,rfl⟩ hu (λj h1 h2=>by
  obtain⟨t,hm,e⟩:=h.at j h1
  obtain⟨t',hm',e'⟩:=h'.at j h2
  show EqAt A.in1 s l[j] l'[j] _
  rw[e,e']
  have:=EqAt.int_int (A:=A.in1) (s:=s) m[j] t m'[j] t'
  have q:(m[j]==m'[j])=decide (m[j]?=m'[j]?):=by
   rw[List.getElem?_eq_getElem hm,List.getElem?_eq_getElem hm',Bool.eq_iff_iff];simp
  rw[q] at this;exact this)
 have q:((List.range (min (⟨l⟩:Array Value).size (⟨l'⟩:Array Value).size)).all (λj=>decide (m[j]?=m'[j]?))&&(⟨l⟩:Array Value).size==(⟨l'⟩:Array Value).size)=decide (m=m'):=by
  rw[Bool.eq_iff_iff]
  simp only[Bool.and_eq_true,List.all_eq_true,List.mem_range,decide_eq_true_iff,beq_iff_eq,List.size_toArray,h.length,h'.length]
  constructor
  ·rintro⟨h1,h2⟩
   apply List.ext_getElem?;intro j
   by_cases hj:j<m.length
   ·exact h1 j (by lia)
   ·rw[List.getElem?_eq_none (by lia),List.getElem?_eq_none (by lia)]
  ·rintro rfl;exact⟨λO O=>rfl,rfl⟩
 rw[q] at z;exact z
theorem At.drop{V:Gw}{p:Addr×Obj}{K:KL}{s:Shared}(h:At V (p::K) s):At V K s:=
 ⟨h.base,λq hq=>h.get q (List.mem_cons_of_mem _ hq),by have:=h.nodup;rw[List.map_cons,List.nodup_cons] at this;exact this.2,λq hq=>h.ok q (List.mem_cons_of_mem _ hq)⟩
theorem tN{V:Gw}(G:au V){x y:WS}{js:List Nat}:ai V 3 (iw (.call (.ref 141) ⟨[.ref x.self,.ref y.self],[]⟩) js (x.K V.w.params++y.K V.w.params) λρ=> .bool (ky x y)) (λO=>True):=by
 intro A s hA h
 refine jB G hA (Cz _) h (vD V.w.params (aC V) (aB V) s.heap.objs.size s.toks x y) (aS rfl) λs1 hs1=> ?_
 have hA':Bd 2 (A.deeper (zY V.w.params s.heap.objs.size)):=hA.deeper _
 refine j6 (body:=C9 V.w.params) (env:=zY V.w.params s.heap.objs.size) (Bz _) ?_
 refine gu G (a6 (G2 V.w.params (aC V) s.heap.objs.size s.toks s1.heap.objs.size s1.toks x y) (aB V)) hA' hs1.at' (aO rfl λs2 hs2=> ?_)
 show wpAny _ _ _ _ _ s2
 refine gu G (a6 (G1 V.w.params (aC V) s.heap.objs.size s.toks s2.heap.objs.size s2.toks x y) (aB V)) hA' hs2.at' (aO rfl λs3 hs3=> ?_)
 show wpAny _ _ _ _ _ s3
 have hE:=(hs1.trans hs2 (cX (Nat.le_refl _))).trans hs3 (cX (Nat.le_refl _))
 have nd:=hs3.at'.nodup
 have hne:x.tc≠y.tc:=by
  intro e
  rw[zX,List.map_cons,List.map_append,List.nodup_cons,List.nodup_append] at nd
  exact nd.2.2.2 x.tc (by simp[WS.K]) y.tc (by simp[WS.K]) e
 have gx:=λp hp=>hs3.at'.get p (List.mem_cons_of_mem _ (List.mem_append_left _ hp))
 have gy:=λp hp=>hs3.at'.get p (List.mem_cons_of_mem _ (List.mem_append_right _ hp))
 have gx1:=gx (x.tn,al [.ref x.tc,.int x.tr (x.k 7)]) (by simp[WS.K])
 have gy1:=gy (y.tn,al [.ref y.tc,.int y.tr (y.k 7)]) (by simp[WS.K])
 have gx2:=gx (x.tc,al (pW x.l x.c x.k)) (by simp[WS.K])
 have gy2:=gy (y.tc,al (pW y.l y.c y.k)) (by simp[WS.K])
 have hu:(A.deeper (zY V.w.params s.heap.objs.size)).in1.units<cLine:=(Bd.in1 (L:=1) hA').line
 have z:=RcAt.tuples (A:=A.deeper (zY V.w.params s.heap.objs.size)) (s:=s3) (l:=x.tn) (b:=y.tn) (items:=#[.ref x.tc,.int x.tr (x.k 7)]) (items2:=#[.ref y.tc,.int y.tr (y.k 7)])
  (e:=λj=>match j with|0=>decide (x.cs=y.cs)|_=>x.tr==y.tr) ⟨_,gx1,rfl,0,rfl⟩ ⟨_,gy1,rfl,0,rfl⟩ hA'.line (λj h1 h2=>by
   match j,h1,h2 with
   |0,_,_=>exact EqAt.of_refs hne (lG gx2 gy2 (ng x) (ng y) hu)
   |1,_,_=>exact EqAt.int_int _ _ _ _
   |j+2,h1,_=>exact absurd h1 (by simp))
 refine z _ _ _ _ ?_
 refine⟨_,?_,cM (hE.trans ⟨hs3.at'.drop,λb o e O=>e,Nat.le_refl _⟩ (cX (Nat.le_refl _))) (λO=>0),trivial⟩
 show Except.ok (Flow.ret (.bool _))=Except.ok (Flow.ret (.bool _))
 have q:(x.tr==y.tr)=decide (x.tr=y.tr):=by rw[Bool.eq_iff_iff];simp
 simp[ky,List.range_succ,q]
theorem At.ends{V:Gw}{K:KL}{s:Shared}(h:At V K s):am V (K.map (·.1)) s K s:=⟨h,λO O e O=>e,Nat.le_refl _⟩
theorem At.tok{V:Gw}{K:KL}{s:Shared}(h:At V K s)(t:Nat):At V K {s with toks:=t}:=⟨h.base.toks t,h.get,h.nodup,h.ok⟩
theorem am.tok{V:Gw}{W:List Addr}{s₀ s:Shared}{K:KL}(h:am V W s₀ K s)(t:Nat):am V W s₀ K {s with toks:=t}:=⟨h.at'.tok t,h.pres,h.grow⟩
theorem am.inv{V:Gw}{W:List Addr}{s₀ s:Shared}{K:KL}(h:am V W s₀ K s)(hw:∀p∈K,p.1∈W∨s₀.heap.objs.size≤p.1):gT V W s₀ (K.map (·.1)) s.heap.objs.size 0 s.toks 0 [] K s:=
 ⟨h.at',rfl,rfl,h.pres,h.grow,hw,by simp,Fz.nil⟩
noncomputable def Wr(W:List Addr)(s₀:Shared)(K:KL):Prop:=∀p∈K,p.1∈W∨s₀.heap.objs.size≤p.1
theorem Wr.self{s:Shared}{K:KL}:Wr (K.map (·.1)) s K:=λO hp=> .inl (List.mem_map_of_mem hp)
theorem am.push{V:Gw}{W:List Addr}{s₀ s:Shared}{K:KL}(h:am V W s₀ K s){o:Obj}(hf:o.isFreed=false):am V W s₀ (K++[(s.heap.objs.size,o)]) {s with heap:=s.heap.push o}:=by
 have hget:∀p∈K++[(s.heap.objs.size,o)],(s.heap.push o).get? p.1=some p.2:=λp hp=>by
  rcases List.mem_append.mp hp with hp|hp
  ·exact Heap.get?_push_of_some _ (h.at'.get p hp)
  ·rw[List.mem_singleton.mp hp];exact Heap.get?_push_size _ hf
 refine⟨⟨h.at'.base.push,hget,?_,λp hp=> ?_⟩,λb o e hb=>Heap.get?_push_of_some _ (h.pres b o e hb),?_⟩
 ·rw[List.map_append,List.nodup_append]
  refine⟨h.at'.nodup,by simp,λa ha b hb=> ?_⟩
  obtain⟨p,hp,rfl⟩:=List.mem_map.mp ha
  simp only[List.map_cons,List.map_nil,List.mem_singleton] at hb
  subst hb
  exact Nat.ne_of_lt (Heap.lt_size (h.at'.get p hp))
 ·rcases List.mem_append.mp hp with hp|hp
  ·exact h.at'.ok p hp
  ·rw[List.mem_singleton.mp hp];left;exact h.at'.base.size
 ·show _≤(s.heap.push o).objs.size;rw[Heap.size_push];exact Nat.le_succ_of_le h.grow
theorem am.upd{V:Gw}{W:List Addr}{s₀ s:Shared}{K:KL}(h:am V W s₀ K s)(hw:Wr W s₀ K){j:Nat}{p:Addr×Obj}{f:Obj→Obj}(hj:K[j]?=some p)(hf:(f p.2).isFreed=false):
  am V W s₀ (d3 K j f) {s with heap:=s.heap.update p.1 f}:=by
 have I:=(h.inv hw).update hj hf
 exact⟨I.at',I.pres,I.grow⟩
theorem cV{V:Gw}{T:String}{name:Str}{id:String}{B:Builtin}{self:Value}{rest:List Value}{H:aD}{P:br→Prop}{L:Nat}(hc:H.code= .call (.builtin id) ⟨self::rest,[]⟩)(slot:Slot T name id)(hT:∀s,At V H.K s→s.TypeIs self T)
  (entry:entryFor table id=some B) (args:argsOk id ⟨self::rest,[]⟩)
  (h:∀(A:Around) s,A.handled=none→At V H.K s→wpAny (model V.prog V.w) A.in1 (B ⟨self::rest,[]⟩) (λfin s'=>match fin with| .done f=>bO V H P s (.ok f) s'| .again c'=>c'.quiet=true∧codeAny (model V.prog V.w) A c' (bO V H P s) s') (λe s'=>bO V H P s (.error e) s') s):ai V L H P:=by
 intro A s hA hs
 rw[hc]
 exact codeAny_call_builtin slot.plain entry (slot.check _ _ _ _ _ _ _ _ (hT s hs) args (h A s hA.2.2 hs))
theorem cR{V:Gw}{T:String}{name:Str}{id:String}{B:Builtin}{self:Value}{rest:List Value}{H:aD}{P:br→Prop}{L:Nat}{S:PySem.Spec}(hc:H.code= .call (.builtin id) ⟨self::rest,[]⟩)(slot:Slot T name id)(hT:∀s,At V H.K s→s.TypeIs self T)
  (entry:entryFor table id=some B) (args:argsOk id ⟨self::rest,[]⟩) (m:Meets (B ⟨self::rest,[]⟩) S)
  (h:∀(A:Around) s,A.handled=none→At V H.K s→S A (bO V H P s) s):ai V L H P:=
 cV hc slot hT entry args λA s ha hs=>m V.prog V.w A _ s (h A s ha hs)
noncomputable def aj(l:Addr)(i:Nat):Obj:={cls:= .type "list_iterator",data:= .fields #[.ref l,.int i 0]}
noncomputable def ba(i:Nat):Obj:={cls:= .type "list_iterator",data:= .fields #[.none,.int i 0]}
noncomputable def kK(a:Addr):Obj:={cls:= .type "StopIteration",data:= .fields #[.ref a,.none,.none,.none,.bool false,.none]}
theorem a9{V:Gw}{K:KL}{s:Shared}{a:Addr}{o:Obj}{T:String}(h:At V K s)(hm:(a,o)∈K)(hc:o.cls= .type T):s.TypeIs (.ref a) T:=⟨o,h.get _ hm,hc⟩
noncomputable def a8(I l i:Nat)(vs:List Value)(ep:Nat)(v:Value)(js:List Nat):aD:=⟨.call (.builtin "list_iterator.__next__") ⟨[.ref I],[]⟩,js,[(I,aj l i),(l,aa vs ep)],λO=> .ok (.ret v),λO=>[aj l (i+1),aa vs ep],λO=>[]⟩
theorem aJ{V:Gw}{I l i:Nat}{vs:List Value}{ep:Nat}{v:Value}{js:List Nat}{L:Nat}(hv:vs[i]?=some v):ai V L (a8 I l i vs ep v js) (λO=>True):=by
 refine cV (H:=a8 I l i vs ep v js) rfl slot_listiter_next (λs hs=>a9 hs (.head _) rfl) entry_listiter_next (args_listiter_next _) λA s ha hs=> ?_
 have ho:s.heap.get? I=some (aj l i):=hs.get (I,aj l i) (.head _)
 have hl:s.heap.get? l=some (aa vs ep):=hs.get (l,aa vs ep) (.tail _ (.head _))
 show wpAny _ _ (field (.ref I) 0>>=_) _ _ s
 refine wpAny_bind (wpAny_field ho rfl (x:= .ref l) rfl ?_)
 show wpAny _ _ (if(Value.ref l==Value.none)=true then _ else _) _ _ s
 rw[if_neg (show¬((Value.ref l==Value.none)=true) from Bool.false_ne_true)]
 show wpAny _ _ (field (.ref I) 1>>=_) _ _ s
 refine wpAny_bind (wpAny_field ho rfl (x:= .int i 0) rfl ?_)
 show wpAny _ _ (seqItems? (.ref l)>>=_) _ _ s
 refine wpAny_bind (wpAny_seqItems hl rfl ?_)
 have hv':(⟨vs⟩:Array Value)[i]?=some v:=by simpa using hv
 simp only[Int.toNat_natCast,hv']
 refine wpAny_bind (wpAny_setField ho rfl (by simp) (wpAny_pure ?_))
 have E:=hs.ends.upd (j:=0) (p:=(I,aj l i)) (f:=Obj.mapFields (·.setIfInBounds 1 (rawInt (i+1)))) Wr.self rfl rfl
 exact⟨a7 _ _ (λO=>0),rfl,aW (H:=a8 I l i vs ep v js) E (λO=>0) rfl rfl (λO hp=>nomatch hp),trivial⟩
noncomputable def cn(I l i:Nat)(vs:List Value)(ep:Nat)(js:List Nat):aD:=⟨.call (.builtin "list_iterator.__next__") ⟨[.ref I],[]⟩,js,[(I,aj l i),(l,aa vs ep)],λρ=> .error (.ref (ρ 3)),λO=>[ba i,aa vs ep],λρ=>[(ρ 2,al []),(ρ 3,kK (ρ 2))]⟩
theorem bq{V:Gw}{I l i:Nat}{vs:List Value}{ep:Nat}{js:List Nat}{L:Nat}(hv:vs[i]?=none):ai V L (cn I l i vs ep js) (λO=>True):=by
 refine cV (H:=cn I l i vs ep js) rfl slot_listiter_next (λs hs=>a9 hs (.head _) rfl) entry_listiter_next (args_listiter_next _) λA s ha hs=> ?_
 have ho:s.heap.get? I=some (aj l i):=hs.get (I,aj l i) (.head _)
 have hl:s.heap.get? l=some (aa vs ep):=hs.get (l,aa vs ep) (.tail _ (.head _))
 show wpAny _ _ (field (.ref I) 0>>=_) _ _ s
 refine wpAny_bind (wpAny_field ho rfl (x:= .ref l) rfl ?_)
 show wpAny _ _ (if(Value.ref l==Value.none)=true then _ else _) _ _ s
 rw[if_neg (show¬((Value.ref l==Value.none)=true) from Bool.false_ne_true)]
 show wpAny _ _ (field (.ref I) 1>>=_) _ _ s
 refine wpAny_bind (wpAny_field ho rfl (x:= .int i 0) rfl ?_)
 show wpAny _ _ (seqItems? (.ref l)>>=_) _ _ s
 refine wpAny_bind (wpAny_seqItems hl rfl ?_)
 have hv':(⟨vs⟩:Array Value)[i]?=none:=by simpa using hv
 simp only[Int.toNat_natCast,hv']
 refine wpAny_bind (wpAny_rule (wpAny_bind (wpAny_setField ho rfl (by simp) ?_)))
 show wpAny _ _ (newExc (.type "StopIteration") []>>=_) _ _ _
 refine wpAny_bind ?_
 simp only[newExc,newTuple]
 refine wpAny_bind (wpAny_newObj_type ?_ (by size_fits))
 refine wpAny_bind (m:=firstArgMember _ _) (wpAny_of_eq (a:=Value.none) (by first|rfl|(simp only[firstArgMember];rfl)) ?_)
 refine wpAny_newObj_type ?_ (by size_fits)
 simp only[raiseNew]
 refine wpAny_bind (wpAny_handled ?_)
 rw[show A.in1.handled=none from ha]
 refine wpAny_bind (wpAny_pure (wpAny_throw ?_))
 have E1:=hs.ends.upd (j:=0) (p:=(I,aj l i)) (f:=Obj.mapFields (·.setIfInBounds 0 .none)) Wr.self rfl rfl
 have e0:(s.heap.update I (Obj.mapFields (·.setIfInBounds 0 .none))).objs.size=s.heap.objs.size:=(Heap.SameBut.update ..).1
 generalize hh1:s.heap.update I (Obj.mapFields (·.setIfInBounds 0 .none))=h1 at e0⊢
 have E2:=(E1.push (o:=al []) rfl).push (o:=kK (s.heap.update I (Obj.mapFields (·.setIfInBounds 0 .none))).objs.size) rfl
 try dsimp only at E2
 rw[hh1] at E2
 refine⟨a7 _ _ (λk=>match k with|0=>h1.objs.size|_=>(h1.push (al [])).objs.size),rfl,aW (H:=cn I l i vs ep js) E2 _ rfl ?_ ?_,trivial⟩
 ·rfl
 ·intro p hp
  have e1:(h1.push (al [])).objs.size=s.heap.objs.size+1:=by rw[Heap.size_push,e0]
  rcases e6 hp with rfl|hp
  ·show _≤h1.objs.size;lia
  ·rw[List.mem_singleton.mp hp];show _≤(h1.push (al [])).objs.size;lia
noncomputable def d7(sts:List Stmt)(k:Nat)(it:Value)(env:Env):Code:=match sts[k]? with
 |some (.For target _ body orelse _)=> .forLoop target it body orelse env
 |_=>c0
noncomputable def bU:Array Nat:=#[110,117,109,98,101,114,115]
noncomputable def ak:Array Nat:=#[110,117,109,98,101,114]
noncomputable def wC:Array Nat:=#[97,114,101,97]
noncomputable def pf:Array Nat:=#[104,101,105,103,104,116]
abbrev aF:=List (Array Nat×Nat×Value)
noncomputable def xi(P:Params)(fr I l:Addr)(k0 k1 k2 k3 k4:Nat)(a h:Int)(tail:aF)(j:Nat)(vs:List Value)(ep:Nat):KL:=
 [(fr,cY P ([(bU,k0,.ref l),(wC,k1,.int a k2),(pf,k3,.int h k4)]++tail)),(I,aj l j),(l,aa vs ep)]
noncomputable def xo(P:Params)(fr I:Addr):Code:=d7 (aA (aU P 208)) 1 (.ref I) (f6 (aU P 208) 208 fr [])
noncomputable def pV(a b:Int)(u v:Nat)(β:Bool):aD:=aN (aY "int.__eq__" a b u v) (λO=> .bool β)
noncomputable def bk(first:Bool)(nm:Array Nat)(κ:Nat)(v:Value):aF:=match first with
 |true=>[]
 |false=>[(nm,κ,v)]
noncomputable def ao(first:Bool)(κ κ':Nat):Nat:=match first with
 |true=>κ'
 |false=>κ
noncomputable def Fc(P:Params)(b1 b2:Bool)(n t fr I l k0 k1 k2 k3 k4:Nat)(a h:Int)(first:Bool)(κ:Nat)(v:Value)(j:Nat)(vs:List Value)(ep:Nat)(x:Int)(u:Nat):bu:=
 ap P b1 b2 (xo P fr I) (xi P fr I l k0 k1 k2 k3 k4 a h (bk first ak κ v) j vs ep) n t (.hook [2] 0 (a8 I l j vs ep (.int x u) [1,2]) λρ=> .hook [1,1,1,0] 0 {pV (Z.modQ x 2) 1 (ρ 1+2) (ρ 1+3) true with js:=[]} λρ'=> .again [1,1,0,1,1,1,0,1,1] (xo P fr I) [0,1,2] (xi P fr I l k0 k1 (ρ' 1) k3 (ρ' 1+3) (a+h) (h+1) [(ak,ao first κ (ρ 1),.int x u)] (j+1) vs ep))
noncomputable def Fd(P:Params)(b1 b2:Bool)(n t fr I l k0 k1 k2 k3 k4:Nat)(a h:Int)(first:Bool)(κ:Nat)(v:Value)(j:Nat)(vs:List Value)(ep:Nat)(x:Int)(u:Nat):bu:=
 ap P b1 b2 (xo P fr I) (xi P fr I l k0 k1 k2 k3 k4 a h (bk first ak κ v) j vs ep) n t (.hook [2] 0 (a8 I l j vs ep (.int x u) [1,2]) λρ=> .hook [1,1,1,0] 0 {pV (Z.modQ x 2) 1 (ρ 1+2) (ρ 1+3) false with js:=[]} λρ'=> .again [1,0,1,1] (xo P fr I) [0,1,2] (xi P fr I l k0 k1 k2 k3 (ρ' 1+1) a (h-1) [(ak,ao first κ (ρ 1),.int x u)] (j+1) vs ep))
noncomputable def xJ(P:Params)(fr I l:Addr)(k0 k1 k2 k3 k4:Nat)(a h:Int)(tail:aF)(j:Nat)(vs:List Value)(ep:Nat):KL:=
 [(fr,cY P ([(bU,k0,.ref l),(wC,k1,.int a k2),(pf,k3,.int h k4)]++tail)),(I,ba j),(l,aa vs ep)]
noncomputable def wJ(P:Params)(b1 b2:Bool)(n t:Nat)(l:Addr)(vs:List Value)(ep:Nat):bu:=bK P b1 b2 208 [.ref l] [(l,aa vs ep)] n t [0,2,2] n [] [1,0] [(n,cY P [(bU,t,.ref l)]),(l,aa vs ep)]
noncomputable def DJ(P:Params)(fr I l k0 k1 k2 k3 k4:Nat)(vs:List Value)(ep:Nat)(a h:Int)(T:br→aF)(js:List Nat):aD:=
 ⟨xo P fr I,js,xi P fr I l k0 k1 k2 k3 k4 0 0 [] 0 vs ep,λρ=> .ok .next,λρ=>(xJ P fr I l k0 k1 (ρ 2) k3 (ρ 3) a h (T ρ) vs.length vs ep).map (·.2),λO=>[]⟩
theorem Ct(P):d4 P 208=true:=by kernel_rfl!
theorem tA(P b1 b2 n t l vs ep):(wJ P b1 b2 n t l vs ep).run 60=(wJ P b1 b2 n t l vs ep).exp:=by kernel_rfl!
theorem Hr(P b1 n t fr I l k0 k1 k2 k3 k4 a h κ v j vs ep x u):Qk 200 λr=>ay λfirst b2=>r (Fc P b1 b2 n t fr I l k0 k1 k2 k3 k4 a h first κ v j vs ep x u):=by unfold Qk;kernel_rfl!
theorem Hs(P b1 n t fr I l k0 k1 k2 k3 k4 a h κ v j vs ep x u):Qk 200 λr=>ay λfirst b2=>r (Fd P b1 b2 n t fr I l k0 k1 k2 k3 k4 a h first κ v j vs ep x u):=by unfold Qk;kernel_rfl!
theorem Ht(P:Params)(b1:Bool)(n t fr I l k0 k1 k2 k3 k4:Nat)(a h:Int)(T:aF)(j:Nat)(vs:List Value)(ep:Nat):Qk 200 λr=>fT λb2=>r ( ap P b1 b2 (xo P fr I) (xi P fr I l k0 k1 k2 k3 k4 a h T j vs ep) n t (.hook [2] 0 (cn I l j vs ep [1,2]) λρ=> .fin [5] (.ok .next) [0,1,2] (xJ P fr I l k0 k1 k2 k3 k4 a h T j vs ep))):=by unfold Qk;kernel_rfl!
theorem Hu(P:Params)(b1:Bool)(n n' t:Nat)(l:Addr)(vs:List Value)(ep:Nat)(k0:Nat)(a h:Int)(T:br→aF):Qk 300 λr=>fT λb2=>r (ap P b1 b2 (cc P 208 n []) [(n,cY P [(bU,k0,.ref l)]),(l,aa vs ep)] n' t
 (.hook [3,3,3,0,3,4,4,0,4,4,4,3,4,4,4,0,4,4,4,3,4,4,4,0,4,4,4,3,4,4,6,1,1,1,1,1,2,2,0,2,7] 5 (DJ P n (n'+4) l k0 (t+2) t (t+3) (t+1) vs ep a h T [0,6,1]) λρ=> .fin [1] (.ok (.ret (.int a (ρ 2)))) [1] [(l,aa vs ep)])):=by unfold Qk;kernel_rfl!
theorem zF(P b1 b2 a b u v n t):(ap P b1 b2 (aY "int.__eq__" a b u v) [] n t (.fin [] (.ok (.ret (.bool (@decide _ (Z.eqZ a b))))) [] [])).run 20=(ap P b1 b2 (aY "int.__eq__" a b u v) [] n t (.fin [] (.ok (.ret (.bool (@decide _ (Z.eqZ a b))))) [] [])).exp:=by
 kernel_rfl!
theorem ff{V:Gw}(G:au V){a b:Int}{u v:Nat}{L:Nat}(β:Bool)(h:β=true↔a=b):ai V L (aN (aY "int.__eq__" a b u v) λO=> .bool β) (λO=>True):=
 ij G [] (congrArg Value.bool (il (Z.eqZ a b) h)) (λn t=>zF _ _ _ _ _ _ _ _ _)
noncomputable def iY:Int→Int→List Int→Int×Int
 |a,h,[]=>(a,h)
 |a,h,x::r=>if x.fmod 2=1 then iY (a+h) (h+1) r else iY a (h-1) r
noncomputable def cf(T:aF)(nm:Array Nat)(rest:List Value)(κ:Nat):aF:=match rest.getLast? with
 |none=>T
 |some v=>[(nm,κ,v)]
theorem we{V:Gw}(G:au V){fr I l k0 k1 k3 ep:Nat}{vs:List Value}:∀(rest:List Value) (ns:List Int) (pre:List Value) (k2 k4:Nat) (a h:Int) (first:Bool) (κ:Nat) (v:Value) (A:Around) (s:Shared),vs=pre++rest→aI rest ns→Bd 1 A→
  At V (xi V.w.params fr I l k0 k1 k2 k3 k4 a h (bk first ak κ v) pre.length vs ep) s→
  codeAny (model V.prog V.w) A (xo V.w.params fr I) (λr s'=>r= .ok .next∧E3 λk2' k4' κ'=>am V [fr,I,l] s (xJ V.w.params fr I l k0 k1 k2' k3 k4' (iY a h ns).1 (iY a h ns).2 (cf (bk first ak κ v) ak rest κ') vs.length vs ep) s') s:=by
 intro rest
 induction rest with
 |nil=>
  intro ns pre k2 k4 a h first κ v A s hv hi hA hs
  cases hi
  rw[List.append_nil] at hv
  subst hv
  refine bc G (a6 (Ht V.w.params (aC V) s.heap.objs.size s.toks fr I l k0 k1 k2 k3 k4 a h (bk first ak κ v) vs.length vs ep) (aB V)) hA hs ?_
  exact ae (bq (L:=0) (by simp)) rfl rfl rfl λρ O O=>aO rfl λs' hs'=>⟨rfl,k2,k4,0,hs'⟩
 |cons v₁ rest ih=>
  intro ns pre k2 k4 a h first κ v A s hv hi hA hs
  cases hi with
  | @cons x u _ m hi=>
  have hget:vs[pre.length]?=some (.int x u):=by rw[hv];simp
  have hv':vs=(pre++[.int x u])++rest:=by rw[hv];simp
  have hlen:(pre++[Value.int x u]).length=pre.length+1:=by simp
  have hfin:∀κ',cf (bk first ak κ v) ak (Value.int x u::rest) κ'=cf [(ak,κ',Value.int x u)] ak rest κ':=λκ'=>by
   unfold cf;rw[List.getLast?_cons];cases rest.getLast?<;>rfl
  have e2:x.fmod 2=Z.modQ x 2:=by rw[←Z.modQ_eq]
  by_cases hx:x.fmod 2=1
  ·have har:iY a h (x::m)=iY (a+h) (h+1) m:=by rw[iY,if_pos hx]
   rw[har]
   refine bc G (ad (Hr V.w.params (aC V) s.heap.objs.size s.toks fr I l k0 k1 k2 k3 k4 a h κ v pre.length vs ep x u) first (aB V)) hA hs ?_
   refine ae (aJ (L:=0) hget) rfl rfl rfl λρ O O=>ae (l:=0) (ff G true ⟨λO=>e2▸hx,λO=>rfl⟩) rfl rfl rfl λρ' O O=>aE rfl λs' hs'=>⟨rfl,?_⟩
   refine codeAny_mono (ih m (pre++[.int x u]) _ _ _ _ false (ao first κ (ρ 1)) (.int x u) A s' hv' hi hA (by rw[hlen];exact hs'.at')) ?_
   rintro r s'' ⟨hr,k2',k4',κ',hE⟩
   cases hrest:rest.getLast? with
   |none=>
    refine⟨hr,k2',k4',ao first κ (ρ 1),?_⟩
    have:=hs'.trans hE (λb hb=> .inl hb)
    unfold cf at this⊢
    rw[List.getLast?_cons]
    rw[hrest] at this⊢
    exact this
   |some q=>
    refine⟨hr,k2',k4',κ',?_⟩
    have:=hs'.trans hE (λb hb=> .inl hb)
    unfold cf at this⊢
    rw[List.getLast?_cons]
    rw[hrest] at this⊢
    exact this
  ·have har:iY a h (x::m)=iY a (h-1) m:=by rw[iY,if_neg hx]
   rw[har]
   refine bc G (ad (Hs V.w.params (aC V) s.heap.objs.size s.toks fr I l k0 k1 k2 k3 k4 a h κ v pre.length vs ep x u) first (aB V)) hA hs ?_
   refine ae (aJ (L:=0) hget) rfl rfl rfl λρ O O=>ae (l:=0) (ff G false ⟨(λh=>nomatch h),λh=>absurd (e2.trans h) hx⟩) rfl rfl rfl λρ' O O=>aE rfl λs' hs'=>⟨rfl,?_⟩
   refine codeAny_mono (ih m (pre++[.int x u]) _ _ _ _ false (ao first κ (ρ 1)) (.int x u) A s' hv' hi hA (by rw[hlen];exact hs'.at')) ?_
   rintro r s'' ⟨hr,k2',k4',κ',hE⟩
   cases hrest:rest.getLast? with
   |none=>
    refine⟨hr,k2',k4',ao first κ (ρ 1),?_⟩
    have:=hs'.trans hE (λb hb=> .inl hb)
    unfold cf at this⊢
    rw[List.getLast?_cons]
    rw[hrest] at this⊢
    exact this
   |some q=>
    refine⟨hr,k2',k4',κ',?_⟩
    have:=hs'.trans hE (λb hb=> .inl hb)
    unfold cf at this⊢
    rw[List.getLast?_cons]
    rw[hrest] at this⊢
    exact this
theorem qG{V:Gw}(G:au V){fr I l k0 k1 k2 k3 k4 ep:Nat}{vs:List Value}{ns:List Int}(hi:aI vs ns){js:List Nat}:ai V 1 (DJ V.w.params fr I l k0 k1 k2 k3 k4 vs ep (iY 0 0 ns).1 (iY 0 0 ns).2 (λρ=>cf [] ak vs (ρ 4)) js) (λO=>True):=by
 intro A s hA hs
 refine codeAny_mono (we G vs ns [] k2 k4 0 0 true 0 .none A s rfl hi hA hs) ?_
 rintro r s' ⟨rfl,k2',k4',κ',hE⟩
 refine⟨a7 _ _ (λk=>match k with|0=>k2'|1=>k4'|_=>κ'),rfl,aW (H:=DJ V.w.params fr I l k0 k1 k2 k3 k4 vs ep (iY 0 0 ns).1 (iY 0 0 ns).2 (λρ=>cf [] ak vs (ρ 4)) js) hE _ rfl rfl (λO hp=>nomatch hp),trivial⟩
theorem vR{V:Gw}(G:au V){l ep:Nat}{vs:List Value}{ns:List Int}(hi:aI vs ns){js:List Nat}:
  ai V 2 (iw (.call (.ref 208) ⟨[.ref l],[]⟩) js [(l,aa vs ep)] λρ=> .int (iY 0 0 ns).1 (ρ 2)) (λO=>True):=by
 intro A s hA h
 refine jB G hA (Ct _) h (tA V.w.params (aC V) (aB V) s.heap.objs.size s.toks l vs ep) (aS rfl) λs1 hs1=> ?_
 refine bc G (a6 (Hu V.w.params (aC V) s.heap.objs.size s1.heap.objs.size s1.toks l vs ep s.toks (iY 0 0 ns).1 (iY 0 0 ns).2 (λρ=>cf [] ak vs (ρ 4))) (aB V)) hA hs1.at' ?_
 refine ae (l:=1) (qG G hi) rfl rfl rfl λρ O O=>aO rfl λs2 hs2=> ?_
 exact⟨a7 _ _ (λO=>ρ 2),rfl,cM (hs1.trans hs2 (cX (Nat.le_refl _))) (λO=>ρ 2),trivial⟩
abbrev aw (n:Nat):Prop:=n≤1000
theorem aw.fits{n:Nat}(h:aw n):n≤sizeLine:=Nat.le_trans h (by decide)
noncomputable def a5(l:Addr)(vs:List Value)(ep:Nat)(x:Value)(js:List Nat):aD:=⟨.call (.builtin "list.append") ⟨[.ref l,x],[]⟩,js,[(l,aa vs ep)],λO=> .ok (.ret .none),λO=>[aa (vs++[x]) (ep+1)],λO=>[]⟩
theorem aM{V:Gw}{l ep:Nat}{vs:List Value}{x:Value}{js:List Nat}{L:Nat}(hs:aw vs.length):ai V L (a5 l vs ep x js) (λO=>True):=by
 refine cR (H:=a5 l vs ep x js) rfl F.slot_list_append (λs hs=>a9 hs (.head _) rfl) F.entry_list_append (F.args_list_append_2 _ _) (AutoListH.list_append_list_val_0 l ⟨vs⟩ ep x hs.fits) λA s ha hs=> ?_
 refine⟨hs.get (l,aa vs ep) (.head _),?_⟩
 have E:=hs.ends.upd (j:=0) (p:=(l,aa vs ep)) (f:=Obj.mapSeq λx_1=>x_1.push x) Wr.self rfl (by rw[show(Obj.mapSeq (λx_1=>x_1.push x) (aa vs ep))=_ from Obj.mapSeq_push_plain ⟨vs⟩ ep x];rfl)
 have e:d3 [(l,aa vs ep)] 0 (Obj.mapSeq λx_1=>x_1.push x)=[(l,aa (vs++[x]) (ep+1))]:=by
  show [(l,Obj.mapSeq (λx_1=>x_1.push x) (aa vs ep))]=_
  rw[show(Obj.mapSeq (λx_1=>x_1.push x) (aa vs ep))=_ from Obj.mapSeq_push_plain ⟨vs⟩ ep x]
  simp[aa]
 have E:am V [l] s [(l,aa (vs++[x]) (ep+1))] _:=e▸E
 exact⟨a7 _ _ (λO=>0),rfl,aW (H:=a5 l vs ep x js) E (λO=>0) rfl rfl (λO hp=>nomatch hp),trivial⟩
noncomputable def bS(l:Addr)(vs:List Value)(ep:Nat)(i:Int)(u:Nat)(x:Value)(js:List Nat):aD:=iw (.call (.builtin "list.__getitem__") ⟨[.ref l,.int i u],[]⟩) js [(l,aa vs ep)] λρ=>x
theorem bG{V:Gw}{l ep:Nat}{vs:List Value}{i:Int}{u:Nat}{x:Value}{js:List Nat}{L:Nat}(h0:0≤i)(hx:vs[i.toNat]?=some x)(hz:aw vs.length):ai V L (bS l vs ep i u x js) (λO=>True):=by
 refine cV (H:=bS l vs ep i u x js) rfl slot_list_getitem (λs hs=>a9 hs (.head _) rfl) entry_list_getitem (args_list_getitem _ _) λA s ha hs=> ?_
 have ho:s.heap.get? l=some (aa vs ep):=hs.get (l,aa vs ep) (.head _)
 have hlt:=(List.getElem?_eq_some_iff.mp hx).1
 show wpAny _ _ (Builtin.List.listSubscript? (.int i u)>>=_) _ _ s
 have hz':vs.length≤1000:=hz
 refine wpAny_bind (wpAny_listSubscript_int (fitsIndex_of h0 (by lia)) ?_)
 obtain⟨j,rfl⟩:=Int.eq_ofNat_of_zero_le h0
 have hx':(⟨vs⟩:Array Value)[j]?=some x:=by simpa using hx
 show wpAny _ _ ((seqItemAt l j>>=λr=>pure (r.map (j,·)))>>=_) _ _ s
 refine wpAny_bind (wpAny_bind (wpAny_seqItemAt ho rfl (wpAny_pure ?_)))
 rw[hx']
 have fin:bO V (bS l vs ep j u x js) (λO=>True) s (.ok (.ret x)) s:=⟨a7 _ _ (λO=>0),rfl,cM hs.ends (λO=>0),trivial⟩
 first
  |exact wpAny_bind (wpAny_pure (wpAny_pure fin))
  |exact wpAny_pure fin
noncomputable def jH(l b:Addr)(vs ws:List Value)(ep eq:Nat)(js:List Nat):aD:=⟨.call (.builtin "list.__add__") ⟨[.ref l,.ref b],[]⟩,js,[(l,aa vs ep),(b,aa ws eq)],λρ=> .ok (.ret (.ref (ρ 2))),λO=>[aa vs ep,aa ws eq],λρ=>[(ρ 2,aa (vs++ws) 0)]⟩
theorem jy{V:Gw}{l b ep eq:Nat}{vs ws:List Value}{js:List Nat}{L:Nat}(hs:aw (vs.length+ws.length)):ai V L (jH l b vs ws ep eq js) (λO=>True):=by
 refine cR (H:=jH l b vs ws ep eq js) rfl F.slot_list_add (λs hs=>a9 hs (.head _) rfl) F.entry_list_add (F.args_list_add_2 _ _) (AutoSeq1.list___add___list_list_0 l ⟨vs⟩ ep b ⟨ws⟩ eq hs.fits) λA s ha hs=> ?_
 refine⟨hs.get (l,aa vs ep) (.head _),hs.get (b,aa ws eq) (.tail _ (.head _)),?_⟩
 have E:=hs.ends.push (o:=aa (vs++ws) 0) rfl
 have e:(⟨vs⟩:Array Value)++⟨ws⟩=⟨vs++ws⟩:=by simp
 rw[e]
 exact⟨a7 _ _ (λO=>s.heap.objs.size),rfl,aW (H:=jH l b vs ws ep eq js) E (λO=>s.heap.objs.size) rfl rfl (λp hp=>by rw[List.mem_singleton.mp hp];exact Nat.le_refl _),trivial⟩
noncomputable def bD(a b c:Value):Obj:={cls:= .type "slice",data:= .fields #[a,b,c]}
noncomputable def d6(l sl:Addr)(vs:List Value)(ep:Nat)(a b:Value)(ws:List Value)(js:List Nat):aD:=⟨.call (.builtin "list.__getitem__") ⟨[.ref l,.ref sl],[]⟩,js,[(l,aa vs ep),(sl,bD a b .none)],λρ=> .ok (.ret (.ref (ρ 2))),λO=>[aa vs ep,bD a b .none],λρ=>[(ρ 2,aa ws 0)]⟩
theorem fu{V:Gw}{l sl ep:Nat}{vs ws:List Value}{a b:Value}{lo hi:Option Int}(pa:IsPart a lo)(pb:IsPart b hi){js:List Nat}{L:Nat}(hw:slicePick ⟨vs⟩ lo hi none=⟨ws⟩)(hs:aw vs.length):ai V L (d6 l sl vs ep a b ws js) (λO=>True):=by
 refine cV (H:=d6 l sl vs ep a b ws js) rfl slot_list_getitem (λs hs=>a9 hs (.head _) rfl) entry_list_getitem (args_list_getitem _ _) λA s ha hs'=> ?_
 have ho:s.heap.get? l=some (aa vs ep):=hs'.get (l,aa vs ep) (.head _)
 have hos:s.heap.get? sl=some (bD a b .none):=hs'.get (sl,bD a b .none) (.tail _ (.head _))
 have hTs:s.TypeIs (.ref sl) "slice":=⟨_,hos,rfl⟩
 show wpAny _ _ (Builtin.List.listSubscript? (.ref sl)>>=_) _ _ s
 refine wpAny_bind ?_
 unfold Builtin.List.listSubscript?
 refine wpAny_bind (wpAny_specialOf hTs slice_no_index ?_)
 refine pY rfl ?_
 refine wpAny_pure ?_
 show wpAny _ _ (typeOf (.ref sl)>>=_) _ _ s
 refine wpAny_bind (wpAny_typeOf hTs ?_)
 rw[if_neg (by decide)]
 rw[listSliceParts_eq]
 have hstep: ¬((rawPart none==rawInt 0)=true):=Bool.false_ne_true
 refine wpAny_bind (wpAny_bind (wpAny_field hos rfl (x:= .none) rfl (wpAny_bind (wpAny_listPart .none ?_))))
 rw[if_neg hstep]
 refine wpAny_bind (wpAny_field hos rfl (x:=a) rfl (wpAny_bind (wpAny_listPart pa ?_)))
 refine wpAny_bind (wpAny_field hos rfl (x:=b) rfl (wpAny_bind (wpAny_listPart pb (wpAny_pure ?_))))
 refine wpAny_bind (m:=Builtin.List.listItems (.ref l)) ?_
 unfold Builtin.List.listItems
 refine wpAny_bind (wpAny_seqItems ho rfl (wpAny_pure ?_))
 refine wpAny_bind (wpAny_of_eq (sliceIndices_raw lo hi none (⟨vs⟩:Array Value).size (by simp)) ?_)
 have E:=hs'.ends.push (o:=aa ws 0) rfl
 have fin:bO V (d6 l sl vs ep a b ws js) (λO=>True) s (.ok (.ret (.ref s.heap.objs.size))) {s with heap:=s.heap.push {cls:= .type "list",data:= .seq (slicePick ⟨vs⟩ lo hi none)}}:=by
  rw[hw]
  exact⟨a7 _ _ (λO=>s.heap.objs.size),rfl,aW (H:=d6 l sl vs ep a b ws js) E (λO=>s.heap.objs.size) rfl rfl (λp hp=>by rw[List.mem_singleton.mp hp];exact Nat.le_refl _),trivial⟩
 exact wpAny_bind (wpAny_newObj_type (wpAny_pure fin) (Nat.le_trans (slicePick_size_le ⟨vs⟩ lo hi none) hs.fits))
noncomputable def Dv(a:Int):Value→Bool
 | .int b _=>b==a
 |_=>false
theorem ub(a:Int){vs:List Value}{ns:List Int}(hi:aI vs ns):vs.any (Dv a)=decide (a∈ns):=by
 induction hi with
 |nil=>rfl
 | @cons b t l m h ih=>
  rw[List.any_cons,ih]
  show(b==a||decide (a∈m))=decide (a∈b::m)
  rw[Bool.eq_iff_iff,Bool.or_eq_true,beq_iff_eq,decide_eq_true_iff,decide_eq_true_iff,List.mem_cons,eq_comm]
noncomputable def jC(l:Addr)(vs:List Value)(ep:Nat)(x:Value)(β:Bool)(js:List Nat):aD:=iw (.call (.builtin "list.__contains__") ⟨[.ref l,x],[]⟩) js [(l,aa vs ep)] λρ=> .bool β
theorem fG{V:Gw}{l ep:Nat}{vs:List Value}{ns:List Int}(hi:aI vs ns){a:Int}{u:Nat}{β:Bool}{js:List Nat}{L:Nat}(hβ:β=decide (a∈ns)):ai V L (jC l vs ep (.int a u) β js) (λO=>True):=by
 refine cR (H:=jC l vs ep (.int a u) β js) rfl F.slot_list_contains (λs hs=>a9 hs (.head _) rfl) F.entry_list_contains (F.args_list_contains_2 _ _) (list_containsAt l ⟨vs⟩ ep none #[] (.int a u) (Dv a)) λA s ha hs=> ?_
 refine⟨hs.get (l,aa vs ep) (.head _),λy hy=> ?_,?_⟩
 ·have hy:y∈vs:=by simpa using hy
  obtain⟨j,hj,e⟩:=List.mem_iff_getElem.mp hy
  obtain⟨t,hm,e'⟩:=hi.at j hj
  rw[←e,e']
  exact EqAt.int_int _ _ _ _
 ·have e:(⟨vs⟩:Array Value).any (Dv a)=β:=by
   rw[hβ,List.any_toArray,ub a hi]
  rw[e]
  exact⟨a7 _ _ (λO=>0),rfl,cM hs.ends (λO=>0),trivial⟩
noncomputable def jF(sts:List Stmt)(k:Nat):Expr:=match sts[k]? with
 |some (.Assign _ v _)=>v
 |_=> .Constant .none 0 ⟨0,0,0,0⟩
noncomputable def bx:Expr→Expr
 | .ListComp elt _ _ _=>elt
 |e=>e
noncomputable def aT:Expr→Scope
 | .ListComp _ _ s _=>s
 |_=>default
noncomputable def fH(e:Expr)(k:Nat):Expr:=match e with
 | .ListComp _ [g] _ _=>g.ifs[k]?.getD e
 |_=>e
noncomputable def cm(v:Value):Obj:={cls:= .type "cell",data:= .cell (some v)}
noncomputable def cJ:Array Nat:=#[111,110,101]
noncomputable def nm(a:Array Nat):Str:=⟨a⟩
noncomputable def nJ(P:Params):Expr:=jF (aA (aU P 189)) 0
noncomputable def uF(P:Params)(fr C1 cO cL:Addr):Env:=compEnvC (aT (nJ P)) [(nm iI,cO),(nm #[108,101,97,100,115],cL)] C1 (f6 (aU P 189) 189 fr [])
noncomputable def wt(P:Params)(fr C1 C cO cL I acc:Addr):Code:= .compLoop (bx (nJ P)) 0 (.ref I) (.ref acc) (compEnvC (aT (bx (nJ P))) [(nm iI,cO)] C (uF P fr C1 cO cL))
noncomputable def q9(P:Params)(C I l acc cO:Addr)(tail:aF)(j:Nat)(refs:List Value)(ep:Nat)(bs:List Value)(eq:Nat)(y:WS):KL:=
 [(C,bn P tail),(I,aj l j),(l,aa refs ep),(acc,aa bs eq),(cO,cm (.ref y.self))]
noncomputable def IH(P:Params)(b1 b2:Bool)(n t fr C1 C cO cL I acc l:Nat)(first:Bool)(κ:Nat)(v:Value)(j:Nat)(refs:List Value)(ep:Nat)(bs:List Value)(eq:Nat)(x y:WS)(β:Bool):bu:=
 ap P b1 b2 (wt P fr C1 C cO cL I acc) (q9 P C I l acc cO (bk first cJ κ v) j refs ep bs eq y++(x.K P++y.K P)) n t
 (.hook [2] 0 (a8 I l j refs ep (.ref x.self) [1,2]) λρ=> .hook [1,1,1,6,0,0,0,6,0,0,0,6,0,0,0,0,6,7,5,0] 0 (iw (.call (.ref 155) ⟨[.ref x.self,.ref y.self],[]⟩) [5,6,7,8,9,10,11,12] (x.K P++y.K P) λρ=> .bool β) λρ'=> .hook [] 0 (a5 acc bs eq (.bool β) [3]) λρ''=>
 .again [] (wt P fr C1 C cO cL I acc) [0,1,2,3,4,5,6,7,8,9,10,11,12] (q9 P C I l acc cO [(cJ,ao first κ (ρ 1),.ref x.self)] (j+1) refs ep (bs++[.bool β]) (eq+1) y++(x.K P++y.K P)))
noncomputable def II(P:Params)(b1 b2:Bool)(n t fr C1 C cO cL I acc l:Nat)(first:Bool)(κ:Nat)(v:Value)(j:Nat)(refs:List Value)(ep:Nat)(bs:List Value)(eq:Nat)(y:WS):bu:=
 ap P b1 b2 (wt P fr C1 C cO cL I acc) (q9 P C I l acc cO (bk first cJ κ v) j refs ep bs eq y++y.K P) n t
 (.hook [2] 0 (a8 I l j refs ep (.ref y.self) [1,2]) λρ=> .hook [1,1,1,6,0,0,0,6,0,0,0,6,0,0,0,0,6,7,5,0] 0 (iw (.call (.ref 155) ⟨[.ref y.self,.ref y.self],[]⟩) [5,6,7,8] (y.K P) λρ=> .bool false) λρ'=> .hook [] 0 (a5 acc bs eq (.bool false) [3]) λρ''=>
 .again [] (wt P fr C1 C cO cL I acc) [0,1,2,3,4,5,6,7,8] (q9 P C I l acc cO [(cJ,ao first κ (ρ 1),.ref y.self)] (j+1) refs ep (bs++[.bool false]) (eq+1) y++y.K P))
noncomputable def uz(P:Params)(C I l acc cO:Addr)(tail:aF)(j:Nat)(refs:List Value)(ep:Nat)(bs:List Value)(eq:Nat)(y:WS):KL:=
 [(C,bn P tail),(I,ba j),(l,aa refs ep),(acc,aa bs eq),(cO,cm (.ref y.self))]
noncomputable def AS(P:Params)(fr C1 C cO cL I acc:Addr):Code:= .compStart (bx (nJ P)) 0 (.ref I) (.ref acc) (compEnvC (aT (bx (nJ P))) [(nm iI,cO)] C (uF P fr C1 cO cL))
noncomputable def Er(P:Params)(b1 b2:Bool)(n t fr C1 C cO cL I acc l:Nat)(refs:List Value)(ep:Nat)(y:WS):bu:=
 ap P b1 b2 (AS P fr C1 C cO cL I acc) (q9 P C I l acc cO [] 0 refs ep [] 0 y) n t (.again (match b1 with|true=>[]|false=>[2,2,0,2,2]) (wt P fr C1 C cO cL I acc) [0,1,2,3,4] (q9 P C I l acc cO [] 0 refs ep [] 0 y))
theorem FN(P n t fr C1 C cO cL I acc l refs ep y):Qk 100 λr=>ay λb1 b2=>r (Er P b1 b2 n t fr C1 C cO cL I acc l refs ep y):=by unfold Qk;kernel_rfl!
theorem I0(P b1 n t fr C1 C cO cL I acc l κ v j refs ep bs eq x y β):Qk 200 λr=>ay λfirst b2=>r (IH P b1 b2 n t fr C1 C cO cL I acc l first κ v j refs ep bs eq x y β):=by unfold Qk;kernel_rfl!
theorem I2(P b1 n t fr C1 C cO cL I acc l κ v j refs ep bs eq y):Qk 200 λr=>ay λfirst b2=>r (II P b1 b2 n t fr C1 C cO cL I acc l first κ v j refs ep bs eq y):=by unfold Qk;kernel_rfl!
theorem FM(P:Params)(b1:Bool)(n t fr C1 C cO cL I acc l:Nat)(T:aF)(j:Nat)(refs:List Value)(ep:Nat)(bs:List Value)(eq:Nat)(y:WS):Qk 100 λr=>fT λb2=>r ( ap P b1 b2 (wt P fr C1 C cO cL I acc) (q9 P C I l acc cO T j refs ep bs eq y) n t (.hook [2] 0 (cn I l j refs ep [1,2]) λρ=> .fin [7] (.ok .next) [0,1,2,3,4] (uz P C I l acc cO T j refs ep bs eq y))):=by unfold Qk;kernel_rfl!
theorem At.thaw{V:Gw}{K F R:KL}{s:Shared}(h:At V K s)(hF:Fz V F K s)(hR:∀p∈R,p∈F)(hn:(R.map (·.1)).Nodup):At V (K++R) s:=by
 refine⟨h.base,λp hp=> ?_,?_,λp hp=> ?_⟩
 ·rcases List.mem_append.mp hp with hp|hp
  ·exact h.get p hp
  ·exact(hF p (hR p hp)).1
 ·rw[List.map_append,List.nodup_append]
  refine⟨h.nodup,hn,λa ha b hb e=> ?_⟩
  obtain⟨q,hq,rfl⟩:=List.mem_map.mp hb
  exact(hF q (hR q hq)).2.1 (e▸ha)
 ·rcases List.mem_append.mp hp with hp|hp
  ·exact h.ok p hp
  ·exact(hF p (hR p hp)).2.2
theorem am.freeze{V:Gw}{K K' R:KL}{s s':Shared}(h:am V ((K++R).map (·.1)) s (K'++R) s')(h0:At V (K++R) s):am V (K.map (·.1)) s K' s':=by
 refine⟨⟨h.at'.base,λp hp=>h.at'.get p (List.mem_append_left _ hp),?_,λp hp=>h.at'.ok p (List.mem_append_left _ hp)⟩,λb o e hb=> ?_,h.grow⟩
 ·have:=h.at'.nodup
  rw[List.map_append,List.nodup_append] at this
  exact this.1
 ·by_cases hm:b∈R.map (·.1)
  ·obtain⟨q,hq,rfl⟩:=List.mem_map.mp hm
   have e1:=h0.get q (List.mem_append_right _ hq)
   rw[e] at e1
   cases e1
   exact h.at'.get q (List.mem_append_right _ hq)
  ·refine h.pres b o e λhx=> ?_
   rw[List.map_append] at hx
   exact(List.mem_append.mp hx).elim hb hm
theorem Fz.after{V:Gw}{F K K':KL}{s s':Shared}(hF:Fz V F K s)(hE:am V (K.map (·.1)) s K' s')(hk:K'.map (·.1)=K.map (·.1)):Fz V F K' s':=
 λp hp=>⟨hE.pres _ _ (hF p hp).1 (hF p hp).2.1,by rw[hk];exact(hF p hp).2.1,(hF p hp).2.2⟩
theorem j4(first:Bool)(nm:Array Nat)(κ κ':Nat)(v w:Value)(rest:List Value)(k:Nat):
  cf (bk first nm κ v) nm (w::rest) (match rest with|[]=>κ'|_::_=>k)=cf [(nm,κ',w)] nm rest k:=by
 unfold cf
 rw[List.getLast?_cons]
 cases rest with
 |nil=>rfl
 |cons a r=>
  rw[List.getLast?_cons];rfl
noncomputable def cG(x:WS):List Addr:=[x.self,x.d,x.tn,x.tc]
theorem WS.K_fst(x:WS)(P:Params):(x.K P).map (·.1)=cG x:=by unfold WS.K cG;rfl
noncomputable def ag(ws:List WS):List Value:=ws.map λx=> .ref x.self
noncomputable def dy(y x:WS):Bool:=if x.self=y.self then false else dJ x y
noncomputable def cy(P:Params)(ws:List WS):KL:=ws.flatMap (·.K P)
structure cg(ws:List WS):Prop where
 ok:∀x∈ws,x.Ok
 nodup:(ws.flatMap cG).Nodup
theorem cg.same{ws:List WS}(h:cg ws):∀{x y:WS},x∈ws→y∈ws→x.self=y.self→x=y:=by
 have hn:=h.nodup
 clear h
 induction ws with
 |nil=>intro x y hx;cases hx
 |cons z ws ih=>
  rw[List.flatMap_cons,List.nodup_append] at hn
  obtain⟨_,h2,h3⟩:=hn
  have key:∀q∈ws,q.self≠z.self:=λq hq e=>h3 z.self (by simp[cG]) q.self (List.mem_flatMap.mpr ⟨q,hq,by simp[cG]⟩) e.symm
  intro x y hx hy e
  rcases e6 hx with rfl|hx'
  ·rcases e6 hy with rfl|hy'
   ·rfl
   ·exact absurd e.symm (key y hy')
  ·rcases e6 hy with rfl|hy'
   ·exact absurd e (key x hx')
   ·exact ih h2 hx' hy' e
theorem cg.pair{ws:List WS}(h:cg ws):∀{x y:WS},x∈ws→y∈ws→x.self≠y.self→(cG x++cG y).Nodup:=by
 have hn:=h.nodup
 clear h
 induction ws with
 |nil=>intro x y hx;cases hx
 |cons z ws ih=>
  rw[List.flatMap_cons,List.nodup_append] at hn
  obtain⟨h1,h2,h3⟩:=hn
  have one:∀q∈ws,(cG q).Nodup:=λq hq=>by
   clear ih h1 h3
   induction ws with
   |nil=>cases hq
   |cons w ws ih=>
    rw[List.flatMap_cons,List.nodup_append] at h2
    rcases e6 hq with rfl|hq
    ·exact h2.1
    ·exact ih h2.2.1 hq
  intro x y hx hy e
  rcases e6 hx with rfl|hx'
  ·rcases e6 hy with rfl|hy'
   ·exact absurd rfl e
   ·rw[List.nodup_append]
    exact⟨h1,one y hy',λa ha b hb=>h3 a ha b (List.mem_flatMap.mpr ⟨y,hy',hb⟩)⟩
  ·rcases e6 hy with rfl|hy'
   ·rw[List.nodup_append]
    exact⟨one x hx',h1,λa ha b hb e=>h3 b hb a (List.mem_flatMap.mpr ⟨x,hx',ha⟩) e.symm⟩
   ·exact ih h2 hx' hy' e
theorem cg.one{ws:List WS}(h:cg ws){y:WS}(hy:y∈ws):(cG y).Nodup:=by
 have hn:=h.nodup
 clear h
 induction ws with
 |nil=>cases hy
 |cons w ws ih=>
  rw[List.flatMap_cons,List.nodup_append] at hn
  rcases e6 hy with rfl|hy
  ·exact hn.1
  ·exact ih hy hn.2.1
theorem fk{P:Params}{ws:List WS}{x:WS}(hx:x∈ws):∀p∈x.K P,p∈cy P ws:=λp hp=>List.mem_flatMap.mpr ⟨x,hx,hp⟩
theorem u1{V:Gw}(G:au V){fr C1 C cO cL I acc l ep:Nat}{ws:List WS}(hL:cg ws){y:WS}(hy:y∈ws)(hs:aw ws.length):∀(rest pre:List WS) (first:Bool) (κ:Nat) (v:Value) (eq:Nat) (A:Around) (s:Shared),ws=pre++rest→Bd 4 A→
  At V (q9 V.w.params C I l acc cO (bk first cJ κ v) pre.length (ag ws) ep (pre.map λx=> .bool (dy y x)) eq y) s→Fz V (cy V.w.params ws) (q9 V.w.params C I l acc cO (bk first cJ κ v) pre.length (ag ws) ep (pre.map λx=> .bool (dy y x)) eq y) s→
  codeAny (model V.prog V.w) A (wt V.w.params fr C1 C cO cL I acc) (λr s'=>r= .ok .next∧∃κ',am V [C,I,l,acc,cO] s (uz V.w.params C I l acc cO (cf (bk first cJ κ v) cJ (ag rest) κ') ws.length (ag ws) ep (ws.map λx=> .bool (dy y x)) (eq+rest.length) y) s') s:=by
 intro rest
 induction rest with
 |nil=>
  intro pre first κ v eq A s hv hA hs1 hF
  rw[List.append_nil] at hv
  subst hv
  refine bc G (a6 (FM V.w.params (aC V) s.heap.objs.size s.toks fr C1 C cO cL I acc l (bk first cJ κ v) ws.length (ag ws) ep (ws.map λx=> .bool (dy y x)) eq y) (aB V)) hA hs1 ?_
  exact ae (bq (L:=0) (by simp[ag])) rfl rfl rfl λρ O O=>aO rfl λs' hs'=>⟨rfl,0,hs'⟩
 |cons x rest ih=>
  intro pre first κ v eq A s hv hA hs1 hF
  have hx:x∈ws:=by rw[hv];simp
  have hget:(ag ws)[pre.length]?=some (.ref x.self):=by rw[hv];simp[ag]
  have hv':ws=(pre++[x])++rest:=by rw[hv];simp
  have hlen:(pre++[x]).length=pre.length+1:=by simp
  have hpl:pre.length≤ws.length:=by rw[hv];simp
  have hsm:aw (pre.map λx=>Value.bool (dy y x)).length:=by rw[List.length_map];exact Nat.le_trans hpl hs
  have fin:∀β,dy y x=β→∀κ1 s',am V ([C,I,l,acc,cO]) s (q9 V.w.params C I l acc cO [(cJ,κ1,.ref x.self)] (pre.length+1) (ag ws) ep ((pre.map λx=> .bool (dy y x))++[.bool β]) (eq+1) y) s'→
    codeAny (model V.prog V.w) A (wt V.w.params fr C1 C cO cL I acc) (λr s'=>r= .ok .next∧∃κ',am V [C,I,l,acc,cO] s (uz V.w.params C I l acc cO (cf (bk first cJ κ v) cJ (ag (x::rest)) κ') ws.length (ag ws) ep (ws.map λx=> .bool (dy y x)) (eq+(x::rest).length) y) s') s':=λβ hβ κ1 s' hE=>by
   subst hβ
   have hm:(pre.map λx=>Value.bool (dy y x))++[.bool (dy y x)]=(pre++[x]).map λx=> .bool (dy y x):=by simp
   rw[hm,←hlen] at hE
   refine codeAny_mono (ih (pre++[x]) false κ1 (.ref x.self) (eq+1) A s' hv' hA hE.at' (hF.after hE rfl)) ?_
   rintro r s'' ⟨hr,κ',hE'⟩
   refine⟨hr,(match ag rest with|[]=>κ1|_::_=>κ'),?_⟩
   have:=hE.trans hE' (λb hb=> .inl hb)
   rw[show ag (x::rest)= .ref x.self::ag rest from rfl,j4]
   rw[show eq+1+rest.length=eq+(x::rest).length by simp;lia] at this
   exact this
  by_cases e:x.self=y.self
  ·obtain rfl:=hL.same hx hy e
   have hT:=hs1.thaw hF (fk hx) (by rw[WS.K_fst];exact hL.one hx)
   refine bc G (ad (I2 V.w.params (aC V) s.heap.objs.size s.toks fr C1 C cO cL I acc l κ v pre.length (ag ws) ep (pre.map λq=> .bool (dy x q)) eq x) first (aB V)) hA hT ?_
   refine ae (aJ (L:=0) hget) rfl rfl rfl λρ O O=>ae (l:=2) (l3 G) rfl rfl rfl λρ' O O=>ae (l:=0) (aM hsm) rfl rfl rfl λρ'' O O=>aE rfl λs' hs'=>⟨rfl,?_⟩
   exact fin false (by unfold dy;rw[if_pos rfl]) _ s' (hs'.freeze hT)
  ·have hT:=hs1.thaw hF (R:=x.K V.w.params++y.K V.w.params) (λp hp=>(List.mem_append.mp hp).elim (fk hx p) (fk hy p)) (by rw[List.map_append,WS.K_fst,WS.K_fst];exact hL.pair hx hy e)
   refine bc G (ad (I0 V.w.params (aC V) s.heap.objs.size s.toks fr C1 C cO cL I acc l κ v pre.length (ag ws) ep (pre.map λq=> .bool (dy y q)) eq x y (dJ x y)) first (aB V)) hA hT ?_
   refine ae (aJ (L:=0) hget) rfl rfl rfl λρ O O=>ae (l:=3) (vP G (hL.ok x hx) (hL.ok y hy)) rfl rfl rfl λρ' O O=>ae (l:=0) (aM hsm) rfl rfl rfl λρ'' O O=>aE rfl λs' hs'=>⟨rfl,?_⟩
   exact fin (dJ x y) (by unfold dy;rw[if_neg e]) _ s' (hs'.freeze hT)
noncomputable def xF(P:Params)(fr C1 C cO cL I acc l ep:Nat)(ws:List WS)(bs:List Value)(y:WS)(w:Value)(js:List Nat):aD:=
 ⟨AS P fr C1 C cO cL I acc,js,q9 P C I l acc cO [] 0 (ag ws) ep [] 0 y,λO=> .ok .next,λρ=>(uz P C I l acc cO [(cJ,ρ 2,w)] ws.length (ag ws) ep bs ws.length y).map (·.2),λO=>[]⟩
noncomputable def Af(P:Params)(fr C1 cO cL I acc:Addr):Code:= .compLoop (nJ P) 0 (.ref I) (.ref acc) (uF P fr C1 cO cL)
noncomputable def AT(P:Params)(fr C1 cO cL I acc:Addr):Code:= .compStart (nJ P) 0 (.ref I) (.ref acc) (uF P fr C1 cO cL)
noncomputable def wj(P:Params)(C1 I1 l acc1 cO cL:Addr)(cv:Option Value)(j:Nat)(ws:List WS)(ep:Nat)(rs:List Value)(eq:Nat):KL:=
 [(C1,bn P []),(I1,aj l j),(l,aa (ag ws) ep),(acc1,aa rs eq),(cO,{cls:= .type "cell",data:= .cell cv}),(cL,cm (.ref l))]
noncomputable def IJ(P:Params)(b1 b2:Bool)(n t fr C1 I1 l acc1 cO cL:Nat)(cv:Option Value)(j:Nat)(ws:List WS)(ep:Nat)(rs:List Value)(eq:Nat)(y:WS)(bs:List Value)(w:Value):bu:=
 ap P b1 b2 (Af P fr C1 cO cL I1 acc1) (wj P C1 I1 l acc1 cO cL cv j ws ep rs eq) n t
 (.hook [2] 0 (a8 I1 l j (ag ws) ep (.ref y.self) [1,2]) λρ=> .hook [5,5,6,3,3,0,3,7] 3 (xF P fr C1 (ρ 0+2) cO cL (ρ 0) (ρ 0+1) l ep ws bs y w [8,6,2,7,4]) λρ'=> .hook [9,9,9] 0 (a5 acc1 rs eq (.ref (ρ 0+1)) [3]) λρ''=>
 .again [] (Af P fr C1 cO cL I1 acc1) [0,1,2,3,4,5,7] (wj P C1 I1 l acc1 cO cL (some (.ref y.self)) (j+1) ws ep (rs++[.ref (ρ 0+1)]) (eq+1)++[(ρ 0+1,aa bs ws.length)]))
noncomputable def p7(P:Params)(C1 I1 l acc1 cO cL:Addr)(cv:Option Value)(j:Nat)(ws:List WS)(ep:Nat)(rs:List Value)(eq:Nat):KL:=
 [(C1,bn P []),(I1,ba j),(l,aa (ag ws) ep),(acc1,aa rs eq),(cO,{cls:= .type "cell",data:= .cell cv}),(cL,cm (.ref l))]
theorem Gm(P:Params)(n t fr C1 I1 l acc1 cO cL:Nat)(cv:Option Value)(ws:List WS)(ep:Nat):Qk 100 λr=>ay λb1 b2=>r ( ap P b1 b2 (AT P fr C1 cO cL I1 acc1) (wj P C1 I1 l acc1 cO cL cv 0 ws ep [] 0) n t (.again (match b1 with|true=>[]|false=>[2,2,0,2,2]) (Af P fr C1 cO cL I1 acc1) [0,1,2,3,4,5] (wj P C1 I1 l acc1 cO cL cv 0 ws ep [] 0))):=by unfold Qk;kernel_rfl!
theorem Gl(P:Params)(b1:Bool)(n t fr C1 I1 l acc1 cO cL:Nat)(cv:Option Value)(j:Nat)(ws:List WS)(ep:Nat)(rs:List Value)(eq:Nat):Qk 100 λr=>fT λb2=>r ( ap P b1 b2 (Af P fr C1 cO cL I1 acc1) (wj P C1 I1 l acc1 cO cL cv j ws ep rs eq) n t (.hook [2] 0 (cn I1 l j (ag ws) ep [1,2]) λρ=> .fin [8] (.ok .next) [0,1,2,3,4,5] (p7 P C1 I1 l acc1 cO cL cv j ws ep rs eq))):=by unfold Qk;kernel_rfl!
theorem I3(P n t fr C1 I1 l acc1 cO cL cv j ws ep rs eq y bs w):Qk 200 λr=>ay λb1 b2=>r (IJ P b1 b2 n t fr C1 I1 l acc1 cO cL cv j ws ep rs eq y bs w):=by unfold Qk;kernel_rfl!
theorem Fz.sub{V:Gw}{F F' K:KL}{s:Shared}(h:Fz V F K s)(hs:∀p∈F',p∈F):Fz V F' K s:=λp hp=>h p (hs p hp)
theorem Fz.take{V:Gw}{F K R:KL}{s:Shared}(h:At V (K++R) s)(hF:Fz V F (K++R) s):Fz V (F++R) K s:=λp hp=>by
 rcases List.mem_append.mp hp with hp|hp
 ·exact⟨(hF p hp).1,λhm=>(hF p hp).2.1 (by rw[List.map_append];exact List.mem_append_left _ hm),(hF p hp).2.2⟩
 ·refine⟨h.get p (List.mem_append_right _ hp),λhm=> ?_,h.ok p (List.mem_append_right _ hp)⟩
  have:=h.nodup
  rw[List.map_append,List.nodup_append] at this
  exact this.2.2 p.1 hm p.1 (List.mem_map_of_mem hp) rfl
theorem am.keep{V:Gw}{W:List Addr}{K R:KL}{s s':Shared}(h:am V W s (K++R) s'):am V W s K s':=by
 refine⟨⟨h.at'.base,λp hp=>h.at'.get p (List.mem_append_left _ hp),?_,λp hp=>h.at'.ok p (List.mem_append_left _ hp)⟩,h.pres,h.grow⟩
 have:=h.at'.nodup
 rw[List.map_append,List.nodup_append] at this
 exact this.1
theorem aV{V:Gw}{Q:PySem.Fin→Shared→Prop}{E:Value→Shared→Prop}{L:Nat}{W:List Addr}{s₀:Shared}{F os m H rest}{P:br→Prop}{l:Nat}(hH:aQ V l H F P (λO=>[]))(hl:Nat.blt l L=true)(hj:dS H.js=true)(hlen:H.js.length=H.K.length)
  (h:∀ρ,P ρ→s₀.heap.objs.size≤ρ 0→dB V Q E L W s₀ F (rest ρ)):dB V Q E L W s₀ F (.hook os m H rest):=
 dD hH hl hj hlen λρ hP hn=>by rw[List.append_nil];exact h ρ hP hn
noncomputable def jd(ws:List WS)(y:WS):List Value:=ws.map λx=> .bool (dy y x)
theorem y9{V:Gw}(G:au V){fr C1 C cO cL I acc l ep:Nat}{ws:List WS}(hL:cg ws){y:WS}(hy:y∈ws)(hs:aw ws.length){w:Value}(hw:(ag ws).getLast?=some w){js:List Nat}{F:KL}(hF:∀p∈cy V.w.params ws,p∈F):
  aQ V 4 (xF V.w.params fr C1 C cO cL I acc l ep ws (jd ws y) y w js) F (λO=>True) (λO=>[]):=by
 intro A s hA hs1 hf
 refine aR G hf (ad (FN V.w.params s.heap.objs.size s.toks fr C1 C cO cL I acc l (ag ws) ep y) (aC V) (aB V)) hA hs1 (ax rfl λs' hs' hf'=>⟨rfl,?_⟩)
 refine codeAny_mono (u1 G hL hy hs ws [] true 0 .none 0 A s' rfl hA hs'.at' (hf'.sub hF)) ?_
 rintro r s'' ⟨hr,κ',hE⟩
 have e:cf (bk true cJ 0 .none) cJ (ag ws) κ'=[(cJ,κ',w)]:=by unfold cf;rw[hw]
 rw[e,Nat.zero_add] at hE
 have hE':=hs'.trans hE (λb hb=> .inl hb)
 exact⟨a7 _ _ (λO=>κ'),hr,aW (H:=xF V.w.params fr C1 C cO cL I acc l ep ws (jd ws y) y w js) hE' (λO=>κ') rfl rfl (λO hp=>nomatch hp),trivial,λO hp=>nomatch hp⟩
noncomputable def gb(ws pre:List WS)(as:List Addr):KL:=(pre.zip as).map λp=>(p.2,aa (jd ws p.1) ws.length)
theorem oq(ws pre:List WS)(as:List Addr)(y:WS)(a:Addr)(h:pre.length=as.length):gb ws (pre++[y]) (as++[a])=gb ws pre as++[(a,aa (jd ws y) ws.length)]:=by
 unfold gb
 rw[List.zip_append h];simp
noncomputable def bY(as:List Addr):List Value:=as.map .ref
noncomputable def oO(cv:Option Value):List WS→Option Value
 |[]=>cv
 |y::r=>oO (some (.ref y.self)) r
theorem u9{V:Gw}(G:au V)(n0:Nat){fr C1 cO cL I1 acc1 l ep:Nat}{ws:List WS}(hL:cg ws)(hs:aw ws.length){w:Value}(hw:(ag ws).getLast?=some w):∀(rest pre:List WS) (as:List Addr) (cv:Option Value) (eq:Nat) (A:Around) (s:Shared),ws=pre++rest→pre.length=as.length→(∀a∈as,n0≤a)→n0≤s.heap.objs.size→Bd 5 A→
  At V (wj V.w.params C1 I1 l acc1 cO cL cv pre.length ws ep (bY as) eq) s→Fz V (cy V.w.params ws++gb ws pre as) (wj V.w.params C1 I1 l acc1 cO cL cv pre.length ws ep (bY as) eq) s→
  codeAny (model V.prog V.w) A (Af V.w.params fr C1 cO cL I1 acc1) (λr s'=>r= .ok .next∧∃as',as'.length=ws.length∧(∀a∈as',n0≤a)∧am V [C1,I1,l,acc1,cO,cL] s (p7 V.w.params C1 I1 l acc1 cO cL (oO cv rest) ws.length ws ep (bY as') (eq+rest.length)) s'∧
   Fz V (cy V.w.params ws++gb ws ws as') (p7 V.w.params C1 I1 l acc1 cO cL (oO cv rest) ws.length ws ep (bY as') (eq+rest.length)) s') s:=by
 intro rest
 induction rest with
 |nil=>
  intro pre as cv eq A s hv hl hn hn0 hA hs1 hF
  rw[List.append_nil] at hv
  subst hv
  refine aR G hF (a6 (Gl V.w.params (aC V) s.heap.objs.size s.toks fr C1 I1 l acc1 cO cL cv ws.length ws ep (bY as) eq) (aB V)) hA hs1 ?_
  exact ac (bq (L:=0) (by simp[ag])) rfl rfl rfl λρ O O=>an rfl λs' hs' hf'=>⟨rfl,as,hl.symm,hn,hs',hf'⟩
 |cons y rest ih=>
  intro pre as cv eq A s hv hl hn hn0 hA hs1 hF
  have hy:y∈ws:=by rw[hv];simp
  have hget:(ag ws)[pre.length]?=some (.ref y.self):=by rw[hv];simp[ag]
  have hv':ws=(pre++[y])++rest:=by rw[hv];simp
  have hlen:(pre++[y]).length=pre.length+1:=by simp
  have hpl:pre.length≤ws.length:=by rw[hv];simp
  have hsm:aw (bY as).length:=by rw[bY,List.length_map,←hl];exact Nat.le_trans hpl hs
  refine aR G hF (ad (I3 V.w.params s.heap.objs.size s.toks fr C1 I1 l acc1 cO cL cv pre.length ws ep (bY as) eq y (jd ws y) w) (aC V) (aB V)) hA hs1 ?_
  refine ac (aJ (L:=0) hget) rfl rfl rfl λρ O hρ=>aV (l:=4) (y9 G hL hy hs hw (λp hp=>List.mem_append_left _ hp)) rfl rfl rfl λρ' O O=>ac (l:=0) (aM hsm) rfl rfl rfl λρ'' O O=>ax rfl λs' hs' hf'=>⟨rfl,?_⟩
  have hT:=hf'.take hs'.at'
  rw[List.append_assoc,←oq _ _ _ _ _ hl] at hT
  have e1:bY as++[.ref (ρ 0+1)]=bY (as++[ρ 0+1]):=by simp[bY]
  have hk:=hs'.keep
  rw[e1,←hlen] at hk hT
  refine codeAny_mono (ih (pre++[y]) (as++[ρ 0+1]) (some (.ref y.self)) (eq+1) A s' hv' (by simp[hl]) (λa ha=>(List.mem_append.mp ha).elim (hn a) λha=>by rw[List.mem_singleton.mp ha];exact Nat.le_trans hn0 (Nat.le_succ_of_le hρ)) (Nat.le_trans hn0 hs'.grow) hA hk.at' hT) ?_
  rintro r s'' ⟨hr,as',h1,h0,h2,h3⟩
  have e2:eq+1+rest.length=eq+(y::rest).length:=by simp;lia
  rw[e2] at h2 h3
  exact⟨hr,as',h1,h0,hk.trans h2 (λb hb=> .inl hb),h3⟩
noncomputable def xx(P:Params)(fr C1 I1 l acc1 cO cL ep:Nat)(ws:List WS)(cv:Option Value)(js:List Nat):aD:=
 ⟨AT P fr C1 cO cL I1 acc1,js,wj P C1 I1 l acc1 cO cL cv 0 ws ep [] 0,λO=> .ok .next,λρ=>(p7 P C1 I1 l acc1 cO cL (oO cv ws) ws.length ws ep (bY ((List.range ws.length).map λk=>ρ (k+2))) ws.length).map (·.2),λO=>[]⟩
theorem yW{V:Gw}(G:au V){fr C1 cO cL I1 acc1 l ep:Nat}{ws:List WS}(hL:cg ws)(hs:aw ws.length){w:Value}(hw:(ag ws).getLast?=some w){cv:Option Value}{js:List Nat}{F:KL}(hF:∀p∈cy V.w.params ws,p∈F):
  aQ V 5 (xx V.w.params fr C1 I1 l acc1 cO cL ep ws cv js) F (λO=>True) (λρ=>gb ws ws ((List.range ws.length).map λk=>ρ (k+2))):=by
 intro A s hA hs1 hf
 refine aR G hf (ad (Gm V.w.params s.heap.objs.size s.toks fr C1 I1 l acc1 cO cL cv ws ep) (aC V) (aB V)) hA hs1 (ax rfl λs' hs' hf'=>⟨rfl,?_⟩)
 refine codeAny_mono (u9 G s.heap.objs.size hL hs hw ws [] [] cv 0 A s' rfl rfl (λO h=>nomatch h) hs'.grow hA hs'.at' (by rw[show gb ws [] []=[] from rfl,List.append_nil];exact hf'.sub hF)) ?_
 rintro r s'' ⟨hr,as',h1,h0,h2,h3⟩
 rw[Nat.zero_add] at h2 h3
 have hE':=hs'.trans h2 (λb hb=> .inl hb)
 have has:(List.range ws.length).map (λk=>a7 s''.heap.objs.size s''.toks (λk=>as'.getD k 0) (k+2))=as':=by
  apply List.ext_getElem
  ·simp[h1]
  ·intro i h1' h2'
   simp only[List.getElem_map,List.getElem_range]
   show as'.getD i 0=_
   rw[List.getD_eq_getElem?_getD,List.getElem?_eq_getElem h2'];rfl
 refine⟨a7 s''.heap.objs.size s''.toks (λk=>as'.getD k 0),hr,aW (H:=xx V.w.params fr C1 I1 l acc1 cO cL ep ws cv js) hE' _ rfl ?_ (λO hp=>nomatch hp),trivial,λp hp=> ?_⟩
 ·show p7 _ _ _ _ _ _ _ _ _ _ _ _ _=List.zip _ (List.map _ (p7 _ _ _ _ _ _ _ _ _ _ _ (bY ((List.range ws.length).map (λk=>a7 s''.heap.objs.size s''.toks (λk=>as'.getD k 0) (k+2)))) _))++[]
  rw[has];rfl
 ·have hp:p∈gb ws ws ((List.range ws.length).map λk=>a7 s''.heap.objs.size s''.toks (λk=>as'.getD k 0) (k+2)):=hp
  rw[has] at hp
  obtain⟨h4,h5,h6⟩:=h3 p (List.mem_append_right _ hp)
  refine⟨h4,?_,λhm=>nomatch hm⟩
  obtain⟨q,hq,rfl⟩:=List.mem_map.mp hp
  exact h0 q.2 (List.of_mem_zip hq).2
noncomputable def eQ(sts:List Stmt)(k:Nat):List Stmt:=match sts[k]? with
 |some (.For _ _ b _ _)=>b
 |_=>[]
noncomputable def yU(sts:List Stmt)(k:Nat):List Stmt:=match sts[k]? with
 |some (.If _ b _ _)=>b
 |_=>[]
noncomputable def pP(sts:List Stmt)(k:Nat):Expr:=match sts[k]? with
 |some (.Expr (.Call _ (a::_) _ _) _)=>a
 |_=> .Constant .none 0 ⟨0,0,0,0⟩
noncomputable def gC:Expr→Expr
 | .Compare l _ _ _=>l
 |e=>e
noncomputable def oM:Array Nat:=#[108,101,102,116]
noncomputable def ci:Array Nat:=#[108,101,118,101,108,115]
noncomputable def jK:Array Nat:=#[117,110,100,101,114]
noncomputable def gh:Array Nat:=#[108,101,97,100,115]
noncomputable def bo:Array Nat:=#[112,108,97,99,101]
noncomputable def xO(P:Params)(fr cLf av cU cL:Addr):Env:=f6 (aU P 189) 189 fr [(nm oM,cLf),(nm ci,av),(nm jK,cU),(nm gh,cL)]
noncomputable def Ip(P:Params):List Stmt:=yU (eQ (aA (aU P 189)) 2) 0
noncomputable def eA(P:Params):Expr:=pP (Ip P) 0
noncomputable def DC(P:Params):Expr:=gC (fH (eA P) 0)
noncomputable def nI(P:Params)(fr cLf av cU cL cP C:Addr):Env:=compEnvC (aT (eA P)) [(nm bo,cP),(nm jK,cU),(nm oM,cLf)] C (xO P fr cLf av cU cL)
noncomputable def wV(P:Params)(fr cLf av cU cL cP C C':Addr):Env:=compEnvC (aT (DC P)) [(nm jK,cU),(nm bo,cP)] C' (nI P fr cLf av cU cL cP C)
noncomputable def wu(P:Params)(fr cLf av cU cL cP C C' I acc:Addr):Code:= .compLoop (DC P) 0 (.ref I) (.ref acc) (wV P fr cLf av cU cL cP C C')
noncomputable def AW(P:Params)(fr cLf av cU cL cP C C' I acc:Addr):Code:= .compStart (DC P) 0 (.ref I) (.ref acc) (wV P fr cLf av cU cL cP C C')
noncomputable def nA(P:Params)(C' I lf acc cP cU U:Addr)(T:aF)(io:Obj)(ls:List Value)(ep:Nat)(out:List Value)(eq:Nat)(p:Int)(pu:Nat)(us:List Value)(eU:Nat):KL:=
 [(C',bn P T),(I,io),(lf,aa ls ep),(acc,aa out eq),(cP,cm (.int p pu)),(cU,cm (.ref U)),(U,aa us eU)]
noncomputable def ED(P:Params)(b1 b2:Bool)(n t fr cLf av cU cL cP C C' I acc lf U a:Nat)(first:Bool)(κ:Nat)(v:Value)(j:Nat)(ls:List Value)(ep:Nat)(out:List Value)(eq:Nat)(p:Int)(pu:Nat)(us:List Value)(eU:Nat)(row:List Value)(er:Nat)(q:Int)(qu:Nat):bu:=
 ap P b1 b2 (wu P fr cLf av cU cL cP C C' I acc) (nA P C' I lf acc cP cU U (bk first cJ κ v) (aj lf j) ls ep out eq p pu us eU++[(a,aa row er)]) n t
 (.hook [2] 0 (a8 I lf j ls ep (.int q qu) [1,2]) λρ=> .hook [1,1,6,5,7,7,7] 0 (bS U us eU p pu (.ref a) [6]) λρ'=> .hook [1,8,8,8] 0 (bS a row er q qu (.bool true) [7]) λρ'=> .hook [0,1] 0 (a5 acc out eq (.int q qu) [3]) λρ'=>
 .again [] (wu P fr cLf av cU cL cP C C' I acc) [0,1,2,3,4,5,6,7] (nA P C' I lf acc cP cU U [(cJ,ao first κ (ρ 1),.int q qu)] (aj lf (j+1)) ls ep (out++[.int q qu]) (eq+1) p pu us eU++[(a,aa row er)]))
noncomputable def EE(P:Params)(b1 b2:Bool)(n t fr cLf av cU cL cP C C' I acc lf U a:Nat)(first:Bool)(κ:Nat)(v:Value)(j:Nat)(ls:List Value)(ep:Nat)(out:List Value)(eq:Nat)(p:Int)(pu:Nat)(us:List Value)(eU:Nat)(row:List Value)(er:Nat)(q:Int)(qu:Nat):bu:=
 ap P b1 b2 (wu P fr cLf av cU cL cP C C' I acc) (nA P C' I lf acc cP cU U (bk first cJ κ v) (aj lf j) ls ep out eq p pu us eU++[(a,aa row er)]) n t
 (.hook [2] 0 (a8 I lf j ls ep (.int q qu) [1,2]) λρ=> .hook [1,1,6,5,7,7,7] 0 (bS U us eU p pu (.ref a) [6]) λρ'=> .hook [1,8,8,8] 0 (bS a row er q qu (.bool false) [7]) λρ'=>
 .again [0] (wu P fr cLf av cU cL cP C C' I acc) [0,1,2,3,4,5,6,7] (nA P C' I lf acc cP cU U [(cJ,ao first κ (ρ 1),.int q qu)] (aj lf (j+1)) ls ep out eq p pu us eU++[(a,aa row er)]))
theorem GC(P:Params)(n t fr cLf av cU cL cP C C' I acc lf U:Nat)(ls:List Value)(ep:Nat)(p:Int)(pu:Nat)(us:List Value)(eU:Nat):Qk 100 λr=>ay λb1 b2=>r ( ap P b1 b2 (AW P fr cLf av cU cL cP C C' I acc) (nA P C' I lf acc cP cU U [] (aj lf 0) ls ep [] 0 p pu us eU) n t
 (.again (match b1 with|true=>[]|false=>[2,2,0,2,2]) (wu P fr cLf av cU cL cP C C' I acc) [0,1,2,3,4,5,6] (nA P C' I lf acc cP cU U [] (aj lf 0) ls ep [] 0 p pu us eU))):=by unfold Qk;kernel_rfl!
theorem GB(P:Params)(b1:Bool)(n t fr cLf av cU cL cP C C' I acc lf U:Nat)(T:aF)(j:Nat)(ls:List Value)(ep:Nat)(out:List Value)(eq:Nat)(p:Int)(pu:Nat)(us:List Value)(eU:Nat):Qk 100 λr=>fT λb2=>r ( ap P b1 b2 (wu P fr cLf av cU cL cP C C' I acc) (nA P C' I lf acc cP cU U T (aj lf j) ls ep out eq p pu us eU) n t
 (.hook [2] 0 (cn I lf j ls ep [1,2]) λρ=> .fin [9] (.ok .next) [0,1,2,3,4,5,6] (nA P C' I lf acc cP cU U T (ba j) ls ep out eq p pu us eU))):=by unfold Qk;kernel_rfl!
theorem Gz(P b1 n t fr cLf av cU cL cP C C' I acc lf U a κ v j ls ep out eq p pu us eU row er q qu):Qk 200 λr=>ay λfirst b2=>r (ED P b1 b2 n t fr cLf av cU cL cP C C' I acc lf U a first κ v j ls ep out eq p pu us eU row er q qu):=by unfold Qk;kernel_rfl!
theorem GA(P b1 n t fr cLf av cU cL cP C C' I acc lf U a κ v j ls ep out eq p pu us eU row er q qu):Qk 200 λr=>ay λfirst b2=>r (EE P b1 b2 n t fr cLf av cU cL cP C C' I acc lf U a first κ v j ls ep out eq p pu us eU row er q qu):=by unfold Qk;kernel_rfl!
noncomputable def rj(rest:List Value)(a b:Nat):Nat:=match rest with
 |[]=>a
 |_::_=>b
theorem gq(first:Bool)(nm:Array Nat)(κ κ':Nat)(v w:Value)(rest:List Value)(k:Nat):cf (bk first nm κ v) nm (w::rest) (rj rest κ' k)=cf [(nm,κ',w)] nm rest k:=j4 ..
noncomputable def fB(B:Int→Bool):Value→Bool
 | .int q _=>B q
 |_=>false
theorem vG{V:Gw}(G:au V){fr cLf av cU cL cP C C' I acc lf U a ep pu eU er:Nat}{ls us row:List Value}{p:Int}{F:KL}(hp:0≤p)(hU:us[p.toNat]?=some (.ref a))(hus:aw us.length)(hrs:aw row.length)(B:Int→Bool)(ha:(a,aa row er)∈F):
  ∀(rest:List Value) (ns:List Int) (pre:List Value) (first:Bool) (κ:Nat) (v:Value) (out:List Value) (eq:Nat) (A:Around) (s:Shared),ls=pre++rest→aI rest ns→(∀q∈ns,0≤q∧row[q.toNat]?=some (.bool (B q)))→aw (out.length+rest.length)→Bd 1 A→
  At V (nA V.w.params C' I lf acc cP cU U (bk first cJ κ v) (aj lf pre.length) ls ep out eq p pu us eU) s→Fz V F (nA V.w.params C' I lf acc cP cU U (bk first cJ κ v) (aj lf pre.length) ls ep out eq p pu us eU) s→
  codeAny (model V.prog V.w) A (wu V.w.params fr cLf av cU cL cP C C' I acc) (λr s'=>r= .ok .next∧∃κ',am V [C',I,lf,acc,cP,cU,U] s (nA V.w.params C' I lf acc cP cU U (cf (bk first cJ κ v) cJ rest κ') (ba ls.length) ls ep (out++rest.filter (fB B)) (eq+(rest.filter (fB B)).length) p pu us eU) s') s:=by
 intro rest
 induction rest with
 |nil=>
  intro ns pre first κ v out eq A s hv hi hr hsm hA hs1 hF
  rw[List.append_nil] at hv
  subst hv
  refine bc G (a6 (GB V.w.params (aC V) s.heap.objs.size s.toks fr cLf av cU cL cP C C' I acc lf U (bk first cJ κ v) ls.length ls ep out eq p pu us eU) (aB V)) hA hs1 ?_
  refine ae (bq (L:=0) (by simp)) rfl rfl rfl λρ O O=>aO rfl λs' hs'=>⟨rfl,0,?_⟩
  rw[List.filter_nil,List.append_nil]
  exact hs'
 |cons v₁ rest ih=>
  intro ns pre first κ v out eq A s hv hi hr hsm hA hs1 hF
  cases hi with
  | @cons q qu _ m hi=>
  have hget:ls[pre.length]?=some (.int q qu):=by rw[hv];simp
  have hv':ls=(pre++[.int q qu])++rest:=by rw[hv];simp
  have hlen:(pre++[Value.int q qu]).length=pre.length+1:=by simp
  obtain⟨hq0,hq⟩:=hr q (.head _)
  have hr':∀q∈m,0≤q∧row[q.toNat]?=some (.bool (B q)):=λq hq=>hr q (.tail _ hq)
  have hT:=hs1.thaw hF (R:=[(a,aa row er)]) (λp hp=>by rw[List.mem_singleton.mp hp];exact ha) (by simp)
  have fin:∀(o1:List Value) (e1:Nat),o1=out++[Value.int q qu].filter (fB B)→e1=eq+([Value.int q qu].filter (fB B)).length→∀κ1 s',am V [C',I,lf,acc,cP,cU,U] s (nA V.w.params C' I lf acc cP cU U [(cJ,κ1,.int q qu)] (aj lf (pre.length+1)) ls ep o1 e1 p pu us eU) s'→
    codeAny (model V.prog V.w) A (wu V.w.params fr cLf av cU cL cP C C' I acc) (λr s'=>r= .ok .next∧∃κ',am V [C',I,lf,acc,cP,cU,U] s (nA V.w.params C' I lf acc cP cU U (cf (bk first cJ κ v) cJ (.int q qu::rest) κ') (ba ls.length) ls ep (out++(.int q qu::rest).filter (fB B)) (eq+((Value.int q qu::rest).filter (fB B)).length) p pu us eU) s') s':=λo1 e1 ho he κ1 s' hE=>by
   subst ho he
   rw[←hlen] at hE
   have hsm':aw ((out++[Value.int q qu].filter (fB B)).length+rest.length):=by
    have h1:([Value.int q qu].filter (fB B)).length≤1:=List.length_filter_le _ _
    have h2:out.length+(rest.length+1)≤1000:=hsm
    show _≤1000
    rw[List.length_append];lia
   refine codeAny_mono (ih m (pre++[Value.int q qu]) false κ1 (.int q qu) (out++[Value.int q qu].filter (fB B)) (eq+([Value.int q qu].filter (fB B)).length) A s' hv' hi hr' hsm' hA hE.at' (hF.after hE rfl)) ?_
   rintro r s'' ⟨hr,κ',hE'⟩
   refine⟨hr,rj rest κ1 κ',?_⟩
   have:=hE.trans hE' (λb hb=> .inl hb)
   rw[gq]
   have e1:out++[Value.int q qu].filter (fB B)++rest.filter (fB B)=out++(Value.int q qu::rest).filter (fB B):=by
    rw[List.append_assoc,←List.filter_append];rfl
   have e2:eq+([Value.int q qu].filter (fB B)).length+(rest.filter (fB B)).length=eq+((Value.int q qu::rest).filter (fB B)).length:=by
    rw[Nat.add_assoc,←List.length_append,←List.filter_append];rfl
   rw[e1,e2] at this
   exact this
  cases hb:B q with
  |true=>
   have hout:aw out.length:=Nat.le_trans (Nat.le_add_right _ _) hsm
   rw[hb] at hq
   refine bc G (ad (Gz V.w.params (aC V) s.heap.objs.size s.toks fr cLf av cU cL cP C C' I acc lf U a κ v pre.length ls ep out eq p pu us eU row er q qu) first (aB V)) hA hT ?_
   refine ae (aJ (L:=0) hget) rfl rfl rfl λρ O O=>ae (bG (L:=0) hp hU hus) rfl rfl rfl λρ' O O=>ae (bG (L:=0) hq0 hq hrs) rfl rfl rfl λρ'' O O=>ae (aM (L:=0) hout) rfl rfl rfl λρ3 O O=>aE rfl λs' hs'=>⟨rfl,?_⟩
   exact fin _ _ (by simp[fB,hb]) (by simp[fB,hb]) _ s' (hs'.freeze hT)
  |false=>
   rw[hb] at hq
   refine bc G (ad (GA V.w.params (aC V) s.heap.objs.size s.toks fr cLf av cU cL cP C C' I acc lf U a κ v pre.length ls ep out eq p pu us eU row er q qu) first (aB V)) hA hT ?_
   refine ae (aJ (L:=0) hget) rfl rfl rfl λρ O O=>ae (bG (L:=0) hp hU hus) rfl rfl rfl λρ' O O=>ae (bG (L:=0) hq0 hq hrs) rfl rfl rfl λρ'' O O=>aE rfl λs' hs'=>⟨rfl,?_⟩
   exact fin _ _ (by simp[fB,hb]) (by simp[fB,hb]) _ s' (hs'.freeze hT)
noncomputable def Dw(P:Params)(fr cLf av cU cL cP C C' I acc lf U:Nat)(ls:List Value)(ep:Nat)(p:Int)(pu:Nat)(us:List Value)(eU:Nat)(out:List Value)(w:Value)(js:List Nat):aD:=
 ⟨AW P fr cLf av cU cL cP C C' I acc,js,nA P C' I lf acc cP cU U [] (aj lf 0) ls ep [] 0 p pu us eU,λO=> .ok .next,λρ=>(nA P C' I lf acc cP cU U [(cJ,ρ 2,w)] (ba ls.length) ls ep out out.length p pu us eU).map (·.2),λO=>[]⟩
theorem Ca{V:Gw}(G:au V){fr cLf av cU cL cP C C' I acc lf U a ep pu eU er:Nat}{ls us row:List Value}{ns:List Int}{p:Int}{F:KL}(hp:0≤p)(hU:us[p.toNat]?=some (.ref a))(hus:aw us.length)(hrs:aw row.length)(B:Int→Bool)(ha:(a,aa row er)∈F)
  (hi:aI ls ns) (hr:∀q∈ns,0≤q∧row[q.toNat]?=some (.bool (B q))) (hsm:aw ls.length) {w:Value} (hw:ls.getLast?=some w) {js:List Nat}:
  aQ V 2 (Dw V.w.params fr cLf av cU cL cP C C' I acc lf U ls ep p pu us eU (ls.filter (fB B)) w js) F (λO=>True) (λO=>[]):=by
 intro A s hA hs1 hf
 refine aR G hf (ad (GC V.w.params s.heap.objs.size s.toks fr cLf av cU cL cP C C' I acc lf U ls ep p pu us eU) (aC V) (aB V)) hA hs1 (ax rfl λs' hs' hf'=>⟨rfl,?_⟩)
 refine codeAny_mono (vG G hp hU hus hrs B ha ls ns [] true 0 .none [] 0 A s' rfl hi hr (by simpa using hsm) (hA.weak (by decide)) hs'.at' hf') ?_
 rintro r s'' ⟨hr,κ',hE⟩
 have e:cf (bk true cJ 0 .none) cJ ls κ'=[(cJ,κ',w)]:=by unfold cf;rw[hw]
 rw[e,Nat.zero_add,List.nil_append] at hE
 have hE':=hs'.trans hE (λb hb=> .inl hb)
 exact⟨a7 _ _ (λO=>κ'),hr,aW (H:=Dw V.w.params fr cLf av cU cL cP C C' I acc lf U ls ep p pu us eU (ls.filter (fB B)) w js) hE' (λO=>κ') rfl rfl (λO hp=>nomatch hp),trivial,λO hp=>nomatch hp⟩
noncomputable def bf(P:Params)(b1 b2:Bool)(tree:Sem PySem.Fin)(K:KL)(n t:Nat)(scr:fC):bu:=⟨gY P b1 b2,ck (dX P b1 b2),false,c0,tree,K,n,t,scr⟩
theorem aq{V:Gw}(G:au V){A:Around}{Q:PySem.Fin→Shared→Prop}{E:Value→Shared→Prop}{L f:Nat}{s:Shared}{tree:Sem PySem.Fin}{K F:KL}{scr:fC}(hF:Fz V F K s)
  (e:(bf V.w.params (aC V) (aB V) tree K s.heap.objs.size s.toks scr).run f=(bf V.w.params (aC V) (aB V) tree K s.heap.objs.size s.toks scr).exp) (hA:Bd L A) (h:At V K s)
  (hS:dB V Q E L (K.map (·.1)) s F scr):wpAny (model V.prog V.w) A tree Q E s:=
 xc G (bf V.w.params (aC V) (aB V) tree K s.heap.objs.size s.toks scr) (by dsimp only[bf]) (by dsimp only[bf]) (by dsimp only[bf]) (by dsimp only[bf]) (by dsimp only[bf]) (by dsimp only[bf]) (by dsimp only[bf]) (by dsimp only[bf]) (by dsimp only[bf]) e hA hF h hS
noncomputable def rB:=ZFast.zw9404975358583537561
theorem sY:pyNext=rB:=by unfold rB;exact ZFast.ze9404975358583537561
noncomputable def im:=ZFast.zw17772580674575903948
theorem ey:assign=im:=by unfold im;exact ZFast.ze17772580674575903948
noncomputable def lD:=ZFast.zw12563942051412417395
theorem iS:execs=lD:=by unfold lD;exact ZFast.ze12563942051412417395
noncomputable def uG:Option Value→Flow
 |none=> .next
 |some v=> .ret v
noncomputable def ia(it:Value):Sem PySem.Fin:=rB it>>=λo=>pure (.done (uG o))
noncomputable def lV(x:Expr)(env:Env)(v:Value):Sem PySem.Fin:=im x env v>>=λO=>pure (.done .next)
noncomputable def gQ(b:List Stmt)(env:Env):Sem PySem.Fin:=lD b env>>=λf=>pure (.done f)
theorem ip{prog:Program}{w:World}{A:Around}{α:Type}{t:Sem α}{enc:α→Flow}{Q:α→Shared→Prop}{E:Value→Shared→Prop}{s:Shared}{R:PySem.Fin→Shared→Prop}(hR:∀a s,R (.done (enc a)) s→Q a s)
  (h:wpAny (model prog w) A (t>>=λa=>pure (.done (enc a))) R E s):wpAny (model prog w) A t Q E s:=λΓ p hΓ=>by
 have z:=h Γ p hΓ
 rw[Sem.wp_bind'] at z
 exact Sem.wp_mono _ Γ _ (λv p' s' h'=>hR v s' h') (λO O O x=>x) _ _ z
theorem dM{V:Gw}{A:Around}{it:Value}{Q:Option Value→Shared→Prop}{E:Value→Shared→Prop}{s:Shared}(h:wpAny (model V.prog V.w) A (ia it) (λf s'=>match f with| .done .next=>Q none s'| .done (.ret v)=>Q (some v) s'|_=>False) E s):wpAny (model V.prog V.w) A (pyNext it) Q E s:=by
 rw[sY]
 refine ip (enc:=uG) (R:=λf s'=>match f with| .done .next=>Q none s'| .done (.ret v)=>Q (some v) s'|_=>False) ?_ h
 intro o s h
 cases o<;>exact h
theorem j5{V:Gw}{A:Around}{x:Expr}{env:Env}{v:Value}{Q:Unit→Shared→Prop}{E:Value→Shared→Prop}{s:Shared}(h:wpAny (model V.prog V.w) A (lV x env v) (λO s'=>Q () s') E s):wpAny (model V.prog V.w) A (assign x env v) Q E s:=by
 rw[ey]
 exact ip (enc:=λO=> .next) (R:=λO s'=>Q () s') (λO O h=>h) h
theorem eh{V:Gw}{A:Around}{b:List Stmt}{env:Env}{Q:Flow→Shared→Prop}{E:Value→Shared→Prop}{s:Shared}(h:wpAny (model V.prog V.w) A (gQ b env) (λf s'=>match f with| .done fl=>Q fl s'|_=>False) E s):wpAny (model V.prog V.w) A (execs b env) Q E s:=by
 rw[iS]
 exact ip (enc:=λf=>f) (λO O h=>h) h
noncomputable def bd:Expr→Expr
 | .ListComp _ [g] _ _=>g.target
 |e=>e
noncomputable def gt:Expr→Expr
 | .Compare _ _ [r] _=>r
 |e=>e
noncomputable def kA(P:Params)(C I lf acc cP cU U cLf:Addr)(io:Obj)(ls:List Value)(ep:Nat)(out:List Value)(eq:Nat)(cv:Option Value)(us:List Value)(eU:Nat):KL:=
 [(C,bn P []),(I,io),(lf,aa ls ep),(acc,aa out eq),(cP,{cls:= .type "cell",data:= .cell cv}),(cU,cm (.ref U)),(U,aa us eU),(cLf,cm (.ref lf))]
noncomputable def w9(f:Value)(args:List Value):Sem PySem.Fin:=call f args>>=λv=>pure (.done (.ret v))
theorem HC(P:Params)(n t C I lf acc cP cU U cLf:Nat)(io:Obj)(ls:List Value)(ep:Nat)(out:List Value)(eq:Nat)(us:List Value)(eU:Nat)(cv:Option Value)(v:Value):Qk 200 λr=>ay λb1 b2=>r ( bf P b1 b2 (w9 (.builtin "list.append") [.ref acc,v]) (kA P C I lf acc cP cU U cLf io ls ep out eq cv us eU) n t
 (.hook [] 0 (a5 acc out eq v [3]) λρ=> .fin [] (.ok (.ret .none)) [0,1,2,3,4,5,6,7] (kA P C I lf acc cP cU U cLf io ls ep (out++[v]) (eq+1) cv us eU))):=by unfold Qk;kernel_rfl!
theorem Hx(P:Params)(n t C I lf acc cP cU U cLf:Nat)(j:Nat)(ls:List Value)(ep:Nat)(out:List Value)(eq:Nat)(cv:Option Value)(us:List Value)(eU:Nat)(v:Value):Qk 200 λr=>ay λb1 b2=>r ( bf P b1 b2 (ia (.ref I)) (kA P C I lf acc cP cU U cLf (aj lf j) ls ep out eq cv us eU) n t (.hook [2] 0 (a8 I lf j ls ep v [1,2]) λρ=> .fin [] (.ok (.ret v)) [0,1,2,3,4,5,6,7] (kA P C I lf acc cP cU U cLf (aj lf (j+1)) ls ep out eq cv us eU))):=by unfold Qk;kernel_rfl!
theorem Hy(P:Params)(n t C I lf acc cP cU U cLf:Nat)(j:Nat)(ls:List Value)(ep:Nat)(out:List Value)(eq:Nat)(cv:Option Value)(us:List Value)(eU:Nat):Qk 200 λr=>ay λb1 b2=>r ( bf P b1 b2 (ia (.ref I)) (kA P C I lf acc cP cU U cLf (aj lf j) ls ep out eq cv us eU) n t (.hook [2] 0 (cn I lf j ls ep [1,2]) λρ=> .fin [10] (.ok .next) [0,1,2,3,4,5,6,7] (kA P C I lf acc cP cU U cLf (ba j) ls ep out eq cv us eU))):=by unfold Qk;kernel_rfl!
theorem HB(P:Params)(n t fr av cL C I lf acc cP cU U cLf:Nat)(io:Obj)(ls:List Value)(ep:Nat)(out:List Value)(eq:Nat)(cv:Option Value)(us:List Value)(eU:Nat)(p:Int)(pu:Nat):Qk 200 λr=>ay λb1 b2=>r ( bf P b1 b2 (lV (bd (eA P)) (nI P fr cLf av cU cL cP C) (.int p pu)) (kA P C I lf acc cP cU U cLf io ls ep out eq cv us eU) n t (.fin [5,5] (.ok .next) [0,1,2,3,4,5,6,7] (kA P C I lf acc cP cU U cLf io ls ep out eq (some (.int p pu)) us eU))):=by unfold Qk;kernel_rfl!
theorem Hz(P:Params)(n t fr av cL C I lf acc cP cU U cLf:Nat)(io:Obj)(ls:List Value)(ep:Nat)(out:List Value)(eq:Nat)(us:List Value)(eU:Nat)(p:Int)(pu:Nat)(o2:List Value)(w:Value):Qk 200 λr=>ay λb1 b2=>r ( bf P b1 b2 (fg (gC (fH (eA P) 0)) (nI P fr cLf av cU cL cP C)) (kA P C I lf acc cP cU U cLf io ls ep out eq (some (.int p pu)) us eU) n t
 (.hook [8,3,3,0,3,9] 3 (Dw P fr cLf av cU cL cP C (n+2) n (n+1) lf U ls ep p pu us eU o2 w [10,8,2,9,4,5,6]) λρ=> .fin [11,11,11] (.ok (.ret (.ref (n+1)))) [0,1,2,3,4,5,6,7,9] (kA P C I lf acc cP cU U cLf io ls ep out eq (some (.int p pu)) us eU++[(n+1,aa o2 o2.length)]))):=by unfold Qk;kernel_rfl!
theorem Cp(P:Params)(n t fr av cL C I lf acc cP cU U cLf:Nat)(io:Obj)(ls:List Value)(ep:Nat)(out:List Value)(eq:Nat)(us:List Value)(eU:Nat)(cv:Option Value)(a2:Nat)(o2:List Value):Qk 200 λr=>ay λb1 b2=>r ( bf P b1 b2 (fg (gt (fH (eA P) 0)) (nI P fr cLf av cU cL cP C)) (kA P C I lf acc cP cU U cLf io ls ep out eq cv us eU++[(a2,aa o2 o2.length)]) n t
 (.fin [] (.ok (.ret (.ref n))) [0,1,2,3,4,5,6,7,8,9] ((kA P C I lf acc cP cU U cLf io ls ep out eq cv us eU++[(a2,aa o2 o2.length)])++[(n,aa [] 0)]))):=by unfold Qk;kernel_rfl!
theorem HA(P:Params)(n t fr av cL C I lf acc cP cU U cLf:Nat)(io:Obj)(ls:List Value)(ep:Nat)(out:List Value)(eq:Nat)(us:List Value)(eU:Nat)(v:Value):Qk 200 λr=>ay λb1 b2=>r ( bf P b1 b2 (fg (bx (eA P)) (nI P fr cLf av cU cL cP C)) (kA P C I lf acc cP cU U cLf io ls ep out eq (some v) us eU) n t
 (.fin [5] (.ok (.ret v)) [0,1,2,3,4,5,6,7] (kA P C I lf acc cP cU U cLf io ls ep out eq (some v) us eU))):=by unfold Qk;kernel_rfl!
set_option tactic.hygienic true
noncomputable def gk(e:Expr)(k:Nat):Comprehension:=match e with
 | .ListComp _ gs _ _=>gs.getD k ⟨e,e,[],0⟩
 |_=>⟨e,e,[],0⟩
noncomputable def Ds:Expr→Scope
 | .ListComp _ _ s _=>s
 |_=>default
noncomputable def IE:Expr→Str
 | .Name x _=>x
 |_=>⟨#[]⟩
noncomputable def xL(e:Expr):Prop:=E9 λelt x px iter l r pc scope pos=>e= .ListComp elt [⟨.Name x px,iter,[.Compare l [.Eq] [r] pc],0⟩] scope pos∧behindInMarks .Eq r=false
theorem vF{e:Expr}(h:e= .ListComp (bx e) [⟨.Name (IE (bd e)) (bd e).pos,(gk e 0).iter,[.Compare (gC (fH e 0)) [.Eq] [gt (fH e 0)] (fH e 0).pos],0⟩] (Ds e) e.pos)(h2:behindInMarks .Eq (gt (fH e 0))=false):xL e:=⟨_,_,_,_,_,_,_,_,_,h,h2⟩
abbrev No:Value→Shared→Prop:=λO O=>False
theorem j7{prog:Program}{w:World}{A:Around}{R:Result→Shared→Prop}{s:Shared}{e:Expr}{it acc:Value}{env:Env}(he:xL e)(I:Nat→Shared→Prop)
  (turn:∀n s,I n s→wpAny (model prog w) A (pyNext it) (λr s₁=>match r with
   |none=>R (.ok .next) s₁
   |some v=>wpAny (model prog w) A (assign (bd e) env v) (λO s₂=>wpAny (model prog w) A (eval (gC (fH e 0)) env) (λa s₃=>wpAny (model prog w) A (eval (gt (fH e 0)) env) (λb s₄=>
     wpAny (model prog w) A (compareOp .Eq a b) (λc s₅=>∃β,c= .bool β∧(β=true→wpAny (model prog w) A (eval (bx e) env) (λx s₆=>wpAny (model prog w) A (call (.builtin "list.append") [acc,x]) (λO s₇=>∃m,m<n∧I m s₇) No s₆) No s₅)∧(β=false→∃m,m<n∧I m s₅)) No s₄) No s₃) No s₂) No s₁) No s)
  (n:Nat) (h:I n s):codeAny (model prog w) A (.compLoop e 0 it acc env) R s:=by
 obtain⟨elt,x,px,iter,l,r,pc,scope,pos,rfl,hm⟩:=he
 ·
  refine codeAny_compLoop_tests I (λn s hI=> ?_) n h
  refine wpAny_mono (turn n s hI) (λo s₁ h₁=> ?_) λO O x=>x.elim
  cases o with
  |none=>exact h₁
  |some v=>
   refine wpAny_mono h₁ (λO s₂ h₂=> ?_) λO O x=>x.elim
   refine wpAny_tests_one (wpAny_isTrue_Compare1 (wpAny_mono h₂ (λa s₃ h₃=>wpAny_mono h₃ (λb s₄ h₄=>wpAny_mono h₄ (λc s₅ h₅=> ?_) λO O x=>x.elim) λO O x=>x.elim) λO O x=>x.elim) hm)
   obtain⟨β,rfl,ht,hf⟩:=h₅
   refine wpAny_truthy_bool ?_
   cases β with
   |true=>exact wpAny_mono (ht rfl) (λx s₆ h₆=>wpAny_mono h₆ (λO s₇ h₇=>h₇) λO O x=>x.elim) λO O x=>x.elim
   |false=>exact hf rfl
theorem CF(P:Params):xL (eA P):=vF (by kernel_rfl!) (by kernel_rfl!)
noncomputable def cA(P:Params)(fr cLf av cU cL cP C I acc:Addr):Code:= .compLoop (eA P) 0 (.ref I) (.ref acc) (nI P fr cLf av cU cL cP C)
set_option tactic.hygienic false
noncomputable def fA(B:Int→Int→Bool)(ls:List Value):Value→Bool
 | .int p _=>(ls.filter (fB (B p))).isEmpty
 |_=>false
theorem zR{V:Gw}(G:au V){fr cLf av cU cL cP C I acc lf U ep eU er:Nat}{ls us:List Value}{ns:List Int}{F:KL}(hi:aI ls ns)(hsm:aw ls.length)(hus:aw us.length)(B:Int→Int→Bool)(at_:Int→Addr)(row:Int→List Value)
  (hrow:∀p∈ns,0≤p∧us[p.toNat]?=some (.ref (at_ p))∧aw (row p).length∧(at_ p,aa (row p) er)∈F∧∀q∈ns,(row p)[q.toNat]?=some (.bool (B p q))) {w:Value} (hw:ls.getLast?=some w)
  {cv:Option Value} {A:Around} (hA:Bd 3 A) {s:Shared} (hs:At V (kA V.w.params C I lf acc cP cU U cLf (aj lf 0) ls ep [] 0 cv us eU) s) (hF:Fz V F (kA V.w.params C I lf acc cP cU U cLf (aj lf 0) ls ep [] 0 cv us eU) s):
  codeAny (model V.prog V.w) A (cA V.w.params fr cLf av cU cL cP C I acc) (λr s'=>r= .ok .next∧am V [C,I,lf,acc,cP,cU,U,cLf] s (kA V.w.params C I lf acc cP cU U cLf (ba ls.length) ls ep (ls.filter (fA B ls)) (ls.filter (fA B ls)).length (some w) us eU) s') s:=by
 refine j7 (CF _) (λn s'=>E4 λpre rest ns' cv'=>A6 (ls=pre++rest) (n=rest.length) (aI rest ns') (∀p∈ns',p∈ns) (cv'=pre.getLast?.or cv) 
  (am V [C,I,lf,acc,cP,cU,U,cLf] s (kA V.w.params C I lf acc cP cU U cLf (aj lf pre.length) ls ep (pre.filter (fA B ls)) (pre.filter (fA B ls)).length cv' us eU) s')) ?_ ls.length ⟨[],ls,ns,cv,rfl,rfl,hi,λO h=>h,rfl,hs.ends⟩
 rintro n s1 ⟨pre,rest,ns',cv',hv,rfl,hi',hsub,hcv,hE1⟩
 have hF1:=hF.after hE1 rfl
 cases hi' with
 |nil=>
  rw[List.append_nil] at hv
  subst hv
  refine dM (aq G hF1 (ad (Hy V.w.params s1.heap.objs.size s1.toks C I lf acc cP cU U cLf ls.length ls ep (ls.filter (fA B ls)) (ls.filter (fA B ls)).length cv' us eU) (aC V) (aB V)) hA hE1.at' ?_)
  exact ac (bq (L:=0) (by simp)) rfl rfl rfl λρ O O=>an rfl λs2 hs2 O=>⟨rfl,by rw[hw] at hcv;rw[show some w=cv' from hcv.symm];exact hE1.trans hs2 (λb hb=> .inl hb)⟩
 | @cons p pu rest m hi'=>
  have hget:ls[pre.length]?=some (.int p pu):=by rw[hv];simp
  have hp:=hsub p (.head _)
  obtain⟨hp0,hU,hrs,ha,hB⟩:=hrow p hp
  have hlen:(pre++[Value.int p pu]).length=pre.length+1:=by simp
  refine dM (aq G hF1 (ad (Hx V.w.params s1.heap.objs.size s1.toks C I lf acc cP cU U cLf pre.length ls ep (pre.filter (fA B ls)) (pre.filter (fA B ls)).length cv' us eU (.int p pu)) (aC V) (aB V)) hA hE1.at' ?_)
  refine ac (aJ (L:=0) hget) rfl rfl rfl λρ O O=>an rfl λs2 hs2 hf2=> ?_
  show wpAny _ _ _ _ _ s2
  refine j5 (aq G hf2 (ad (HB V.w.params s2.heap.objs.size s2.toks fr av cL C I lf acc cP cU U cLf (aj lf (pre.length+1)) ls ep (pre.filter (fA B ls)) (pre.filter (fA B ls)).length cv' us eU p pu) (aC V) (aB V)) hA hs2.at' (an rfl λs3 hs3 hf3=> ?_))
  show wpAny _ _ _ _ _ s3
  rw[gr]
  refine cC (aq G hf3 (ad (Hz V.w.params s3.heap.objs.size s3.toks fr av cL C I lf acc cP cU U cLf (aj lf (pre.length+1)) ls ep (pre.filter (fA B ls)) (pre.filter (fA B ls)).length us eU p pu (ls.filter (fB (B p))) w) (aC V) (aB V)) hA hs3.at' ?_)
  refine aV (l:=2) (Ca G hp0 hU hus hrs (B p) ha hi (λq hq=>⟨(hrow q hq).1,hB q hq⟩) hsm hw) rfl rfl rfl λρ O O=>an rfl λs4 hs4 hf4=> ?_
  show wpAny _ _ _ _ _ s4
  refine cC (aq G hf4 (ad (Cp V.w.params s4.heap.objs.size s4.toks fr av cL C I lf acc cP cU U cLf (aj lf (pre.length+1)) ls ep (pre.filter (fA B ls)) (pre.filter (fA B ls)).length us eU (some (.int p pu)) (s3.heap.objs.size+1) (ls.filter (fB (B p)))) (aC V) (aB V)) hA hs4.at' (an rfl λs5 hs5 hf5=> ?_))
  show wpAny _ _ _ _ _ s5
  have E35:=(hs4.trans hs5 (λb hb=>by
   rw[List.map_append] at hb
   rcases List.mem_append.mp hb with hb|hb
   ·exact .inl hb
   ·simp only[List.map_cons,List.map_nil,List.mem_singleton] at hb
    right;rw[hb];exact Nat.le_succ _)).keep.keep
  have E5:=((hE1.trans hs2 (λb hb=> .inl hb)).trans hs3 (λb hb=> .inl hb)).trans E35 (λb hb=> .inl hb)
  have g1:s5.heap.get? (s3.heap.objs.size+1)=some (aa (ls.filter (fB (B p))) (ls.filter (fB (B p))).length):=hs5.at'.get (_,_) (List.mem_append_left _ (List.mem_append_right _ (List.mem_singleton.mpr rfl)))
  have g2:s5.heap.get? s4.heap.objs.size=some (aa [] 0):=hs5.at'.get (_,_) (List.mem_append_right _ (List.mem_singleton.mpr rfl))
  have hfA:fA B ls (.int p pu)=(ls.filter (fB (B p))).isEmpty:=rfl
  have hv':ls=(pre++[Value.int p pu])++rest:=by rw[hv];simp
  have hpl:aw (pre.filter (fA B ls)).length:=by
   have h1:(pre.filter (fA B ls)).length≤pre.length:=List.length_filter_le _ _
   have h2:ls.length=pre.length+(rest.length+1):=by rw[hv];simp
   have h3:ls.length≤1000:=hsm
   show _≤1000
   lia
  have hF5:=hF.after E5 rfl
  by_cases hz:ls.filter (fB (B p))=[]
  ·refine eq_listAt (items:=⟨ls.filter (fB (B p))⟩) (items2:=⟨[]⟩) (e:=λO=>true) ⟨_,g1,rfl,_,rfl⟩ ⟨_,g2,rfl,_,rfl⟩ (by rw[hz]) hA.line (λj h1 h2=>absurd h2 (by simp)) ⟨true,(by rw[hz];rfl),λO=> ?_,λh=>nomatch h⟩
   refine cC (aq G hF5 (ad (HA V.w.params s5.heap.objs.size s5.toks fr av cL C I lf acc cP cU U cLf (aj lf (pre.length+1)) ls ep (pre.filter (fA B ls)) (pre.filter (fA B ls)).length us eU (.int p pu)) (aC V) (aB V)) hA E5.at' (an rfl λs6 hs6 hf6=> ?_))
   show wpAny _ _ _ _ _ s6
   refine cC (aq G hf6 (ad (HC V.w.params s6.heap.objs.size s6.toks C I lf acc cP cU U cLf (aj lf (pre.length+1)) ls ep (pre.filter (fA B ls)) (pre.filter (fA B ls)).length us eU (some (.int p pu)) (.int p pu)) (aC V) (aB V)) hA hs6.at' ?_)
   refine ac (aM (L:=0) hpl) rfl rfl rfl λρ O O=>an rfl λs7 hs7 O=> ?_
   have hfa:fA B ls (.int p pu)=true:=by rw[hfA,hz];rfl
   refine⟨rest.length,by simp,pre++[.int p pu],rest,m,some (.int p pu),hv',rfl,hi',λq hq=>hsub q (.tail _ hq),by simp,?_⟩
   have e1:(pre++[Value.int p pu]).filter (fA B ls)=pre.filter (fA B ls)++[.int p pu]:=by rw[List.filter_append];simp[hfa]
   rw[e1,hlen,List.length_append]
   exact(E5.trans hs6 (λb hb=> .inl hb)).trans hs7 (λb hb=> .inl hb)
  ·refine eq_list_lengthsAt (items:=⟨ls.filter (fB (B p))⟩) (items2:=⟨[]⟩) ⟨_,g1,rfl,_,rfl⟩ ⟨_,g2,rfl,_,rfl⟩ (by simpa using hz) hA.line ⟨false,rfl,(λh=>nomatch h),λO=> ?_⟩
   have hfa:fA B ls (.int p pu)=false:=by rw[hfA];simpa using hz
   refine⟨rest.length,by simp,pre++[.int p pu],rest,m,some (.int p pu),hv',rfl,hi',λq hq=>hsub q (.tail _ hq),by simp,?_⟩
   have e1:(pre++[Value.int p pu]).filter (fA B ls)=pre.filter (fA B ls):=by rw[List.filter_append];simp[hfa]
   rw[e1,hlen]
   exact E5
noncomputable def Il(P:Params)(fr cLf av cU cL cP C I acc:Addr):Code:= .compStart (eA P) 0 (.ref I) (.ref acc) (nI P fr cLf av cU cL cP C)
theorem Jm(P:Params)(n t fr av cL C I lf acc cP cU U cLf:Nat)(ls:List Value)(ep:Nat)(cv:Option Value)(us:List Value)(eU:Nat):Qk 100 λr=>ay λb1 b2=>r ( ap P b1 b2 (Il P fr cLf av cU cL cP C I acc) (kA P C I lf acc cP cU U cLf (aj lf 0) ls ep [] 0 cv us eU) n t
 (.again (match b1 with|true=>[]|false=>[2,2,0,2,2]) (cA P fr cLf av cU cL cP C I acc) [0,1,2,3,4,5,6,7] (kA P C I lf acc cP cU U cLf (aj lf 0) ls ep [] 0 cv us eU))):=by unfold Qk;kernel_rfl!
noncomputable def aH(P:Params)(fr av cL C I lf acc cP cU U cLf:Nat)(ls:List Value)(ep:Nat)(cv:Option Value)(us:List Value)(eU:Nat)(out:List Value)(w:Value)(js:List Nat):aD:=
 ⟨Il P fr cLf av cU cL cP C I acc,js,kA P C I lf acc cP cU U cLf (aj lf 0) ls ep [] 0 cv us eU,λO=> .ok .next,λρ=>(kA P C I lf acc cP cU U cLf (ba ls.length) ls ep out out.length (some w) us eU).map (·.2),λO=>[]⟩
theorem Fj{V:Gw}(G:au V){fr cLf av cU cL cP C I acc lf U ep eU er:Nat}{ls us:List Value}{ns:List Int}{F:KL}(hi:aI ls ns)(hsm:aw ls.length)(hus:aw us.length)(B:Int→Int→Bool)(at_:Int→Addr)(row:Int→List Value)
  (hrow:∀p∈ns,0≤p∧us[p.toNat]?=some (.ref (at_ p))∧aw (row p).length∧(at_ p,aa (row p) er)∈F∧∀q∈ns,(row p)[q.toNat]?=some (.bool (B p q))) {w:Value} (hw:ls.getLast?=some w) {cv:Option Value} {js:List Nat}:
  aQ V 3 (aH V.w.params fr av cL C I lf acc cP cU U cLf ls ep cv us eU (ls.filter (fA B ls)) w js) F (λO=>True) (λO=>[]):=by
 intro A s hA hs1 hf
 refine aR G hf (ad (Jm V.w.params s.heap.objs.size s.toks fr av cL C I lf acc cP cU U cLf ls ep cv us eU) (aC V) (aB V)) hA hs1 (ax rfl λs' hs' hf'=>⟨rfl,?_⟩)
 refine codeAny_mono (zR G hi hsm hus B at_ row hrow hw hA hs'.at' hf') ?_
 rintro r s'' ⟨hr,hE⟩
 have hE':=hs'.trans hE (λb hb=> .inl hb)
 exact⟨a7 _ _ (λO=>0),hr,aW (H:=aH V.w.params fr av cL C I lf acc cP cU U cLf ls ep cv us eU (ls.filter (fA B ls)) w js) hE' (λO=>0) rfl rfl (λO hp=>nomatch hp),trivial,λO hp=>nomatch hp⟩
noncomputable def eB(P:Params):Expr:=jF (Ip P) 1
noncomputable def AN(P:Params)(fr cLf av cU cL C:Addr):Env:=compEnvC (aT (eB P)) [(nm ci,av)] C (xO P fr cLf av cU cL)
noncomputable def cB(P:Params)(fr cLf av cU cL C I acc:Addr):Code:= .compLoop (eB P) 0 (.ref I) (.ref acc) (AN P fr cLf av cU cL C)
noncomputable def Ik(P:Params)(fr cLf av cU cL C I acc:Addr):Code:= .compStart (eB P) 0 (.ref I) (.ref acc) (AN P fr cLf av cU cL C)
noncomputable def kB(P:Params)(C I lf acc av lv a:Addr)(T:aF)(io:Obj)(ls:List Value)(ep:Nat)(out:List Value)(eq:Nat)(lvs:List Value)(el:Nat)(gone:List Value)(eg:Nat):KL:=
 [(C,bn P T),(I,io),(lf,aa ls ep),(acc,aa out eq),(av,cm (.ref lv)),(lv,aa lvs el),(a,aa gone eg)]
noncomputable def IN(P:Params)(b1 b2:Bool)(n t fr cLf cU cL C I lf acc av lv a:Nat)(first:Bool)(κ:Nat)(v:Value)(j:Nat)(ls:List Value)(ep:Nat)(out:List Value)(eq:Nat)(lvs:List Value)(el:Nat)(gone:List Value)(eg:Nat)(p:Int)(pu:Nat):bu:=
 ap P b1 b2 (cB P fr cLf av cU cL C I acc) (kB P C I lf acc av lv a (bk first bo κ v) (aj lf j) ls ep out eq lvs el gone eg) n t
 (.hook [2] 0 (a8 I lf j ls ep (.int p pu) [1,2]) λρ=> .hook [1,1,1,5,0,6,6,6] 0 (bS lv lvs el (-1) (ρ 1+2) (.ref a) [5]) λρ'=> .hook [7,7] 0 (jC a gone eg (.int p pu) false [6]) λρ'=> .hook [1] 0 (a5 acc out eq (.int p pu) [3]) λρ'=>
 .again [] (cB P fr cLf av cU cL C I acc) [0,1,2,3,4,5,6] (kB P C I lf acc av lv a [(bo,ao first κ (ρ 1),.int p pu)] (aj lf (j+1)) ls ep (out++[.int p pu]) (eq+1) lvs el gone eg))
noncomputable def IM(P:Params)(b1 b2:Bool)(n t fr cLf cU cL C I lf acc av lv a:Nat)(first:Bool)(κ:Nat)(v:Value)(j:Nat)(ls:List Value)(ep:Nat)(out:List Value)(eq:Nat)(lvs:List Value)(el:Nat)(gone:List Value)(eg:Nat)(p:Int)(pu:Nat):bu:=
 ap P b1 b2 (cB P fr cLf av cU cL C I acc) (kB P C I lf acc av lv a (bk first bo κ v) (aj lf j) ls ep out eq lvs el gone eg) n t
 (.hook [2] 0 (a8 I lf j ls ep (.int p pu) [1,2]) λρ=> .hook [1,1,1,5,0,6,6,6] 0 (bS lv lvs el (-1) (ρ 1+2) (.ref a) [5]) λρ'=> .hook [7,7] 0 (jC a gone eg (.int p pu) true [6]) λρ'=>
 .again [] (cB P fr cLf av cU cL C I acc) [0,1,2,3,4,5,6] (kB P C I lf acc av lv a [(bo,ao first κ (ρ 1),.int p pu)] (aj lf (j+1)) ls ep out eq lvs el gone eg))
theorem Ji(P b1 n t fr cLf cU cL C I lf acc av lv a κ v j ls ep out eq lvs el gone eg p pu):Qk 200 λr=>ay λfirst b2=>r (IN P b1 b2 n t fr cLf cU cL C I lf acc av lv a first κ v j ls ep out eq lvs el gone eg p pu):=by unfold Qk;kernel_rfl!
theorem Jh(P b1 n t fr cLf cU cL C I lf acc av lv a κ v j ls ep out eq lvs el gone eg p pu):Qk 200 λr=>ay λfirst b2=>r (IM P b1 b2 n t fr cLf cU cL C I lf acc av lv a first κ v j ls ep out eq lvs el gone eg p pu):=by unfold Qk;kernel_rfl!
theorem Jj(P:Params)(n t fr cLf cU cL C I lf acc av lv a:Nat)(T:aF)(j:Nat)(ls:List Value)(ep:Nat)(out:List Value)(eq:Nat)(lvs:List Value)(el:Nat)(gone:List Value)(eg:Nat):Qk 200 λr=>ay λb1 b2=>r ( ap P b1 b2 (cB P fr cLf av cU cL C I acc) (kB P C I lf acc av lv a T (aj lf j) ls ep out eq lvs el gone eg) n t
 (.hook [2] 0 (cn I lf j ls ep [1,2]) λρ=> .fin [9] (.ok .next) [0,1,2,3,4,5,6] (kB P C I lf acc av lv a T (ba j) ls ep out eq lvs el gone eg))):=by unfold Qk;kernel_rfl!
theorem Jk(P:Params)(n t fr cLf cU cL C I lf acc av lv a:Nat)(ls:List Value)(ep:Nat)(lvs:List Value)(el:Nat)(gone:List Value)(eg:Nat):Qk 200 λr=>ay λb1 b2=>r ( ap P b1 b2 (Ik P fr cLf av cU cL C I acc) (kB P C I lf acc av lv a [] (aj lf 0) ls ep [] 0 lvs el gone eg) n t
 (.again (match b1 with|true=>[]|false=>[2,2,0,2,2]) (cB P fr cLf av cU cL C I acc) [0,1,2,3,4,5,6] (kB P C I lf acc av lv a [] (aj lf 0) ls ep [] 0 lvs el gone eg))):=by unfold Qk;kernel_rfl!
theorem eW{V:Gw}{l ep:Nat}{vs:List Value}{u:Nat}{x:Value}{js:List Nat}{L:Nat}(hx:vs.getLast?=some x):ai V L (bS l vs ep (-1) u x js) (λO=>True):=by
 refine cV (H:=bS l vs ep (-1) u x js) rfl slot_list_getitem (λs hs=>a9 hs (.head _) rfl) entry_list_getitem (args_list_getitem _ _) λA s ha hs=> ?_
 have ho:s.heap.get? l=some (aa vs ep):=hs.get (l,aa vs ep) (.head _)
 have hne:1≤vs.length:=by
  cases vs with
  |nil=>cases hx
  |cons a r=>simp
 show wpAny _ _ (Builtin.List.listSubscript? (.int (-1) u)>>=_) _ _ s
 refine wpAny_bind (wpAny_listSubscript_int (fitsIndex_neg (by decide) (by decide)) ?_)
 have hidx:=seqIndex_neg (k:= -1) (n:=vs.length) (by decide) (by lia)
 show wpAny _ _ ((Builtin.List.listItems (.ref l)>>=λxs=>pure ((seqIndex? (Int.negSucc 0) xs.size).bind λi=>xs[i]?.map (i,·)))>>=_) _ _ s
 refine wpAny_bind (wpAny_bind ?_)
 show wpAny _ _ (seqItems? (.ref l)>>=_) _ _ s
 refine wpAny_bind (wpAny_seqItems ho rfl (wpAny_pure (wpAny_pure ?_)))
 have hx':(⟨vs⟩:Array Value)[(-1+(vs.length:Int)).toNat]?=some x:=by
  have e:(-1+(vs.length:Int)).toNat=vs.length-1:=by rw[Int.add_comm];exact Int.toNat_sub vs.length 1
  rw[e]
  rw[List.getLast?_eq_getElem?] at hx
  simpa using hx
 rw[show seqIndex? (Int.negSucc 0) (⟨vs⟩:Array Value).size=some (-1+(vs.length:Int)).toNat from hidx]
 simp only[Option.bind_some,hx',Option.map_some]
 have fin:bO V (bS l vs ep (-1) u x js) (λO=>True) s (.ok (.ret x)) s:=⟨a7 _ _ (λO=>0),rfl,cM hs.ends (λO=>0),trivial⟩
 first
  |exact wpAny_bind (wpAny_pure (wpAny_pure fin))
  |exact wpAny_pure fin
noncomputable def fN(gs:List Int):Value→Bool
 | .int p _=> !decide (p∈gs)
 |_=>false
theorem zP{V:Gw}(G:au V){fr cLf cU cL C I lf acc av lv a ep el eg:Nat}{ls lvs gone:List Value}{gs:List Int}(hg:aI gone gs)(hlv:lvs.getLast?=some (.ref a)):
  ∀(rest:List Value) (ns:List Int) (pre:List Value) (first:Bool) (κ:Nat) (v:Value) (out:List Value) (eq:Nat) (A:Around) (s:Shared),ls=pre++rest→aI rest ns→aw (out.length+rest.length)→Bd 1 A→
  At V (kB V.w.params C I lf acc av lv a (bk first bo κ v) (aj lf pre.length) ls ep out eq lvs el gone eg) s→
  codeAny (model V.prog V.w) A (cB V.w.params fr cLf av cU cL C I acc) (λr s'=>r= .ok .next∧∃κ',am V [C,I,lf,acc,av,lv,a] s (kB V.w.params C I lf acc av lv a (cf (bk first bo κ v) bo rest κ') (ba ls.length) ls ep (out++rest.filter (fN gs)) (eq+(rest.filter (fN gs)).length) lvs el gone eg) s') s:=by
 intro rest
 induction rest with
 |nil=>
  intro ns pre first κ v out eq A s hv hi hsm hA hs1
  rw[List.append_nil] at hv
  subst hv
  refine bc G (ad (Jj V.w.params s.heap.objs.size s.toks fr cLf cU cL C I lf acc av lv a (bk first bo κ v) ls.length ls ep out eq lvs el gone eg) (aC V) (aB V)) hA hs1 ?_
  refine ae (bq (L:=0) (by simp)) rfl rfl rfl λρ O O=>aO rfl λs' hs'=>⟨rfl,0,?_⟩
  rw[List.filter_nil,List.append_nil]
  exact hs'
 |cons v₁ rest ih=>
  intro ns pre first κ v out eq A s hv hi hsm hA hs1
  cases hi with
  | @cons q qu _ m hi=>
  have hget:ls[pre.length]?=some (.int q qu):=by rw[hv];simp
  have hv':ls=(pre++[.int q qu])++rest:=by rw[hv];simp
  have hlen:(pre++[Value.int q qu]).length=pre.length+1:=by simp
  have fin:∀(o1:List Value) (e1:Nat),o1=out++[Value.int q qu].filter (fN gs)→e1=eq+([Value.int q qu].filter (fN gs)).length→∀κ1 s',am V [C,I,lf,acc,av,lv,a] s (kB V.w.params C I lf acc av lv a [(bo,κ1,.int q qu)] (aj lf (pre.length+1)) ls ep o1 e1 lvs el gone eg) s'→
    codeAny (model V.prog V.w) A (cB V.w.params fr cLf av cU cL C I acc) (λr s'=>r= .ok .next∧∃κ',am V [C,I,lf,acc,av,lv,a] s (kB V.w.params C I lf acc av lv a (cf (bk first bo κ v) bo (.int q qu::rest) κ') (ba ls.length) ls ep (out++(.int q qu::rest).filter (fN gs)) (eq+((Value.int q qu::rest).filter (fN gs)).length) lvs el gone eg) s') s':=λo1 e1 ho he κ1 s' hE=>by
   subst ho he
   rw[←hlen] at hE
   have hsm':aw ((out++[Value.int q qu].filter (fN gs)).length+rest.length):=by
    have h1:([Value.int q qu].filter (fN gs)).length≤1:=List.length_filter_le _ _
    have h2:out.length+(rest.length+1)≤1000:=hsm
    show _≤1000
    rw[List.length_append];lia
   refine codeAny_mono (ih m (pre++[Value.int q qu]) false κ1 (.int q qu) (out++[Value.int q qu].filter (fN gs)) (eq+([Value.int q qu].filter (fN gs)).length) A s' hv' hi hsm' hA hE.at') ?_
   rintro r s'' ⟨hr,κ',hE'⟩
   refine⟨hr,rj rest κ1 κ',?_⟩
   have:=hE.trans hE' (λb hb=> .inl hb)
   rw[gq]
   have e1:out++[Value.int q qu].filter (fN gs)++rest.filter (fN gs)=out++(Value.int q qu::rest).filter (fN gs):=by
    rw[List.append_assoc,←List.filter_append];rfl
   have e2:eq+([Value.int q qu].filter (fN gs)).length+(rest.filter (fN gs)).length=eq+((Value.int q qu::rest).filter (fN gs)).length:=by
    rw[Nat.add_assoc,←List.length_append,←List.filter_append];rfl
   rw[e1,e2] at this
   exact this
  by_cases hb:q∈gs
  ·refine bc G (ad (Jh V.w.params (aC V) s.heap.objs.size s.toks fr cLf cU cL C I lf acc av lv a κ v pre.length ls ep out eq lvs el gone eg q qu) first (aB V)) hA hs1 ?_
   refine ae (aJ (L:=0) hget) rfl rfl rfl λρ O O=>ae (eW (L:=0) hlv) rfl rfl rfl λρ' O O=>ae (fG (L:=0) hg (by simp[hb])) rfl rfl rfl λρ'' O O=>aE rfl λs' hs'=>⟨rfl,?_⟩
   exact fin _ _ (by simp[fN,hb]) (by simp[fN,hb]) _ s' hs'
  ·have hout:aw out.length:=Nat.le_trans (Nat.le_add_right _ _) hsm
   refine bc G (ad (Ji V.w.params (aC V) s.heap.objs.size s.toks fr cLf cU cL C I lf acc av lv a κ v pre.length ls ep out eq lvs el gone eg q qu) first (aB V)) hA hs1 ?_
   refine ae (aJ (L:=0) hget) rfl rfl rfl λρ O O=>ae (eW (L:=0) hlv) rfl rfl rfl λρ' O O=>ae (fG (L:=0) hg (by simp[hb])) rfl rfl rfl λρ'' O O=>ae (aM (L:=0) hout) rfl rfl rfl λρ3 O O=>aE rfl λs' hs'=>⟨rfl,?_⟩
   exact fin _ _ (by simp[fN,hb]) (by simp[fN,hb]) _ s' hs'
noncomputable def bH(P:Params)(fr cLf cU cL C I lf acc av lv a:Nat)(ls:List Value)(ep:Nat)(lvs:List Value)(el:Nat)(gone:List Value)(eg:Nat)(out:List Value)(w:Value)(js:List Nat):aD:=
 ⟨Ik P fr cLf av cU cL C I acc,js,kB P C I lf acc av lv a [] (aj lf 0) ls ep [] 0 lvs el gone eg,λO=> .ok .next,λρ=>(kB P C I lf acc av lv a [(bo,ρ 2,w)] (ba ls.length) ls ep out out.length lvs el gone eg).map (·.2),λO=>[]⟩
theorem Fi{V:Gw}(G:au V){fr cLf cU cL C I lf acc av lv a ep el eg:Nat}{ls lvs gone:List Value}{ns gs:List Int}(hi:aI ls ns)(hg:aI gone gs)(hlv:lvs.getLast?=some (.ref a))(hsm:aw ls.length){w:Value}(hw:ls.getLast?=some w){js:List Nat}:
  ai V 2 (bH V.w.params fr cLf cU cL C I lf acc av lv a ls ep lvs el gone eg (ls.filter (fN gs)) w js) (λO=>True):=by
 intro A s hA hs1
 refine bc G (ad (Jk V.w.params s.heap.objs.size s.toks fr cLf cU cL C I lf acc av lv a ls ep lvs el gone eg) (aC V) (aB V)) hA hs1 (aE rfl λs' hs'=>⟨rfl,?_⟩)
 refine codeAny_mono (zP G hg hlv ls ns [] true 0 .none [] 0 A s' rfl hi (by simpa using hsm) (hA.weak (by decide)) hs'.at') ?_
 rintro r s'' ⟨hr,κ',hE⟩
 have e:cf (bk true bo 0 .none) bo ls κ'=[(bo,κ',w)]:=by unfold cf;rw[hw]
 rw[e,Nat.zero_add,List.nil_append] at hE
 have hE':=hs'.trans hE (λb hb=> .inl hb)
 exact⟨a7 _ _ (λO=>κ'),hr,aW (H:=bH V.w.params fr cLf cU cL C I lf acc av lv a ls ep lvs el gone eg (ls.filter (fN gs)) w js) hE' (λO=>κ') rfl rfl (λO hp=>nomatch hp),trivial⟩
noncomputable def fW(a b c:Int):Obj:={cls:= .type "range_iterator",data:= .fields #[.int a 0,.int b 0,.int c 0]}
noncomputable def c7:Array Nat:=#[116,117,114,110]
noncomputable def av(P:Params)(fr I cLf cLv' cU cL:Addr):Code:=d7 (aA (aU P 189)) 2 (.ref I) (xO P fr cLf cLv' cU cL)
noncomputable def iz(k:Nat)(g:Nat→Value):List Value:=(List.range k).map g
noncomputable def dC(I:Nat)(i b:Nat)(js:List Nat):aD:=⟨.call (.builtin "range_iterator.__next__") ⟨[.ref I],[]⟩,js,[(I,fW i (b+1:Nat) 1)],λρ=> .ok (.ret (.int i (ρ 2))),λO=>[fW (i+1:Nat) b 1],λO=>[]⟩
theorem dg{V:Gw}{I i b:Nat}{js:List Nat}{L:Nat}:ai V L (dC I i b js) (λρ=>ρ 1=ρ 2+1):=by
 refine cR (H:=dC I i b js) rfl F.slot_range_iterator_next (λs hs=>a9 hs (.head _) rfl) F.entry_range_iterator_next (F.args_range_iterator_next_1 _) (AutoRange.range_iterator___next___range_iterator_1 I i (b+1:Nat) 1 (by lia)) λA s ha hs=> ?_
 refine⟨hs.get (I,fW i (b+1:Nat) 1) (.head _),?_⟩
 have E:=hs.ends.upd (j:=0) (p:=(I,fW i (b+1:Nat) 1)) (f:=Obj.mapFields λx_1=>x_1.setIfInBounds 0 (rawInt ((i:Int)+1))) Wr.self rfl rfl
 have E2:=E.upd (j:=0) (p:=(I,fW ((i:Int)+1) (b+1:Nat) 1)) (f:=Obj.mapFields λx_1=>x_1.setIfInBounds 1 (rawInt (((b+1:Nat):Int)-1))) Wr.self rfl rfl
 have e:d3 (d3 (dC I i b js).K 0 (Obj.mapFields λx_1=>x_1.setIfInBounds 0 (rawInt ((i:Int)+1)))) 0 (Obj.mapFields λx_1=>x_1.setIfInBounds 1 (rawInt (((b+1:Nat):Int)-1)))=[(I,fW (i+1:Nat) b 1)]:=by
  show [(I,fW ((i:Int)+1) (((b+1:Nat):Int)-1) 1)]=_
  have e1:((b+1:Nat):Int)-1=(b:Int):=by lia
  rw[e1];rfl
 rw[e] at E2
 exact⟨a7 _ _ (λO=>s.toks),rfl,aW (H:=dC I i b js) (E2.tok (s.toks+1)) (λO=>s.toks) rfl rfl (λO hp=>nomatch hp),rfl⟩
noncomputable def i5(I:Nat)(i:Int)(js:List Nat):aD:=⟨.call (.builtin "range_iterator.__next__") ⟨[.ref I],[]⟩,js,[(I,fW i 0 1)],λρ=> .error (.ref (ρ 3)),λO=>[fW i 0 1],λρ=>[(ρ 2,al []),(ρ 3,kK (ρ 2))]⟩
theorem ii{V:Gw}{I:Nat}{i:Int}{js:List Nat}{L:Nat}:ai V L (i5 I i js) (λO=>True):=by
 refine cV (H:=i5 I i js) rfl F.slot_range_iterator_next (λs hs=>a9 hs (.head _) rfl) F.entry_range_iterator_next (F.args_range_iterator_next_1 _) λA s ha hs=> ?_
 have ho:s.heap.get? I=some (fW i 0 1):=hs.get (I,fW i 0 1) (.head _)
 show wpAny _ _ (field (.ref I) 0>>=_) _ _ s
 refine wpAny_bind (wpAny_field ho rfl (x:=rawInt i) rfl ?_)
 show wpAny _ _ (field (.ref I) 1>>=_) _ _ s
 refine wpAny_bind (wpAny_field ho rfl (x:=rawInt 0) rfl ?_)
 show wpAny _ _ (field (.ref I) 2>>=_) _ _ s
 refine wpAny_bind (wpAny_field ho rfl (x:=rawInt 1) rfl ?_)
 show wpAny _ _ (if(0:Int)≤0 then _ else _) _ _ s
 rw[if_pos (Int.le_refl 0)]
 refine wpAny_bind (wpAny_rule ?_)
 refine wpAny_bind ?_
 show wpAny _ _ (newExc (.type "StopIteration") []>>=_) _ _ _
 refine wpAny_bind ?_
 simp only[newExc,newTuple]
 refine wpAny_bind (wpAny_newObj_type ?_ (by size_fits))
 refine wpAny_bind (m:=firstArgMember _ _) (wpAny_of_eq (a:=Value.none) (by first|rfl|(simp only[firstArgMember];rfl)) ?_)
 refine wpAny_newObj_type ?_ (by size_fits)
 simp only[raiseNew]
 refine wpAny_bind (wpAny_handled ?_)
 rw[show A.in1.handled=none from ha]
 refine wpAny_bind (wpAny_pure (wpAny_throw ?_))
 have E2:=(hs.ends.push (o:=al []) rfl).push (o:=kK s.heap.objs.size) rfl
 refine⟨a7 _ _ (λk=>match k with|0=>s.heap.objs.size|_=>(s.heap.push (al [])).objs.size),rfl,aW (H:=i5 I i js) E2 _ rfl ?_ ?_,trivial⟩
 ·rfl
 ·intro p hp
  have e1:(s.heap.push (al [])).objs.size=s.heap.objs.size+1:=by rw[Heap.size_push]
  rcases e6 hp with rfl|hp
  ·exact Nat.le_refl _
  ·rw[List.mem_singleton.mp hp];show _≤(s.heap.push (al [])).objs.size;lia
noncomputable def dZ(v:Value)(i:Nat):Obj:={cls:= .type "str_ascii_iterator",data:= .fields #[v,.int i 0]}
noncomputable def gg(I:Nat)(x:Str)(t:Nat)(i c:Nat)(js:List Nat):aD:=⟨.call (.builtin "str_ascii_iterator.__next__") ⟨[.ref I],[]⟩,js,[(I,dZ (.str x t) i)],λρ=> .ok (.ret (.str ⟨#[c]⟩ (ρ 2))),λO=>[dZ (.str x t) (i+1)],λO=>[]⟩
theorem dK{V:Gw}{I t i c:Nat}{x:Str}{js:List Nat}{L:Nat}(hx:x.cps[i]?=some c):ai V L (gg I x t i c js) (λO=>True):=by
 refine cV (H:=gg I x t i c js) rfl F.slot_str_ascii_iterator_next (λs hs=>a9 hs (.head _) rfl) F.entry_str_ascii_iterator_next (F.args_str_ascii_iterator_next_1 _) λA s ha hs=> ?_
 have ho:s.heap.get? I=some (dZ (.str x t) i):=hs.get (I,dZ (.str x t) i) (.head _)
 show wpAny _ _ (field (.ref I) 0>>=_) _ _ s
 refine wpAny_bind (wpAny_field ho rfl (x:= .str x t) rfl ?_)
 show wpAny _ _ (field (.ref I) 1>>=_) _ _ s
 refine wpAny_bind (wpAny_field ho rfl (x:= .int i 0) rfl ?_)
 simp only[Int.toNat_natCast,hx]
 refine wpAny_bind (wpAny_setField ho rfl (by simp) (wpAny_bind (wpAny_mkStr (wpAny_pure ?_))))
 have E:=hs.ends.upd (j:=0) (p:=(I,dZ (.str x t) i)) (f:=Obj.mapFields (·.setIfInBounds 1 (rawInt (i+1)))) Wr.self rfl rfl
 exact⟨a7 _ _ (λO=>s.toks),rfl,aW (H:=gg I x t i c js) (E.tok (s.toks+1)) (λO=>s.toks) rfl rfl (λO hp=>nomatch hp),trivial⟩
noncomputable def oL(I:Nat)(x:Str)(t:Nat)(i:Nat)(js:List Nat):aD:=⟨.call (.builtin "str_ascii_iterator.__next__") ⟨[.ref I],[]⟩,js,[(I,dZ (.str x t) i)],λρ=> .error (.ref (ρ 3)),λO=>[dZ .none i],λρ=>[(ρ 2,al []),(ρ 3,kK (ρ 2))]⟩
theorem vK{V:Gw}{I t i:Nat}{x:Str}{js:List Nat}{L:Nat}(hx:x.cps[i]?=none):ai V L (oL I x t i js) (λO=>True):=by
 refine cV (H:=oL I x t i js) rfl F.slot_str_ascii_iterator_next (λs hs=>a9 hs (.head _) rfl) F.entry_str_ascii_iterator_next (F.args_str_ascii_iterator_next_1 _) λA s ha hs=> ?_
 have ho:s.heap.get? I=some (dZ (.str x t) i):=hs.get (I,dZ (.str x t) i) (.head _)
 show wpAny _ _ (field (.ref I) 0>>=_) _ _ s
 refine wpAny_bind (wpAny_field ho rfl (x:= .str x t) rfl ?_)
 show wpAny _ _ (field (.ref I) 1>>=_) _ _ s
 refine wpAny_bind (wpAny_field ho rfl (x:= .int i 0) rfl ?_)
 simp only[Int.toNat_natCast,hx]
 refine wpAny_bind (wpAny_rule (wpAny_bind (wpAny_setField ho rfl (by simp) (wpAny_bind (wpAny_letGo ?_)))))
 show wpAny _ _ (newExc (.type "StopIteration") []>>=_) _ _ _
 refine wpAny_bind ?_
 simp only[newExc,newTuple]
 refine wpAny_bind (wpAny_newObj_type ?_ (by size_fits))
 refine wpAny_bind (m:=firstArgMember _ _) (wpAny_of_eq (a:=Value.none) (by first|rfl|(simp only[firstArgMember];rfl)) ?_)
 refine wpAny_newObj_type ?_ (by size_fits)
 simp only[raiseNew]
 refine wpAny_bind (wpAny_handled ?_)
 rw[show A.in1.handled=none from ha]
 refine wpAny_bind (wpAny_pure (wpAny_throw ?_))
 have E1:=hs.ends.upd (j:=0) (p:=(I,dZ (.str x t) i)) (f:=Obj.mapFields (·.setIfInBounds 0 .none)) Wr.self rfl rfl
 have e0:(s.heap.update I (Obj.mapFields (·.setIfInBounds 0 .none))).objs.size=s.heap.objs.size:=(Heap.SameBut.update ..).1
 generalize hh1:s.heap.update I (Obj.mapFields (·.setIfInBounds 0 .none))=h1 at e0⊢
 have E2:=(E1.push (o:=al []) rfl).push (o:=kK (s.heap.update I (Obj.mapFields (·.setIfInBounds 0 .none))).objs.size) rfl
 try dsimp only at E2
 rw[hh1] at E2
 refine⟨a7 _ _ (λk=>match k with|0=>h1.objs.size|_=>(h1.push (al [])).objs.size),rfl,aW (H:=oL I x t i js) E2 _ rfl ?_ ?_,trivial⟩
 ·rfl
 ·intro p hp
  have e1:(h1.push (al [])).objs.size=s.heap.objs.size+1:=by rw[Heap.size_push,e0]
  rcases e6 hp with rfl|hp
  ·show _≤h1.objs.size;lia
  ·rw[List.mem_singleton.mp hp];show _≤(h1.push (al [])).objs.size;lia
noncomputable def rC(a:Value):aD:=⟨.call (.builtin "list.__new__") ⟨[.type "list",a],[]⟩,[],[],λρ=> .ok (.ret (.ref (ρ 2))),λO=>[],λρ=>[(ρ 2,aa [] 0)]⟩
theorem vO{V:Gw}{a:Value}{L:Nat}:ai V L (rC a) (λρ=>ρ 0=ρ 2+1):=by
 intro A s hA hs
 refine codeAny_mono (code_list_new (Q₁:=λv s'=>v= .ref s.heap.objs.size∧s'={s with heap:=s.heap.push (aa [] 0)}) (E:=λO O=>False) a ⟨rfl,rfl⟩) ?_
 intro r s' hr
 cases r with
 |error e=>exact hr.elim
 |ok fl=>cases fl with
  |ret v=>
   obtain⟨rfl,rfl⟩:=hr
   have E:=hs.ends.push (o:=aa [] 0) rfl
   exact⟨a7 _ _ (λO=>s.heap.objs.size),rfl,aW (H:=rC a) E (λO=>s.heap.objs.size) rfl rfl (λp hp=>by rw[List.mem_singleton.mp hp];exact Nat.le_refl _),by show(s.heap.push (aa [] 0)).objs.size=_;rw[Heap.size_push];rfl⟩
  |_=>exact hr.elim
noncomputable def ge(f0:Value)(it:Addr)(i:Int)(old:Value):Obj:={cls:= .type "enumerate",data:= .fields #[f0,.bool false,.ref it,.int i 0,.none,old]}
noncomputable def jJ(l:Addr)(vs:List Value)(ep:Nat)(js:List Nat):aD:=⟨.call (.builtin "enumerate.__new__") ⟨[.type "enumerate",.ref l],[]⟩,js,[(l,aa vs ep)],λρ=> .ok (.ret (.ref (ρ 3))),λO=>[aa vs ep],λρ=>[(ρ 2,aj l 0),(ρ 3,ge .none (ρ 2) 0 .none)]⟩
theorem ik{V:Gw}{l ep:Nat}{vs:List Value}{js:List Nat}{L:Nat}:ai V L (jJ l vs ep js) (λO=>True):=by
 intro A s hA hs
 have hm:=meets_enumerate_new l ⟨vs⟩ ep V.prog V.w A (λr s'=>r= .ok (.ret (.ref (s.heap.push (aj l 0)).objs.size))∧s'={s with heap:=(s.heap.push (aj l 0)).push (ge .none s.heap.objs.size 0 .none)}) s ⟨hs.get (l,aa vs ep) (.head _),rfl,rfl⟩
 have hc:codeAny (model V.prog V.w) A (.call (.builtin "enumerate.__new__") ⟨[.type "enumerate",.ref l],[]⟩) (λr s'=>r= .ok (.ret (.ref (s.heap.push (aj l 0)).objs.size))∧s'={s with heap:=(s.heap.push (aj l 0)).push (ge .none s.heap.objs.size 0 .none)}) s:=
  codeAny_call_builtin (by decide+kernel) F.entry_enumerate_new (wpAny_of_eq (a:=()) (by kernel_rfl) hm)
 refine codeAny_mono hc ?_
 rintro r s' ⟨rfl,rfl⟩
 have E:=(hs.ends.push (o:=aj l 0) rfl).push (o:=ge .none s.heap.objs.size 0 .none) rfl
 refine⟨a7 _ _ (λk=>match k with|0=>s.heap.objs.size|_=>(s.heap.push (aj l 0)).objs.size),rfl,aW (H:=jJ l vs ep js) E _ rfl rfl ?_,trivial⟩
 intro p hp
 have e1:(s.heap.push (aj l 0)).objs.size=s.heap.objs.size+1:=by rw[Heap.size_push]
 rcases e6 hp with rfl|hp
 ·exact Nat.le_refl _
 ·rw[List.mem_singleton.mp hp];show _≤(s.heap.push (aj l 0)).objs.size;lia
theorem qj{M:Model}{Γ:PySem.Ctx}{p:Pos}{t:Sem PySem.Fin}{fs:List Frame}{s s':Shared}{e:End}(h:Runs M Γ p t fs s e s'):s.heap.objs.size≤s'.heap.objs.size:=by
 induction h<;>(try simp only[Shared.setGen,Heap.size_push,(Heap.SameBut.update ..).1] at*)<;>lia
theorem d9{M:Model}{A:Around}{c:Code}{R:Result→Shared→Prop}{s:Shared}(h:codeAny M A c R s):codeAny M A c (λr s'=>s.heap.objs.size≤s'.heap.objs.size∧R r s') s:=λΓ p hc hΓ=>by
 obtain⟨r,s',hr,hR⟩:=h Γ p hc hΓ
 exact⟨r,s',hr,qj hr,hR⟩
theorem l4{prog:Program}{w:World}{A:Around}{s:Shared}{T:String}{name:Str}{id:String}{B:Builtin}{self:Value}{rest:List Value}{R:Result→Shared→Prop}(slot:Slot T name id)(hT:s.TypeIs self T)
  (entry:entryFor table id=some B) (args:argsOk id ⟨self::rest,[]⟩)
  (h:wpAny (model prog w) A.in1 (B ⟨self::rest,[]⟩) (λfin s'=>match fin with| .done f=>R (.ok f) s'| .again c'=>c'.quiet=true∧codeAny (model prog w) A c' R s') (λe s'=>R (.error e) s') s):codeAny (model prog w) A (.call (.builtin id) ⟨self::rest,[]⟩) R s:=
 codeAny_call_builtin slot.plain entry (slot.check _ _ _ _ _ _ _ _ hT args h)
noncomputable def p6(a b c:Int)(t u v:Nat):Obj:={cls:= .type "range",data:= .fields #[.int a t,.int b u,.int c v]}
noncomputable def lA(S r:Addr)(k:Nat)(t u v:Nat)(js:List Nat):aD:=⟨.call (.builtin "list.__init__") ⟨[.ref S,.ref r],[]⟩,js,[(S,aa [] 0),(r,p6 0 k 1 t u v)],λO=> .ok (.ret .none),
 λρ=>[aa ((List.range k).map λ(i:Nat)=>Value.int i (ρ (i+3))) (ρ 2),p6 0 k 1 t u v],λO=>[]⟩
theorem tL{V:Gw}{S r k t u v:Nat}{js:List Nat}{L:Nat}(hk:k≤1000):ai V L (lA S r k t u v js) (λO=>True):=by
 intro A s hA hs
 have hS:s.heap.get? S=some (aa [] 0):=hs.get (S,aa [] 0) (.head _)
 have hr:s.heap.get? r=some (p6 0 k 1 t u v):=hs.get (r,p6 0 k 1 t u v) (.tail _ (.head _))
 have hsize:Builtin.Range.rangeSize 0 k 1=(k:Nat):=by unfold Builtin.Range.rangeSize;simp;lia
 have hsm:Builtin.Range.small 0 k 1=true:=by
  unfold Builtin.Range.small
  rw[hsize]
  simp[Builtin.Range.rangeFitsLong]
  lia
 have hl:=wpAny_list_init_range (prog:=V.prog) (w:=V.w) (A:=A) (R:=λr' s'=>r'= .ok (.ret .none)∧∃h' tk acc c',(∀b o,b≠S→s.heap.get? b=some o→h'.get? b=some o)∧h'.get? S=some {cls:= .type "list",dict:=none,data:= .seq acc c',slots:=#[]}∧
   ItemsOf (λi v=>∃t,v= .int (0+i*1) t) acc k∧s'={s with heap:=h',toks:=tk}) hA.2.2 hr hsm hsize (by lia) S hS λh' tk acc' c' h1 h2 h3=>⟨rfl,h',tk,acc',c',h1,h2,h3,rfl⟩
 have hT:s.TypeIs (.ref S) "list":=⟨_,hS,rfl⟩
 have hc:=l4 (R:=λr' s'=>r'= .ok (.ret .none)∧∃h' tk acc c',(∀b o,b≠S→s.heap.get? b=some o→h'.get? b=some o)∧h'.get? S=some {cls:= .type "list",dict:=none,data:= .seq acc c',slots:=#[]}∧
   ItemsOf (λi v=>∃t,v= .int (0+i*1) t) acc k∧s'={s with heap:=h',toks:=tk}) F.slot_list_init hT F.entry_list_init (F.args_list_init_2 (.ref S) (.ref r)) hl
 refine codeAny_mono (d9 hc) ?_
 rintro r' s' ⟨hgrow,rfl,h',tk,acc,c',h1,h2,h3,rfl⟩
 obtain⟨h3,h4⟩:=h3
 have hSr:r≠S:=λe=>by
  rw[e,hS] at hr
  exact absurd (Value.type.inj (congrArg Obj.cls (Option.some.inj hr))) (by decide)
 let g:Nat→Nat:=λi=>match acc[i]? with|some (.int _ t)=>t|_=>0
 have hacc:acc=List.toArray ((List.range k).map λ(i:Nat)=>Value.int i (a7 h'.objs.size tk (λj=>match j with|0=>c'|i+1=>g i) (i+3))):=by
  apply Array.ext
  ·simp[h3]
  ·intro i hi1 hi2
   obtain⟨t',e⟩:=h4 i acc[i] (Array.getElem?_eq_getElem hi1)
   have e1:acc[i]?=some (.int (0+i*1) t'):=by rw[Array.getElem?_eq_getElem hi1,e]
   rw[e]
   simp only[List.getElem_toArray,List.getElem_map,List.getElem_range]
   show _=Value.int i (g i)
   simp only[g,e1]
   rw[Int.mul_one,Int.zero_add]
 have E:am V ((lA S r k t u v js).K.map (·.1)) s [(S,aa ((List.range k).map λ(i:Nat)=>Value.int i (a7 h'.objs.size tk (λj=>match j with|0=>c'|i+1=>g i) (i+3))) c'),(r,p6 0 k 1 t u v)] {s with heap:=h',toks:=tk}:=by
  refine⟨⟨⟨λb o e hb=> ?_,Nat.le_trans hs.base.size hgrow,hs.base.gens,hs.base.drawn,hs.base.os⟩,λp hp=> ?_,hs.nodup,λp hp=> ?_⟩,λb o e hb=>h1 b o (λe'=>hb (e'▸ .head _)) e,hgrow⟩
  ·refine h1 b o (λe'=> ?_) (hs.base.old b o e hb)
   exact pp (hs.ok (S,aa [] 0) (.head _)) e hb e'
  ·rcases e6 hp with rfl|hp
   ·show h'.get? S=some _
    rw[h2,hacc];rfl
   ·rw[List.mem_singleton.mp hp]
    exact h1 r _ hSr hr
  ·rcases e6 hp with rfl|hp
   ·exact hs.ok (S,aa [] 0) (.head _)
   ·rw[List.mem_singleton.mp hp];exact hs.ok (r,p6 0 k 1 t u v) (.tail _ (.head _))
 exact⟨a7 h'.objs.size tk (λj=>match j with|0=>c'|i+1=>g i),rfl,aW (H:=lA S r k t u v js) E _ rfl rfl (λO hp=>nomatch hp),trivial⟩
noncomputable def ny(P:Params)(fr I cLf av cU cL lf lv U:Addr)(T:aF)(i b:Nat)(lvs:List Value)(el:Nat)(us:List Value)(eU:Nat):KL:=
 [(fr,cY P T),(I,fW i b 1),(cLf,cm (.ref lf)),(av,cm (.ref lv)),(cU,cm (.ref U)),(lv,aa lvs el),(U,aa us eU)]
noncomputable def IG(P:Params)(b1 b2:Bool)(n t fr I cLf cLv' cU cL lf lv U:Nat)(first:Bool)(κ:Nat)(v:Value)(i b:Nat)(ep:Nat)(lvs:List Value)(el:Nat)(us:List Value)(eU:Nat):bu:=
 ap P b1 b2 (av P fr I cLf cLv' cU cL) (ny P fr I cLf cLv' cU cL lf lv U (bk first c7 κ v) i (b+1) lvs el us eU++[(lf,aa [] ep)]) n t
 (.hook [2] 0 (dC I i b [1]) λρ=> .again [1,1,3,8,8,0,8,0,8,8] (av P fr I cLf cLv' cU cL) [0,1,2,3,4,5,6,7] (ny P fr I cLf cLv' cU cL lf lv U [(c7,ao first κ (ρ 1),.int i (ρ 2))] (i+1) b lvs el us eU++[(lf,aa [] ep)]))
noncomputable def IF(P:Params)(b1 b2:Bool)(n t fr I cLf cLv' cU cL lf lv U:Nat)(first:Bool)(κ:Nat)(v:Value)(i b:Nat)(k:Nat)(g:Nat→Value)(ep:Nat)(lvs:List Value)(el:Nat)(us:List Value)(eU:Nat)(o1 o2:List Value)(w w2:Value):bu:=
 ap P b1 b2 (av P fr I cLf cLv' cU cL) (ny P fr I cLf cLv' cU cL lf lv U (bk first c7 κ v) i (b+1) lvs el us eU++[(lf,aa (iz k g) ep)]) n t
 (.hook [2] 0 (dC I i b [1]) λρ0=> .hook [1,1,3,8,8,0,8,0,8,8,4,6,6,6,6,3,8,8,0,8,9] 4 (aH P fr cLv' cL (ρ0 0+2) (ρ0 0) lf (ρ0 0+1) (ρ0 0+3) cU U cLf (iz k g) ep none us eU o1 w [10,8,7,9,11,4,6,2]) λρ=> .hook [] 0 (a5 lv lvs el (.ref (ρ0 0+1)) [5]) λρ'=> .hook [3,8,8,0,8,13] 3 (bH P fr cLf cU cL (ρ' 0+2) (ρ' 0) lf (ρ' 0+1) cLv' lv (ρ0 0+1) (iz k g) ep (lvs++[.ref (ρ0 0+1)]) (el+1) o1 o1.length o2 w2 [14,12,7,13,3,5,9]) λρ''=>
  .again [15,15,15,3,3] (av P fr I cLf cLv' cU cL) [0,1,2,3,4,5,6,13,9,7] ((ny P fr I cLf cLv' cU cL (ρ' 0+1) lv U [(c7,ao first κ (ρ0 1),.int i (ρ0 2))] (i+1) b (lvs++[.ref (ρ0 0+1)]) (el+1) us eU++[(ρ' 0+1,aa o2 o2.length)]++[(ρ0 0+1,aa o1 o1.length)])++[(lf,aa (iz k g) ep)]))
noncomputable def ms:Obj:={cls:= .type "cell",data:= .cell none}
noncomputable def Dp(P:Params)(fr I cLf cLv' cU cL lf lv U:Nat)(b:Nat)(ls:List Value)(ep:Nat)(us:List Value)(eU:Nat)(nl:Nat)(i':Nat)(T:br→aF)(js:List Nat):aD:=
 ⟨av P fr I cLf cLv' cU cL,js,ny P fr I cLf cLv' cU cL lf lv U [] 0 b [] 0 us eU++[(lf,aa ls ep)],λO=> .ok .next,
  λρ=>(ny P fr I cLf cLv' cU cL (ρ 2) lv U (T ρ) i' 0 (bY ((List.range nl).map λk=>ρ (k+4))) nl us eU++[(lf,aa ls ep)]).map (·.2),λO=>[]⟩
theorem IW(P b1 n t fr I cLf cLv' cU cL lf lv U κ v i b ep lvs el us eU):Qk 200 λr=>ay λfirst b2=>r (IG P b1 b2 n t fr I cLf cLv' cU cL lf lv U first κ v i b ep lvs el us eU):=by unfold Qk;kernel_rfl!
theorem IR(P:Params)(b1:Bool)(n t fr I cLf cLv' cU cL lf lv U:Nat)(T:aF)(i:Nat)(lvs:List Value)(el:Nat)(us:List Value)(eU:Nat):Qk 200 λr=>fT λb2=>r ( ap P b1 b2 (av P fr I cLf cLv' cU cL) (ny P fr I cLf cLv' cU cL lf lv U T i 0 lvs el us eU) n t
 (.hook [2] 0 (i5 I i [1]) λρ=> .fin [9] (.ok .next) [0,1,2,3,4,5,6] (ny P fr I cLf cLv' cU cL lf lv U T i 0 lvs el us eU))):=by unfold Qk;kernel_rfl!
theorem Gp(P:Params)(b1 b2:Bool)(n t:Nat)(l:Addr)(vs:List Value)(ep:Nat):Qk 100 λr=>r (bK P b1 b2 189 [.ref l] [(l,aa vs ep)] n t [0,3,3] n [(nm oM,n+4),(nm ci,n+3),(nm jK,n+2),(nm gh,n+1)] [1,2,3,4,5,0] [(n,cY P []),(n+1,cm (.ref l)),(n+2,ms),(n+3,ms),(n+4,ms),(l,aa vs ep)]):=by unfold Qk;kernel_rfl!
theorem Gq(P:Params)(n n' t:Nat)(l:Addr)(wf:Nat→WS)(ep:Nat)(nl:Nat)(T:br→aF):Qk 400 λr=>ay λb1 b2=>r ( ap P b1 b2 (cc P 189 n [(nm oM,n+4),(nm ci,n+3),(nm jK,n+2),(nm gh,n+1)]) [(n,cY P []),(n+1,cm (.ref l)),(n+2,ms),(n+3,ms),(n+4,ms),(l,aa (ag ((List.range 6).map wf)) ep)] n' t
 (.hook [2,6,6,0,6,7] 4 (xx P n (n'+2) n' l (n'+1) (n'+3) (n+1) ep ((List.range 6).map wf) none [8,6,5,7,9,1]) λρ=>
  .hook [3,3,0,0,0,0,0,0,2,0,6,0,6,6,0,0,12,12,0,12,12,0] 2 {rC (.ref (ρ 0+1)) with js:=[]} λρ1=>
  .hook [13,13] 0 (lA (ρ1 2) (ρ 0+1) 6 (ρ 1+2) (ρ 1+1) (ρ 1+3) [12,11]) λρ2=>
  .hook [14,14,14,0,14,15,15,0,15,15,15,14,15,15,15,0,15,15,15,14,15,15,15,0,15,15,15,14,15,15,17,4,4,5,5,0,0,0,0,2,0,6,0,6,6,0,0,18,18,0,18,18,18,18,0,18,18,18,18,19] 6 (Dp P n (ρ2 0+5) (n+4) (n+3) (n+2) (n+1) (ρ1 2) (ρ 0) (n'+1) 6 ((List.range 6).map λ(i:Nat)=>Value.int i (ρ2 (i+3))) (ρ2 2) (bY ((List.range 6).map λk=>ρ (k+2))) 6 nl 6 T [0,18,4,3,2,10,7,12]) λρ'=>
  .fin [4] (.ok (.ret (.ref (ρ 0)))) [5,10] [(l,aa (ag ((List.range 6).map wf)) ep),(ρ 0,aa (bY ((List.range nl).map λk=>ρ' (k+4))) nl)])):=by unfold Qk;kernel_rfl!
noncomputable def Dc(f:Nat→Bool→Bool→iB):List (List iB):=[1,2,3,4,5,6].map λk=>ay (f k)
theorem xU{f g:Nat→Bool→Bool→iB}(h:Dc f=Dc g)(k)(h1:1≤k)(h2:k≤6)(a b):f k a b=g k a b:=
 ad (List.map_inj_left.mp h k ((by decide:∀k<7,1≤k→k∈[1,2,3,4,5,6]) k (Nat.lt_succ_of_le h2) h1)) a b
theorem IV(P b1 n t fr I cLf cLv' cU cL lf lv U κ v i b g ep lvs el us eU o1 o2 w w2):Qk 400 λr=>Dc λk first b2=>r (IF P b1 b2 n t fr I cLf cLv' cU cL lf lv U first κ v i b k g ep lvs el us eU o1 o2 w w2):=by unfold Qk;kernel_rfl!
theorem At.less{V:Gw}{K R:KL}{s:Shared}(h:At V (K++R) s):At V K s:=by
 refine⟨h.base,λp hp=>h.get p (List.mem_append_left _ hp),?_,λp hp=>h.ok p (List.mem_append_left _ hp)⟩
 have:=h.nodup
 rw[List.map_append,List.nodup_append] at this
 exact this.1
theorem Fz.less{V:Gw}{F K R:KL}{s:Shared}(h:Fz V F (K++R) s):Fz V F K s:=λp hp=>⟨(h p hp).1,λhm=>(h p hp).2.1 (by rw[List.map_append];exact List.mem_append_left _ hm),(h p hp).2.2⟩
noncomputable def ml:Value→Int
 | .int a _=>a
 |_=>0
theorem aI.eq{vs:List Value}{ns:List Int}(h:aI vs ns):ns=vs.map ml:=by
 induction h with
 |nil=>rfl
 |cons h ih=>rw[List.map_cons,←ih];rfl
theorem aI.filt{vs:List Value}{ns:List Int}(h:aI vs ns)(f:Value→Bool):aI (vs.filter f) ((vs.filter f).map ml):=by
 induction h with
 |nil=>exact .nil
 | @cons b t l m h ih=>
  rw[List.filter_cons]
  split
  ·exact .cons ih
  ·exact ih
noncomputable def bJ(B:Int→Int→Bool):Nat→List Value→List (List Value)
 |0,_=>[]
 |b+1,ls=>match ls with
  |[]=>bJ B b []
  |x::r=>((x::r).filter (fA B (x::r)))::bJ B b ((x::r).filter (fN (((x::r).filter (fA B (x::r))).map ml)))
theorem vr(B:Int→Int→Bool)(b:Nat){ls:List Value}(h:ls≠[]):bJ B (b+1) ls=(ls.filter (fA B ls))::bJ B b (ls.filter (fN ((ls.filter (fA B ls)).map ml))):=by
 cases ls with
 |nil=>exact absurd rfl h
 |cons x r=>rfl
noncomputable def g4(Ls:List (List Value))(as:List Addr):KL:=(Ls.zip as).map λp=>(p.2,aa p.1 p.1.length)
theorem ql(Ls:List (List Value))(as:List Addr)(y:List Value)(a:Addr)(h:Ls.length=as.length):g4 (Ls++[y]) (as++[a])=g4 Ls as++[(a,aa y y.length)]:=by
 unfold g4
 rw[List.zip_append h];simp
theorem yB(ls:List Value):ls=iz ls.length (λi=>ls.getD i .none):=by
 apply List.ext_getElem
 ·simp[iz]
 ·intro i h1 h2
  simp only[iz,List.getElem_map,List.getElem_range]
  rw[List.getD_eq_getElem?_getD,List.getElem?_eq_getElem h1];rfl
theorem vk{V:Gw}(G:au V)(n0:Nat){fr I cLf cLv' cU cL lv U eU er:Nat}{us:List Value}{F0:KL}(hus:aw us.length)(B:Int→Int→Bool)(at_:Int→Addr)(row:Int→List Value)
  (hrow:∀p:Int,0≤p→p<6→us[p.toNat]?=some (.ref (at_ p))∧aw (row p).length∧(at_ p,aa (row p) er)∈F0∧∀q:Int,0≤q→q<6→(row p)[q.toNat]?=some (.bool (B p q))):
  ∀(b:Nat) (ls:List Value) (ns:List Int) (first:Bool) (κ:Nat) (v:Value) (i lf ep:Nat) (as:List Addr) (Ls:List (List Value)) (A:Around) (s:Shared),
   aI ls ns→(∀p∈ns,0≤p∧p<6)→ls.length≤6→as.length+b≤100→Ls.length=as.length→n0≤s.heap.objs.size→(∀a∈as,n0≤a)→as.Nodup→Bd 4 A→
   At V (ny V.w.params fr I cLf cLv' cU cL lf lv U (bk first c7 κ v) i b (bY as) as.length us eU++[(lf,aa ls ep)]) s→
   Fz V (F0++g4 Ls as) (ny V.w.params fr I cLf cLv' cU cL lf lv U (bk first c7 κ v) i b (bY as) as.length us eU++[(lf,aa ls ep)]) s→
   codeAny (model V.prog V.w) A (av V.w.params fr I cLf cLv' cU cL) (λr s'=>r= .ok .next∧E3 λas' lf' T=>A6 (as'.length=(Ls++bJ B b ls).length) (∀a∈as',n0≤a) (as'.Nodup) ((b=0∧T=bk first c7 κ v)∨∃κ' t',T=[(c7,κ',.int ((i+b-1:Nat):Int) t')]) 
    (am V [fr,I,cLf,cLv',cU,lv,U] s (ny V.w.params fr I cLf cLv' cU cL lf' lv U T (i+b) 0 (bY as') as'.length us eU) s') 
    (Fz V (F0++g4 (Ls++bJ B b ls) as') (ny V.w.params fr I cLf cLv' cU cL lf' lv U T (i+b) 0 (bY as') as'.length us eU) s')) s:=by
 intro b
 induction b with
 |zero=>
  intro ls ns first κ v i lf ep as Ls A s hi hd hl6 hab hLs hn0 has hnd hA hs1 hF
  refine aR G hF.less (a6 (IR V.w.params (aC V) s.heap.objs.size s.toks fr I cLf cLv' cU cL lf lv U (bk first c7 κ v) i (bY as) as.length us eU) (aB V)) hA hs1.less ?_
  refine ac (ii (L:=0)) rfl rfl rfl λρ O O=>an rfl λs' hs' hf'=>⟨rfl,as,lf,bk first c7 κ v,?_,has,hnd,.inl ⟨rfl,rfl⟩,?_,?_⟩
  ·rw[bJ,List.append_nil,hLs]
  ·exact hs'
  ·rw[bJ,List.append_nil];exact hf'
 |succ b ih=>
  intro ls ns first κ v i lf ep as Ls A s hi hd hl6 hab hLs hn0 has hnd hA hs1 hF
  have hT:∀(T:aF) (κ1 t1:Nat),((b=0∧T=bk false c7 κ1 (.int (i:Int) t1))∨∃κ' t',T=[(c7,κ',Value.int ((i+1+b-1:Nat):Int) t')])→((b+1=0∧T=bk first c7 κ v)∨∃κ' t',T=[(c7,κ',Value.int ((i+(b+1)-1:Nat):Int) t')]):=λT κ1 t1 h=>by
   right
   rcases h with⟨h,h'⟩|⟨κ',t',h⟩
   ·subst h;exact⟨κ1,t1,h'⟩
   ·refine⟨κ',t',?_⟩
    rw[h]
    have:i+1+b-1=i+(b+1)-1:=by lia
    rw[this]
  by_cases he:ls=[]
  ·subst he
   refine aR G hF (ad (IW V.w.params (aC V) s.heap.objs.size s.toks fr I cLf cLv' cU cL lf lv U κ v i b ep (bY as) as.length us eU) first (aB V)) hA hs1 ?_
   refine ac (dg (L:=0)) rfl rfl rfl λρ O hρ=>ax rfl λs' hs' hf'=>⟨rfl,?_⟩
   refine codeAny_mono (ih [] [] false (ao first κ (ρ 1)) (.int i (ρ 2)) (i+1) lf ep as Ls A s' .nil (λO h=>nomatch h) (by simp) (by lia) hLs (Nat.le_trans hn0 hs'.grow) has hnd hA hs'.at' hf') ?_
   rintro r s'' ⟨hr,as',lf',T,h1,h2,h2n,h3,h4,h5⟩
   have e1:bJ B (b+1) []=bJ B b []:=rfl
   have e2:i+1+b=i+(b+1):=by lia
   rw[e2] at h4 h5
   rw[e1]
   exact⟨hr,as',lf',T,h1,h2,h2n,hT T _ _ h3,(hs'.freeze hs1).trans h4 (λb hb=> .inl hb),h5⟩
  ·obtain⟨k,g,hk1,hk6,rfl⟩:∃k g,1≤k∧k≤6∧ls=iz k g:=⟨ls.length,_,by cases ls with|nil=>exact absurd rfl he|cons=>simp,hl6,yB ls⟩
   obtain⟨w,hw⟩:∃w,(iz k g).getLast?=some w:=by
    cases hz:(iz k g).getLast? with
    |none=>exact absurd (List.getLast?_eq_none_iff.mp hz) he
    |some w=>exact⟨w,rfl⟩
   have hsm:aw (iz k g).length:=Nat.le_trans hl6 (by decide)
   have hrow':∀p∈ns,0≤p∧us[p.toNat]?=some (.ref (at_ p))∧aw (row p).length∧(at_ p,aa (row p) er)∈F0++g4 Ls as∧∀q∈ns,(row p)[q.toNat]?=some (.bool (B p q)):=λp hp=>by
    obtain⟨h0,h6⟩:=hd p hp
    obtain⟨a1,a2,a3,a4⟩:=hrow p h0 h6
    exact⟨h0,a1,a2,List.mem_append_left _ a3,λq hq=>a4 q (hd q hq).1 (hd q hq).2⟩
   have hasl:aw (bY as).length:=by show _≤1000;rw[bY,List.length_map];lia
   refine aR G hF (xU (IV V.w.params (aC V) s.heap.objs.size s.toks fr I cLf cLv' cU cL lf lv U κ v i b g ep (bY as) as.length us eU ((iz k g).filter (fA B (iz k g))) ((iz k g).filter (fN (((iz k g).filter (fA B (iz k g))).map ml))) w w) k hk1 hk6 first (aB V)) hA hs1 ?_
   refine ac (dg (L:=0)) rfl rfl rfl λρ0 O hρ=>aV (l:=3) (Fj G hi hsm hus B at_ row hrow' hw) rfl rfl rfl λρ O O=>ac (l:=0) (aM hasl) rfl rfl rfl λρ' O hρ'=>
    ac (l:=2) (Fi G hi (hi.filt _) (by simp) hsm hw) rfl rfl rfl λρ'' O O=>ax rfl λs' hs' hf'=>⟨rfl,?_⟩
   have E1:=hs'.freeze hs1
   have hF1:=Fz.take E1.at' hf'.less
   rw[List.append_assoc,←ql Ls as _ _ hLs] at hF1
   have E2:=E1.keep
   have er:bY as++[.ref (ρ0 0+1)]=bY (as++[ρ0 0+1]):=by simp[bY]
   have el:as.length+1=(as++[ρ0 0+1]).length:=by simp
   rw[er,el] at E2 hF1
   have hnew:(ρ0 0+1)∉as:=λhm=>by
    obtain⟨i,hi,e⟩:=List.mem_iff_getElem.mp hm
    have hil:i<Ls.length:=by rw[hLs];exact hi
    have hp:(as[i],aa Ls[i] Ls[i].length)∈g4 Ls as:=List.mem_map.mpr ⟨(Ls[i],as[i]),List.mem_iff_getElem?.mpr ⟨i,by rw[List.getElem?_zip_eq_some];exact⟨List.getElem?_eq_getElem hil,List.getElem?_eq_getElem hi⟩⟩,rfl⟩
    refine(hf' _ (List.mem_append_right _ hp)).2.1 ?_
    rw[List.map_append,List.map_append]
    refine List.mem_append_left _ (List.mem_append_right _ ?_)
    show as[i]∈[ρ0 0+1]
    rw[e];exact .head _
   have hnd2:(as++[ρ0 0+1]).Nodup:=by
    rw[List.nodup_append]
    exact⟨hnd,by simp,λa ha b hb e=>hnew (by rw[←List.mem_singleton.mp hb,←e];exact ha)⟩
   have hlen2:((iz k g).filter (fN (((iz k g).filter (fA B (iz k g))).map ml))).length≤(iz k g).length:=List.length_filter_le _ _
   refine codeAny_mono (ih _ _ false (ao first κ (ρ0 1)) (.int i (ρ0 2)) (i+1) (ρ' 0+1) _ (as++[ρ0 0+1]) (Ls++[(iz k g).filter (fA B (iz k g))]) A s' (hi.filt _) (λp hp=> ?_) (Nat.le_trans hlen2 hl6) (by simp;lia) (by simp[hLs]) (Nat.le_trans hn0 hs'.grow) (λa ha=> ?_) hnd2 hA E2.at' hF1) ?_
   ·obtain⟨x,hx,rfl⟩:=List.mem_map.mp hp
    refine hd _ ?_
    rw[hi.eq]
    exact List.mem_map_of_mem (List.mem_filter.mp hx).1
   ·rcases List.mem_append.mp ha with ha|ha
    ·exact has a ha
    ·rw[List.mem_singleton.mp ha];exact Nat.le_trans hn0 (Nat.le_succ_of_le hρ)
   ·rintro r s'' ⟨hr,as',lf',T,h1,h2,h2n,h3,h4,h5⟩
    have e1:Ls++[(iz k g).filter (fA B (iz k g))]++bJ B b ((iz k g).filter (fN (((iz k g).filter (fA B (iz k g))).map ml)))=Ls++bJ B (b+1) (iz k g):=by rw[vr B b he,List.append_assoc];rfl
    have e2:i+1+b=i+(b+1):=by lia
    rw[e1] at h1 h5
    rw[e2] at h4 h5
    exact⟨hr,as',lf',T,h1,h2,h2n,hT T _ _ h3,E2.keep.trans h4 (λb hb=> .inl hb),h5⟩
theorem am.more{V:Gw}{K K' R:KL}{s s':Shared}(h:am V (K.map (·.1)) s K' s')(h0:At V (K++R) s)(hk:K'.map (·.1)=K.map (·.1)):am V ((K++R).map (·.1)) s (K'++R) s':=by
 have hF:Fz V ([]++R) K s:=Fz.take h0 (Fz.nil)
 have hF':Fz V ([]++R) K' s':=Fz.after hF h hk
 refine⟨At.thaw h.at' hF' (λp hp=>by simpa using hp) ?_,λb o e hb=>h.pres b o e λhm=>hb (by rw[List.map_append];exact List.mem_append_left _ hm),h.grow⟩
 have:=h0.nodup
 rw[List.map_append,List.nodup_append] at this
 exact this.2.1
theorem qP(as:List Addr)(f:Nat→Nat)(nl:Nat)(h1:as.length=nl)(hf:∀i,i<nl→f i=as.getD i 0):(List.range nl).map f=as:=by
 apply List.ext_getElem
 ·simp[h1]
 ·intro i h1' h2'
  simp only[List.getElem_map,List.getElem_range]
  rw[hf i (by simpa using h1'),List.getD_eq_getElem?_getD,List.getElem?_eq_getElem h2'];rfl
theorem B7{V:Gw}(G:au V){fr I cLf cLv' cU cL lf lv U eU er ep:Nat}{us:List Value}{F0:KL}(hus:aw us.length)(B:Int→Int→Bool)(at_:Int→Addr)(row:Int→List Value)
  (hrow:∀p:Int,0≤p→p<6→us[p.toNat]?=some (.ref (at_ p))∧aw (row p).length∧(at_ p,aa (row p) er)∈F0∧∀q:Int,0≤q→q<6→(row p)[q.toNat]?=some (.bool (B p q)))
  {ls:List Value} {ns:List Int} (hi:aI ls ns) (hd:∀p∈ns,0≤p∧p<6) (hl6:ls.length≤6) {js:List Nat}:
  aQ V 4 (Dp V.w.params fr I cLf cLv' cU cL lf lv U 6 ls ep us eU (bJ B 6 ls).length 6 (λρ=>[(c7,ρ 3,.int 5 (ρ ((bJ B 6 ls).length+4)))]) js) F0 (λρ=>(∀k,k<(bJ B 6 ls).length→I≤ρ (k+4))∧((List.range (bJ B 6 ls).length).map λk=>ρ (k+4)).Nodup) (λρ=>g4 (bJ B 6 ls) ((List.range (bJ B 6 ls).length).map λk=>ρ (k+4))):=by
 intro A s hA hs1 hf
 refine codeAny_mono (vk G s.heap.objs.size hus B at_ row hrow 6 ls ns true 0 .none 0 lf ep [] [] A s hi hd hl6 (by simp) rfl (Nat.le_refl _) (λO h=>nomatch h) List.nodup_nil hA hs1 (by rw[show g4 [] []=[] from rfl,List.append_nil];exact hf)) ?_
 rintro r s' ⟨hr,as',lf',T,h1,h2,h2n,h3,h4,h5⟩
 rcases h3 with⟨h3,_⟩|⟨κ',t',h3⟩
 ·exact absurd h3 (by decide)
 subst h3
 rw[List.nil_append] at h1 h5
 have E:=am.more (K:=ny V.w.params fr I cLf cLv' cU cL lf lv U [] 0 6 [] 0 us eU) (K':=ny V.w.params fr I cLf cLv' cU cL lf' lv U [(c7,κ',.int 5 t')] 6 0 (bY as') as'.length us eU) (R:=[(lf,aa ls ep)]) h4 hs1 rfl
 have hback:(List.range (bJ B 6 ls).length).map (λk=>a7 s'.heap.objs.size s'.toks (λj=>match j with|0=>lf'|1=>κ'|i+2=>if i<(bJ B 6 ls).length then as'.getD i 0 else t') (k+4))=as':=
  qP as' _ _ h1 λi hi=>by
   show(if i<_ then as'.getD i 0 else t')=_
   rw[if_pos hi]
 have ht:a7 s'.heap.objs.size s'.toks (λj=>match j with|0=>lf'|1=>κ'|i+2=>if i<(bJ B 6 ls).length then as'.getD i 0 else t') ((bJ B 6 ls).length+4)=t':=by
  show(if(bJ B 6 ls).length<(bJ B 6 ls).length then _ else t')=_
  rw[if_neg (Nat.lt_irrefl _)]
 refine⟨a7 s'.heap.objs.size s'.toks (λj=>match j with|0=>lf'|1=>κ'|i+2=>if i<(bJ B 6 ls).length then as'.getD i 0 else t'),hr,aW (H:=Dp V.w.params fr I cLf cLv' cU cL lf lv U 6 ls ep us eU (bJ B 6 ls).length 6 (λρ=>[(c7,ρ 3,.int 5 (ρ ((bJ B 6 ls).length+4)))]) js) E _ rfl ?_ (λO hp=>nomatch hp),⟨λk hk=> ?_,?_⟩,λp hp=> ?_⟩
 ·show _=List.zip _ (List.map _ (ny V.w.params fr I cLf cLv' cU cL _ lv U [(c7,_,.int 5 (a7 s'.heap.objs.size s'.toks _ ((bJ B 6 ls).length+4)))] 6 0 (bY ((List.range _).map _)) _ us eU++_))++[]
  rw[hback,ht,←h1]
  rfl
 ·show I≤(if k<_ then as'.getD k 0 else t')
  rw[if_pos hk,List.getD_eq_getElem?_getD,List.getElem?_eq_getElem (h1▸hk)]
  exact Nat.le_trans (Nat.le_of_lt (Heap.lt_size (hs1.get (I,fW 0 6 1) (.tail _ (.head _))))) (h2 _ (List.getElem_mem _))
 ·show((List.range (bJ B 6 ls).length).map (λk=>a7 s'.heap.objs.size s'.toks (λj=>match j with|0=>lf'|1=>κ'|i+2=>if i<(bJ B 6 ls).length then as'.getD i 0 else t') (k+4))).Nodup
  rw[hback];exact h2n
 ·have hp:p∈g4 (bJ B 6 ls) ((List.range (bJ B 6 ls).length).map (λk=>a7 s'.heap.objs.size s'.toks (λj=>match j with|0=>lf'|1=>κ'|i+2=>if i<(bJ B 6 ls).length then as'.getD i 0 else t') (k+4))):=hp
  rw[hback] at hp
  obtain⟨h6,_,_⟩:=h5 p (List.mem_append_right _ hp)
  refine⟨h6,?_,λhm=>nomatch hm⟩
  obtain⟨q,hq,rfl⟩:=List.mem_map.mp hp
  exact h2 q.2 (List.of_mem_zip hq).2
noncomputable def je(B:Int→Int→Bool):Nat→List Int→List (List Int)
 |0,_=>[]
 |b+1,ns=>match ns with
  |[]=>je B b []
  |x::r=>((x::r).filter λp=>((x::r).filter (B p)).isEmpty)::je B b ((x::r).filter λp=> !decide (p∈((x::r).filter λp=>((x::r).filter (B p)).isEmpty)))
theorem aI.filter_map{vs:List Value}{ns:List Int}(h:aI vs ns){f:Value→Bool}{g:Int→Bool}(hfg:∀p t,f (.int p t)=g p):(vs.filter f).map ml=ns.filter g:=by
 induction h with
 |nil=>rfl
 | @cons b t l m h ih=>
  rw[List.filter_cons,List.filter_cons,hfg]
  split
  ·rw[List.map_cons,ih];rfl
  ·exact ih
theorem oA{vs:List Value}{ns:List Int}(h:aI vs ns)(C:Int→Bool):(vs.filter (fB C)).isEmpty=(ns.filter C).isEmpty:=by
 have:=h.filter_map (f:=fB C) (g:=C) (λO O=>rfl)
 rw[←this,List.isEmpty_map]
theorem iO(B:Int→Int→Bool):∀(b:Nat) (ls:List Value) (ns:List Int),aI ls ns→(bJ B b ls).map (·.map ml)=je B b ns:=by
 intro b
 induction b with
 |zero=>intro ls ns h;rfl
 |succ b ih=>
  intro ls ns h
  cases h with
  |nil=>exact ih [] [] .nil
  | @cons a t l m h=>
   have hc:aI (.int a t::l) (a::m):= .cons h
   have h1:((Value.int a t::l).filter (fA B (.int a t::l))).map ml=(a::m).filter λp=>((a::m).filter (B p)).isEmpty:=hc.filter_map λp t'=>oA hc (B p)
   show(_::bJ B b _).map _=_::je B b _
   rw[List.map_cons,h1]
   have h2:((Value.int a t::l).filter (fN ((a::m).filter λp=>((a::m).filter (B p)).isEmpty))).map ml=(a::m).filter λp=> !decide (p∈((a::m).filter λp=>((a::m).filter (B p)).isEmpty)):=hc.filter_map λp t'=>rfl
   have h3:=hc.filt (fN ((a::m).filter λp=>((a::m).filter (B p)).isEmpty))
   rw[h2] at h3
   rw[ih _ _ h3]
theorem qm(B:Int→Int→Bool):∀(b:Nat) (ls:List Value) (ns:List Int),aI ls ns→∀y∈bJ B b ls,aI y (y.map ml):=by
 intro b
 induction b with
 |zero=>intro ls ns h y hy;cases hy
 |succ b ih=>
  intro ls ns h y hy
  cases h with
  |nil=>exact ih [] [] .nil y hy
  | @cons a t l m h=>
   have hc:aI (.int a t::l) (a::m):= .cons h
   rcases e6 hy with rfl|hy
   ·exact hc.filt _
   ·exact ih _ _ (hc.filt _) y hy
theorem s9(B:Int→Int→Bool){b:Nat}{ls:List Value}{ns:List Int}(h:aI ls ns):(bJ B b ls).length=(je B b ns).length:=by
 rw[←iO B b ls ns h,List.length_map]
noncomputable def q5(f:Nat→Nat):List Value:=(List.range 6).map λ(i:Nat)=>Value.int i (f i)
theorem gl(f:Nat→Nat):aI (q5 f) [0,1,2,3,4,5]:= .cons (.cons (.cons (.cons (.cons (.cons .nil)))))
noncomputable def gO(wf:Nat→WS)(p q:Int):Bool:=dy (wf p.toNat) (wf q.toNat)
noncomputable def d0(wf:Nat→WS):Nat:=(je (gO wf) 6 [0,1,2,3,4,5]).length
noncomputable def dN(wf:Nat→WS):List WS:=(List.range 6).map wf
noncomputable def lK(l ep:Nat)(wf:Nat→WS)(js:List Nat):aD:=
 ⟨.call (.ref 189) ⟨[.ref l],[]⟩,js,[(l,aa (ag (dN wf)) ep)],λρ=> .ok (.ret (.ref (ρ 2))),λO=>[aa (ag (dN wf)) ep],λρ=>[(ρ 2,aa (bY ((List.range (d0 wf)).map λk=>ρ (k+3))) (d0 wf))]⟩
noncomputable def lJ(wf:Nat→WS)(ρ:br):KL:=g4 (bJ (gO wf) 6 (q5 λi=>ρ (i+(d0 wf+3)))) ((List.range (d0 wf)).map λk=>ρ (k+3))
theorem Cw(P):d4 P 189=true:=by kernel_rfl!
theorem u2{wf:Nat→WS}{as:List Addr}(ha:as.length=6)(p:Nat)(hp:p<6):(as.getD p 0,aa (jd (dN wf) (wf p)) 6)∈gb (dN wf) (dN wf) as:=by
 unfold gb
 have hl:(dN wf).length=6:=by simp[dN]
 rw[hl]
 refine List.mem_map.mpr ⟨(wf p,as.getD p 0),?_,rfl⟩
 refine List.mem_iff_getElem?.mpr ⟨p,?_⟩
 rw[List.getElem?_zip_eq_some]
 refine⟨by simp[dN,hp],?_⟩
 rw[List.getD_eq_getElem?_getD,List.getElem?_eq_getElem (ha▸hp)];rfl
theorem qE{V:Gw}(G:au V){l ep:Nat}{wf:Nat→WS}(hL:cg (dN wf)){js:List Nat}{F:KL}(hF:∀p∈cy V.w.params (dN wf),p∈F):
  aQ V 6 (lK l ep wf js) F (λρ=>((List.range (d0 wf)).map λk=>ρ (k+3)).Nodup) (lJ wf):=by
 intro A s hA h hf
 refine ga G hA (Cw _) hf h (Gp V.w.params (aC V) (aB V) s.heap.objs.size s.toks l (ag (dN wf)) ep) (aS rfl) λs1 hs1 hf1=> ?_
 refine aR G hf1 (ad (Gq V.w.params s.heap.objs.size s1.heap.objs.size s1.toks l wf ep (d0 wf) (λρ=>[(c7,ρ 3,.int 5 (ρ (d0 wf+4)))])) (aC V) (aB V)) hA hs1.at' ?_
 have hws:aw (dN wf).length:=by simp[dN,aw]
 refine dD (l:=5) (yW G hL hws (w:= .ref (wf 5).self) rfl hF) rfl rfl rfl λρ O hρ=>ac (vO (L:=0)) rfl rfl rfl λρ1 O hρ1=>ac (tL (L:=0) (by decide)) rfl rfl rfl λρ2 O hρ2=> ?_
 have hn:d0 wf=(bJ (gO wf) 6 (q5 λi=>ρ2 (i+3))).length:=(s9 _ (gl _)).symm
 have hrow:∀p:Int,0≤p→p<6→(bY ((List.range 6).map λk=>ρ (k+2)))[p.toNat]?=some (.ref (ρ (p.toNat+2)))∧aw (jd (dN wf) (wf p.toNat)).length∧
   (ρ (p.toNat+2),aa (jd (dN wf) (wf p.toNat)) 6)∈F++gb (dN wf) (dN wf) ((List.range (dN wf).length).map λk=>ρ (k+2))∧∀q:Int,0≤q→q<6→(jd (dN wf) (wf p.toNat))[q.toNat]?=some (.bool (gO wf p q)):=λp h0 h6=>by
  have hp:p.toNat<6:=by lia
  refine⟨by simp[bY,hp],by simp[jd,dN,aw],List.mem_append_right _ ?_,λq h0' h6'=> ?_⟩
  ·have:=u2 (wf:=wf) (as:=(List.range 6).map λk=>ρ (k+2)) (by simp) p.toNat hp
   rw[List.getD_eq_getElem?_getD] at this
   simpa[hp,dN] using this
  ·have hq:q.toNat<6:=by lia
   simp[jd,dN,hq,gO]
 refine dD (l:=4) (by
  have:=B7 G (fr:=s.heap.objs.size) (I:=ρ2 0+5) (cLf:=s.heap.objs.size+4) (cLv':=s.heap.objs.size+3) (cU:=s.heap.objs.size+2) (cL:=s.heap.objs.size+1) (lf:=ρ1 2) (lv:=ρ 0) (U:=s1.heap.objs.size+1) (eU:=6) (er:=6) (ep:=ρ2 2) (us:=bY ((List.range 6).map λk=>ρ (k+2)))
   (by simp[bY,aw]) (gO wf) (λp=>ρ (p.toNat+2)) (λp=>jd (dN wf) (wf p.toNat)) hrow (gl λi=>ρ2 (i+3)) (by decide) (by simp[q5]) (js:=[0,18,4,3,2,10,7,12])
  rw[←hn] at this
  exact this) rfl rfl rfl λρ3 hP O=>an rfl λs2 hs2 hf2=> ?_
 have hE:=hs1.trans hs2 (λa ha=>by
  simp only[List.map_cons,List.map_nil,gV,List.not_mem_nil,or_false] at ha⊢
  rcases ha with rfl|rfl|rfl|rfl|rfl|rfl
  ·exact .inr (Nat.le_refl _)
  ·exact .inr (Nat.le_add_right _ _)
  ·exact .inr (Nat.le_add_right _ _)
  ·exact .inr (Nat.le_add_right _ _)
  ·exact .inr (Nat.le_add_right _ _)
  ·exact .inl (.head _))
 have hg:=hs1.grow
 let σ:Nat→Nat:=λk=>match k with|0=>ρ 0|k+1=>if k<d0 wf then ρ3 (k+4) else ρ2 (k-d0 wf+3)
 have e1:(List.range (d0 wf)).map (λk=>a7 s2.heap.objs.size s2.toks σ (k+3))=(List.range (d0 wf)).map (λk=>ρ3 (k+4)):=by
  refine List.map_congr_left λk hk=> ?_
  show(if k<d0 wf then ρ3 (k+4) else _)=_
  rw[if_pos (List.mem_range.mp hk)]
 have e2:(q5 λi=>a7 s2.heap.objs.size s2.toks σ (i+(d0 wf+3)))=q5 λi=>ρ2 (i+3):=by
  unfold q5
  refine List.map_congr_left λk hk=> ?_
  have:a7 s2.heap.objs.size s2.toks σ (k+(d0 wf+3))=ρ2 (k+3):=by
   show(if k+d0 wf<d0 wf then _ else ρ2 (k+d0 wf-d0 wf+3))=_
   rw[if_neg (by lia),Nat.add_sub_cancel]
  exact congrArg (Value.int (k:Int)) this
 refine⟨a7 s2.heap.objs.size s2.toks σ,rfl,aW (H:=lK l ep wf js) hE σ rfl ?_ ?_,?_,λp hp=> ?_⟩
 ·show _=_++[(ρ 0,aa (bY ((List.range (d0 wf)).map λk=>a7 s2.heap.objs.size s2.toks σ (k+3))) (d0 wf))]
  rw[e1];rfl
 ·intro p hp
  rw[List.mem_singleton.mp hp]
  exact Nat.le_trans hg hρ
 ·show((List.range (d0 wf)).map λk=>a7 s2.heap.objs.size s2.toks σ (k+3)).Nodup
  rw[e1];exact hP.2
 ·unfold lJ at hp
  rw[e1,e2] at hp
  obtain⟨h6,h7,_⟩:=hf2 p (List.mem_append_right _ hp)
  refine⟨h6,?_,λhm=>h7 ?_⟩
  ·obtain⟨q,hq,rfl⟩:=List.mem_map.mp hp
   obtain⟨k,hk,hk'⟩:=List.mem_map.mp (List.of_mem_zip hq).2
   have:=hP.1 k (List.mem_range.mp hk)
   have h8:ρ3 (k+4)=q.2:=hk'
   show s.heap.objs.size≤q.2
   lia
  ·have hm:p.1∈[ρ 0]:=hm
   rw[List.mem_singleton.mp hm]
   exact .tail _ (.head _)
theorem nk(x:Str)(t:Nat)(ha:x.cps.all (·<128)=true):Meets (Builtin.«str.__iter__» ⟨[.str x t],[]⟩) (λO R s=>R (.ok (.ret (.ref s.heap.objs.size))) {s with heap:=s.heap.push (dZ (.str x t) 0)}):=
 .of_wp λprog w A R s h=>by
  obtain⟨hp,g,d,tk,os⟩:=s
  have e:(if(Builtin.Str.isExactStr (.str x t)&&x.cps.all (·<128))=true then"str_ascii_iterator" else"str_iterator")="str_ascii_iterator":=by
   rw[ha];rfl
  wp_walk
  refine⟨_,rfl,?_⟩
  rw[e]
  exact h
noncomputable def fF(x:Str)(t:Nat):aD:=⟨.call (.builtin "str.__iter__") ⟨[.str x t],[]⟩,[],[],λρ=> .ok (.ret (.ref (ρ 2))),λO=>[],λρ=>[(ρ 2,dZ (.str x t) 0)]⟩
theorem ft{V:Gw}{x:Str}{t:Nat}{L:Nat}(ha:x.cps.all (·<128)=true):ai V L (fF x t) (λO=>True):=by
 refine cR (H:=fF x t) rfl F.slot_str_iter (λs hs=>rfl) F.entry_str_iter (F.args_str_iter_1 _) (nk x t ha) λA s O hs=> ?_
 have E:=hs.ends.push (o:=dZ (.str x t) 0) rfl
 exact⟨a7 _ _ (λO=>s.heap.objs.size),rfl,aW (H:=fF x t) E (λO=>s.heap.objs.size) rfl rfl (λp hp=>by rw[List.mem_singleton.mp hp];exact Nat.le_refl _),trivial⟩
noncomputable def mF(l:Addr)(vs:List Value)(ep:Nat)(js:List Nat):aD:=⟨.builtin "proto.collect" ⟨[.ref l],[]⟩,js,[(l,aa vs ep)],λρ=> .ok (.ret (.ref (ρ 2))),λO=>[aa vs ep],λρ=>[(ρ 2,aa vs (ρ 3))]⟩
theorem pM{V:Gw}{l ep:Nat}{vs:List Value}{js:List Nat}{L:Nat}(hz:aw vs.length):ai V L (mF l vs ep js) (λO=>True):=by
 intro A s hA hs
 have ho:s.heap.get? l=some (aa vs ep):=hs.get (l,aa vs ep) (.head _)
 have hl:l<s.heap.objs.size:=Heap.lt_size ho
 show codeAny _ A (.builtin "proto.collect" ⟨[.ref l],[]⟩) _ s
 refine codeAny_builtin F.entry_proto_collect ?_
 rw[Around.under_plainId F.plain_proto_collect _]
 show wpAny _ A.in1 (newList []>>=λl'=>again (.builtin "list.__iadd__" ⟨[l',.ref l],[]⟩)) _ _ s
 refine wpAny_bind (wpAny_newObj_type ?_)
 refine wpAny_pure ⟨plainId_quiet F.plain_list_iadd _,codeAny_builtin F.entry_list_iadd ?_⟩
 rw[Around.under_plainId F.plain_list_iadd _]
 have E:=hs.ends.push (o:=aa [] 0) rfl
 have hS:(s.heap.push (aa [] 0)).get? s.heap.objs.size=some (aa [] 0):=Heap.get?_push_size _ rfl
 have E2:=E.upd (j:=1) (p:=(s.heap.objs.size,aa [] 0)) (f:=Obj.mapSeq (·++(⟨vs⟩:Array Value))) (λp hp=>by
  rcases List.mem_append.mp hp with hp|hp
  ·exact .inl (List.mem_map_of_mem hp)
  ·rw[List.mem_singleton.mp hp];exact .inr (Nat.le_refl _)) rfl rfl
 show wpAny _ A.in1 (Builtin.List.listExtendWith (.ref s.heap.objs.size) (.ref l) (.ref s.heap.objs.size)) _ _ _
 have e:∃k,Obj.mapSeq (·++(⟨vs⟩:Array Value)) (aa [] 0)=aa vs k:=by
  have h0:(#[]:Array Value)++(⟨vs⟩:Array Value)=⟨vs⟩:=Array.empty_append
  have h1:∀(ys:Array Value) (m:Nat),ys=⟨vs⟩→(⟨.type "list",none,.seq ys m,#[]⟩:Obj)=aa vs m:=λys m e=>by rw[e];rfl
  exact⟨_,h1 _ _ h0⟩
 obtain⟨k,e⟩:=e
 refine wpAny_extend_seq (prog:=V.prog) (w:=V.w) (R:=bO V (mF l vs ep js) (λO=>True) s) (s:={s with heap:=s.heap.push (aa [] 0)}) (A:=A) (o:=aa vs ep) (items:=⟨vs⟩) (n:=ep) s.heap.objs.size l (.ref s.heap.objs.size) 0 (.inl rfl) hS (Heap.get?_push_of_some _ ho) rfl rfl ?_ hz.fits
 refine⟨a7 _ _ (λj=>match j with|0=>s.heap.objs.size|_=>k),rfl,aW (H:=mF l vs ep js) E2 (λj=>match j with|0=>s.heap.objs.size|_=>k) rfl ?_ (λp hp=>by rw[List.mem_singleton.mp hp];exact Nat.le_refl _),trivial⟩
 show [(l,aa vs ep),(s.heap.objs.size,Obj.mapSeq (·++(⟨vs⟩:Array Value)) (aa [] 0))]=[(l,aa vs ep),(s.heap.objs.size,aa vs k)]
 rw[e]
noncomputable def CR:Array Nat:=#[119,115]
noncomputable def sS:Array Nat:=#[83]
noncomputable def sT:Array Nat:=#[84]
noncomputable def ya:Array Nat:=#[99,111,117,110,116]
noncomputable def sB:Array Nat:=#[98]
noncomputable def sN:Array Nat:=#[110]
noncomputable def IC:Array Nat:=#[110,116]
noncomputable def kG:Array Nat:=#[99,104]
noncomputable def rc(P:Params)(fr I:Addr):Code:=d7 (aA (aU P 120)) 4 (.ref I) (f6 (aU P 120) 120 fr [])
noncomputable def eG(l:Nat)(c:Nat→Int)(κ:Nat→Nat):List Value:=(List.range l).map λi=> .int (c i) (κ i)
noncomputable def ma(P:Params)(fr I cl self:Addr)(kk:Nat→Nat)(x:Str)(tx:Nat)(b n nt:Int)(kb kn knt:Nat)(T:aF)(j:Nat):KL:=
 [(fr,cY P ([(b4,kk 0,.ref self),(CR,kk 1,.str x tx),(sT,kk 2,.str ⟨#[9]⟩ 308),(sS,kk 3,.str ⟨#[32]⟩ 307),(ya,kk 4,.ref cl),(sB,kk 5,.int b kb),(sN,kk 6,.int n kn),(IC,kk 7,.int nt knt)]++T)),(I,dZ (.str x tx) j)]
noncomputable def Eg(P:Params)(b1 b2:Bool)(q t fr I cl self:Nat)(kk:Nat→Nat)(x:Str)(tx:Nat)(b n nt:Int)(kb kn knt:Nat)(first:Bool)(κ:Nat)(v:Value)(j:Nat)(cs:List Value)(ec:Nat):bu:=
 ap P b1 b2 (rc P fr I) (ma P fr I cl self kk x tx b n nt kb kn knt (bk first kG κ v) j++[(cl,aa cs ec)]) q t
 (.hook [2] 0 (gg I x tx j 32 [1]) λρ=> .again [1,1,1,1,0,1,0,1,1,1,0,1,1] (rc P fr I) [0,1,2] (ma P fr I cl self kk x tx (b+1) (n+1) nt (ρ 1+5) (ρ 1+2) knt [(kG,ao first κ (ρ 1),.str ⟨#[32]⟩ (ρ 2))] (j+1)++[(cl,aa cs ec)]))
noncomputable def Ei(P:Params)(b1 b2:Bool)(q t fr I cl self:Nat)(kk:Nat→Nat)(x:Str)(tx:Nat)(b n nt:Int)(kb kn knt:Nat)(first:Bool)(κ:Nat)(v:Value)(j:Nat)(cs:List Value)(ec:Nat)(ch:Nat):bu:=
 ap P b1 b2 (rc P fr I) (ma P fr I cl self kk x tx b n nt kb kn knt (bk first kG κ v) j++[(cl,aa cs ec)]) q t
 (.hook [2] 0 (gg I x tx j ch [1]) λρ=> .fin [1,1,1,1,0,1,1,0] (.ok .next) [0,1,2] (ma P fr I cl self kk x tx b n nt kb kn knt [(kG,ao first κ (ρ 1),.str ⟨#[ch]⟩ (ρ 2))] (j+1)++[(cl,aa cs ec)]))
noncomputable def CM(c:Nat→Int)(b:Nat)(i:Nat):Int:=match Nat.beq i b with
 |true=>c i+1
 |false=>c i
noncomputable def HU(κ:Nat→Nat)(b k':Nat)(i:Nat):Nat:=match Nat.beq i b with
 |true=>k'
 |false=>κ i
noncomputable def Ef(P:Params)(b1 b2:Bool)(q t fr I cl self:Nat)(kk:Nat→Nat)(x:Str)(tx:Nat)(b:Nat)(n nt:Int)(kb kn knt:Nat)(first:Bool)(κ:Nat)(v:Value)(j:Nat)(l:Nat)(c:Nat→Int)(κc:Nat→Nat)(ec:Nat):bu:=
 ap P b1 b2 (rc P fr I) (ma P fr I cl self kk x tx b n nt kb kn knt (bk first kG κ v) j++[(cl,aa (eG l c κc) ec)]) q t
 (.hook [2] 0 (gg I x tx j 9 [1]) λρ=> .again [1,1,1,1,0,1,1,0,1,0,1,1,1,0,1,1,1,0,0,1,0,3,0,3,3,0,1,1,3,3,3,0,3,3,0,1,1,3,3,0,3,3,3,3,1,1] (rc P fr I) [0,1,2] (ma P fr I cl self kk x tx (0:Nat) (n+1) (nt+1) (ρ 1+11) (ρ 1+2) (ρ 1+5) [(kG,ao first κ (ρ 1),.str ⟨#[9]⟩ (ρ 2))] (j+1)++[(cl,aa (eG l (CM c b) (HU κc b (ρ 1+10))) ec)]))
noncomputable def z8(c:Nat→Int)(l b:Nat)(i:Nat):Int:=match Nat.ble l i with
 |true=>(match Nat.beq i b with
  |true=>0+1
  |false=>0)
 |false=>c i
noncomputable def Dm(κ:Nat→Nat)(l b k0 k1:Nat)(i:Nat):Nat:=match Nat.ble l i with
 |true=>(match Nat.beq i b with
  |true=>k1
  |false=>k0)
 |false=>κ i
noncomputable def Eh(P:Params)(b1 b2:Bool)(q t fr I cl self:Nat)(kk:Nat→Nat)(x:Str)(tx:Nat)(b:Nat)(n nt:Int)(kb kn knt:Nat)(first:Bool)(κ:Nat)(v:Value)(j:Nat)(l:Nat)(c:Nat→Int)(κc:Nat→Nat)(ec:Nat):bu:=
 ap P b1 b2 (rc P fr I) (ma P fr I cl self kk x tx b n nt kb kn knt (bk first kG κ v) j++[(cl,aa (eG l c κc) ec)]) q t
 (.hook [2] 0 (gg I x tx j 9 [1]) λρ=> .again [1,1,1,1,0,1,1,0,1,0,1,1,1,0,1,1,1,0,0,1,0,3,0,3,3,0,1,1,0,0,1,0,3,0,3,3,0,0,4,0,4,4,0,4,4,3,5,3,0,3,5,3,5,1,1,1,1,6,6,6,0,6,6,0,1,1,6,6,0,6,6,6,6,1,1] (rc P fr I) [0,1,5,2] ((ma P fr I (ρ 0+2) self kk x tx (0:Nat) (n+1) (nt+1) (ρ 1+18) (ρ 1+2) (ρ 1+5) [(kG,ao first κ (ρ 1),.str ⟨#[9]⟩ (ρ 2))] (j+1)++[(ρ 0+2,aa (eG (b+1) (z8 c l b) (Dm κc l b (ρ 1+9) (ρ 1+17))) 0)])++[(cl,aa (eG l c κc) ec)]))
noncomputable def Db(P:Params)(fr I cl self:Nat)(kk:Nat→Nat)(x:Str)(tx:Nat)(kb:Nat)(b n nt:Int)(T:br→aF)(j:Nat)(js:List Nat):aD:=
 ⟨rc P fr I,js,ma P fr I cl self kk x tx (0:Nat) 0 0 kb kb kb [] 0++[(cl,aa [] 0)],λO=> .ok .next,
  λρ=>(ma P fr I cl self kk x tx b n nt (ρ 2) (ρ 3) (ρ 4) (T ρ) j++[(cl,aa [] 0)]).map (·.2),λO=>[]⟩
noncomputable def xw(P:Params)(fr I cl self:Nat)(kk:Nat→Nat)(x:Str)(tx:Nat)(kb:Nat)(b n nt:Int)(T:br→aF)(j:Nat)(l:Nat)(c:Nat→Int)(js:List Nat):aD:=
 ⟨rc P fr I,js,ma P fr I cl self kk x tx (0:Nat) 0 0 kb kb kb [] 0++[(cl,aa [] 0)],λO=> .ok .next,
  λρ=>(ma P fr I (ρ 5) self kk x tx b n nt (ρ 2) (ρ 3) (ρ 4) (T ρ) j++[(cl,aa [] 0)]).map (·.2),λρ=>[(ρ 5,aa (eG l c λi=>ρ (i+7)) (ρ 6))]⟩
noncomputable def H5(t0 t:Nat):Nat→Nat
 |0=>t0
 |1=>t0+1
 |2=>t+4
 |3=>t+5
 |4=>t+6
 |5=>t+8
 |6=>t+9
 |_=>t+10
noncomputable def BX(P:Params)(b1 b2:Bool)(q q' t0 t:Nat)(self d:Nat)(x:Str)(tx:Nat)(b n nt:Int)(T:br→aF)(j:Nat)(l:Nat)(c:Nat→Int):bu:=
 ap P b1 b2 (cc P 120 q []) [(q,cY P [(b4,t0,.ref self),(CR,t0+1,.str x tx)]),(self,jg 165 d),(d,bn P [])] q' t
 (.hook [1,1,2,0,0,0,0,2,0,2,0,2,0,0,0,2,0,3,3,3,0,0,0,0,0,0,0,0,0,0,0,0,0,0,0,0,0,0,4,4,4,0,4,5,5,0,5,5,5,4,5,5,5,0,5,5,5,4,5,5,5,0,5,5,5,4,5,5,7,1,1,1,1,1,1,1,1,1,1,1,1,1,2,0,0,0,0,2,0,0,0,2,2,0,3] 5 {fF x tx with js:=[]} λρ0=> .hook [9] 0 (xw P q (ρ0 2) (q'+4) self (H5 t0 t) x tx (t+7) b n nt T j l c [0,8,7]) λρ=> .hook [1,1,2,0,0,0,0,2,0,2,0,2,0,0,0,2,0,3,3,3,1,1,2,0,0,0,0,2,0,2,0,2,0,0,0,2,0,3,3,3,0,0,1,0,0,10] 0 (mF (ρ 5) (eG l c λi=>ρ (i+7)) (ρ 6) [9]) λρ'=>
  .fin [11,12,12,0,12,12,1,1,2,0,0,0,0,2,0,2,0,2,0,0,0,2,0,3,3,3,0,0,1,0,10,0,10,10,0,1,2,0,0,0,0,2,0,2,0,2,0,0,0,2,0,3,3,3] (.ok (.ret .none)) [1,2,12,11] [(self,jg 165 d),(d,bn P [(uB,t+1,.str x tx),(kN,ρ 1+1,.int n (ρ 3)),(CV,ρ 1+3,.int nt (ρ 4)),(oP,ρ' 1+1,.ref (ρ' 0+1)),(jr,ρ' 1+6,.bool (Nat.ble l 1))]),(ρ' 0+1,al [.ref (ρ' 0),.int b (ρ 2)]),(ρ' 0,al (eG l c λi=>ρ (i+7)))])
theorem AJ(P b1 q t fr I cl self kk x tx b n nt kb kn knt κ v j cs ec):Qk 200 λr=>ay λfirst b2=>r (Eg P b1 b2 q t fr I cl self kk x tx b n nt kb kn knt first κ v j cs ec):=by unfold Qk;kernel_rfl!
theorem AL(P b1 q t fr I cl self kk x tx b n nt kb kn knt κ v j cs ec):Qk 200 λr=>([40,91,123]:List (Nat)).map λp=>ay λfirst b2=>r (Ei P b1 b2 q t fr I cl self kk x tx b n nt kb kn knt first κ v j cs ec p):=by unfold Qk;kernel_rfl!
theorem Fr(P b1 q t fr I cl self kk x tx n nt kb kn knt κ v j c κc ec):Qk 300 λr=>([(1,0),(2,0),(2,1),(3,0),(3,1),(3,2)]:List (Nat×Nat)).map λp=>ay λfirst b2=>r (Ef P b1 b2 q t fr I cl self kk x tx p.2 n nt kb kn knt first κ v j p.1 c κc ec):=by unfold Qk;kernel_rfl!
theorem AK(P b1 q t fr I cl self kk x tx n nt kb kn knt κ v j c κc ec):Qk 400 λr=>([(0,0),(0,1),(0,2),(1,1),(1,2),(2,2)]:List (Nat×Nat)).map λp=>ay λfirst b2=>r (Eh P b1 b2 q t fr I cl self kk x tx p.2 n nt kb kn knt first κ v j p.1 c κc ec):=by unfold Qk;kernel_rfl!
theorem Fs(P:Params)(b1:Bool)(q t:Nat)(self d:Nat)(x:Str)(tx:Nat):Qk 100 λr=>fT λb2=>r (bK P b1 b2 120 [.ref self,.str x tx] [(self,jg 165 d),(d,bn P [])] q t [0,3,3,3,3] q [] [2,0,1] [(q,cY P [(b4,t,.ref self),(CR,t+1,.str x tx)]),(self,jg 165 d),(d,bn P [])]):=by unfold Qk;kernel_rfl!
theorem Ft(P:Params)(q q' t0 t:Nat)(self d:Nat)(x:Str)(tx:Nat)(b n nt:Int)(T:br→aF)(j:Nat):Qk 500 λr=>ay λb1 b2=>r ( ap P b1 b2 (cc P 120 q []) [(q,cY P [(b4,t0,.ref self),(CR,t0+1,.str x tx)]),(self,jg 165 d),(d,bn P [])] q' t
 (.hook [1,1,2,0,0,0,0,2,0,2,0,2,0,0,0,2,0,3,3,3,0,0,0,0,0,0,0,0,0,0,0,0,0,0,0,0,0,0,4,4,4,0,4,5,5,0,5,5,5,4,5,5,5,0,5,5,5,4,5,5,5,0,5,5,5,4,5,5,7,1,1,1,1,1,1,1,1,1,1,1,1,1,2,0,0,0,0,2,0,0,0,2,2,0,3] 5 {fF x tx with js:=[]} λρ0=> .hook [9] 0 (Db P q (ρ0 2) (q'+4) self (H5 t0 t) x tx (t+7) b n nt T j [0,8,7]) λρ=> .hook [1,1,2,0,0,0,0,2,0,2,0,2,0,0,0,2,0,3,3,3,1,1,2,0,0,0,0,2,0,2,0,2,0,0,0,2,0,3,3,3,0,0,1,0,0,8] 0 (mF (q'+4) [] 0 [7]) λρ'=>
  .fin [10,11,11,0,11,11,1,1,2,0,0,0,0,2,0,2,0,2,0,0,0,2,0,3,3,3,0,0,1,0,8,0,8,8,0,1,2,0,0,0,0,2,0,2,0,2,0,0,0,2,0,3,3,3] (.ok (.ret .none)) [1,2,11,10] [(self,jg 165 d),(d,bn P [(uB,t+1,.str x tx),(kN,ρ 1+1,.int n (ρ 3)),(CV,ρ 1+3,.int nt (ρ 4)),(oP,ρ' 1+1,.ref (ρ' 0+1)),(jr,ρ' 1+6,.bool true)]),(ρ' 0+1,al [.ref (ρ' 0),.int b (ρ 2)]),(ρ' 0,al [])])):=by unfold Qk;kernel_rfl!
theorem Cj(P q q' t0 t self d x tx b n nt T j c):Qk 500 λr=>([1,2,3]:List (Nat)).map λp=>ay λb1 b2=>r (BX P b1 b2 q q' t0 t self d x tx b n nt T j p c):=by unfold Qk;kernel_rfl!
section
theorem am.perm{V:Gw}{W:List Addr}{s s':Shared}{K K':KL}(h:am V W s K s')(hp:K.Perm K'):am V W s K' s':=
 ⟨⟨h.at'.base,λp hm=>h.at'.get p (hp.mem_iff.mpr hm),(hp.map _).nodup_iff.mp h.at'.nodup,λp hm=>h.at'.ok p (hp.mem_iff.mpr hm)⟩,h.pres,h.grow⟩
theorem am.also{V:Gw}{W:List Addr}{K K' R:KL}{s s':Shared}(h:am V W s K' s')(hW:K.map (·.1)=W)(h0:At V (K++R) s)(hw:∀p∈K',p.1∈W∨s.heap.objs.size≤p.1):am V ((K++R).map (·.1)) s (K'++R) s':=by
 subst hW
 have hnd:=h0.nodup
 rw[List.map_append,List.nodup_append] at hnd
 refine⟨⟨h.at'.base,λp hp=> ?_,?_,λp hp=> ?_⟩,λb o e hb=>h.pres b o e λhm=>hb (by rw[List.map_append];exact List.mem_append_left _ hm),h.grow⟩
 ·rcases List.mem_append.mp hp with hp|hp
  ·exact h.at'.get p hp
  ·exact h.pres _ _ (h0.get p (List.mem_append_right _ hp)) λhm=>hnd.2.2 p.1 hm p.1 (List.mem_map_of_mem hp) rfl
 ·rw[List.map_append,List.nodup_append]
  refine⟨h.at'.nodup,hnd.2.1,λa ha b hb e=> ?_⟩
  obtain⟨p,hp,rfl⟩:=List.mem_map.mp ha
  obtain⟨r,hr,rfl⟩:=List.mem_map.mp hb
  rcases hw p hp with h1|h1
  ·exact hnd.2.2 _ h1 _ (List.mem_map_of_mem hr) e
  ·have h2:r.1<s.heap.objs.size:=Heap.lt_size (h0.get r (List.mem_append_right _ hr))
   have e':p.1=r.1:=e
   exact absurd h2 (Nat.not_lt.mpr (e'▸h1))
 ·rcases List.mem_append.mp hp with hp|hp
  ·exact h.at'.ok p hp
  ·exact h0.ok p (List.mem_append_right _ hp)
structure da where
 b:Nat
 n:Int
 nt:Int
 l:Nat
 c:Nat→Int
noncomputable def da.step(s:da)(ch:Nat):da:=if ch=9 then⟨0,s.n+1,s.nt+1,max s.l (s.b+1),λi=>if i=s.b then s.c i+1 else s.c i⟩ else⟨s.b+1,s.n+1,s.nt,s.l,s.c⟩
noncomputable def bX(cs:List Nat):da:=cs.foldl da.step ⟨0,0,0,0,λO=>0⟩
noncomputable def no:Nat→List Nat→Prop
 |_,[]=>True
 |b,c::r=>(c=9∧b≤2∧no 0 r)∨(c=32∧no (b+1) r)
theorem v9{l l':Nat}{c c':Nat→Int}{κ κ':Nat→Nat}(hl:l=l')(hc:∀i,i<l→c i=c' i)(hk:∀i,i<l→κ i=κ' i):eG l c κ=eG l' c' κ':=by
 subst hl
 unfold eG
 refine List.map_congr_left λi hi=> ?_
 rw[hc i (List.mem_range.mp hi),hk i (List.mem_range.mp hi)]
theorem rP(c:Nat→Int)(b:Nat):CM c b=λi=>if i=b then c i+1 else c i:=by
 funext i
 unfold CM
 by_cases h:i=b
 ·subst h;rw[Nat.beq_refl,if_pos rfl]
 ·have:Nat.beq i b=false:=by rw[←Bool.not_eq_true];exactλe=>h (Nat.eq_of_beq_eq_true e)
  rw[this,if_neg h]
theorem nX(c:Nat→Int){l b:Nat}(hlb:l≤b)(hc:∀i,l≤i→c i=0):z8 c l b=λi=>if i=b then c i+1 else c i:=by
 funext i
 unfold z8
 by_cases hl:l≤i
 ·rw[Nat.ble_eq_true_of_le hl]
  by_cases h:i=b
  ·subst h;rw[Nat.beq_refl,if_pos rfl,hc i hl]
  ·have:Nat.beq i b=false:=by rw[←Bool.not_eq_true];exactλe=>h (Nat.eq_of_beq_eq_true e)
   rw[this,if_neg h,hc i hl]
 ·have h1:Nat.ble l i=false:=by rw[←Bool.not_eq_true];exactλe=>hl (Nat.le_of_ble_eq_true e)
  have h2:i≠b:=by lia
  rw[h1,if_neg h2]
variable {V:Gw} (G:au V)
include G
theorem uN{fr I self tx:Nat}{kk:Nat→Nat}{x:Str}{ch:Nat}(hch:ch∈[40,91,123]):∀(rest pre:List Nat) (S:da) (cl:Nat) (kb kn knt:Nat) (first:Bool) (κ:Nat) (v:Value) (κc:Nat→Nat) (ec:Nat) (A:Around) (s:Shared),
  x.cps=⟨pre++rest++[ch]⟩→no S.b rest→S.l≤3→(∀i,S.l≤i→S.c i=0)→Bd 1 A→
  At V (ma V.w.params fr I cl self kk x tx S.b S.n S.nt kb kn knt (bk first kG κ v) pre.length++[(cl,aa (eG S.l S.c κc) ec)]) s→
  codeAny (model V.prog V.w) A (rc V.w.params fr I) (λr s'=>r= .ok .next∧(rest.foldl da.step S).l≤3∧E7 λcl' kb' kn' knt' T κc' ec'=>A3 (cl'=cl∨s.heap.objs.size≤cl') (am V [fr,I,cl] s (ma V.w.params fr I cl' self kk x tx (rest.foldl da.step S).b (rest.foldl da.step S).n (rest.foldl da.step S).nt kb' kn' knt' T (pre.length+rest.length+1)++[(cl',aa (eG (rest.foldl da.step S).l (rest.foldl da.step S).c κc') ec')]) s') 
   (∃kc t,T=[(kG,kc,.str ⟨#[ch]⟩ t)])) s:=by
 intro rest
 induction rest with
 |nil=>
  intro pre S cl kb kn knt first κ v κc ec A s hx hok hl hc hA hs1
  refine bc G (ad (List.map_inj_left.mp (AL V.w.params (aC V) s.heap.objs.size s.toks fr I cl self kk x tx S.b S.n S.nt kb kn knt κ v pre.length (eG S.l S.c κc) ec) ch hch) first (aB V)) hA hs1 ?_
  refine ae (dK (L:=0) (by rw[hx];simp)) rfl rfl rfl λρ O O=>aO rfl λs' hs'=>⟨rfl,hl,cl,kb,kn,knt,_,κc,ec,.inl rfl,hs',_,_,rfl⟩
 |cons c rest ih=>
  intro pre S cl kb kn knt first κ v κc ec A s hx hok hl hc hA hs1
  have hx':x.cps=⟨(pre++[c])++rest++[ch]⟩:=by rw[hx];simp
  have hlen:(pre++[c]).length=pre.length+1:=by simp
  have hget:x.cps[pre.length]?=some c:=by rw[hx];simp
  have hj:pre.length+1+rest.length+1=pre.length+(c::rest).length+1:=by simp;lia
  rw[List.foldl_cons]
  rcases hok with⟨rfl,hb,hok⟩|⟨rfl,hok⟩
  ·
   have hS:S.step 9=⟨0,S.n+1,S.nt+1,max S.l (S.b+1),λi=>if i=S.b then S.c i+1 else S.c i⟩:=by unfold da.step;rw[if_pos rfl]
   by_cases hin:S.b<S.l
   ·have hm:(S.l,S.b)∈[(1,0),(2,0),(2,1),(3,0),(3,1),(3,2)]:=by
     generalize S.l=l at hin hl
     generalize S.b=b at hin hb
     have h1:l=1∨l=2∨l=3:=by lia
     have h2:b=0∨b=1∨b=2:=by lia
     rcases h1 with rfl|rfl|rfl<;>rcases h2 with rfl|rfl|rfl<;>first|decide|lia
    refine bc G (ad (List.map_inj_left.mp (Fr V.w.params (aC V) s.heap.objs.size s.toks fr I cl self kk x tx S.n S.nt kb kn knt κ v pre.length S.c κc ec) (S.l,S.b) hm) first (aB V)) hA hs1 ?_
    refine ae (dK (L:=0) hget) rfl rfl rfl λρ O O=>aE rfl λs' hs'=>⟨rfl,?_⟩
    have e1:(S.step 9).l=S.l:=by rw[hS];show max S.l (S.b+1)=S.l;lia
    have e2:(S.step 9).c=CM S.c S.b:=by rw[hS,rP]
    have e3:(S.step 9).b=0:=by rw[hS]
    have e4:(S.step 9).n=S.n+1:=by rw[hS]
    have e5:(S.step 9).nt=S.nt+1:=by rw[hS]
    have hs2:=hs'.at'
    refine codeAny_mono (ih (pre++[9]) (S.step 9) cl _ _ _ false (ao first κ (ρ 1)) (.str ⟨#[9]⟩ (ρ 2)) (HU κc S.b (ρ 1+10)) ec A s' hx' (by rw[e3];exact hok) (by rw[e1];exact hl) (λi hi=> ?_) hA (by rw[e1,e2,e3,e4,e5,hlen];exact hs2)) ?_
    ·rw[e1] at hi
     rw[e2,rP]
     show(if i=S.b then S.c i+1 else S.c i)=0
     rw[if_neg (by lia),hc i hi]
    ·rintro r s'' ⟨hr,hl3,cl',kb',kn',knt',T,κc',ec',h1,h2,h3⟩
     rw[hlen,hj] at h2
     exact⟨hr,hl3,cl',kb',kn',knt',T,κc',ec',h1.imp id (Nat.le_trans hs'.grow),hs'.trans h2 (λb hb=> .inl hb),h3⟩
   ·have hm:(S.l,S.b)∈[(0,0),(0,1),(0,2),(1,1),(1,2),(2,2)]:=by
     generalize S.l=l at hin hl
     generalize S.b=b at hin hb
     have h1:l=0∨l=1∨l=2:=by lia
     have h2:b=0∨b=1∨b=2:=by lia
     rcases h1 with rfl|rfl|rfl<;>rcases h2 with rfl|rfl|rfl<;>first|decide|lia
    refine bc G (ad (List.map_inj_left.mp (AK V.w.params (aC V) s.heap.objs.size s.toks fr I cl self kk x tx S.n S.nt kb kn knt κ v pre.length S.c κc ec) (S.l,S.b) hm) first (aB V)) hA hs1 ?_
    refine ae (dK (L:=0) hget) rfl rfl rfl λρ O hρ=>aE rfl λs' hs'=>⟨rfl,?_⟩
    have e1:(S.step 9).l=S.b+1:=by rw[hS];show max S.l (S.b+1)=S.b+1;lia
    have e2:(S.step 9).c=z8 S.c S.l S.b:=by rw[hS,nX S.c (by lia) hc]
    have e3:(S.step 9).b=0:=by rw[hS]
    have e4:(S.step 9).n=S.n+1:=by rw[hS]
    have e5:(S.step 9).nt=S.nt+1:=by rw[hS]
    have hs2:=hs'.keep
    refine codeAny_mono (ih (pre++[9]) (S.step 9) (ρ 0+2) _ _ _ false (ao first κ (ρ 1)) (.str ⟨#[9]⟩ (ρ 2)) (Dm κc S.l S.b (ρ 1+9) (ρ 1+17)) 0 A s' hx' (by rw[e3];exact hok) (by rw[e1];lia) (λi hi=> ?_) hA (by rw[e1,e2,e3,e4,e5,hlen];exact hs2.at')) ?_
    ·rw[e1] at hi
     rw[e2,nX S.c (by lia) hc]
     show(if i=S.b then S.c i+1 else S.c i)=0
     rw[if_neg (by lia),hc i (by lia)]
    ·rintro r s'' ⟨hr,hl3,cl',kb',kn',knt',T,κc',ec',h1,h2,h3⟩
     rw[hlen,hj] at h2
     have hg:=hs'.grow
     refine⟨hr,hl3,cl',kb',kn',knt',T,κc',ec',.inr ?_,hs2.trans h2 (λb hb=> ?_),h3⟩
     ·rcases h1 with rfl|h1
      ·exact Nat.le_trans hρ (Nat.le_add_right _ _)
      ·exact Nat.le_trans hg h1
     ·have hb:b∈[fr,I,ρ 0+2]:=hb
      rcases e6 hb with rfl|hb
      ·exact .inl (.head _)
      rcases e6 hb with rfl|hb
      ·exact .inl (.tail _ (.head _))
      rw[List.mem_singleton.mp hb]
      exact .inr (Nat.le_trans hρ (Nat.le_add_right _ _))
  ·
   have hS:S.step 32=⟨S.b+1,S.n+1,S.nt,S.l,S.c⟩:=by unfold da.step;rw[if_neg (by decide)]
   refine bc G (ad (AJ V.w.params (aC V) s.heap.objs.size s.toks fr I cl self kk x tx S.b S.n S.nt kb kn knt κ v pre.length (eG S.l S.c κc) ec) first (aB V)) hA hs1 ?_
   refine ae (dK (L:=0) hget) rfl rfl rfl λρ O O=>aE rfl λs' hs'=>⟨rfl,?_⟩
   have hs2:=hs'.at'
   refine codeAny_mono (ih (pre++[32]) (S.step 32) cl _ _ _ false (ao first κ (ρ 1)) (.str ⟨#[32]⟩ (ρ 2)) κc ec A s' hx' (by rw[hS];exact hok) (by rw[hS];exact hl) (by rw[hS];exact hc) hA (by rw[hS,hlen];exact hs2)) ?_
   rintro r s'' ⟨hr,hl3,cl',kb',kn',knt',T,κc',ec',h1,h2,h3⟩
   rw[hlen,hj] at h2
   exact⟨hr,hl3,cl',kb',kn',knt',T,κc',ec',h1.imp id (Nat.le_trans hs'.grow),hs'.trans h2 (λb hb=> .inl hb),h3⟩
theorem mJ{fr I self tx cl:Nat}{kk:Nat→Nat}{x:Str}{ch:Nat}(hch:ch∈[40,91,123]):∀(rest pre:List Nat) (b:Nat) (n:Int) (kb kn knt:Nat) (first:Bool) (κ:Nat) (v:Value) (A:Around) (s:Shared),
  x.cps=⟨pre++rest++[ch]⟩→no b rest→Bd 1 A→
  At V (ma V.w.params fr I cl self kk x tx b n 0 kb kn knt (bk first kG κ v) pre.length++[(cl,aa [] 0)]) s→
  codeAny (model V.prog V.w) A (rc V.w.params fr I) (λr s'=>r= .ok .next∧(rest.foldl da.step ⟨b,n,0,0,λO=>0⟩).l≤3∧E5 λkb' kn' knt' kc t=>
   (9∉rest∧(rest.foldl da.step ⟨b,n,0,0,λO=>0⟩).l=0∧am V ([fr,I]++[cl]) s (ma V.w.params fr I cl self kk x tx (rest.foldl da.step ⟨b,n,0,0,λO=>0⟩).b (rest.foldl da.step ⟨b,n,0,0,λO=>0⟩).n (rest.foldl da.step ⟨b,n,0,0,λO=>0⟩).nt kb' kn' knt' [(kG,kc,.str ⟨#[ch]⟩ t)] (pre.length+rest.length+1)++[(cl,aa [] 0)]) s')∨
   (9∈rest∧1≤(rest.foldl da.step ⟨b,n,0,0,λO=>0⟩).l∧E3 λcl' κc' ec'=>s.heap.objs.size≤cl'∧am V ([fr,I]++[cl]) s (ma V.w.params fr I cl' self kk x tx (rest.foldl da.step ⟨b,n,0,0,λO=>0⟩).b (rest.foldl da.step ⟨b,n,0,0,λO=>0⟩).n (rest.foldl da.step ⟨b,n,0,0,λO=>0⟩).nt kb' kn' knt' [(kG,kc,.str ⟨#[ch]⟩ t)] (pre.length+rest.length+1)++[(cl,aa [] 0)]++[(cl',aa (eG (rest.foldl da.step ⟨b,n,0,0,λO=>0⟩).l (rest.foldl da.step ⟨b,n,0,0,λO=>0⟩).c κc') ec')]) s')) s:=by
 intro rest
 induction rest with
 |nil=>
  intro pre b n kb kn knt first κ v A s hx hok hA hs1
  refine bc G (ad (List.map_inj_left.mp (AL V.w.params (aC V) s.heap.objs.size s.toks fr I cl self kk x tx b n 0 kb kn knt κ v pre.length [] 0) ch hch) first (aB V)) hA hs1 ?_
  refine ae (dK (L:=0) (by rw[hx];simp)) rfl rfl rfl λρ O O=>aO rfl λs' hs'=>⟨rfl,Nat.zero_le _,kb,kn,knt,_,_,.inl ⟨by simp,rfl,hs'⟩⟩
 |cons c rest ih=>
  intro pre b n kb kn knt first κ v A s hx hok hA hs1
  have hx':x.cps=⟨(pre++[c])++rest++[ch]⟩:=by rw[hx];simp
  have hlen:(pre++[c]).length=pre.length+1:=by simp
  have hget:x.cps[pre.length]?=some c:=by rw[hx];simp
  have hj:pre.length+1+rest.length+1=pre.length+(c::rest).length+1:=by simp;lia
  rw[List.foldl_cons]
  rcases hok with⟨rfl,hb,hok⟩|⟨rfl,hok⟩
  ·
   have hS:da.step ⟨b,n,0,0,λO=>0⟩ 9=⟨0,n+1,0+1,b+1,λi=>if i=b then 0+1 else 0⟩:=by unfold da.step;rw[if_pos rfl];simp
   rw[hS]
   have hm:(0,b)∈[(0,0),(0,1),(0,2),(1,1),(1,2),(2,2)]:=by
    have h2:b=0∨b=1∨b=2:=by lia
    rcases h2 with rfl|rfl|rfl<;>decide
   refine bc G (ad (List.map_inj_left.mp (AK V.w.params (aC V) s.heap.objs.size s.toks fr I cl self kk x tx n 0 kb kn knt κ v pre.length (λO=>0) (λO=>0) 0) (0,b) hm) first (aB V)) hA hs1 ?_
   refine ae (dK (L:=0) hget) rfl rfl rfl λρ O hρ=>aE rfl λs' hs'=>⟨rfl,?_⟩
   have hz:z8 (λO=>0) 0 b=λi=>if i=b then 0+1 else 0:=nX _ (Nat.zero_le _) (λO O=>rfl)
   have hs2:=hs'.freeze hs1
   rw[hz] at hs2
   refine codeAny_mono (uN G hch rest (pre++[9]) ⟨0,n+1,0+1,b+1,λi=>if i=b then 0+1 else 0⟩ (ρ 0+2) _ _ _ false (ao first κ (ρ 1)) (.str ⟨#[9]⟩ (ρ 2)) (Dm (λO=>0) 0 b (ρ 1+9) (ρ 1+17)) 0 A s' hx' hok (by show b+1≤3;lia) (λi hi=> ?_) hA (by rw[hlen];exact hs2.at')) ?_
   ·have hi:b+1≤i:=hi
    show(if i=b then _ else _)=_
    rw[if_neg (by lia)]
   ·rintro r s'' ⟨hr,hl3,cl',kb',kn',knt',T,κc',ec',h1,h2,kc,t,rfl⟩
    rw[hlen,hj] at h2
    have hg:=hs'.grow
    have hcl:s.heap.objs.size≤cl':=by
     rcases h1 with rfl|h1
     ·exact Nat.le_trans hρ (Nat.le_add_right _ _)
     ·exact Nat.le_trans hg h1
    have E:=hs2.trans h2 (λa hb=>by
     have hb:a∈[fr,I,ρ 0+2]:=hb
     rcases e6 hb with rfl|hb
     ·exact .inl (.head _)
     rcases e6 hb with rfl|hb
     ·exact .inl (.tail _ (.head _))
     rw[List.mem_singleton.mp hb]
     exact .inr (Nat.le_trans hρ (Nat.le_add_right _ _)))
    have E2:=am.also E rfl hs1 (λp hp=>by
     rcases List.mem_append.mp hp with hp|hp
     ·exact .inl (List.mem_map_of_mem (f:=(·.1)) hp)
     ·rw[List.mem_singleton.mp hp];exact .inr hcl)
    refine⟨hr,hl3,kb',kn',knt',kc,t,.inr ⟨.head _,?_,cl',κc',ec',hcl,E2.perm ?_⟩⟩
    ·have:∀(l:List Nat) (S:da),1≤S.l→1≤(l.foldl da.step S).l:=by
      intro l
      induction l with
      |nil=>intro S h;exact h
      |cons a l ih=>
       intro S h
       rw[List.foldl_cons]
       refine ih _ ?_
       unfold da.step
       split
       ·show 1≤max _ _;lia
       ·exact h
     exact this rest _ (by show 1≤b+1;lia)
    ·rw[List.append_assoc,List.append_assoc]
     exact List.Perm.append_left _ (List.perm_append_comm)
  ·
   have hS:da.step ⟨b,n,0,0,λO=>0⟩ 32=⟨b+1,n+1,0,0,λO=>0⟩:=by unfold da.step;rw[if_neg (by decide)]
   rw[hS]
   refine bc G (ad (AJ V.w.params (aC V) s.heap.objs.size s.toks fr I cl self kk x tx b n 0 kb kn knt κ v pre.length [] 0) first (aB V)) hA hs1 ?_
   refine ae (dK (L:=0) hget) rfl rfl rfl λρ O O=>aE rfl λs' hs'=>⟨rfl,?_⟩
   refine codeAny_mono (ih (pre++[32]) (b+1) (n+1) _ _ _ false (ao first κ (ρ 1)) (.str ⟨#[32]⟩ (ρ 2)) A s' hx' hok hA (by rw[hlen];exact hs'.at')) ?_
   rintro r s'' ⟨hr,hl3,kb',kn',knt',kc,t,h⟩
   rw[hlen,hj] at h
   refine⟨hr,hl3,kb',kn',knt',kc,t,?_⟩
   rcases h with⟨h0,h1,h2⟩|⟨h0,h1,cl',κc',ec',h2,h3⟩
   ·exact .inl ⟨by simp[h0],h1,hs'.trans h2 (λb hb=> .inl hb)⟩
   ·exact .inr ⟨.tail _ h0,h1,cl',κc',ec',Nat.le_trans hs'.grow h2,hs'.trans h3 (λb hb=> .inl hb)⟩
end
theorem yV{V:Gw}(G:au V){fr I cl self tx kb:Nat}{kk:Nat→Nat}{x:Str}{ch:Nat}{cs:List Nat}(hch:ch∈[40,91,123])(hx:x.cps=⟨cs++[ch]⟩)(hok:no 0 cs)(h9:9∉cs){js:List Nat}:
  ai V 1 (Db V.w.params fr I cl self kk x tx kb (bX cs).b (bX cs).n (bX cs).nt (λρ=>[(kG,ρ 5,.str ⟨#[ch]⟩ (ρ 6))]) (cs.length+1) js) (λO=>True):=by
 intro A s hA hs
 refine codeAny_mono (mJ G hch cs [] 0 0 kb kb kb true 0 .none A s (by simpa using hx) hok hA hs) ?_
 rintro r s' ⟨hr,hl3,kb',kn',knt',kc,t,h⟩
 rcases h with⟨_,h1,h2⟩|⟨h0,_⟩
 ·rw[List.length_nil,Nat.zero_add] at h2
  refine⟨a7 _ _ (λk=>match k with|0=>kb'|1=>kn'|2=>knt'|3=>kc|_=>t),hr,aW (H:=Db V.w.params fr I cl self kk x tx kb (bX cs).b (bX cs).n (bX cs).nt (λρ=>[(kG,ρ 5,.str ⟨#[ch]⟩ (ρ 6))]) (cs.length+1) js) h2 _ rfl rfl (λO hp=>nomatch hp),trivial⟩
 ·exact absurd h0 h9
theorem vH{V:Gw}(G:au V){fr I cl self tx kb:Nat}{kk:Nat→Nat}{x:Str}{ch:Nat}{cs:List Nat}(hch:ch∈[40,91,123])(hx:x.cps=⟨cs++[ch]⟩)(hok:no 0 cs)(h9:9∈cs){js:List Nat}:
  ai V 1 (xw V.w.params fr I cl self kk x tx kb (bX cs).b (bX cs).n (bX cs).nt (λρ=>[(kG,ρ 10,.str ⟨#[ch]⟩ (ρ 11))]) (cs.length+1) (bX cs).l (bX cs).c js) (λO=>1≤(bX cs).l∧(bX cs).l≤3):=by
 intro A s hA hs
 refine codeAny_mono (mJ G hch cs [] 0 0 kb kb kb true 0 .none A s (by simpa using hx) hok hA hs) ?_
 rintro r s' ⟨hr,hl3,kb',kn',knt',kc,t,h⟩
 rcases h with⟨h0,_⟩|⟨_,h1,cl',κc',ec',h2,h3⟩
 ·exact absurd h9 h0
 ·rw[List.length_nil,Nat.zero_add] at h3
  have e:eG (bX cs).l (bX cs).c κc'=eG (bX cs).l (bX cs).c (λi=>a7 s'.heap.objs.size s'.toks (λk=>match k with|0=>kb'|1=>kn'|2=>knt'|3=>cl'|4=>ec'|5=>κc' 0|6=>κc' 1|7=>κc' 2|8=>kc|_=>t) (i+7)):=by
   refine v9 rfl (λO O=>rfl) λi hi=> ?_
   have hl:(bX cs).l≤3:=hl3
   have:i=0∨i=1∨i=2:=by lia
   rcases this with rfl|rfl|rfl<;>rfl
  have h3:am V ([fr,I]++[cl]) s (ma V.w.params fr I cl' self kk x tx (bX cs).b (bX cs).n (bX cs).nt kb' kn' knt' [(kG,kc,.str ⟨#[ch]⟩ t)] (cs.length+1)++[(cl,aa [] 0)]++[(cl',aa (eG (bX cs).l (bX cs).c κc') ec')]) s':=h3
  rw[e] at h3
  refine⟨a7 _ _ (λk=>match k with|0=>kb'|1=>kn'|2=>knt'|3=>cl'|4=>ec'|5=>κc' 0|6=>κc' 1|7=>κc' 2|8=>kc|_=>t),hr,aW (H:=xw V.w.params fr I cl self kk x tx kb (bX cs).b (bX cs).n (bX cs).nt (λρ=>[(kG,ρ 10,.str ⟨#[ch]⟩ (ρ 11))]) (cs.length+1) (bX cs).l (bX cs).c js) h3 _ rfl rfl (λp hp=> ?_),h1,hl3⟩
  rw[List.mem_singleton.mp hp]
  exact h2
noncomputable def mm(self d tn tc:Addr)(k:Nat→Nat)(x:Str)(tx:Nat)(S:da):WS:=⟨self,d,tn,tc,k,.str x tx,S.n,S.nt,S.b,S.l,S.c⟩
noncomputable def iH(P:Params)(self d:Nat)(x:Str)(tx:Nat)(S:da)(js:List Nat):aD:=
 ⟨.call (.ref 120) ⟨[.ref self,.str x tx],[]⟩,js,[(self,jg 165 d),(d,bn P [])],λO=> .ok (.ret .none),λρ=>[jg 165 d,Da P (λi=>ρ (i+4)) (.str x tx) S.n S.nt (ρ 2) (Nat.ble S.l 1)],
  λρ=>[(ρ 2,al [.ref (ρ 3),.int S.b (ρ 11)]),(ρ 3,al (pW S.l S.c λi=>ρ (i+4)))]⟩
noncomputable def zW(ρ ρ':br)(t:Nat):Nat→Nat
 |0=>t+1
 |1=>ρ 1+1
 |2=>ρ 1+3
 |3=>ρ' 1+1
 |4=>ρ' 1+6
 |5=>ρ 3
 |6=>ρ 4
 |7=>ρ 2
 |k+8=>ρ (k+7)
theorem CC(P):d4 P 120=true:=by kernel_rfl!
theorem t4{l:Nat}(hl:l≤3)(c:Nat→Int)(k:Nat→Nat):pW l c k=eG l c (λi=>k (i+8)):=by
 have:l=0∨l=1∨l=2∨l=3:=by lia
 rcases this with rfl|rfl|rfl|rfl<;>rfl
theorem tD{V:Gw}(G:au V){self d tx:Nat}{x:Str}{ch:Nat}{cs:List Nat}(hch:ch∈[40,91,123])(hx:x.cps=⟨cs++[ch]⟩)(hok:no 0 cs){js:List Nat}:
  ai V 2 (iH V.w.params self d x tx (bX cs) js) (λρ=>(bX cs).l≤3∧self≤ρ 2∧self≤ρ 3):=by
 intro A s hA h
 have hself:self<s.heap.objs.size:=Heap.lt_size (h.get (self,jg 165 d) (.head _))
 have ha:x.cps.all (·<128)=true:=by
  rw[hx]
  have h1:∀(l:List Nat) (b:Nat),no b l→l.all (·<128)=true:=by
   intro l
   induction l with
   |nil=>intro b _;rfl
   |cons a l ih=>
    intro b hb
    rcases hb with⟨rfl,_,hb⟩|⟨rfl,hb⟩
    ·rw[List.all_cons,ih _ hb];rfl
    ·rw[List.all_cons,ih _ hb];rfl
  have h2:(decide (ch<128))=true:=by
   simp only[gV,List.not_mem_nil,or_false] at hch
   rcases hch with rfl|rfl|rfl<;>rfl
  simp only[List.all_toArray,List.all_append,h1 cs 0 hok,List.all_cons,h2,List.all_nil,Bool.and_self]
 refine jB G hA (CC _) h (a6 (Fs V.w.params (aC V) s.heap.objs.size s.toks self d x tx) (aB V)) (aS rfl) λs1 hs1=> ?_
 have hfr:∀a∈[s.heap.objs.size,self,d],a∈(iH V.w.params self d x tx (bX cs) js).K.map (·.1)∨s.heap.objs.size≤a:=λa ha=>by
  rcases e6 ha with rfl|ha
  ·exact .inr (Nat.le_refl _)
  ·exact .inl ha
 by_cases h9:9∈cs
 ·
  by_cases hl:1≤(bX cs).l∧(bX cs).l≤3
  ·have hm:(bX cs).l∈[1,2,3]:=by
    have:(bX cs).l=1∨(bX cs).l=2∨(bX cs).l=3:=by lia
    rcases this with h|h|h<;>rw[h]<;>decide
   refine bc G (ad (List.map_inj_left.mp (Cj V.w.params s.heap.objs.size s1.heap.objs.size s.toks s1.toks self d x tx (bX cs).b (bX cs).n (bX cs).nt (λρ=>[(kG,ρ 10,.str ⟨#[ch]⟩ (ρ 11))]) (cs.length+1) (bX cs).c) (bX cs).l hm) (aC V) (aB V)) hA hs1.at' ?_
   refine ae (ft (L:=0) ha) rfl rfl rfl λρ0 O O=>ae (l:=1) (vH G hch hx hok h9) rfl rfl rfl λρ O O=>ae (l:=0) (pM (by simp[eG,aw];lia)) rfl rfl rfl λρ' O hρ'=>aO rfl λs2 hs2=> ?_
   have E:=hs1.trans hs2 hfr
   have ec:(eG (bX cs).l (bX cs).c λi=>ρ (i+7))=pW (bX cs).l (bX cs).c (zW ρ ρ' s1.toks):=(t4 hl.2 _ (zW ρ ρ' s1.toks)).symm
   rw[ec] at E
   have hg:=hs1.grow
   refine⟨a7 _ _ (λk=>match k with|0=>ρ' 0+1|1=>ρ' 0|k+2=>zW ρ ρ' s1.toks k),rfl,aW (H:=iH V.w.params self d x tx (bX cs) js) E _ rfl rfl (λp hp=> ?_),hl.2,?_,?_⟩
   ·rcases e6 hp with rfl|hp
    ·show _≤ρ' 0+1;lia
    ·rw[List.mem_singleton.mp hp];show _≤ρ' 0;lia
   ·show self≤ρ' 0+1;lia
   ·show self≤ρ' 0;lia
  ·exfalso
   apply hl
   have key:∀(l:List Nat) (S:da),no S.b l→S.l≤3→(9∈l∨1≤S.l)→1≤(l.foldl da.step S).l∧(l.foldl da.step S).l≤3:=by
    intro l
    induction l with
    |nil=>intro S _ h3 h;exact⟨h.resolve_left (by simp),h3⟩
    |cons a l ih=>
     intro S ho h3 h
     rw[List.foldl_cons]
     rcases ho with⟨rfl,hb,ho⟩|⟨rfl,ho⟩
     ·have hS:S.step 9=⟨0,S.n+1,S.nt+1,max S.l (S.b+1),λi=>if i=S.b then S.c i+1 else S.c i⟩:=by unfold da.step;rw[if_pos rfl]
      rw[hS]
      exact ih _ ho (by show max _ _≤3;lia) (.inr (by show 1≤max _ _;lia))
     ·have hS:S.step 32=⟨S.b+1,S.n+1,S.nt,S.l,S.c⟩:=by unfold da.step;rw[if_neg (by decide)]
      rw[hS]
      exact ih _ ho h3 (h.imp (λh=>by simpa using h) id)
   exact key cs ⟨0,0,0,0,λO=>0⟩ hok (by decide) (.inl h9)
 ·have hl:(bX cs).l=0:=by
   have key:∀(l:List Nat) (S:da),9∉l→(l.foldl da.step S).l=S.l:=by
    intro l
    induction l with
    |nil=>intro S _;rfl
    |cons a l ih=>
     intro S h
     rw[List.foldl_cons,ih _ (λhm=>h (.tail _ hm))]
     unfold da.step
     rw[if_neg (λe:a=9=>h (by rw[e];exact .head _))]
   exact key cs _ h9
  refine bc G (ad (Ft V.w.params s.heap.objs.size s1.heap.objs.size s.toks s1.toks self d x tx (bX cs).b (bX cs).n (bX cs).nt (λρ=>[(kG,ρ 5,.str ⟨#[ch]⟩ (ρ 6))]) (cs.length+1)) (aC V) (aB V)) hA hs1.at' ?_
  refine ae (ft (L:=0) ha) rfl rfl rfl λρ0 O O=>ae (l:=1) (yV G hch hx hok h9) rfl rfl rfl λρ O O=>ae (l:=0) (pM (by simp[aw])) rfl rfl rfl λρ' O hρ'=>aO rfl λs2 hs2=> ?_
  have E:=hs1.trans hs2 hfr
  have ec:([]:List Value)=pW (bX cs).l (bX cs).c (zW ρ ρ' s1.toks):=by rw[hl];rfl
  have eb:true=Nat.ble (bX cs).l 1:=by rw[hl];rfl
  have E':am V ((iH V.w.params self d x tx (bX cs) js).K.map (·.1)) s [(self,jg 165 d),(d,bn V.w.params [(uB,s1.toks+1,.str x tx),(kN,ρ 1+1,.int (bX cs).n (ρ 3)),(CV,ρ 1+3,.int (bX cs).nt (ρ 4)),(oP,ρ' 1+1,.ref (ρ' 0+1)),(jr,ρ' 1+6,.bool (Nat.ble (bX cs).l 1))]),(ρ' 0+1,al [.ref (ρ' 0),.int (bX cs).b (ρ 2)]),(ρ' 0,al (pW (bX cs).l (bX cs).c (zW ρ ρ' s1.toks)))] s2:=by
   rw[←ec,←eb]
   exact E
  have hg:=hs1.grow
  refine⟨a7 _ _ (λk=>match k with|0=>ρ' 0+1|1=>ρ' 0|k+2=>zW ρ ρ' s1.toks k),rfl,aW (H:=iH V.w.params self d x tx (bX cs) js) E' _ rfl rfl (λp hp=> ?_),by lia,?_,?_⟩
  ·rcases e6 hp with rfl|hp
   ·show _≤ρ' 0+1;lia
   ·rw[List.mem_singleton.mp hp];show _≤ρ' 0;lia
  ·show self≤ρ' 0+1;lia
  ·show self≤ρ' 0;lia
noncomputable def aX(cs:List Nat):Str:=⟨⟨cs⟩⟩
theorem lP{V:Gw}{T:String}{name:Str}{id:String}{B:Builtin}{self:Value}{rest:List Value}{m:Made}{z:Str}{L:Nat}(slot:Slot T name id)(hT:∀s:Shared,s.TypeIs self T)
  (entry:entryFor table id=some B) (args:argsOk id ⟨self::rest,[]⟩) (g:Gives (B ⟨self::rest,[]⟩) m) (hm:(∃t,m= .val (.str z t))∨(m= .str z∧z.length≤sizeLine)):
  ai V L (aN (.call (.builtin id) ⟨self::rest,[]⟩) λρ=> .str z (ρ 2)) (λO=>True):=by
 intro A s hA h
 show codeAny _ _ _ (bO V (aN (.call (.builtin id) ⟨self::rest,[]⟩) λρ=> .str z (ρ 2)) (λO=>True) s) s
 refine codeAny_call_builtin slot.plain entry (slot.check _ _ _ _ _ _ _ _ (hT s) args (g V.prog V.w A (bO V (aN (.call (.builtin id) ⟨self::rest,[]⟩) λρ=> .str z (ρ 2)) (λO=>True) s) s ?_))
 rcases hm with⟨t,rfl⟩|⟨rfl,hz⟩
 ·exact⟨a7 s.heap.objs.size s.toks (λO=>t),rfl,oT (s:=s) (s':=s) rfl h.base _,trivial⟩
 ·exact⟨hz,a7 s.heap.objs.size (s.toks+1) (λO=>s.toks),rfl,oT (s:=s) (s':={s with toks:=s.toks+1}) rfl (h.base.toks _) _,trivial⟩
theorem gw(a:List Nat):(aX a).length=a.length:=rfl
theorem uT(a b:List Nat):aX a++aX b=aX (a++b):=by
 show(⟨(⟨a⟩:Array Nat)++(⟨b⟩:Array Nat)⟩:Str)=_
 simp[aX]
abbrev hY (id:String) (a b:Value):Code:= .call (.builtin id) ⟨[a,b],[]⟩
theorem pF{V:Gw}{a b:List Nat}{t u:Nat}{L:Nat}(h:aw (a.length+b.length)):ai V L (aN (hY "str.__add__" (.str (aX a) t) (.str (aX b) u)) λρ=> .str (aX (a++b)) (ρ 2)) (λO=>True):=by
 refine lP F.slot_str_add (λs=>rfl) F.entry_str_add (F.args_str_add_2 _ _) (gives_str_add (aX a) (aX b) t u) ?_
 by_cases ha:a=[]
 ·subst ha;left;exact⟨u,rfl⟩
 ·by_cases hb:b=[]
  ·subst hb;left;refine⟨t,?_⟩
   rw[if_neg (by rw[gw];simpa using ha),if_pos (by rfl),List.append_nil]
  ·right
   rw[if_neg (by rw[gw];simpa using ha),if_neg (by rw[gw];simpa using hb),uT]
   exact⟨rfl,by rw[gw,List.length_append];exact h.fits⟩
theorem sQ(k:Nat)(c:Nat):∀(acc:Array Nat),(List.replicate k (#[c]:Array Nat)).foldl (·++ ·) acc=acc++(⟨List.replicate k c⟩:Array Nat):=by
 induction k with
 |zero=>intro acc;simp
 |succ k ih=>
  intro acc
  rw[List.replicate_succ,List.foldl_cons,ih,List.replicate_succ,Array.append_assoc]
  apply Array.ext'
  simp[List.replicate_succ]
theorem vI{V:Gw}{c t u:Nat}{n:Int}{L:Nat}(h0:0≤n)(h1:n≤1000):ai V L (aN (hY "str.__mul__" (.str ⟨#[c]⟩ t) (.int n u)) λρ=> .str (aX (List.replicate n.toNat c)) (ρ 2)) (λO=>True):=by
 have hlen:(⟨#[c]⟩:Str).length=1:=rfl
 refine lP F.slot_str_mul (λs=>rfl) F.entry_str_mul (F.args_str_mul_2 _ _) (gives_str_mul ⟨#[c]⟩ n t u ?_ (λh O=> ?_) (λh O=> ?_)) ?_
 ·simp only[Bool.or_eq_false_iff,decide_eq_false_iff_not];lia
 ·rw[hlen]
  have:(1:Int)≤(2^63-1)/n:=by
   rw[Int.le_ediv_iff_mul_le (by lia)]
   lia
  simpa using this
 ·rw[hlen,Nat.one_mul]
  simp[Builtin.Str.tooLong,sizeLine];lia
 ·by_cases hn:n<1
  ·have:n=0:=by lia
   subst this
   right;rw[if_pos hn]
   exact⟨rfl,Nat.zero_le _⟩
  ·rw[if_neg hn]
   by_cases h2:n=1
   ·subst h2;left;exact⟨t,by rfl⟩
   ·right
    have h3: ¬((n==1||(⟨#[c]⟩:Str).length==0)=true):=by rw[hlen];simp[h2]
    rw[if_neg h3,sQ]
    refine⟨by simp[aX],?_⟩
    rw[gw,List.length_replicate,sizeLine_eq];lia
theorem rS{k n:Nat}(h:k<n):seqIndex? (k:Int) n=some k:=by
 have:=seqIndex_of (k:=(k:Int)) (n:=n) (by lia) (by lia)
 rwa [Int.toNat_natCast] at this
theorem vJ{V:Gw}{cs:List Nat}{t u c:Nat}{i:Int}{L:Nat}(h0:0≤i)(h1:i≤1000)(hc:cs[i.toNat]?=some c):ai V L (aN (hY "str.__getitem__" (.str (aX cs) t) (.int i u)) λρ=> .str (aX [c]) (ρ 2)) (λO=>True):=by
 refine lP F.slot_str_getitem (λs=>rfl) F.entry_str_getitem (F.args_str_getitem_2 _ _) (gives_str_getitem (aX cs) i t u c ?_ ?_) (.inr ⟨rfl,by show 1≤sizeLine;decide⟩)
 ·simp only[Bool.or_eq_false_iff,decide_eq_false_iff_not];lia
 ·obtain⟨k,rfl⟩:=Int.eq_ofNat_of_zero_le h0
  have hk:cs[k]?=some c:=hc
  have hlt:k<cs.length:=(List.getElem?_eq_some_iff.mp hk).1
  have e:seqIndex? (k:Int) (aX cs).length=some k:=rS (by rw[gw];exact hlt)
  show(seqIndex? (k:Int) (aX cs).length).bind _=_
  rw[e]
  simpa[aX] using hk
noncomputable def gM(a:Addr)(vs:List Value)(i:Int)(u:Nat)(x:Value)(js:List Nat):aD:=iw (.call (.builtin "tuple.__getitem__") ⟨[.ref a,.int i u],[]⟩) js [(a,al vs)] λO=>x
theorem pE{V:Gw}{a:Nat}{vs:List Value}{i:Int}{u:Nat}{x:Value}{js:List Nat}{L:Nat}(h0:0≤i)(h1:i≤1000)(hx:vs[i.toNat]?=some x):ai V L (gM a vs i u x js) (λO=>True):=by
 obtain⟨k,rfl⟩:=Int.eq_ofNat_of_zero_le h0
 have hk:vs[k]?=some x:=hx
 have hlt:k<vs.length:=(List.getElem?_eq_some_iff.mp hk).1
 have e:seqIndex? (k:Int) (⟨vs⟩:Array Value).size=some k:=rS (by simpa using hlt)
 refine cR (H:=gM a vs k u x js) rfl F.slot_tuple_getitem (λs hs=>a9 hs (.head _) rfl) F.entry_tuple_getitem (F.args_tuple_getitem_2 _ _) (MeetsSeq.tuple_getitem_at a ⟨vs⟩ 0 k u k x (by lia) (by lia) e (by simpa using hk)) λA s O hs=> ?_
 exact⟨hs.get (a,al vs) (.head _),a7 _ _ (λO=>0),rfl,cM hs.ends (λO=>0),trivial⟩
noncomputable def o9(I S:Addr):Code:= .builtin "sum.loop" ⟨[.ref I,.ref S,rawInt 0,rawInt 0],[]⟩
theorem FH(P:Params)(b1:Bool)(n t:Nat)(l:Addr)(vs:List Value)(ep:Nat):Qk 200 λr=>fT λb2=>r ( ap P b1 b2 (.call (.builtin "sum") ⟨[.ref l],[]⟩) [(l,aa vs ep)] n t (.again [1,1,0,1,2] (o9 n (n+1)) [0,1,2] [(l,aa vs ep),(n,aj l 0),(n+1,aa [.int 0 t] 0)])):=by unfold Qk;kernel_rfl!
theorem tB{vs:List Value}{ns:List Int}(hi:aI vs ns):∀k,k≤ns.length→preSum (λi=>ns.getD i 0) k=(ns.take k).sum:=by
 intro k
 induction k with
 |zero=>intro _;simp[preSum]
 |succ k ih=>
  intro h
  have hk:k<ns.length:=by lia
  show preSum _ k+ns.getD k 0=_
  rw[ih (by lia),List.take_succ_eq_append_getElem hk,List.sum_append]
  simp[List.getD_eq_getElem?_getD,hk]
noncomputable def xE(l:Nat)(vs:List Value)(ep:Nat)(z:Int)(js:List Nat):aD:=iw (.call (.builtin "sum") ⟨[.ref l],[]⟩) js [(l,aa vs ep)] λρ=> .int z (ρ 2)
theorem sa{V:Gw}(G:au V){l ep:Nat}{vs:List Value}{ns:List Int}(hi:aI vs ns){js:List Nat}:ai V 1 (xE l vs ep ns.sum js) (λO=>True):=by
 intro A s hA hs
 have hsum:preSum (λi=>ns.getD i 0) vs.length=ns.sum:=by
  rw[hi.length,tB hi _ (Nat.le_refl _),List.take_length]
 refine bc G (a6 (FH V.w.params (aC V) s.heap.objs.size s.toks l vs ep) (aB V)) hA hs (aE rfl λs1 hs1=>⟨rfl,?_⟩)
 have hl1:s1.heap.get? l=some (aa vs ep):=hs1.at'.get (l,aa vs ep) (.head _)
 have hI1:s1.heap.get? s.heap.objs.size=some (aj l 0):=hs1.at'.get (_,aj l 0) (.tail _ (.head _))
 have hS1:s1.heap.get? (s.heap.objs.size+1)=some (aa [.int 0 s.toks] 0):=hs1.at'.get (_,aa [.int 0 s.toks] 0) (.tail _ (.tail _ (.head _)))
 have hnd:=hs1.at'.nodup
 have hlI:l≠s.heap.objs.size:=λe=>by
  simp only[List.map_cons,List.map_nil,List.nodup_cons,List.mem_cons] at hnd
  exact hnd.1 (.inl e)
 have hlS:l≠s.heap.objs.size+1:=λe=>by
  simp only[List.map_cons,List.map_nil,List.nodup_cons,List.mem_cons] at hnd
  exact hnd.1 (.inr (.inl e))
 have W:=(Walks.list (prog:=V.prog) (w:=V.w) (A:=A.in1) hA.2.2 s.heap.objs.size l hlI ⟨vs⟩).toS
 have hW:codeAny (model V.prog V.w) A (o9 s.heap.objs.size (s.heap.objs.size+1)) (λr s'=>∃t',r= .ok (.ret (.int ns.sum t'))∧Moved [s.heap.objs.size+1,s.heap.objs.size] (λa b=>b=a) s1 s') s1:=by
  refine codeAny_sum_loopAnyS W (λi=>ns.getD i 0) (λi v hv=> ?_) (s.heap.objs.size+1) (λhm=> ?_) vs.length 0 s1 s.toks 0 0 (.inl rfl) (by simp) (Nat.zero_le _) ⟨⟨_,hI1,rfl,rfl⟩,⟨_,hl1,rfl,_,rfl⟩⟩ hS1 λs' t' hm=>⟨t',?_,hm⟩
  ·have hv':vs[i]?=some v:=by simpa using hv
   obtain⟨hlt,e⟩:=List.getElem?_eq_some_iff.mp hv'
   obtain⟨t,hm,e'⟩:=hi.at i hlt
   refine⟨t,?_⟩
   rw[←e,e']
   simp[List.getD_eq_getElem?_getD,hm]
  ·rcases List.mem_cons.mp hm with h|hm
   ·exact absurd h (Nat.succ_ne_self _)
   ·exact hlS (List.mem_singleton.mp hm).symm
  ·have:(⟨vs⟩:Array Value).size=vs.length:=by simp
   rw[←hsum]
   rfl
 refine codeAny_mono (d9 hW) ?_
 rintro r s2 ⟨hg,t',rfl,hm⟩
 have E:am V [l] s [(l,aa vs ep)] s2:=by
  refine⟨⟨⟨λb o e hb=> ?_,Nat.le_trans hs1.at'.base.size hg,?_,hm.drawn.trans hs1.at'.base.drawn,hm.os.trans hs1.at'.base.os⟩,λp hp=> ?_,by simp,λp hp=>hs.ok p hp⟩,λb o e hb=> ?_,Nat.le_trans hs1.grow hg⟩
  ·refine hm.heap b o (λhm=> ?_) (hs1.at'.base.old b o e hb)
   have hlt:=Heap.lt_size e
   have hsz:=hs.base.size
   have hb':b<s.heap.objs.size:=Nat.lt_of_lt_of_le hlt hsz
   rcases List.mem_cons.mp hm with h|hm
   ·rw[h] at hb';exact absurd hb' (Nat.not_lt.mpr (Nat.le_succ _))
   ·rw[List.mem_singleton.mp hm] at hb';exact absurd hb' (Nat.lt_irrefl _)
  ·have:s2.gens=s1.gens:=hm.gens
   rw[this];exact hs1.at'.base.gens
  ·rw[List.mem_singleton.mp hp]
   exact hm.heap l _ (λhm=>by
    rcases List.mem_cons.mp hm with h|hm
    ·exact hlS h
    ·exact hlI (List.mem_singleton.mp hm)) hl1
  ·have hlt:=Heap.lt_size e
   refine hm.heap b o (λhm=> ?_) (hs1.pres b o e hb)
   rcases List.mem_cons.mp hm with h|hm
   ·rw[h] at hlt;exact absurd hlt (Nat.not_lt.mpr (Nat.le_succ _))
   ·rw[List.mem_singleton.mp hm] at hlt;exact absurd hlt (Nat.lt_irrefl _)
 exact⟨a7 _ _ (λO=>t'),rfl,cM E (λO=>t'),trivial⟩
noncomputable def nP(l:Nat)(vs:List (List Nat×Nat))(ep:Nat)(t:Nat)(js:List Nat):aD:=iw (.call (.builtin "str.join") ⟨[.str ⟨#[]⟩ t,.ref l],[]⟩) js [(l,aa (vs.map λp=> .str (aX p.1) p.2) ep)] λρ=> .str (aX (vs.flatMap (·.1))) (ρ 2)
theorem la(vs:List (List Nat)):Builtin.Str.glued ⟨#[]⟩ (vs.map aX)=aX vs.flatten:=by
 unfold Builtin.Str.glued
 have key:∀(vs:List (List Nat)) (acc:Array Nat),(vs.map aX).foldl (λacc p=>acc++(⟨#[]⟩:Str).cps++p.cps) acc=acc++(⟨vs.flatten⟩:Array Nat):=by
  intro vs
  induction vs with
  |nil=>intro acc;simp
  |cons v vs ih=>
   intro acc
   rw[List.map_cons,List.foldl_cons,ih,List.flatten_cons]
   apply Array.ext'
   simp[aX]
 cases vs with
 |nil=>rfl
 |cons v vs=>
  rw[List.map_cons,List.drop_one,List.tail_cons,key]
  show(⟨(⟨v⟩:Array Nat)++(⟨vs.flatten⟩:Array Nat)⟩:Str)=_
  simp[aX]
theorem oi{vs:List (List Nat)}:∀(k:Nat),(vs.map aX).toArray.foldl (·+ ·.length+(⟨#[]⟩:Str).length) k=k+vs.flatten.length:=by
 have e:∀(l:List Str) (k:Nat),l.toArray.foldl (·+ ·.length+(⟨#[]⟩:Str).length) k=l.foldl (·+ ·.length+(⟨#[]⟩:Str).length) k:=λl k=>by simp
 simp only[e]
 induction vs with
 |nil=>intro k;simp
 |cons v vs ih=>
  intro k
  simp only[List.map_cons,List.foldl_cons] at ih⊢
  rw[ih,List.flatten_cons,List.length_append]
  show k+v.length+0+_=_
  lia
theorem tJ{V:Gw}{l ep t:Nat}{vs:List (List Nat×Nat)}{js:List Nat}{L:Nat}(h:aw (vs.flatMap (·.1)).length):ai V L (nP l vs ep t js) (λO=>True):=by
 have e1:(vs.map λp=>(aX p.1,p.2)).map (·.1)=(vs.map (·.1)).map aX:=by simp
 have e2:vs.flatMap (·.1)=(vs.map (·.1)).flatten:=rfl
 have e3:strValues (vs.map λp=>(aX p.1,p.2))=vs.map λp=> .str (aX p.1) p.2:=by simp[strValues]
 refine cR (H:=nP l vs ep t js) rfl F.slot_str_join (λs hs=>rfl) F.entry_str_join (F.args_str_join_2 _ _) (meets_str_join_list ⟨#[]⟩ t l (vs.map λp=>(aX p.1,p.2)) ?_) λA s O hs=> ?_
 ·rw[e1,oi,Nat.zero_add,←e2]
  have:(vs.flatMap (·.1)).length≤1000:=h
  simp only[Builtin.Str.tooLong,decide_eq_false_iff_not,sizeLine_eq];lia
 ·rw[e3]
  refine⟨⟨_,hs.get (l,_) (.head _),rfl,_,rfl⟩,?_⟩
  have hpost:∀m:Made,((∃t,m= .val (.str (aX (vs.flatMap (·.1))) t))∨m= .str (aX (vs.flatMap (·.1))))→m.post (λv s'=>bO V (nP l vs ep t js) (λO=>True) s (.ok (.ret v)) s') s:=by
   rintro m (⟨t',rfl⟩|rfl)
   ·exact⟨a7 _ _ (λO=>t'),rfl,cM hs.ends (λO=>t'),trivial⟩
   ·exact⟨h.fits,a7 _ _ (λO=>s.toks),rfl,cM (hs.ends.tok (s.toks+1)) (λO=>s.toks),trivial⟩
  apply hpost
  cases vs with
  |nil=>right;rfl
  |cons p r=>cases r with
   |nil=>left;exact⟨p.2,by simp[joinMade]⟩
   |cons q r'=>
    right
    exact congrArg Made.str ((congrArg (Builtin.Str.glued ⟨#[]⟩) e1).trans ((la _).trans (congrArg aX e2.symm)))
noncomputable def rh(f0:Value)(zt zk:Addr):Obj:={cls:= .type "zip",data:= .fields #[f0,.bool false,.bool false,.ref zt,.ref zk]}
noncomputable def bA(Zz zt zk i1 i2 l g:Addr)(f0 za zb:Value)(j:Nat)(vs:List Value)(ep:Nat)(ps:List Value)(eg:Nat):KL:=
 [(Zz,rh f0 zt zk),(zt,al [.ref i1,.ref i2]),(zk,al [za,zb]),(i1,aj l j),(i2,aj g j),(l,aa vs ep),(g,aa ps eg)]
noncomputable def fP(Zz zt zk i1 i2 l g:Addr)(f0 za zb:Value)(j:Nat)(vs:List Value)(ep:Nat)(ps:List Value)(eg:Nat):KL:=
 [(Zz,rh f0 zt zk),(zt,al [.ref i1,.ref i2]),(zk,al [za,zb]),(i1,ba j),(i2,aj g j),(l,aa vs ep),(g,aa ps eg)]
noncomputable def eH(Zz it l:Addr)(f0 old:Value)(j:Nat)(vs:List Value)(ep:Nat):KL:=[(Zz,ge f0 it j old),(it,aj l j),(l,aa vs ep)]
noncomputable def gP(Zz it l:Addr)(f0 old:Value)(j:Nat)(vs:List Value)(ep:Nat):KL:=[(Zz,ge f0 it j old),(it,ba j),(l,aa vs ep)]
theorem Fq(P:Params)(n t Zz zt zk i1 i2 l g:Nat)(za zb:Value)(j:Nat)(vs:List Value)(ep:Nat)(ps:List Value)(eg:Nat)(x y:Value):Qk 200 λr=>ay λb1 b2=>r ( bf P b1 b2 (ia (.ref Zz)) (bA Zz zt zk i1 i2 l g .none za zb j vs ep ps eg) n t
 (.hook [1,0,1,1,1,2,1,1,1,1,4] 0 (a8 i1 l j vs ep x [3,5]) λρ1=> .hook [3,3,3,3,5] 0 (a8 i2 g j ps eg y [4,6]) λρ2=> .fin [3,3,3,3,3,1,1,1,1] (.ok (.ret (.ref (ρ2 0)))) [0,1,2,3,4,5,6,7] (bA Zz zt zk i1 i2 l g (.int (ρ2 0) 0) x y (j+1) vs ep ps eg++[(ρ2 0,al [x,y])]))):=by unfold Qk;kernel_rfl!
theorem Ci(P:Params)(n t Zz zt zk i1 i2 l g:Nat)(za zb:Value)(j:Nat)(vs:List Value)(ep:Nat)(ps:List Value)(eg:Nat):Qk 200 λr=>ay λb1 b2=>r ( bf P b1 b2 (ia (.ref Zz)) (bA Zz zt zk i1 i2 l g .none za zb j vs ep ps eg) n t
 (.hook [1,0,1,1,1,2,1,1,1,1,4] 0 (cn i1 l j vs ep [3,5]) λρ1=> .fin [1,1,9] (.ok .next) [0,1,2,3,4,5,6] (fP Zz zt zk i1 i2 l g .none za zb j vs ep ps eg))):=by unfold Qk;kernel_rfl!
theorem Jg(P:Params)(n t Zz it l:Nat)(old:Value)(j:Nat)(vs:List Value)(ep:Nat)(x:Value):Qk 200 λr=>ay λb1 b2=>r ( bf P b1 b2 (ia (.ref Zz)) (eH Zz it l .none old j vs ep) n t
 (.hook [1,0,1,1,2] 0 (a8 it l j vs ep x [1,2]) λρ1=> .fin [1,1,1,1,1,1,1,1,1,1,1,1,1,1] (.ok (.ret (.ref (ρ1 0)))) [0,1,2,3] (eH Zz it l (.int (ρ1 0) 0) x (j+1) vs ep++[(ρ1 0,al [.int j (ρ1 1),x])]))):=by unfold Qk;kernel_rfl!
theorem G3(P:Params)(n t Zz it l:Nat)(old:Value)(j:Nat)(vs:List Value)(ep:Nat):Qk 200 λr=>ay λb1 b2=>r ( bf P b1 b2 (ia (.ref Zz)) (eH Zz it l .none old j vs ep) n t
 (.hook [1,0,1,1,2] 0 (cn it l j vs ep [1,2]) λρ1=> .fin [5] (.ok .next) [0,1,2] (gP Zz it l .none old j vs ep))):=by unfold Qk;kernel_rfl!
set_option tactic.hygienic true
section
noncomputable def hV(target:Expr)(env:Env)(v:Value)(body:List Stmt):Sem PySem.Fin:=im target env v>>=λO=>lD body env>>=λf=>pure (.done f)
theorem dL{prog:Program}{w:World}{A:Around}{R:Result→Shared→Prop}{s:Shared}{target:Expr}{it:Value}{body:List Stmt}{env:Env}
  (turn:wpAny (model prog w) A (pyNext it) (λr s₁=>match r with
   |none=>R (.ok .next) s₁
   |some v=>wpAny (model prog w) A (letOwnedTupleGo target it v) (λO s₂=>wpAny (model prog w) A (hV target env v body) (λf s₃=>f= .done .next∧codeAny (model prog w) A (.forLoop target it body [] env) R s₃) No s₂) No s₁) No s):
  codeAny (model prog w) A (.forLoop target it body [] env) R s:=by
 refine codeAny_of_tree ?_
 show wpAny _ A ((forTurn target it body [] env).onRaise (λx=>do noteFrame x env;theTreesLotGoes x)) _ _ s
 refine wpAny_noted ?_
 simp only[forTurn]
 refine wpAny_bind (wpAny_standAt (wpAny_bind (wpAny_onRaise (wpAny_mono turn (λr s₁ h₁=> ?_) λO O h'=>h'.elim))))
 cases r with
 |none=>exact wpAny_pure ⟨rfl,codeAny_block (wpAny_execs_nil h₁)⟩
 |some v=>
  refine wpAny_bind (wpAny_mono h₁ (λO s₂ h₂=> ?_) λO O h'=>h'.elim)
  have h3:wpAny (model prog w) A (assign target env v>>=λO=>execs body env>>=λf=>(pure (.done f):Sem PySem.Fin)) (λf s₃=>f= .done .next∧codeAny (model prog w) A (.forLoop target it body [] env) R s₃) No s₂:=by
   rw[ey,iS];exact h₂
  intro Γ p hΓ
  have z:=h3 Γ p hΓ
  rw[Sem.wp_bind'] at z⊢
  refine Sem.wp_mono _ Γ _ (λO p' s' h'=> ?_) (λO O O x=>x.elim) _ _ z
  rw[Sem.wp_bind'] at h'⊢
  refine Sem.wp_mono _ Γ _ (λf p'' s'' h''=> ?_) (λO O O x=>x.elim) _ _ h'
  obtain⟨hf,hc⟩:=h''
  injection hf with hf
  subst hf
  exact⟨rfl,hc⟩
noncomputable def lM:=ZFast.zw15418851999007992765
theorem j0:PySem.isTrue=lM:=by unfold lM;exact ZFast.ze15418851999007992765
noncomputable def gN(target:Expr)(env:Env)(v:Value)(ifs:List Expr)(elt:Expr)(acc:Value):Sem PySem.Fin:=im target env v>>=λO=>
 (forIn ifs true λc r=>if r=true then do let ok ←lM c env (mC c env);pure (ForInStep.yield ok) else pure (ForInStep.yield r))>>=λok=>
  (if ok=true then mC elt env>>=λx=>call (.builtin "list.append") [acc,x]>>=λO=>pure (.done .next) else pure (.done .next))
noncomputable def gB:Expr→List Expr
 | .ListComp _ [g] _ _=>g.ifs
 |_=>[]
noncomputable def iJ(e:Expr):Prop:=E6 λelt target iter ifs scope pos=>e= .ListComp elt [⟨target,iter,ifs,0⟩] scope pos
theorem iQ{e:Expr}(h:e= .ListComp (bx e) [⟨(gk e 0).target,(gk e 0).iter,(gk e 0).ifs,0⟩] (Ds e) e.pos):iJ e:=⟨_,_,_,_,_,_,h⟩
theorem gH{prog:Program}{w:World}{A:Around}{R:Result→Shared→Prop}{s:Shared}{e:Expr}{it acc:Value}{env:Env}(he:iJ e)
  (turn:wpAny (model prog w) A (pyNext it) (λr s₁=>match r with
   |none=>R (.ok .next) s₁
   |some v=>wpAny (model prog w) A (letOwnedTupleGo (bd e) it v) (λO s₂=>wpAny (model prog w) A (gN (bd e) env v (gB e) (bx e) acc) (λf s₃=>f= .done .next∧codeAny (model prog w) A (.compLoop e 0 it acc env) R s₃) No s₂) No s₁) No s):
  codeAny (model prog w) A (.compLoop e 0 it acc env) R s:=by
 obtain⟨elt,target,iter,ifs,scope,pos,rfl⟩:=he
 refine codeAny_of_tree ?_
 show wpAny _ A ((compTurn (.ListComp elt [⟨target,iter,ifs,0⟩] scope pos) 0 it acc env).onRaise (λx=>do noteFrame x env;theTreesLotGoes x)) _ _ s
 refine wpAny_noted ?_
 rw[compTurn_list]
 refine wpAny_bind (wpAny_standAt (wpAny_bind (wpAny_mono turn (λr s₁ h₁=> ?_) λO O h'=>h'.elim)))
 cases r with
 |none=>exact wpAny_pure h₁
 |some v=>
  refine wpAny_bind (wpAny_mono h₁ (λO s₂ h₂=> ?_) λO O h'=>h'.elim)
  have h3:wpAny (model prog w) A (assign target env v>>=λO=>
    (forIn ifs true λc r=>if r=true then do let ok ←PySem.isTrue c env (eval c env);pure (ForInStep.yield ok) else pure (ForInStep.yield r))>>=λok=>
    (if ok=true then eval elt env>>=λx=>call (.builtin "list.append") [acc,x]>>=λO=>(pure (.done .next):Sem PySem.Fin) else pure (.done .next)))
    (λf s₃=>f= .done .next∧codeAny (model prog w) A (.compLoop (.ListComp elt [⟨target,iter,ifs,0⟩] scope pos) 0 it acc env) R s₃) No s₂:=by
   rw[ey,j0,gr];exact h₂
  intro Γ p hΓ
  have z:=h3 Γ p hΓ
  rw[Sem.wp_bind'] at z⊢
  refine Sem.wp_mono _ Γ _ (λO p' s' h'=> ?_) (λO O O x=>x.elim) _ _ z
  rw[Sem.wp_bind'] at h'⊢
  refine Sem.wp_mono _ Γ _ (λok p'' s'' h''=> ?_) (λO O O x=>x.elim) _ _ h'
  cases ok with
  |false=>exact⟨rfl,h''.2⟩
  |true=>
   simp only[if_true,bind_assoc] at h''⊢
   rw[Sem.wp_bind'] at h''⊢
   refine Sem.wp_mono _ Γ _ (λx p3 s3 h3=> ?_) (λO O O x=>x.elim) _ _ h''
   rw[Sem.wp_bind'] at h3⊢
   refine Sem.wp_mono _ Γ _ (λy p4 s4 h4=> ?_) (λO O O x=>x.elim) _ _ h3
   exact⟨rfl,h4.2⟩
noncomputable def eN:Expr→Bool
 | .Tuple .. =>true
 |_=>false
theorem k8{e:Expr}(he:eN e=true):∃a b c,e= .Tuple a b c:=by
 cases e<;>first|exact⟨_,_,_,rfl⟩|exact CZ he
variable {V:Gw}
theorem zo{A:Around}{Q:Unit→Shared→Prop}{E:Value→Shared→Prop}{s s₀:Shared}{W:List Addr}{target:Expr}(ht:eN target=true){Zz zt zk i1 i2 l g T ep eg j:Nat}{x y:Value}{vs ps:List Value}{R F:KL}
  (hE:am V W s₀ (bA Zz zt zk i1 i2 l g (.int T 0) x y j vs ep ps eg++R) s) (hw:Wr W s₀ (bA Zz zt zk i1 i2 l g (.int T 0) x y j vs ep ps eg++R)) (hF:Fz V F (bA Zz zt zk i1 i2 l g (.int T 0) x y j vs ep ps eg++R) s)
  (hQ:∀s',am V W s₀ (bA Zz zt zk i1 i2 l g .none x y j vs ep ps eg++R) s'→Fz V F (bA Zz zt zk i1 i2 l g .none x y j vs ep ps eg++R) s'→Q () s'):
  wpAny (model V.prog V.w) A (letOwnedTupleGo target (.ref Zz) (.ref T)) Q E s:=by
 obtain⟨_,_,_,rfl⟩:=k8 ht
 have he:s.heap.get? Zz=some (rh (.int T 0) zt zk):=hE.at'.get (Zz,rh (.int T 0) zt zk) (.head _)
 unfold letOwnedTupleGo
 refine wpAny_bind (wpAny_load he ?_)
 show wpAny _ A (if(["enumerate","zip","dict_itemiterator","dict_reverseitemiterator","odict_iterator","itertools.zip_longest","itertools.pairwise"].contains "zip"&&
   (#[.int T 0,.bool false,.bool false,.ref zt,.ref zk]:Array Value)[0]?==some (rawInt T))=true then _ else _) Q E s
 refine pY (by simp[rawInt]) ?_
 refine wpAny_bind (wpAny_rule ?_)
 show wpAny _ A (setField (.ref Zz) 0 .none) Q E s
 have E2:=hE.upd hw (j:=0) (p:=(Zz,rh (.int T 0) zt zk)) (f:=Obj.mapFields (·.setIfInBounds 0 .none)) rfl rfl
 refine wpAny_setField he rfl (by simp) (hQ _ E2 λp hp=>⟨?_,(hF p hp).2⟩)
 have hne:p.1≠Zz:=λe=>(hF p hp).2.1 (by rw[e];exact .head _)
 exact(Heap.get?_update_other _ _ (Ne.symm hne)).trans (hF p hp).1
theorem vU{A:Around}{Q:Unit→Shared→Prop}{E:Value→Shared→Prop}{s s₀:Shared}{W:List Addr}{target:Expr}(ht:eN target=true){Zz it l T ep j:Nat}{x:Value}{vs:List Value}{R F:KL}
  (hE:am V W s₀ (eH Zz it l (.int T 0) x j vs ep++R) s) (hw:Wr W s₀ (eH Zz it l (.int T 0) x j vs ep++R)) (hF:Fz V F (eH Zz it l (.int T 0) x j vs ep++R) s)
  (hQ:∀s',am V W s₀ (eH Zz it l .none x j vs ep++R) s'→Fz V F (eH Zz it l .none x j vs ep++R) s'→Q () s'):
  wpAny (model V.prog V.w) A (letOwnedTupleGo target (.ref Zz) (.ref T)) Q E s:=by
 obtain⟨_,_,_,rfl⟩:=k8 ht
 have he:s.heap.get? Zz=some (ge (.int T 0) it j x):=hE.at'.get (Zz,ge (.int T 0) it j x) (.head _)
 unfold letOwnedTupleGo
 refine wpAny_bind (wpAny_load he ?_)
 show wpAny _ A (if(["enumerate","zip","dict_itemiterator","dict_reverseitemiterator","odict_iterator","itertools.zip_longest","itertools.pairwise"].contains "enumerate"&&
   (#[.int T 0,.bool false,.ref it,.int j 0,.none,x]:Array Value)[0]?==some (rawInt T))=true then _ else _) Q E s
 refine pY (by simp[rawInt]) ?_
 refine wpAny_bind (wpAny_rule ?_)
 show wpAny _ A (setField (.ref Zz) 0 .none) Q E s
 have E2:=hE.upd hw (j:=0) (p:=(Zz,ge (.int T 0) it j x)) (f:=Obj.mapFields (·.setIfInBounds 0 .none)) rfl rfl
 refine wpAny_setField he rfl (by simp) (hQ _ E2 λp hp=>⟨?_,(hF p hp).2⟩)
 have hne:p.1≠Zz:=λe=>(hF p hp).2.1 (by rw[e];exact .head _)
 exact(Heap.get?_update_other _ _ (Ne.symm hne)).trans (hF p hp).1
end
set_option tactic.hygienic false
section
theorem Fz.beside{V:Gw}{F K K' R:KL}{s s':Shared}(h:Fz V F K' s')(h0:Fz V F (K++R) s):Fz V F (K'++R) s':=λp hp=>⟨(h p hp).1,λhm=>by
 rw[List.map_append] at hm
 rcases List.mem_append.mp hm with hm|hm
 ·exact(h p hp).2.1 hm
 ·exact(h0 p hp).2.1 (by rw[List.map_append];exact List.mem_append_right _ hm),(h p hp).2.2⟩
theorem Fz.perm{V:Gw}{F K K':KL}{s:Shared}(h:Fz V F K s)(hp:K.Perm K'):Fz V F K' s:=λp hm=>⟨(h p hm).1,λhx=>(h p hm).2.1 ((hp.map _).mem_iff.mpr hx),(h p hm).2.2⟩
theorem gF(K R:KL)(x:Addr×Obj):(K++[x]++R).Perm (K++(R++[x])):=by
 rw[List.append_assoc]
 exact List.Perm.append_left _ List.perm_append_comm
variable {V:Gw} (G:au V)
include G
theorem jN{A:Around}(hA:Bd 1 A){N:Shared→Prop}{Qv:Value→Shared→Prop}{E₁ E:Value→Shared→Prop}{s:Shared}{target:Expr}(ht:eN target=true){Zz zt zk i1 i2 l g ep eg j:Nat}{za zb x y:Value}{vs ps:List Value}{R F:KL}
  (h:At V (bA Zz zt zk i1 i2 l g .none za zb j vs ep ps eg++R) s) (hF:Fz V F (bA Zz zt zk i1 i2 l g .none za zb j vs ep ps eg++R) s) (hx:vs[j]?=some x) (hy:ps[j]?=some y)
  (hQ:∀T s',s.heap.objs.size≤T→am V ((bA Zz zt zk i1 i2 l g .none za zb j vs ep ps eg++R).map (·.1)) s (bA Zz zt zk i1 i2 l g .none x y (j+1) vs ep ps eg++(R++[(T,al [x,y])])) s'→
   Fz V F (bA Zz zt zk i1 i2 l g .none x y (j+1) vs ep ps eg++(R++[(T,al [x,y])])) s'→Qv (.ref T) s'):
  wpAny (model V.prog V.w) A (pyNext (.ref Zz)) (λr s₁=>match r with|none=>N s₁|some v=>wpAny (model V.prog V.w) A (letOwnedTupleGo target (.ref Zz) v) (λO s₂=>Qv v s₂) E₁ s₁) E s:=by
 refine dM (aq G hF.less (ad (Fq V.w.params s.heap.objs.size s.toks Zz zt zk i1 i2 l g za zb j vs ep ps eg x y) (aC V) (aB V)) hA h.less ?_)
 refine ac (aJ (L:=0) hx) rfl rfl rfl λρ1 O O=>ac (aJ (L:=0) hy) rfl rfl rfl λρ2 O hρ=>an rfl λs1 hs1 hf1=> ?_
 have hw:∀p∈bA Zz zt zk i1 i2 l g (.int (ρ2 0) 0) x y (j+1) vs ep ps eg++[(ρ2 0,al [x,y])],p.1∈(bA Zz zt zk i1 i2 l g .none za zb j vs ep ps eg).map (·.1)∨s.heap.objs.size≤p.1:=λp hp=>by
  rcases List.mem_append.mp hp with hp|hp
  ·exact .inl (List.mem_map_of_mem (f:=(·.1)) hp)
  ·rw[List.mem_singleton.mp hp];exact .inr hρ
 have E1:=(am.also hs1 rfl h hw).perm (gF _ _ _)
 have F1:=(hf1.beside hF).perm (gF _ _ _)
 refine zo ht E1 (λp hp=> ?_) F1 λs' h1 h2=>hQ (ρ2 0) s' hρ h1 h2
 rcases List.mem_append.mp hp with hp|hp
 ·exact .inl (by rw[List.map_append];exact List.mem_append_left _ (List.mem_map_of_mem (f:=(·.1)) hp))
 rcases List.mem_append.mp hp with hp|hp
 ·exact .inl (by rw[List.map_append];exact List.mem_append_right _ (List.mem_map_of_mem (f:=(·.1)) hp))
 ·rw[List.mem_singleton.mp hp];exact .inr hρ
theorem jO{A:Around}(hA:Bd 1 A){N:Shared→Prop}{Qv:Value→Shared→Prop}{E:Value→Shared→Prop}{s:Shared}{Zz zt zk i1 i2 l g ep eg j:Nat}{za zb:Value}{vs ps:List Value}{R F:KL}
  (h:At V (bA Zz zt zk i1 i2 l g .none za zb j vs ep ps eg++R) s) (hF:Fz V F (bA Zz zt zk i1 i2 l g .none za zb j vs ep ps eg++R) s) (hx:vs[j]?=none)
  (hQ:∀s',am V ((bA Zz zt zk i1 i2 l g .none za zb j vs ep ps eg++R).map (·.1)) s (fP Zz zt zk i1 i2 l g .none za zb j vs ep ps eg++R) s'→Fz V F (fP Zz zt zk i1 i2 l g .none za zb j vs ep ps eg++R) s'→N s'):
  wpAny (model V.prog V.w) A (pyNext (.ref Zz)) (λr s₁=>match r with|none=>N s₁|some v=>Qv v s₁) E s:=by
 refine dM (aq G hF.less (ad (Ci V.w.params s.heap.objs.size s.toks Zz zt zk i1 i2 l g za zb j vs ep ps eg) (aC V) (aB V)) hA h.less ?_)
 refine ac (bq (L:=0) hx) rfl rfl rfl λρ1 O O=>an rfl λs1 hs1 hf1=> ?_
 exact hQ s1 (am.also hs1 rfl h λp hp=> .inl (List.mem_map_of_mem (f:=(·.1)) hp)) (hf1.beside hF)
theorem iU{A:Around}(hA:Bd 1 A){N:Shared→Prop}{Qv:Value→Shared→Prop}{E₁ E:Value→Shared→Prop}{s:Shared}{target:Expr}(ht:eN target=true){Zz it l ep j:Nat}{old x:Value}{vs:List Value}{R F:KL}
  (h:At V (eH Zz it l .none old j vs ep++R) s) (hF:Fz V F (eH Zz it l .none old j vs ep++R) s) (hx:vs[j]?=some x)
  (hQ:∀T t s',s.heap.objs.size≤T→am V ((eH Zz it l .none old j vs ep++R).map (·.1)) s (eH Zz it l .none x (j+1) vs ep++(R++[(T,al [.int j t,x])])) s'→
   Fz V F (eH Zz it l .none x (j+1) vs ep++(R++[(T,al [.int j t,x])])) s'→Qv (.ref T) s'):
  wpAny (model V.prog V.w) A (pyNext (.ref Zz)) (λr s₁=>match r with|none=>N s₁|some v=>wpAny (model V.prog V.w) A (letOwnedTupleGo target (.ref Zz) v) (λO s₂=>Qv v s₂) E₁ s₁) E s:=by
 refine dM (aq G hF.less (ad (Jg V.w.params s.heap.objs.size s.toks Zz it l old j vs ep x) (aC V) (aB V)) hA h.less ?_)
 refine ac (aJ (L:=0) hx) rfl rfl rfl λρ1 O hρ=>an rfl λs1 hs1 hf1=> ?_
 have hw:∀p∈eH Zz it l (.int (ρ1 0) 0) x (j+1) vs ep++[(ρ1 0,al [.int j (ρ1 1),x])],p.1∈(eH Zz it l .none old j vs ep).map (·.1)∨s.heap.objs.size≤p.1:=λp hp=>by
  rcases List.mem_append.mp hp with hp|hp
  ·exact .inl (List.mem_map_of_mem (f:=(·.1)) hp)
  ·rw[List.mem_singleton.mp hp];exact .inr hρ
 have E1:=(am.also hs1 rfl h hw).perm (gF _ _ _)
 have F1:=(hf1.beside hF).perm (gF _ _ _)
 refine vU ht E1 (λp hp=> ?_) F1 λs' h1 h2=>hQ (ρ1 0) (ρ1 1) s' hρ h1 h2
 rcases List.mem_append.mp hp with hp|hp
 ·exact .inl (by rw[List.map_append];exact List.mem_append_left _ (List.mem_map_of_mem (f:=(·.1)) hp))
 rcases List.mem_append.mp hp with hp|hp
 ·exact .inl (by rw[List.map_append];exact List.mem_append_right _ (List.mem_map_of_mem (f:=(·.1)) hp))
 ·rw[List.mem_singleton.mp hp];exact .inr hρ
theorem iV{A:Around}(hA:Bd 1 A){N:Shared→Prop}{Qv:Value→Shared→Prop}{E:Value→Shared→Prop}{s:Shared}{Zz it l ep j:Nat}{old:Value}{vs:List Value}{R F:KL}
  (h:At V (eH Zz it l .none old j vs ep++R) s) (hF:Fz V F (eH Zz it l .none old j vs ep++R) s) (hx:vs[j]?=none)
  (hQ:∀s',am V ((eH Zz it l .none old j vs ep++R).map (·.1)) s (gP Zz it l .none old j vs ep++R) s'→Fz V F (gP Zz it l .none old j vs ep++R) s'→N s'):
  wpAny (model V.prog V.w) A (pyNext (.ref Zz)) (λr s₁=>match r with|none=>N s₁|some v=>Qv v s₁) E s:=by
 refine dM (aq G hF.less (ad (G3 V.w.params s.heap.objs.size s.toks Zz it l old j vs ep) (aC V) (aB V)) hA h.less ?_)
 refine ac (bq (L:=0) hx) rfl rfl rfl λρ1 O O=>an rfl λs1 hs1 hf1=> ?_
 exact hQ s1 (am.also hs1 rfl h λp hp=> .inl (List.mem_map_of_mem (f:=(·.1)) hp)) (hf1.beside hF)
end
noncomputable def jf(l:Addr)(vs:List Value)(ep:Nat)(js:List Nat):aD:=iw (.call (.builtin "len") ⟨[.ref l],[]⟩) js [(l,aa vs ep)] λρ=> .int vs.length (ρ 2)
theorem gj{V:Gw}{l ep:Nat}{vs:List Value}{js:List Nat}{L:Nat}(hz:aw vs.length):ai V L (jf l vs ep js) (λO=>True):=by
 intro A s hA hs
 have ho:s.heap.get? l=some (aa vs ep):=hs.get (l,aa vs ep) (.head _)
 have hT:s.TypeIs (.ref l) "list":=⟨_,ho,rfl⟩
 have hz':vs.length≤1000:=hz
 have hw:wpAny (model V.prog V.w) A.in1 (Builtin.«len» ⟨[.ref l],[]⟩) (λfin s'=>match fin with| .done f=>bO V (jf l vs ep js) (λO=>True) s (.ok f) s'| .again c'=>c'.quiet=true∧codeAny (model V.prog V.w) A c' (bO V (jf l vs ep js) (λO=>True) s) s') (λe s'=>bO V (jf l vs ep js) (λO=>True) s (.error e) s') s:=by
  unfold Builtin.«len»
  refine wpAny_bind (m:=oneArg "len" _) (wpAny_pure ?_)
  refine wpAny_bind (m:=callSpecial? (.ref l) (Str.ofString "__len__")) (wpAny_callSpecial?_slot (name:=Str.ofString "__len__") hT F.slot_list_len
   (call_meets F.slot_list_len hT F.entry_list_len (F.args_list_len_1 _) (AutoListH.list___len___list_0 l ⟨vs⟩ ep) ⟨ho,?_⟩))
  show wpAny _ _ _ _ _ {s with toks:=s.toks+1}
  refine wpAny_bind (wpAny_holding (wpAny_pure ?_))
  refine wpAny_bind (wpAny_letGo ?_)
  show wpAny _ _ (if((⟨vs⟩:Array Value).size:Int)<0 then _ else _) _ _ _
  rw[if_neg (by lia)]
  show wpAny _ _ (if((⟨vs⟩:Array Value).size:Int)≥2^63 then _ else _) _ _ _
  rw[if_neg (by simp;lia)]
  exact wpAny_bind (wpAny_mkInt (wpAny_pure ⟨a7 _ _ (λO=>s.toks+1),rfl,cM (hs.ends.tok (s.toks+1+1)) (λO=>s.toks+1),trivial⟩))
 exact codeAny_call_builtin (by decide+kernel) entry_len (wpAny_of_eq (a:=()) (by kernel_rfl) hw)
noncomputable def rL(l:List (Int×Nat×Value)):List DictEntry:=l.map λp=>⟨hashInt p.1,.int p.1 p.2.1,p.2.2⟩
noncomputable def p9(es:List DictEntry):Obj:={cls:= .type "dict",data:= .dict ⟨es⟩ es.length}
noncomputable def HN(l:List (Int×Nat×Value)):Obj:=p9 (rL l)
theorem pL{V:Gw}{K:Type} [DecidableEq K](knd:KeyKind V.prog V.w K){D:Nat}{es:List DictEntry}{k:K}{key v:Value}{js:List Nat}{L:Nat}(hk:knd.is k key=true)(he:∀e∈es,∃k,knd.is k e.key=true∧e.hash=knd.hash k)
  (h:(es.find? λe=>knd.is k e.key).map (·.val)=some v):ai V L (iw (.call (.builtin "dict.__getitem__") ⟨[.ref D,key],[]⟩) js [(D,p9 es)] λO=>v) (λO=>True):=by
 refine cV (H:=iw (.call (.builtin "dict.__getitem__") ⟨[.ref D,key],[]⟩) js [(D,p9 es)] λO=>v) rfl F.slot_dict_getitem (λs hs=>a9 hs (.head _) rfl) F.entry_dict_getitem (F.args_dict_getitem_2 _ _) λA s ha hs=> ?_
 have ho:s.heap.get? D=some (p9 es):=hs.get (D,p9 es) (.head _)
 have hm:s.heap.MapOf knd D (λk=>findBy knd.is (⟨es⟩:Array DictEntry) k):=⟨p9 es,⟨es⟩,es.length,ho,⟨rfl,rfl,rfl⟩,rfl,λe hm=>he e (by simpa using hm),λO=>rfl⟩
 have hf:findBy knd.is (⟨es⟩:Array DictEntry) k=some v:=by
  rw[←h]
  unfold findBy
  rw[List.find?_toArray]
 exact meets_dict_getitem knd (k:=k) D hk A _ s ⟨_,v,hm,hf,a7 _ _ (λO=>0),rfl,cM (hs.ends.tok (s.toks+1)) (λO=>0),trivial⟩
noncomputable def w6(D:Nat)(l:List (Int×Nat×Value))(k:Int)(u:Nat)(v:Value)(js:List Nat):aD:=iw (.call (.builtin "dict.__getitem__") ⟨[.ref D,.int k u],[]⟩) js [(D,HN l)] λO=>v
theorem tQ{V:Gw}{D u:Nat}{l:List (Int×Nat×Value)}{k:Int}{v:Value}{js:List Nat}{L:Nat}(h:(l.find? λp=>p.1==k).map (·.2.2)=some v):ai V L (w6 D l k u v js) (λO=>True):=by
 refine pL (intKind V.prog V.w) (k:=k) (es:=rL l) (by simp[intKind,Value.isInt]) (λe he=> ?_) ?_
 ·obtain⟨p,_,rfl⟩:=List.mem_map.mp he
  exact⟨p.1,by simp[intKind,Value.isInt],rfl⟩
 ·rw[←h,rL,List.find?_map,Option.map_map]
  rfl
noncomputable def co(f:Bool→Bool→Bool→iB):List iB:=[f true true true,f true true false,f true false true,f true false false,f false true true,f false true false,f false false true,f false false false]
theorem bb{f g:Bool→Bool→Bool→iB}(h:co f=co g):∀a b c,f a b c=g a b c:=by
 unfold co at h
 injection h with h1 h;injection h with h2 h;injection h with h3 h;injection h with h4 h
 injection h with h5 h;injection h with h6 h;injection h with h7 h;injection h with h8 h
 intro a b c;cases a<;>cases b<;>cases c<;>assumption
noncomputable def nR:Array Nat:=#[116,111,116,97,108]
noncomputable def jG:Array Nat:=#[112,97,103,101]
noncomputable def dW:Array Nat:=#[115,116,101,112]
noncomputable def cK(q:Int):List Nat:=if q=0 then [9] else if q=1 then [32,9] else if q=2 then [32,32,9] else [32]
noncomputable def kL(t:Nat):List Value:=[.str ⟨#[9]⟩ t,.str ⟨#[32,9]⟩ (t+1),.str ⟨#[32,32,9]⟩ (t+2),.str ⟨#[32]⟩ (t+3)]
noncomputable def sV(p:Int×Nat):Value:= .str (aX (cK p.1)) p.2
noncomputable def dI(t:Nat)(q:Int):Value:= .str (aX (cK q)) (t+q.toNat)
noncomputable def ca(z:Int)(p:Int):Int:=Z.modQ (Z.divQ z p) 4
noncomputable def C0(P:Params):Expr:=jF (eQ (aA (aU P 184)) 2) 0
noncomputable def ro(P:Params)(fr cT:Addr):Env:=f6 (aU P 184) 184 fr [(nm nR,cT)]
noncomputable def wq(P:Params)(fr cT C I acc:Addr):Code:= .compLoop (C0 P) 0 (.ref I) (.ref acc) (compEnvC (aT (C0 P)) [] C (ro P fr cT))
noncomputable def AQ(P:Params)(fr cT C I acc:Addr):Code:= .compStart (C0 P) 0 (.ref I) (.ref acc) (compEnvC (aT (C0 P)) [] C (ro P fr cT))
noncomputable def fL(P:Params)(C I a acc:Addr)(T:aF)(io:Obj)(ls:List Value)(ep:Nat)(out:List Value)(eq:Nat):KL:=
 [(C,bn P T),(I,io),(a,aa ls ep),(acc,aa out eq)]
noncomputable def Ej(P:Params)(b1 b2:Bool)(n t fr cT C I acc a:Nat)(first:Bool)(κ:Nat)(v:Value)(j:Nat)(ls:List Value)(ep:Nat)(out:List Value)(eq:Nat)(q u:Nat):bu:=
 ap P b1 b2 (wq P fr cT C I acc) (fL P C I a acc (bk first dW κ v) (aj a j) ls ep out eq) n t
 (.hook [2] 0 (a8 I a j ls ep (sV (q,u)) [1,2]) λρ=> .hook [1,1,1,0,1] 0 (a5 acc out eq (sV (q,u)) [3]) λρ'=> .again [] (wq P fr cT C I acc) [0,1,2,3] (fL P C I a acc [(dW,ao first κ (ρ 1),sV (q,u))] (aj a (j+1)) ls ep (out++[sV (q,u)]) (eq+1)))
noncomputable def Ek(P:Params)(b1 b2:Bool)(n t fr cT C I acc a:Nat)(first:Bool)(κ:Nat)(v:Value)(j:Nat)(ls:List Value)(ep:Nat)(out:List Value)(eq:Nat)(u:Nat):bu:=
 ap P b1 b2 (wq P fr cT C I acc) (fL P C I a acc (bk first dW κ v) (aj a j) ls ep out eq) n t
 (.hook [2] 0 (a8 I a j ls ep (sV (3,u)) [1,2]) λρ=> .again [1,1,1,0] (wq P fr cT C I acc) [0,1,2,3] (fL P C I a acc [(dW,ao first κ (ρ 1),sV (3,u))] (aj a (j+1)) ls ep out eq))
theorem Fw(P b1 n t fr cT C I acc a κ v j ls ep out eq u):Qk 200 λr=>([0,1,2]:List (Nat)).map λp=>ay λfirst b2=>r (Ej P b1 b2 n t fr cT C I acc a first κ v j ls ep out eq p u):=by unfold Qk;kernel_rfl!
theorem Fx(P b1 n t fr cT C I acc a κ v j ls ep out eq u):Qk 200 λr=>ay λfirst b2=>r (Ek P b1 b2 n t fr cT C I acc a first κ v j ls ep out eq u):=by unfold Qk;kernel_rfl!
theorem Fy(P:Params)(n t fr cT C I acc a:Nat)(T:aF)(j:Nat)(ls:List Value)(ep:Nat)(out:List Value)(eq:Nat):Qk 200 λr=>ay λb1 b2=>r ( ap P b1 b2 (wq P fr cT C I acc) (fL P C I a acc T (aj a j) ls ep out eq) n t
 (.hook [2] 0 (cn I a j ls ep [1,2]) λρ=> .fin [6] (.ok .next) [0,1,2,3] (fL P C I a acc T (ba j) ls ep out eq))):=by unfold Qk;kernel_rfl!
theorem FA(P:Params)(n t fr cT C I acc a:Nat)(ls:List Value)(ep:Nat):Qk 200 λr=>ay λb1 b2=>r ( ap P b1 b2 (AQ P fr cT C I acc) (fL P C I a acc [] (aj a 0) ls ep [] 0) n t
 (.again (match b1 with|true=>[]|false=>[2,2,0,2,2]) (wq P fr cT C I acc) [0,1,2,3] (fL P C I a acc [] (aj a 0) ls ep [] 0))):=by unfold Qk;kernel_rfl!
noncomputable def CN(P:Params)(fr cT C I acc a:Nat)(ls:List Value)(ep:Nat)(out:List Value)(T:br→aF)(js:List Nat):aD:=
 ⟨AQ P fr cT C I acc,js,fL P C I a acc [] (aj a 0) ls ep [] 0,λO=> .ok .next,λρ=>(fL P C I a acc (T ρ) (ba ls.length) ls ep out out.length).map (·.2),λO=>[]⟩
noncomputable def rR(l:Nat)(ws:List Value)(ep:Nat)(t:Nat)(z:List Nat)(js:List Nat):aD:=iw (.call (.builtin "str.join") ⟨[.str ⟨#[]⟩ t,.ref l],[]⟩) js [(l,aa ws ep)] λρ=> .str (aX z) (ρ 2)
noncomputable def rx:Array Nat:=#[114,111,119,115]
noncomputable def xZ:Array Nat:=#[115,116,101,112,115]
noncomputable def nV:Array Nat:=#[100,101,112,116,104]
noncomputable def Bv:Array Nat:=#[107,105,110,100]
noncomputable def Br:Array Nat:=#[116,97,98,115]
noncomputable def D0:Array Nat:=#[99,117,116]
noncomputable def wB:Array Nat:=#[108,101,97,100]
noncomputable def iR(sts:List Stmt)(k:Nat):Expr:=match sts[k]? with
 |some (.For target _ _ _ _)=>target
 |_=> .Constant .none 0 ⟨0,0,0,0⟩
noncomputable def CO(P:Params):Expr:=iR (aA (aU P 184)) 2
noncomputable def DI(P:Params):List Stmt:=eQ (aA (aU P 184)) 2
noncomputable def Ij(P:Params)(fr cT Zz:Addr):Code:= .forLoop (CO P) (.ref Zz) (DI P) [] (ro P fr cT)
noncomputable def nr(P:Params)(fr l g rw st:Addr)(kk:Nat→Nat)(T:aF)(rs:List Value)(er:Nat)(ss:List Value)(es:Nat):KL:=
 [(fr,cY P ([(bU,kk 0,.ref l),(jG,kk 1,.ref g),(rx,kk 2,.ref rw),(xZ,kk 3,.ref st)]++T)),(rw,aa rs er),(st,aa ss es)]
noncomputable def T6(a b c d e f:Nat)(x y z w u v:Value):aF:=[(ak,a,x),(nV,b,y),(Bv,c,z),(Br,d,w),(D0,e,u),(wB,f,v)]
noncomputable def uw(first:Bool)(a b c d e f:Nat)(x y z w u v:Value):aF:=match first with
 |true=>[]
 |false=>T6 a b c d e f x y z w u v
noncomputable def hG(x:Int)(out:List Value):Int:=Z.modQ (Z.divQ x 18) (out.length+1)
noncomputable def Jt(t:Nat):List (Int×Nat×Value):=[(7,t,.str (aX [40]) (t+1)),(9,t+2,.str (aX [91]) (t+3)),(25,t+4,.str (aX [123]) (t+5))]
noncomputable def Es(P:Params)(b1 b2:Bool)(n t fr cT l g rw st:Nat)(kk:Nat→Nat)(first:Bool)(ka kb kc kd ke kf:Nat)(va vb vc vd ve vf:Value)(rs:List Value)(er:Nat)(ss:List Value)(es:Nat)
  (x:Int) (u Tt pt:Nat) (d:Int) (du:Nat) (kd' ch ko:Nat) (ku:Nat) (ws out X1 X2:List Value) (z1 z2:List Nat) (nz:Bool) (w:Value):bu:=
 bf P b1 b2 (hV (CO P) (ro P fr cT) (.ref Tt) (DI P)) (nr P fr l g rw st kk (uw first ka kb kc kd ke kf va vb vc vd ve vf) rs er ss es++[(Tt,al [.int x u,.ref pt])]++[(pt,al [.int d du,.int kd' ku])]) n t
 (.hook [4,4,4,0,4,6,6,0,6,6,6,4,6,6,6,0,6,6,6,4,6,6,6,0,6,6,6,4,6,6,8,1,1,5,5,5,0,5,9,9,0,9,9,9,5,9,9,9,0,9,9,9,5,9,9,9,0,9,9,9,5,9,9,11,1,1,1,1,1,1,3,3,3] 7 (d6 st (n+6) ss es .none (.int d du) ws [2,11]) λρ3=> .hook [13,13,0,13,14] 3 (CN P fr cT (ρ3 0+2) (ρ3 0) (ρ3 0+1) (ρ3 2) ws 0 out (λρ=>match nz with|true=>[(dW,ρ 2,w)]|false=>[]) [15,13,12,14]) λρ4=>
  .hook (match nz with|true=>[1,1,16,16,16,1,0,0,0,1]|false=>[1,1,16,1,0,0,0,1]) 0 (jf (ρ3 0+1) out out.length [14]) λρ5=>
  .hook [0,0,1,1,1,1,15,15,15] 1 (d6 (ρ3 0+1) (ρ5 0) out out.length (.int (hG x out) (ρ5 1+2)) .none X1 [14,16]) λρ7=> .hook [1,1,15,15,15] 1 (d6 (ρ3 0+1) (ρ7 0) out out.length .none (.int (hG x out) (ρ5 1+2)) X2 [14,18]) λρ8=> .hook [18,20,18] 0 (jH (ρ7 2) (ρ8 2) X1 X2 0 0 [17,19]) λρ9=>
  .hook [] 0 (rR (ρ9 2) (X1++X2) 0 (ρ5 1+4) z1 [20]) λρ10=> .hook [1,0,0,1] 0 (jf (ρ3 0+1) out out.length [14]) λρ11=>
  .hook [0,0] 0 {aN (hY "str.__mul__" (.str ⟨#[32]⟩ (ρ10 1)) (.int (d-out.length) (ρ11 1))) (λρ=> .str (aX z2) (ρ 2)) with js:=[]} λρ12=>
  .hook [] 0 {aN (hY "str.__add__" (.str (aX z1) (ρ10 2)) (.str (aX z2) (ρ12 2))) (λρ=> .str (aX (z1++z2)) (ρ 2)) with js:=[]} λρ13=>
  .hook [1,1,1,2,2,2,2,1,0,22,22,22,22,0,22,22,22,22,0,22,22,22,22,1,22,22,22] 1 (w6 (ρ13 0) (Jt (ρ13 1+1)) kd' ku (.str (aX [ch]) (ρ13 1+ko)) [21]) λρd=>
  .hook [0] 0 {aN (hY "str.__add__" (.str (aX (z1++z2)) (ρ13 2)) (.str (aX [ch]) (ρ13 1+ko))) (λρ=> .str (aX (z1++z2++[ch])) (ρ 2)) with js:=[]} λρ14=>
  .hook [] 0 (a5 rw rs er (.str (aX (z1++z2++[ch])) (ρ14 2)) [1]) λρ15=>
  .fin [] (.ok .next) [0,1,2,4] ((nr P fr l g rw st kk (T6 (ao first ka t) (ao first kb (t+1)) (ao first kc (t+2)) (ao first kd (ρ4 1)) (ao first ke (ρ5 1+3)) (ao first kf (ρ13 1)) (.int x u) (.int d du) (.int kd' ku) (.ref (ρ3 0+1)) (.int (hG x out) (ρ5 1+2)) (.str (aX (z1++z2)) (ρ13 2))) (rs++[.str (aX (z1++z2++[ch])) (ρ14 2)]) (er+1) ss es)++[(pt,al [.int d du,.int kd' ku])]))
theorem FQ(P b1 n t fr cT l g rw st kk ka kb kc kd ke kf va vb vc vd ve vf rs er ss es x u Tt pt d du ku ws out X1 X2 z1 z2 w):Qk 600 λr=>([(7,40,2),(9,91,4),(25,123,6)]:List (Nat×Nat×Nat)).map λp=>co λnz first b2=>r (Es P b1 b2 n t fr cT l g rw st kk first ka kb kc kd ke kf va vb vc vd ve vf rs er ss es x u Tt pt d du p.1 p.2.1 p.2.2 ku ws out X1 X2 z1 z2 nz w):=by unfold Qk;kernel_rfl!
section
abbrev fw:=List (Nat×Nat)
noncomputable def bE(ls:fw):List Value:=ls.map λp=>sV (p.1,p.2)
noncomputable def gJ(p:Nat×Nat):Bool:= !Nat.beq p.1 3
noncomputable def Df(nz:Bool)(w:Value)(ρ:br):aF:=match nz with
 |true=>[(dW,ρ 2,w)]
 |false=>[]
noncomputable def HV(nz:Bool)(w:Value)(ls:List Value):Prop:=match nz with
 |true=>ls.getLast?=some w
 |false=>ls=[]
variable {V:Gw} (G:au V)
include G
theorem uR{fr cT C I acc a ep:Nat}{ls:fw}:∀(rest pre:fw) (first:Bool) (κ:Nat) (v:Value) (out:List Value) (eq:Nat) (A:Around) (s:Shared),ls=pre++rest→(∀p∈rest,p.1<4)→aw (out.length+rest.length)→Bd 1 A→
  At V (fL V.w.params C I a acc (bk first dW κ v) (aj a pre.length) (bE ls) ep out eq) s→
  codeAny (model V.prog V.w) A (wq V.w.params fr cT C I acc) (λr s'=>r= .ok .next∧∃κ',am V [C,I,a,acc] s (fL V.w.params C I a acc (cf (bk first dW κ v) dW (bE rest) κ') (ba ls.length) (bE ls) ep (out++bE (rest.filter gJ)) (eq+(bE (rest.filter gJ)).length)) s') s:=by
 intro rest
 induction rest with
 |nil=>
  intro pre first κ v out eq A s hv hq hsm hA hs1
  rw[List.append_nil] at hv
  subst hv
  refine bc G (ad (Fy V.w.params s.heap.objs.size s.toks fr cT C I acc a (bk first dW κ v) ls.length (bE ls) ep out eq) (aC V) (aB V)) hA hs1 ?_
  refine ae (bq (L:=0) (by simp[bE])) rfl rfl rfl λρ O O=>aO rfl λs' hs'=>⟨rfl,0,?_⟩
  rw[show bE ([].filter gJ)=[] from rfl,List.append_nil]
  exact hs'
 |cons p rest ih=>
  intro pre first κ v out eq A s hv hq hsm hA hs1
  obtain⟨q,u⟩:=p
  have hget:(bE ls)[pre.length]?=some (sV (q,u)):=by rw[hv];simp[bE]
  have hv':ls=(pre++[(q,u)])++rest:=by rw[hv];simp
  have hlen:(pre++[(q,u)]).length=pre.length+1:=by simp
  have hq4:q<4:=hq (q,u) (.head _)
  have fin:∀(o1:List Value) (e1:Nat),o1=out++bE ([(q,u)].filter gJ)→e1=eq+(bE ([(q,u)].filter gJ)).length→∀κ1 s',am V [C,I,a,acc] s (fL V.w.params C I a acc [(dW,κ1,sV (q,u))] (aj a (pre.length+1)) (bE ls) ep o1 e1) s'→
    codeAny (model V.prog V.w) A (wq V.w.params fr cT C I acc) (λr s'=>r= .ok .next∧∃κ',am V [C,I,a,acc] s (fL V.w.params C I a acc (cf (bk first dW κ v) dW (bE ((q,u)::rest)) κ') (ba ls.length) (bE ls) ep (out++bE (((q,u)::rest).filter gJ)) (eq+(bE (((q,u)::rest).filter gJ)).length)) s') s':=λo1 e1 ho he κ1 s' hE=>by
   subst ho he
   rw[←hlen] at hE
   have hsm':aw ((out++bE ([(q,u)].filter gJ)).length+rest.length):=by
    have h1:([(q,u)].filter gJ).length≤1:=List.length_filter_le _ _
    have h2:out.length+(rest.length+1)≤1000:=hsm
    show _≤1000
    rw[List.length_append,bE,List.length_map];lia
   refine codeAny_mono (ih (pre++[(q,u)]) false κ1 (sV (q,u)) (out++bE ([(q,u)].filter gJ)) (eq+(bE ([(q,u)].filter gJ)).length) A s' hv' (λp hp=>hq p (.tail _ hp)) hsm' hA hE.at') ?_
   rintro r s'' ⟨hr,κ',hE'⟩
   refine⟨hr,rj (bE rest) κ1 κ',?_⟩
   have:=hE.trans hE' (λb hb=> .inl hb)
   have e0:bE ((q,u)::rest)=sV (q,u)::bE rest:=rfl
   have e3:((q,u)::rest).filter gJ=[(q,u)].filter gJ++rest.filter gJ:=by rw[←List.filter_append];rfl
   rw[e0,gq]
   have e1:out++bE ([(q,u)].filter gJ)++bE (rest.filter gJ)=out++bE (((q,u)::rest).filter gJ):=by
    rw[List.append_assoc,e3];simp[bE]
   have e2:eq+(bE ([(q,u)].filter gJ)).length+(bE (rest.filter gJ)).length=eq+(bE (((q,u)::rest).filter gJ)).length:=by
    rw[e3];simp[bE];lia
   rw[e1,e2] at this
   exact this
  by_cases hb:q=3
  ·subst hb
   refine bc G (ad (Fx V.w.params (aC V) s.heap.objs.size s.toks fr cT C I acc a κ v pre.length (bE ls) ep out eq u) first (aB V)) hA hs1 ?_
   refine ae (aJ (L:=0) hget) rfl rfl rfl λρ O O=>aE rfl λs' hs'=>⟨rfl,?_⟩
   exact fin _ _ (by simp[gJ,bE]) (by simp[gJ,bE]) _ s' hs'
  ·have hm:q∈[0,1,2]:=by
    have:q=0∨q=1∨q=2:=by lia
    rcases this with rfl|rfl|rfl<;>decide
   have hi:gJ (q,u)=true:=by
    have:q=0∨q=1∨q=2:=by lia
    rcases this with rfl|rfl|rfl<;>rfl
   have hout:aw out.length:=Nat.le_trans (Nat.le_add_right _ _) hsm
   refine bc G (ad (List.map_inj_left.mp (Fw V.w.params (aC V) s.heap.objs.size s.toks fr cT C I acc a κ v pre.length (bE ls) ep out eq u) q hm) first (aB V)) hA hs1 ?_
   refine ae (aJ (L:=0) hget) rfl rfl rfl λρ O O=>ae (aM (L:=0) hout) rfl rfl rfl λρ3 O O=>aE rfl λs' hs'=>⟨rfl,?_⟩
   exact fin _ _ (by simp[hi,bE]) (by simp[hi,bE]) _ s' hs'
theorem B2{fr cT C I acc a ep:Nat}{ls:fw}(hq:∀p∈ls,p.1<4)(hsm:aw ls.length){nz:Bool}{w:Value}(hw:HV nz w (bE ls)){js:List Nat}:
  ai V 2 (CN V.w.params fr cT C I acc a (bE ls) ep (bE (ls.filter gJ)) (Df nz w) js) (λO=>True):=by
 intro A s hA hs1
 refine bc G (ad (FA V.w.params s.heap.objs.size s.toks fr cT C I acc a (bE ls) ep) (aC V) (aB V)) hA hs1 (aE rfl λs' hs'=>⟨rfl,?_⟩)
 refine codeAny_mono (uR G ls [] true 0 .none [] 0 A s' rfl hq (by simpa using hsm) (hA.weak (by decide)) hs'.at') ?_
 rintro r s'' ⟨hr,κ',hE⟩
 have hE':=hs'.trans hE (λb hb=> .inl hb)
 rw[Nat.zero_add,List.nil_append] at hE'
 have hl:ba ls.length=ba (bE ls).length:=by simp[bE]
 rw[hl] at hE'
 cases nz with
 |true=>
  have hw:(bE ls).getLast?=some w:=hw
  have e:cf (bk true dW 0 .none) dW (bE ls) κ'=[(dW,κ',w)]:=by unfold cf;rw[hw]
  rw[e] at hE'
  exact⟨a7 _ _ (λO=>κ'),hr,aW (H:=CN V.w.params fr cT C I acc a (bE ls) ep (bE (ls.filter gJ)) (Df true w) js) hE' (λO=>κ') rfl rfl (λO hp=>nomatch hp),trivial⟩
 |false=>
  have hw:bE ls=[]:=hw
  have hw:ls=[]:=by simpa[bE] using hw
  subst hw
  exact⟨a7 _ _ (λO=>κ'),hr,aW (H:=CN V.w.params fr cT C I acc a (bE []) ep (bE ([].filter gJ)) (Df false w) js) hE' (λO=>κ') rfl rfl (λO hp=>nomatch hp),trivial⟩
end
theorem am.mono{V:Gw}{W W':List Addr}{s s':Shared}{K:KL}(h:am V W s K s')(hw:∀a∈W,a∈W'):am V W' s K s':=⟨h.at',λb o e hb=>h.pres b o e λhm=>hb (hw b hm),h.grow⟩
theorem At.perm{V:Gw}{s:Shared}{K K':KL}(h:At V K s)(hp:K.Perm K'):At V K' s:=
 ⟨h.base,λp hm=>h.get p (hp.mem_iff.mpr hm),(hp.map _).nodup_iff.mp h.nodup,λp hm=>h.ok p (hp.mem_iff.mpr hm)⟩
theorem gm{V:Gw}{K K' R Tm F:KL}{s s':Shared}(h:At V (K++R) s)(hF:Fz V F (K++R) s)(hT:∀p∈Tm,p∈F)(hn:(Tm.map (·.1)).Nodup)
  (hE:am V ((K++Tm).map (·.1)) s (K'++Tm) s') (hw:∀p∈K',p.1∈K.map (·.1)∨s.heap.objs.size≤p.1):am V ((K++R).map (·.1)) s (K'++R) s'∧Fz V F (K'++R) s':=by
 have h0:=h.less.thaw hF.less hT hn
 have E1:=hE.freeze h0
 refine⟨am.also E1 rfl h hw,λp hp=> ?_⟩
 obtain⟨h1,h2,h3⟩:=hF p hp
 refine⟨E1.pres _ _ h1 λhm=>h2 (by rw[List.map_append];exact List.mem_append_left _ hm),λhm=> ?_,h3⟩
 rw[List.map_append] at hm
 rcases List.mem_append.mp hm with hm|hm
 ·obtain⟨q,hq,e⟩:=List.mem_map.mp hm
  rcases hw q hq with h4|h4
  ·exact h2 (by rw[List.map_append,←e];exact List.mem_append_left _ h4)
  ·have hlt:=Heap.lt_size h1
   have e':q.1=p.1:=e
   exact absurd hlt (Nat.not_lt.mpr (e'▸h4))
 ·exact h2 (by rw[List.map_append];exact List.mem_append_right _ hm)
theorem qC{V:Gw}{l ep t:Nat}{ws:List Value}{z:List Nat}{js:List Nat}{L:Nat}(vs:List (List Nat×Nat))(hw:ws=vs.map λp=> .str (aX p.1) p.2)(hz:z=vs.flatMap (·.1))(h:aw z.length):ai V L (rR l ws ep t z js) (λO=>True):=by
 subst hw hz
 exact tJ h
theorem jL{V:Gw}{a b z:Int}{u v:Nat}{L:Nat}(h0:b≥0)(h1: ¬(b==0)=true)(h2: ¬(a==0||a==1)=true)(h3: ¬(a== -1)=true)(h4: ¬Builtin.Int.intTooBig (((Builtin.Int.intBits a:Nat):Int)*b)=true)(hz:a^b.toNat=z):
  ai V L (aN (aY "int.__pow__" a b u v) λρ=> .int z (ρ 2)) (λO=>True):=by
 subst hz
 exact n7 F.slot_int_pow (λs=>rfl) F.entry_int_pow (F.args_int_pow_2 _ _) (AutoIntG2.int___pow___int_int_4 a u b v h0 h1 h2 h3 h4)
structure kJ where
 pt:Nat
 d:Nat
 k:Nat
 du:Nat
 ku:Nat
noncomputable def kJ.o(e:kJ):Obj:=al [.int e.d e.du,.int e.k e.ku]
noncomputable def jk(pg:List kJ):KL:=pg.map λe=>(e.pt,e.o)
abbrev mh:=(Int×Nat)×kJ
noncomputable def et(L:List mh):List Value:=L.map λe=> .int e.1.1 e.1.2
noncomputable def fD(L:List mh):List Value:=L.map λe=> .ref e.2.pt
noncomputable def uh(k:Nat):Nat:=if k=7 then 40 else if k=9 then 91 else 123
noncomputable def Io(k:Nat):Nat:=if k=7 then 2 else if k=9 then 4 else 6
noncomputable def az(qs:fw)(d:Nat):fw:=(qs.take d).filter gJ
noncomputable def jE(x:Int)(n:Nat):Nat:=((x.fdiv 18).fmod (n+1)).toNat
noncomputable def c8(qs:fw)(x:Int)(d:Nat):List Nat:=
 ((az qs d).drop (jE x (az qs d).length)++(az qs d).take (jE x (az qs d).length)).flatMap (λp=>cK p.1)++List.replicate (d-(az qs d).length) 32
noncomputable def fV(qs:fw)(e:mh):List Nat:=c8 qs e.1.1 e.2.d++[uh e.2.k]
noncomputable def cI(rt:List (List Nat×Nat)):List Value:=rt.map λp=> .str (aX p.1) p.2
theorem lS(x:Int)(out:List Value):hG x out=(jE x out.length:Int):=by
 unfold hG jE
 have e:Z.modQ (Z.divQ x 18) ((out.length:Int)+1)=(x.fdiv 18).fmod ((out.length:Int)+1):=by rw[Z.modQ_eq,Z.divQ_eq]
 rw[e,Int.toNat_of_nonneg]
 have h:(0:Int)<(out.length:Int)+1:=by lia
 exact Int.fmod_nonneg_of_pos _ h
theorem ew(qs:fw)(d:Nat):(az qs d).length≤d∧(az qs d).length≤qs.length:=by
 have h1:(az qs d).length≤(qs.take d).length:=List.length_filter_le _ _
 rw[List.length_take] at h1
 lia
theorem tT(l:fw):(l.flatMap (λp=>cK p.1)).length≤3*l.length:=by
 induction l with
 |nil=>simp
 |cons p l ih=>
  rw[List.flatMap_cons,List.length_append,List.length_cons]
  have:(cK p.1).length≤3:=by unfold cK;split;decide;split;decide;split<;>decide
  lia
theorem mQ(l:fw):bE l=(l.map λp=>(cK p.1,p.2)).map λp=> .str (aX p.1) p.2:=by simp[bE,sV]
theorem uS(P):eN (CO P)=true:=by kernel_rfl!
theorem mO{vs:List Value}(d:Nat):slicePick ⟨vs⟩ none (some (d:Int)) none=⟨vs.take d⟩:=slicePick_upto' ⟨vs⟩ d
theorem u3{V:Gw}(G:au V){fr cT l g rw st er es Tt pt d k du ku u:Nat}{kk:Nat→Nat}{qs:fw}(hqs:qs.length≤5)(hq4:∀p∈qs,p.1<4){rt:List (List Nat×Nat)}(hrt:rt.length≤100){x:Int}(hk:k=7∨k=9∨k=25)(hd:d≤5)
  {first:Bool} {ka kb kc kd ke kf:Nat} {va vb vc vd ve vf:Value} {A:Around} (hA:Bd 3 A) {s:Shared}
  (hs:At V (nr V.w.params fr l g rw st kk (uw first ka kb kc kd ke kf va vb vc vd ve vf) (cI rt) er (bE qs) es++[(Tt,al [.int x u,.ref pt])]++[(pt,al [.int d du,.int k ku])]) s):
  wpAny (model V.prog V.w) A (hV (CO V.w.params) (ro V.w.params fr cT) (.ref Tt) (DI V.w.params)) (λf s'=>f= .done .next∧Iq λa b c d' e f' acc tc tl t=>am V ((nr V.w.params fr l g rw st kk (uw first ka kb kc kd ke kf va vb vc vd ve vf) (cI rt) er (bE qs) es++[(Tt,al [.int x u,.ref pt])]++[(pt,al [.int d du,.int k ku])]).map (·.1)) s
   (nr V.w.params fr l g rw st kk (T6 a b c d' e f' (.int x u) (.int d du) (.int k ku) (.ref acc) (.int (hG x (bE (az qs d))) tc) (.str (aX (c8 qs x d)) tl)) (cI (rt++[(fV qs ((x,u),⟨pt,d,k,du,ku⟩),t)])) (er+1) (bE qs) es++[(pt,al [.int d du,.int k ku])]) s') No s:=by
 have ht1:=ew qs d
 have hm:(k,uh k,Io k)∈[(7,40,2),(9,91,4),(25,123,6)]:=by rcases hk with rfl|rfl|rfl<;>decide
 let out:=bE (az qs d)
 have hout:out.length=(az qs d).length:=by simp[out,bE]
 let c:=jE x (az qs d).length
 have hcut:hG x out=(c:Int):=by rw[lS,hout]
 let z1:List Nat:=((az qs d).drop c++(az qs d).take c).flatMap (λp=>cK p.1)
 let z2:List Nat:=List.replicate (d-(az qs d).length) 32
 have hz1:z1.length≤30:=by
  have h1:z1.length≤3*((az qs d).drop c++(az qs d).take c).length:=tT ((az qs d).drop c++(az qs d).take c)
  have h2:((az qs d).drop c++(az qs d).take c).length≤10:=by rw[Id];lia
  lia
 have hz2:z2.length≤5:=by simp only[z2,List.length_replicate];lia
 obtain⟨nz,w,hw⟩:∃(nz:Bool) (w:Value),HV nz w (bE (qs.take d)):=by
  cases hl:(bE (qs.take d)).getLast? with
  |some w=>exact⟨true,w,hl⟩
  |none=>exact⟨false,.none,List.getLast?_eq_none_iff.mp hl⟩
 refine aq G Fz.nil (bb (List.map_inj_left.mp (FQ V.w.params (aC V) s.heap.objs.size s.toks fr cT l g rw st kk ka kb kc kd ke kf va vb vc vd ve vf (cI rt) er (bE qs) es x u Tt pt d du ku (bE (qs.take d)) out (bE ((az qs d).drop c)) (bE ((az qs d).take c)) z1 z2 w) (k,uh k,Io k) hm) nz first (aB V)) hA hs ?_
 have hsm:aw (bE qs).length:=by simp[bE,aw];lia
 have hso:aw out.length:=by show out.length≤1000;lia
 refine ae (fu (L:=0) .none (.int d du) (by rw[mO];simp[bE,List.map_take]) hsm) rfl rfl rfl λρ3 O O=> ?_
 refine ae (l:=2) (B2 G (ls:=qs.take d) (λp hp=>hq4 p (List.mem_of_mem_take hp)) (by show _≤1000;rw[List.length_take];lia) hw) rfl rfl rfl λρ4 O O=> ?_
 refine ae (gj (L:=0) hso) rfl rfl rfl λρ5 O O=> ?_
 refine ae (fu (L:=0) (.int (hG x out) _) .none (by rw[hcut];exact(slicePick_from' ⟨out⟩ c).trans (by simp[out,bE,List.map_drop])) hso) rfl rfl rfl λρ7 O O=> ?_
 refine ae (fu (L:=0) .none (.int (hG x out) _) (by rw[hcut];exact(slicePick_upto' ⟨out⟩ c).trans (by simp[out,bE,List.map_take])) hso) rfl rfl rfl λρ8 O O=> ?_
 refine ae (jy (L:=0) (by show _≤1000;simp only[bE,List.length_map,List.length_drop,List.length_take];lia)) rfl rfl rfl λρ9 O O=> ?_
 refine ae (qC (L:=0) (((az qs d).drop c++(az qs d).take c).map λp=>(cK p.1,p.2)) (by rw[mQ,mQ,List.map_append,List.map_append]) (by rw[List.flatMap_map]) (by show _≤1000;lia)) rfl rfl rfl λρ10 O O=> ?_
 refine ae (gj (L:=0) hso) rfl rfl rfl λρ11 O O=> ?_
 have hn:(d:Int)-out.length=((d-(az qs d).length:Nat):Int):=by rw[hout];lia
 have hmul:∀t u,ai V 0 (aN (hY "str.__mul__" (.str ⟨#[32]⟩ t) (.int (d-out.length) u)) λρ=> .str (aX z2) (ρ 2)) (λO=>True):=λt u=>by
  rw[hn]
  have:=vI (V:=V) (c:=32) (t:=t) (u:=u) (n:=((d-(az qs d).length:Nat):Int)) (L:=0) (by lia) (by lia)
  rwa [Int.toNat_natCast] at this
 refine ae (hmul _ _) rfl rfl rfl λρ12 O O=> ?_
 refine ae (pF (L:=0) (by show _≤1000;lia)) rfl rfl rfl λρ13 O O=> ?_
 refine ae (tQ (L:=0) (by rcases hk with rfl|rfl|rfl<;>rfl)) rfl rfl rfl λρd O O=> ?_
 refine ae (pF (L:=0) (by show _≤1000;rw[List.length_append];simp only[List.length_singleton];lia)) rfl rfl rfl λρ14 O O=> ?_
 refine ae (aM (L:=0) (by show _≤1000;simp[cI];lia)) rfl rfl rfl λρ15 O O=>aO rfl λs' hs'=>⟨rfl,?_⟩
 have er':cI rt++[Value.str (aX (z1++z2++[uh k])) (ρ14 2)]=cI (rt++[(fV qs ((x,u),⟨pt,d,k,du,ku⟩),ρ14 2)]):=by simp[cI,fV,c8,z1,z2,c]
 rw[er'] at hs'
 exact⟨_,_,_,_,_,_,_,_,_,_,hs'⟩
noncomputable def gd(qs:fw)(e:mh)(κ:Nat→Nat):aF:=T6 (κ 0) (κ 1) (κ 2) (κ 3) (κ 4) (κ 5) (.int e.1.1 e.1.2) (.int e.2.d e.2.du) (.int e.2.k e.2.ku) (.ref (κ 6)) (.int (hG e.1.1 (bE (az qs e.2.d))) (κ 7)) (.str (aX (c8 qs e.1.1 e.2.d)) (κ 8))
noncomputable def D8(a b c d e f g h i:Nat):Nat→Nat
 |0=>a
 |1=>b
 |2=>c
 |3=>d
 |4=>e
 |5=>f
 |6=>g
 |7=>h
 |_=>i
theorem u4{V:Gw}(G:au V){fr cT Zz zt zk i1 i2 l g rw st ep eg es:Nat}{kk:Nat→Nat}{qs:fw}(hqs:qs.length≤5)(hq4:∀p∈qs,p.1<4){L:List mh}{F:KL}(hFp:∀e∈L,(e.2.pt,e.2.o)∈F):
  ∀(rest pre:List mh) (rt:List (List Nat×Nat)) (er:Nat) (first:Bool) (ka kb kc kd ke kf:Nat) (va vb vc vd ve vf za zb:Value) (A:Around) (s:Shared),L=pre++rest→(∀e∈rest,(e.2.k=7∨e.2.k=9∨e.2.k=25)∧e.2.d≤5)→rt.length+rest.length≤100→Bd 3 A→
   At V (bA Zz zt zk i1 i2 l g .none za zb pre.length (et L) ep (fD L) eg++nr V.w.params fr l g rw st kk (uw first ka kb kc kd ke kf va vb vc vd ve vf) (cI rt) er (bE qs) es) s→
   Fz V F (bA Zz zt zk i1 i2 l g .none za zb pre.length (et L) ep (fD L) eg++nr V.w.params fr l g rw st kk (uw first ka kb kc kd ke kf va vb vc vd ve vf) (cI rt) er (bE qs) es) s→
   codeAny (model V.prog V.w) A (Ij V.w.params fr cT Zz) (λr s'=>r= .ok .next∧E4 λrt' T' za' zb'=>A3 (rt'.map (·.1)=rt.map (·.1)++rest.map (fV qs)) ((rest=[]∧T'=uw first ka kb kc kd ke kf va vb vc vd ve vf∧za'=za∧zb'=zb)∨∃e κ,rest.getLast?=some e∧T'=gd qs e κ∧za'= .int e.1.1 e.1.2∧zb'= .ref e.2.pt) 
    (am V ([Zz,zt,zk,i1,i2,l,g]++[fr,rw,st]) s (fP Zz zt zk i1 i2 l g .none za' zb' L.length (et L) ep (fD L) eg++nr V.w.params fr l g rw st kk T' (cI rt') (er+rest.length) (bE qs) es) s')) s:=by
 intro rest
 induction rest with
 |nil=>
  intro pre rt er first ka kb kc kd ke kf va vb vc vd ve vf za zb A s hv hok hsm hA hs hF
  rw[List.append_nil] at hv
  subst hv
  refine dL (jO G (hA.weak (by decide)) hs hF (by simp[et]) λs' hE O=>⟨rfl,rt,_,za,zb,by simp,.inl ⟨rfl,rfl,rfl,rfl⟩,hE⟩)
 |cons e rest ih=>
  intro pre rt er first ka kb kc kd ke kf va vb vc vd ve vf za zb A s hv hok hsm hA hs hF
  obtain⟨⟨x,u⟩,⟨pt,d,k,du,ku⟩⟩:=e
  have hget1:(et L)[pre.length]?=some (.int x u):=by rw[hv];simp[et]
  have hget2:(fD L)[pre.length]?=some (.ref pt):=by rw[hv];simp[fD]
  have hmem:(((x,u),⟨pt,d,k,du,ku⟩):mh)∈L:=by rw[hv];simp
  have hv':L=(pre++[((x,u),⟨pt,d,k,du,ku⟩)])++rest:=by rw[hv];simp
  have hlen:(pre++[(((x,u),⟨pt,d,k,du,ku⟩):mh)]).length=pre.length+1:=by simp
  obtain⟨hk,hd⟩:=hok _ (.head _)
  refine dL (jN G (hA.weak (by decide)) (uS _) hs hF hget1 hget2 λTt s1 hTt hE1 hF1=> ?_)
  have P1:(bA Zz zt zk i1 i2 l g .none (.int x u) (.ref pt) (pre.length+1) (et L) ep (fD L) eg++(nr V.w.params fr l g rw st kk (uw first ka kb kc kd ke kf va vb vc vd ve vf) (cI rt) er (bE qs) es++[(Tt,al [.int x u,.ref pt])])).Perm
    ((nr V.w.params fr l g rw st kk (uw first ka kb kc kd ke kf va vb vc vd ve vf) (cI rt) er (bE qs) es++[(Tt,al [.int x u,.ref pt])])++bA Zz zt zk i1 i2 l g .none (.int x u) (.ref pt) (pre.length+1) (et L) ep (fD L) eg):=List.perm_append_comm
  have hs2:=hE1.at'.perm P1
  have hF2:=hF1.perm P1
  have hTm:∀p∈[(pt,al [.int (d:Int) du,.int (k:Int) ku])],p∈F:=λp hp=>by rw[List.mem_singleton.mp hp];exact hFp _ hmem
  have h0:=hs2.less.thaw hF2.less hTm (by simp)
  refine wpAny_mono (u3 G hqs hq4 (by simp only[List.length_cons] at hsm;lia) hk hd (hA.weak (by decide)) h0) ?_ (λO O h=>h)
  rintro f s2 ⟨rfl,a,b,c,d',e',f',acc,tc,tl,t,hE2⟩
  refine⟨rfl,?_⟩
  obtain⟨E3,F3⟩:=gm hs2 hF2 hTm (by simp) hE2 (λp hp=> .inl (by rw[List.map_append];exact List.mem_append_left _ (List.mem_map_of_mem (f:=(·.1)) hp)))
  have P2:(nr V.w.params fr l g rw st kk (T6 a b c d' e' f' (.int x u) (.int d du) (.int k ku) (.ref acc) (.int (hG x (bE (az qs d))) tc) (.str (aX (c8 qs x d)) tl)) (cI (rt++[(fV qs ((x,u),⟨pt,d,k,du,ku⟩),t)])) (er+1) (bE qs) es++bA Zz zt zk i1 i2 l g .none (.int x u) (.ref pt) (pre.length+1) (et L) ep (fD L) eg).Perm
    (bA Zz zt zk i1 i2 l g .none (.int x u) (.ref pt) (pre.length+1) (et L) ep (fD L) eg++nr V.w.params fr l g rw st kk (T6 a b c d' e' f' (.int x u) (.int d du) (.int k ku) (.ref acc) (.int (hG x (bE (az qs d))) tc) (.str (aX (c8 qs x d)) tl)) (cI (rt++[(fV qs ((x,u),⟨pt,d,k,du,ku⟩),t)])) (er+1) (bE qs) es):=List.perm_append_comm
  have E4:=E3.perm P2
  have F4:=F3.perm P2
  rw[←hlen] at E4 F4
  have hw1:∀q∈((nr V.w.params fr l g rw st kk (uw first ka kb kc kd ke kf va vb vc vd ve vf) (cI rt) er (bE qs) es++[(Tt,al [.int x u,.ref pt])])++bA Zz zt zk i1 i2 l g .none (.int x u) (.ref pt) (pre.length+1) (et L) ep (fD L) eg).map (·.1),q∈[Zz,zt,zk,i1,i2,l,g]++[fr,rw,st]∨s.heap.objs.size≤q:=λq hq=>by
   rw[List.map_append,List.map_append] at hq
   rcases List.mem_append.mp hq with hq|hq
   ·rcases List.mem_append.mp hq with hq|hq
    ·exact .inl (List.mem_append_right _ hq)
    ·exact .inr (by rw[List.mem_singleton.mp hq];exact hTt)
   ·exact .inl (List.mem_append_left _ hq)
  have E5:am V ([Zz,zt,zk,i1,i2,l,g]++[fr,rw,st]) s (bA Zz zt zk i1 i2 l g .none (.int x u) (.ref pt) (pre++[(((x,u),⟨pt,d,k,du,ku⟩):mh)]).length (et L) ep (fD L) eg++nr V.w.params fr l g rw st kk (T6 a b c d' e' f' (.int x u) (.int d du) (.int k ku) (.ref acc) (.int (hG x (bE (az qs d))) tc) (.str (aX (c8 qs x d)) tl)) (cI (rt++[(fV qs ((x,u),⟨pt,d,k,du,ku⟩),t)])) (er+1) (bE qs) es) s2:=
   ⟨E4.at',λb o hb hbw=>E4.pres b o (hE1.pres b o hb (λhm=>hbw hm)) (λhm=>(hw1 b hm).elim hbw λhh=>absurd (Heap.lt_size hb) (Nat.not_lt.mpr hh)),Nat.le_trans hE1.grow E4.grow⟩
  refine codeAny_mono (ih (pre++[((x,u),⟨pt,d,k,du,ku⟩)]) (rt++[(fV qs ((x,u),⟨pt,d,k,du,ku⟩),t)]) (er+1) false a b c d' e' f' (.int x u) (.int d du) (.int k ku) (.ref acc) (.int (hG x (bE (az qs d))) tc) (.str (aX (c8 qs x d)) tl) (.int x u) (.ref pt) A s2 hv' (λq hq=>hok q (.tail _ hq)) (by simp only[List.length_append,List.length_cons,List.length_nil] at hsm⊢;lia) hA E4.at' F4) ?_
  rintro r s3 ⟨hr,rt',T',za',zb',h1,hT,h2⟩
  refine⟨hr,rt',T',za',zb',?_,.inr ?_,?_⟩
  ·rw[h1];simp
  ·rcases hT with⟨h3,h4,h5,h6⟩|⟨e,κ,h3,h4,h5,h6⟩
   ·subst h3
    exact⟨_,D8 a b c d' e' f' acc tc tl,rfl,h4,h5,h6⟩
   ·refine⟨e,κ,?_,h4,h5,h6⟩
    rw[List.getLast?_cons,h3];rfl
  ·have e1:er+1+rest.length=er+(((x,u),⟨pt,d,k,du,ku⟩)::rest:List mh).length:=by simp;lia
   rw[e1] at h2
   exact E5.trans h2 (λb hb=> .inl hb)
noncomputable def rk(a b z:Int)(u v:Nat):aD:=aN (aY "int.__pow__" a b u v) λρ=> .int z (ρ 2)
noncomputable def xG(P:Params)(fr cT Zz zt zk i1 i2 l g rw st:Nat)(kk:Nat→Nat)(vs:List Value)(ep:Nat)(ps:List Value)(eg:Nat)(ss:List Value)(es:Nat)(T:br→aF)(za zb:Value)(RS:br→List Value)(m:Nat)(js:List Nat):aD:=
 ⟨Ij P fr cT Zz,js,bA Zz zt zk i1 i2 l g .none .none .none 0 vs ep ps eg++nr P fr l g rw st kk [] [] 0 ss es,λO=> .ok .next,
  λρ=>(fP Zz zt zk i1 i2 l g .none za zb m vs ep ps eg++nr P fr l g rw st kk (T ρ) (RS ρ) m ss es).map (·.2),λO=>[]⟩
noncomputable def zV(a b c d:Nat):Nat→Nat
 |0=>a
 |1=>b
 |2=>c
 |_=>d
theorem FR(P:Params)(b1 b2:Bool)(n t:Nat)(l g:Addr)(vs:List Value)(ep:Nat)(ps:List Value)(eg:Nat):Qk 100 λr=>r (bK P b1 b2 184 [.ref l,.ref g] [(l,aa vs ep),(g,aa ps eg)] n t [0,3,3,3,3] n [(nm nR,n+1)] [2,3,0,1] [(n,cY P [(bU,t,.ref l),(jG,t+1,.ref g)]),(n+1,ms),(l,aa vs ep),(g,aa ps eg)]):=by unfold Qk;kernel_rfl!
theorem FS(P:Params)(n n' t t0:Nat)(l g:Addr)(vs:List Value)(z:Int)(ep:Nat)(ps:List Value)(eg:Nat)(T:br→aF)(za zb:Value)(RS:br→List Value)(m:Nat):Qk 900 λr=>ay λb1 b2=>r ( ap P b1 b2 (cc P 184 n [(nm nR,n+1)]) [(n,cY P [(bU,t0,.ref l),(jG,t0+1,.ref g)]),(n+1,ms),(l,aa vs ep),(g,aa ps eg)] n' t
 (.hook [0,0,1] 0 (xE l vs ep z [2]) λρ=> .hook (match b1 with|true=>[6,6,6,0,6,7,7,0,7,7,7,6,7,7,7,0,7,7,7,6,7,7,7,0,7,7,7,6,7,7,9,2,2,1,1,0,0,0,0,10,10,0,10,10,10,10,0,10,10,10,10,11,0,11,0,11,11,11,11,11,11,11,11,13,13,2,13,0,0,0,14,14,14]|false=>[6,6,6,0,6,7,7,0,7,7,7,6,7,7,7,0,7,7,7,6,7,7,7,0,7,7,7,6,7,7,9,2,2,1,1,0,0,0,0,10,10,0,10,10,10,10,0,10,10,10,10,11,0,11,11,0,11,11,11,0,11,11,11,11,11,11,11,11,13,13,2,13,0,0,0,14,14,14]) 10 (gM (ρ 0+9) (kL (ρ 1+6)) (ca z 1) (ρ 1+14) (dI (ρ 1+6) (ca z 1)) [13]) λρ1=>
  .hook [0,0,12,12,12,12,11,0,11,11,11,11,11,11,11,11,13,13,2,13] 1 {rk 4 1 4 (ρ1 1+6) (ρ1 1) with js:=[]} λσ1=> .hook [0,0,15,15,15] 0 (gM (ρ1 0) (kL (ρ1 1+2)) (ca z 4) (σ1 1+2) (dI (ρ1 1+2) (ca z 4)) [14]) λρ2=>
  .hook [0,0,12,12,12,12,11,0,11,11,11,11,11,11,11,11,13,13,2,13] 1 {rk 4 2 16 (ρ2 1+6) (ρ2 1) with js:=[]} λσ2=> .hook [0,0,16,16,16] 0 (gM (ρ2 0) (kL (ρ2 1+2)) (ca z 16) (σ2 1+2) (dI (ρ2 1+2) (ca z 16)) [15]) λρ3=>
  .hook [0,0,12,12,12,12,11,0,11,11,11,11,11,11,11,11,13,13,2,13] 1 {rk 4 3 64 (ρ3 1+6) (ρ3 1) with js:=[]} λσ3=> .hook [0,0,17,17,17] 0 (gM (ρ3 0) (kL (ρ3 1+2)) (ca z 64) (σ3 1+2) (dI (ρ3 1+2) (ca z 64)) [16]) λρ4=>
  .hook [0,0,12,12,12,12,11,0,11,11,11,11,11,11,11,11,13,13,2,13] 1 {rk 4 4 256 (ρ4 1+6) (ρ4 1) with js:=[]} λσ4=> .hook [0,0,18,18,18] 0 (gM (ρ4 0) (kL (ρ4 1+2)) (ca z 256) (σ4 1+2) (dI (ρ4 1+2) (ca z 256)) [17]) λρ5=>
  .hook [0,0,12,12,12,12,11,0,11,11,11,11,20,1,1,13,13,13,0,0,1,1,0,0,3,3,0,3,21,4,4,0,4,22,25,25,0,25,25,25,25,0,25,25] 7 (xG P n (n+1) (ρ5 0+6) (ρ5 0+4) (ρ5 0+5) (ρ5 0+2) (ρ5 0+3) l g (ρ 0) (ρ 0+7) (zV t0 (t0+1) (ρ 1) (ρ5 1)) vs ep ps eg [dI (ρ 1+6) (ca z 1),dI (ρ1 1+2) (ca z 4),dI (ρ2 1+2) (ca z 16),dI (ρ3 1+2) (ca z 64),dI (ρ4 1+2) (ca z 256)] 5 T za zb RS m [24,22,23,20,21,2,3,0,4,11]) λρ6=>
  .fin [1] (.ok (.ret (.ref (ρ 0)))) [2,3,4] [(l,aa vs ep),(g,aa ps eg),(ρ 0,aa (RS ρ6) m)])):=by unfold Qk;kernel_rfl!
noncomputable def dc(css:List (List Nat))(τ:Nat→Nat):List Value:=(List.range css.length).map λi=> .str (aX (css.getD i [])) (τ i)
theorem pd(rt:List (List Nat×Nat)):cI rt=dc (rt.map (·.1)) (λi=>(rt.getD i ([],0)).2):=by
 apply List.ext_getElem
 ·simp[cI,dc]
 ·intro i h1 h2
  have hi:i<rt.length:=by simpa[cI] using h1
  simp[cI,dc,List.getD_eq_getElem?_getD,hi]
theorem om{css:List (List Nat)}{τ τ':Nat→Nat}(h:∀i,i<css.length→τ i=τ' i):dc css τ=dc css τ':=by
 unfold dc
 exact List.map_congr_left λi hi=>by rw[h i (List.mem_range.mp hi)]
theorem zc{V:Gw}(G:au V){fr cT Zz zt zk i1 i2 l g rw st ep eg es:Nat}{kk:Nat→Nat}{qs:fw}(hqs:qs.length≤5)(hq4:∀p∈qs,p.1<4){L:List mh}{F:KL}(hFp:∀e∈L,(e.2.pt,e.2.o)∈F)(hok:∀e∈L,(e.2.k=7∨e.2.k=9∨e.2.k=25)∧e.2.d≤5)(hsm:L.length≤100)
  {e:mh} (he:L.getLast?=some e) {ss:List Value} (hss:ss=bE qs) {js:List Nat}:
  aQ V 3 (xG V.w.params fr cT Zz zt zk i1 i2 l g rw st kk (et L) ep (fD L) eg ss es (λρ=>gd qs e (λi=>ρ (i+2))) (.int e.1.1 e.1.2) (.ref e.2.pt) (λρ=>dc (L.map (fV qs)) (λi=>ρ (i+11))) L.length js) F (λO=>True) (λO=>[]):=by
 subst hss
 intro A s hA hs hf
 refine codeAny_mono (u4 G hqs hq4 hFp L [] [] 0 true 0 0 0 0 0 0 .none .none .none .none .none .none .none .none A s rfl hok (by simpa using hsm) hA hs hf) ?_
 rintro r s' ⟨hr,rt',T',za',zb',h1,hT,hE⟩
 rcases hT with⟨h3,_⟩|⟨e',κ,h3,rfl,rfl,rfl⟩
 ·rw[h3] at he;cases he
 rw[he] at h3
 cases h3
 have hlen:rt'.length=L.length:=by rw[←List.length_map (f:=(·.1)),h1];simp
 rw[Nat.zero_add,pd,h1,List.map_nil,List.nil_append] at hE
 let σ:Nat→Nat:=λk=>if k<9 then κ k else(rt'.getD (k-9) ([],0)).2
 have e1:gd qs e κ=gd qs e (λi=>a7 s'.heap.objs.size s'.toks σ (i+2)):=rfl
 have e2:dc (L.map (fV qs)) (λi=>(rt'.getD i ([],0)).2)=dc (L.map (fV qs)) (λi=>a7 s'.heap.objs.size s'.toks σ (i+11)):=by
  refine om λi O=> ?_
  show _=(if i+9<9 then κ (i+9) else(rt'.getD (i+9-9) ([],0)).2)
  rw[if_neg (by lia),Nat.add_sub_cancel]
 rw[e1,e2] at hE
 exact⟨a7 _ _ σ,hr,aW (H:=xG V.w.params fr cT Zz zt zk i1 i2 l g rw st kk (et L) ep (fD L) eg (bE qs) es (λρ=>gd qs e (λi=>ρ (i+2))) (.int e.1.1 e.1.2) (.ref e.2.pt) (λρ=>dc (L.map (fV qs)) (λi=>ρ (i+11))) L.length js) hE σ rfl rfl (λO hp=>nomatch hp),trivial,λO hp=>nomatch hp⟩
theorem Cx(P):d4 P 184=true:=by kernel_rfl!
noncomputable def cj(z:Int)(p:Int):Nat:=((z.fdiv p).fmod 4).toNat
noncomputable def dH(z:Int):List Nat:=[cj z 1,cj z 4,cj z 16,cj z 64,cj z 256]
theorem iq(z p:Int):ca z p=(cj z p:Int):=by
 unfold ca cj
 have e:Z.modQ (Z.divQ z p) 4=(z.fdiv p).fmod 4:=by rw[Z.modQ_eq,Z.divQ_eq]
 have h:(0:Int)<4:=by decide
 rw[e,Int.toNat_of_nonneg (Int.fmod_nonneg_of_pos _ h)]
theorem lR(z p:Int):cj z p<4:=by
 unfold cj
 have h:(0:Int)<4:=by decide
 have h1:=Int.fmod_nonneg_of_pos (z.fdiv p) h
 have h2:=Int.fmod_lt_of_pos (z.fdiv p) h
 omega
theorem sD(t:Nat)(z p:Int):dI t (ca z p)=sV ((cj z p:Int),t+cj z p):=by
 rw[iq];rfl
theorem ig{V:Gw}{a t u:Nat}{z p:Int}{js:List Nat}{L:Nat}:ai V L (gM a (kL t) (ca z p) u (dI t (ca z p)) js) (λO=>True):=by
 have h:=lR z p
 refine pE (by rw[iq];lia) (by rw[iq];lia) ?_
 rw[iq,Int.toNat_natCast]
 generalize cj z p=q at h
 have:q=0∨q=1∨q=2∨q=3:=by lia
 rcases this with rfl|rfl|rfl|rfl<;>rfl
noncomputable def i4(z:Int)(L:List mh):List (List Nat):=L.map (fV ((dH z).map λq=>(q,0)))
noncomputable def rz(l g ep eg:Nat)(L:List mh)(z:Int)(js:List Nat):aD:=
 ⟨.call (.ref 184) ⟨[.ref l,.ref g],[]⟩,js,[(l,aa (et L) ep),(g,aa (fD L) eg)],λρ=> .ok (.ret (.ref (ρ 2))),λO=>[aa (et L) ep,aa (fD L) eg],λρ=>[(ρ 2,aa (dc (i4 z L) (λi=>ρ (i+3))) L.length)]⟩
theorem iK{qs qs':fw}(h:qs.map (·.1)=qs'.map (·.1))(d:Nat):(az qs d).map (·.1)=(az qs' d).map (·.1):=by
 have key:∀(l:fw),(l.filter gJ).map (·.1)=(l.map (·.1)).filter (λq=> !Nat.beq q 3):=by
  intro l
  induction l with
  |nil=>rfl
  |cons p l ih=>
   simp only[List.filter_cons,List.map_cons]
   have e:gJ p=(!Nat.beq p.1 3):=rfl
   rw[e]
   split
   ·rw[List.map_cons,ih]
   ·exact ih
 rw[az,az,key,key,List.map_take,List.map_take,h]
theorem sP{qs qs':fw}(h:qs.map (·.1)=qs'.map (·.1))(e:mh):fV qs e=fV qs' e:=by
 have h1:=iK h e.2.d
 have hl:(az qs e.2.d).length=(az qs' e.2.d).length:=by rw[←List.length_map (f:=(·.1)),h1,List.length_map]
 have hf:∀(l:fw),l.flatMap (λp=>cK p.1)=(l.map (·.1)).flatMap (λ(q:Nat)=>cK (q:Int)):=λl=>by rw[List.flatMap_map]
 unfold fV c8
 rw[hl,hf,hf,List.map_append,List.map_append,List.map_drop,List.map_take,List.map_drop,List.map_take,h1]
theorem qo{qs qs':fw}(h:qs.map (·.1)=qs'.map (·.1))(x:Int)(d:Nat):c8 qs x d=c8 qs' x d:=by
 have h1:=iK h d
 have hl:(az qs d).length=(az qs' d).length:=by rw[←List.length_map (f:=(·.1)),h1,List.length_map]
 have hf:∀(l:fw),l.flatMap (λp=>cK p.1)=(l.map (·.1)).flatMap (λ(q:Nat)=>cK (q:Int)):=λl=>by rw[List.flatMap_map]
 unfold c8
 rw[hl,hf,hf,List.map_append,List.map_append,List.map_drop,List.map_take,List.map_drop,List.map_take,h1]
theorem qp{qs qs':fw}(h:qs.map (·.1)=qs'.map (·.1))(e:mh)(κ:Nat→Nat):gd qs e κ=gd qs' e κ:=by
 have h1:=iK h e.2.d
 have hl:(az qs e.2.d).length=(az qs' e.2.d).length:=by rw[←List.length_map (f:=(·.1)),h1,List.length_map]
 unfold gd
 rw[lS,lS,qo h]
 simp only[bE,List.length_map,hl]
theorem vL{V:Gw}(G:au V){l g ep eg:Nat}{L:List mh}{ns:List Int}(hns:aI (et L) ns){F:KL}(hFp:∀e∈L,(e.2.pt,e.2.o)∈F)(hok:∀e∈L,(e.2.k=7∨e.2.k=9∨e.2.k=25)∧e.2.d≤5)(hsm:L.length≤100)(hne:L≠[]){js:List Nat}:
  aQ V 4 (rz l g ep eg L ns.sum js) F (λO=>True) (λO=>[]):=by
 intro A s hA h hf
 obtain⟨e,he⟩:∃e,L.getLast?=some e:=by
  cases hz:L.getLast? with
  |none=>exact absurd (List.getLast?_eq_none_iff.mp hz) hne
  |some e=>exact⟨e,rfl⟩
 refine ga G hA (Cx _) hf h (FR V.w.params (aC V) (aB V) s.heap.objs.size s.toks l g (et L) ep (fD L) eg) (aS rfl) λs1 hs1 hf1=> ?_
 refine aR G hf1 (ad (FS V.w.params s.heap.objs.size s1.heap.objs.size s1.toks s.toks l g (et L) ns.sum ep (fD L) eg
  (λρ=>gd ((dH ns.sum).map λq=>(q,0)) e (λi=>ρ (i+2))) (.int e.1.1 e.1.2) (.ref e.2.pt) (λρ=>dc (i4 ns.sum L) (λi=>ρ (i+11))) L.length) (aC V) (aB V)) hA hs1.at' ?_
 have hw:aw (et L).length:=by show _≤1000;simp[et];lia
 refine ac (l:=1) (sa G hns) rfl rfl rfl λρ O hρ=>ac (l:=0) ig rfl rfl rfl λρ1 O O=>ac (l:=0) (jL (by decide) (by decide) (by decide) (by decide) (by decide) (by decide)) rfl rfl rfl λσ1 O O=>
  ac (l:=0) ig rfl rfl rfl λρ2 O O=>ac (l:=0) (jL (by decide) (by decide) (by decide) (by decide) (by decide) (by decide)) rfl rfl rfl λσ2 O O=>
  ac (l:=0) ig rfl rfl rfl λρ3 O O=>ac (l:=0) (jL (by decide) (by decide) (by decide) (by decide) (by decide) (by decide)) rfl rfl rfl λσ3 O O=>
  ac (l:=0) ig rfl rfl rfl λρ4 O O=>ac (l:=0) (jL (by decide) (by decide) (by decide) (by decide) (by decide) (by decide)) rfl rfl rfl λσ4 O O=>
  ac (l:=0) ig rfl rfl rfl λρ5 O O=> ?_
 have hst:∀qs:fw,qs.map (·.1)=dH ns.sum→qs.map (·.1)=((dH ns.sum).map λq=>(q,0)).map (·.1):=λqs h=>by rw[h,List.map_map];exact(List.map_id _).symm
 refine aV (l:=3) (by
  have hq:=hst [(cj ns.sum 1,ρ 1+6+cj ns.sum 1),(cj ns.sum 4,ρ1 1+2+cj ns.sum 4),(cj ns.sum 16,ρ2 1+2+cj ns.sum 16),(cj ns.sum 64,ρ3 1+2+cj ns.sum 64),(cj ns.sum 256,ρ4 1+2+cj ns.sum 256)] rfl
  have hH:=zc G (fr:=s.heap.objs.size) (cT:=s.heap.objs.size+1) (Zz:=ρ5 0+6) (zt:=ρ5 0+4) (zk:=ρ5 0+5) (i1:=ρ5 0+2) (i2:=ρ5 0+3) (l:=l) (g:=g) (rw:=ρ 0) (st:=ρ 0+7) (ep:=ep) (eg:=eg) (es:=5) (kk:=zV s.toks (s.toks+1) (ρ 1) (ρ5 1))
   (qs:=[(cj ns.sum 1,ρ 1+6+cj ns.sum 1),(cj ns.sum 4,ρ1 1+2+cj ns.sum 4),(cj ns.sum 16,ρ2 1+2+cj ns.sum 16),(cj ns.sum 64,ρ3 1+2+cj ns.sum 64),(cj ns.sum 256,ρ4 1+2+cj ns.sum 256)]) (by simp)
   (λp hp=>by
    simp only[gV,List.not_mem_nil,or_false] at hp
    rcases hp with rfl|rfl|rfl|rfl|rfl<;>exact lR _ _) hFp hok hsm he
   (ss:=[dI (ρ 1+6) (ca ns.sum 1),dI (ρ1 1+2) (ca ns.sum 4),dI (ρ2 1+2) (ca ns.sum 16),dI (ρ3 1+2) (ca ns.sum 64),dI (ρ4 1+2) (ca ns.sum 256)]) (by simp only[sD];rfl) (js:=[24,22,23,20,21,2,3,0,4,11])
  have hT:(λρ:br=>gd [(cj ns.sum 1,ρ 1+6+cj ns.sum 1)] e (λi=>ρ (i+2)))=(λρ:br=>gd [(cj ns.sum 1,ρ 1+6+cj ns.sum 1)] e (λi=>ρ (i+2))):=rfl
  have hR:∀qs:fw,qs.map (·.1)=((dH ns.sum).map λq=>(q,0)).map (·.1)→L.map (fV qs)=i4 ns.sum L:=λqs h=>List.map_congr_left λe O=>sP h e
  simp only[qp hq,hR _ hq] at hH
  exact hH) rfl rfl rfl λρ6 O O=>an rfl λs2 hs2 O=> ?_
 have hE:=hs1.trans hs2 (λa ha=>by
  simp only[List.map_cons,List.map_nil,gV,List.not_mem_nil,or_false] at ha⊢
  rcases ha with rfl|rfl|rfl|rfl
  ·exact .inr (Nat.le_refl _)
  ·exact .inr (Nat.le_add_right _ _)
  ·exact .inl (.head _)
  ·exact .inl (.tail _ (.head _)))
 have hg:=hs1.grow
 let τ:Nat→Nat:=λk=>match k with|0=>ρ 0|k+1=>ρ6 (k+11)
 refine⟨a7 s2.heap.objs.size s2.toks τ,rfl,aW (H:=rz l g ep eg L ns.sum js) hE τ rfl rfl (λp hp=> ?_),trivial,λO hp=>nomatch hp⟩
 rw[List.mem_singleton.mp hp]
 exact Nat.le_trans hg hρ
noncomputable def Ak(P:Params)(fr I:Addr):Code:=d7 (aA (aU P 179)) 1 (.ref I) (f6 (aU P 179) 179 fr [])
noncomputable def ra(P:Params)(fr I l pg:Addr)(kk:Nat→Nat)(dep:Int)(dk:Nat)(T:aF)(io:Obj)(vs:List Value)(ep:Nat)(ps:List Value)(eg:Nat):KL:=
 [(fr,cY P ([(bU,kk 0,.ref l),(nV,kk 1,.int dep dk),(jG,kk 2,.ref pg)]++T)),(I,io),(l,aa vs ep),(pg,aa ps eg)]
noncomputable def Aw(t:Nat):List Value:=[.int 7 t,.int 9 (t+1),.int 25 (t+2)]
noncomputable def rm(t:Nat)(q:Int):Value:= .int (if q=0 then 7 else if q=1 then 9 else 25) (t+q.toNat)
noncomputable def g5(x:Int):Int:=Z.modQ (Z.divQ x 6) 3
noncomputable def ET(P:Params)(b1 b2:Bool)(n t fr I l pg:Nat)(kk:Nat→Nat)(dep:Int)(dk:Nat)(first:Bool)(κ:Nat)(v:Value)(j:Nat)(vs:List Value)(ep:Nat)(ps:List Value)(eg:Nat)(x:Int)(u:Nat)(dn:Int):bu:=
 ap P b1 b2 (Ak P fr I) (ra P fr I l pg kk dep dk (bk first ak κ v) (aj l j) vs ep ps eg) n t
 (.hook [2] 0 (a8 I l j vs ep (.int x u) [1,2]) λρ=> .hook [1,1,1,1,0] 0 {aN (aY "int.__mod__" x (dep+2) u (ρ 1+2)) (λρ=> .int dn (ρ 2)) with js:=[]} λρ1=>
  .hook [1,1,1,4,4,4,4,1,1,0,0,5,5,5] 1 (gM (ρ1 0) (Aw (ρ1 1+1)) (g5 x) (ρ1 1+7) (rm (ρ1 1+1) (g5 x)) [4]) λρ2=>
  .hook [0] 1 (a5 pg ps eg (.ref (ρ2 0)) [3]) λρ3=>
  .again [] (Ak P fr I) [0,1,2,3,5] (ra P fr I l pg kk dn (ρ1 2) [(ak,ao first κ (ρ 1),.int x u)] (aj l (j+1)) vs ep (ps++[.ref (ρ2 0)]) (eg+1)++[(ρ2 0,al [.int dn (ρ1 2),rm (ρ1 1+1) (g5 x)])]))
noncomputable def DH(P:Params)(fr I l pg:Nat)(kk:Nat→Nat)(dk:Nat)(vs:List Value)(ep:Nat)(dep:Int)(T:br→aF)(PS:br→List Value)(m:Nat)(js:List Nat):aD:=
 ⟨Ak P fr I,js,ra P fr I l pg kk (-1) dk [] (aj l 0) vs ep [] 0,λO=> .ok .next,λρ=>(ra P fr I l pg kk dep (ρ 2) (T ρ) (ba m) vs ep (PS ρ) m).map (·.2),λO=>[]⟩
theorem G7(P b1 n t fr I l pg kk dep dk κ v j vs ep ps eg x u dn):Qk 400 λr=>ay λfirst b2=>r (ET P b1 b2 n t fr I l pg kk dep dk first κ v j vs ep ps eg x u dn):=by unfold Qk;kernel_rfl!
theorem G9(P:Params)(b1:Bool)(n t fr I l pg:Nat)(kk:Nat→Nat)(dep:Int)(dk:Nat)(T:aF)(j:Nat)(vs:List Value)(ep:Nat)(ps:List Value)(eg:Nat):Qk 200 λr=>fT λb2=>r ( ap P b1 b2 (Ak P fr I) (ra P fr I l pg kk dep dk T (aj l j) vs ep ps eg) n t
 (.hook [2] 0 (cn I l j vs ep [1,2]) λρ=> .fin [6] (.ok .next) [0,1,2,3] (ra P fr I l pg kk dep dk T (ba j) vs ep ps eg))):=by unfold Qk;kernel_rfl!
theorem G8(P:Params)(b1:Bool)(n t:Nat)(l:Addr)(vs:List Value)(ep:Nat):Qk 100 λr=>fT λb2=>r (bK P b1 b2 179 [.ref l] [(l,aa vs ep)] n t [0,2,2] n [] [1,0] [(n,cY P [(bU,t,.ref l)]),(l,aa vs ep)]):=by unfold Qk;kernel_rfl!
theorem Ha(P:Params)(b1:Bool)(n n' t t0:Nat)(l:Addr)(vs:List Value)(ep:Nat)(dep:Int)(T:br→aF)(PS:br→List Value)(m:Nat):Qk 400 λr=>fT λb2=>r ( ap P b1 b2 (cc P 179 n []) [(n,cY P [(bU,t0,.ref l)]),(l,aa vs ep)] n' t
 (.hook [0,4,4,4,0,4,5,5,0,5,5,5,4,5,5,5,0,5,5,5,4,5,5,5,0,5,5,5,4,5,5,7,1,1,1,1,1,2,2,0,2,8] 6 (DH P n (n'+5) l n' (zV t0 (t+2) (t+3) 0) (t+1) vs ep dep T PS m [0,7,1,2]) λρ=> .fin [1] (.ok (.ret (.ref n'))) [1,2] [(l,aa vs ep),(n',aa (PS ρ) m)])):=by unfold Qk;kernel_rfl!
noncomputable def lr(x:Int):Nat:=if(x.fdiv 6).fmod 3=0 then 7 else if(x.fdiv 6).fmod 3=1 then 9 else 25
theorem py(x:Int):g5 x=(x.fdiv 6).fmod 3:=by
 unfold g5
 rw[Z.modQ_eq,Z.divQ_eq]
theorem vx(x:Int):0≤g5 x∧g5 x<3:=by
 have h:(0:Int)<3:=by decide
 rw[py]
 exact⟨Int.fmod_nonneg_of_pos _ h,Int.fmod_lt_of_pos _ h⟩
theorem vv(t:Nat)(x:Int):rm t (g5 x)= .int (lr x:Nat) (t+(g5 x).toNat):=by
 unfold rm lr
 rw[py]
 split
 ·rfl
 ·split<;>rfl
theorem zh{V:Gw}{a t u:Nat}{x:Int}{js:List Nat}{L:Nat}:ai V L (gM a (Aw t) (g5 x) u (rm t (g5 x)) js) (λO=>True):=by
 obtain⟨h0,h3⟩:=vx x
 refine pE h0 (by lia) ?_
 generalize g5 x=q at h0 h3
 have:q=0∨q=1∨q=2:=by lia
 rcases this with rfl|rfl|rfl<;>rfl
noncomputable def af:Int→List Int→List (Nat×Nat)
 |_,[]=>[]
 |dep,x::r=>((x.fmod (dep+2)).toNat,lr x)::af ((x.fmod (dep+2)).toNat:Nat) r
noncomputable def kQ:Int→List Int→Int
 |dep,[]=>dep
 |dep,x::r=>kQ ((x.fmod (dep+2)).toNat:Nat) r
noncomputable def fX(pgs:List kJ):List Value:=pgs.map λe=> .ref e.pt
theorem v6{V:Gw}(G:au V)(n0:Nat){fr I l pg ep:Nat}{kk:Nat→Nat}{vs:List Value}:∀(rest:List Value) (ns:List Int) (pre:List Value) (dep:Int) (dk:Nat) (first:Bool) (κ:Nat) (v:Value) (pgs:List kJ) (F:KL) (A:Around) (s:Shared),vs=pre++rest→aI rest ns→ -1≤dep→pgs.length+rest.length≤100→n0≤s.heap.objs.size→(∀e∈pgs,n0≤e.pt)→Bd 1 A→
  At V (ra V.w.params fr I l pg kk dep dk (bk first ak κ v) (aj l pre.length) vs ep (fX pgs) pgs.length) s→Fz V (F++jk pgs) (ra V.w.params fr I l pg kk dep dk (bk first ak κ v) (aj l pre.length) vs ep (fX pgs) pgs.length) s→
  codeAny (model V.prog V.w) A (Ak V.w.params fr I) (λr s'=>r= .ok .next∧E3 λdk' κ' pgs'=>A4 ((pgs'.map λe=>(e.d,e.k))=(pgs.map λe=>(e.d,e.k))++af dep ns) (∀e∈pgs',n0≤e.pt) 
   (am V [fr,I,l,pg] s (ra V.w.params fr I l pg kk (kQ dep ns) dk' (cf (bk first ak κ v) ak rest κ') (ba vs.length) vs ep (fX pgs') pgs'.length) s') 
   (Fz V (F++jk pgs') (ra V.w.params fr I l pg kk (kQ dep ns) dk' (cf (bk first ak κ v) ak rest κ') (ba vs.length) vs ep (fX pgs') pgs'.length) s')) s:=by
 intro rest
 induction rest with
 |nil=>
  intro ns pre dep dk first κ v pgs F A s hv hi hd hsm hn0 hnp hA hs hF
  cases hi
  rw[List.append_nil] at hv
  subst hv
  refine aR G hF (a6 (G9 V.w.params (aC V) s.heap.objs.size s.toks fr I l pg kk dep dk (bk first ak κ v) vs.length vs ep (fX pgs) pgs.length) (aB V)) hA hs ?_
  exact ac (bq (L:=0) (by simp)) rfl rfl rfl λρ O O=>an rfl λs' hs' hf'=>⟨rfl,dk,0,pgs,by rw[af,List.append_nil],hnp,hs',hf'⟩
 |cons v₁ rest ih=>
  intro ns pre dep dk first κ v pgs F A s hv hi hd hsm hn0 hnp hA hs hF
  cases hi with
  | @cons x u _ m hi=>
  have hget:vs[pre.length]?=some (.int x u):=by rw[hv];simp
  have hv':vs=(pre++[.int x u])++rest:=by rw[hv];simp
  have hlen:(pre++[Value.int x u]).length=pre.length+1:=by simp
  have hdn:x.fmod (dep+2)=((x.fmod (dep+2)).toNat:Int):=by
   have h:(0:Int)<dep+2:=by lia
   rw[Int.toNat_of_nonneg (Int.fmod_nonneg_of_pos _ h)]
  refine aR G hF (ad (G7 V.w.params (aC V) s.heap.objs.size s.toks fr I l pg kk dep dk κ v pre.length vs ep (fX pgs) pgs.length x u ((x.fmod (dep+2)).toNat:Nat)) first (aB V)) hA hs ?_
  have hmod:∀u v,ai V 0 (aN (aY "int.__mod__" x (dep+2) u v) λρ=> .int ((x.fmod (dep+2)).toNat:Nat) (ρ 2)) (λO=>True):=λu v=>by
   rw[←hdn];exact zf (by lia)
  refine ac (aJ (L:=0) hget) rfl rfl rfl λρ O O=>ac (hmod _ _) rfl rfl rfl λρ1 O O=>ac (zh (L:=0)) rfl rfl rfl λρ2 O hρ2=>ac (aM (L:=0) (by show _≤1000;simp only[fX,List.length_map,List.length_cons] at hsm⊢;lia)) rfl rfl rfl λρ3 O O=>ax rfl λs' hs' hf'=>⟨rfl,?_⟩
  rw[vv] at hs' hf'
  let e:kJ:=⟨ρ2 0,(x.fmod (dep+2)).toNat,lr x,ρ1 2,ρ1 1+1+(g5 x).toNat⟩
  have E1:=hs'.keep
  have F1:=hf'.take hs'.at'
  have er:fX pgs++[.ref (ρ2 0)]=fX (pgs++[e]):=by simp[fX,e]
  have el:pgs.length+1=(pgs++[e]).length:=by simp
  have ek:F++jk pgs++[(ρ2 0,al [.int ((x.fmod (dep+2)).toNat:Nat) (ρ1 2),.int (lr x:Nat) (ρ1 1+1+(g5 x).toNat)])]=F++jk (pgs++[e]):=by simp[jk,kJ.o,e]
  rw[er,el] at E1 F1
  rw[ek] at F1
  rw[←hlen] at E1 F1
  refine codeAny_mono (ih m (pre++[.int x u]) ((x.fmod (dep+2)).toNat:Nat) _ false (ao first κ (ρ 1)) (.int x u) (pgs++[e]) F A s' hv' hi (by lia) (by simp only[List.length_append,List.length_cons,List.length_nil] at hsm⊢;lia) (Nat.le_trans hn0 hs'.grow) (λq hq=> ?_) hA E1.at' F1) ?_
  ·rcases List.mem_append.mp hq with hq|hq
   ·exact hnp q hq
   ·rw[List.mem_singleton.mp hq];exact Nat.le_trans hn0 hρ2
  ·rintro r s'' ⟨hr,dk',κ',pgs',h1,h2,h3,h4⟩
   refine⟨hr,dk',rj rest (ao first κ (ρ 1)) κ',pgs',?_,h2,?_,?_⟩
   ·rw[h1];simp[af,e]
   ·have:=E1.trans h3 (λb hb=> .inl hb)
    rw[gq]
    exact this
   ·rw[gq];exact h4
noncomputable def dm(D:List (Nat×Nat))(τ:Nat→Nat):List kJ:=(List.range D.length).map λi=>⟨τ (3*i),(D.getD i (0,0)).1,(D.getD i (0,0)).2,τ (3*i+1),τ (3*i+2)⟩
noncomputable def xf(pgs:List kJ)(k:Nat):Nat:=if k%3=0 then(pgs.getD (k/3) ⟨0,0,0,0,0⟩).pt else if k%3=1 then(pgs.getD (k/3) ⟨0,0,0,0,0⟩).du else(pgs.getD (k/3) ⟨0,0,0,0,0⟩).ku
theorem yn{D:List (Nat×Nat)}{pgs:List kJ}(h:(pgs.map λe=>(e.d,e.k))=D){τ:Nat→Nat}(hτ:∀k,τ k=xf pgs k):dm D τ=pgs:=by
 subst h
 apply List.ext_getElem
 ·simp[dm]
 ·intro i h1 h2
  have d1:(3*i+1)/3=i:=Nat.mul_add_div (by decide) i 1
  have d2:(3*i+2)/3=i:=Nat.mul_add_div (by decide) i 2
  simp[dm,hτ,xf,d1,d2,List.getD_eq_getElem?_getD,h2]
theorem Cy(P):d4 P 179=true:=by kernel_rfl!
theorem dG:∀(dep:Int) (ns:List Int),(af dep ns).length=ns.length
 |_,[]=>rfl
 |dep,x::r=>by rw[af,List.length_cons,dG,List.length_cons]
noncomputable def n8(l ep:Nat)(vs:List Value)(ns:List Int)(js:List Nat):aD:=
 ⟨.call (.ref 179) ⟨[.ref l],[]⟩,js,[(l,aa vs ep)],λρ=> .ok (.ret (.ref (ρ 2))),λO=>[aa vs ep],λρ=>[(ρ 2,aa (fX (dm (af (-1) ns) (λk=>ρ (k+3)))) ns.length)]⟩
theorem tP{V:Gw}(G:au V){l ep:Nat}{vs:List Value}{ns:List Int}(hi:aI vs ns)(hsm:vs.length≤100){js:List Nat}:
  aQ V 2 (n8 l ep vs ns js) [] (λO=>True) (λρ=>jk (dm (af (-1) ns) (λk=>ρ (k+3)))):=by
 intro A s hA h hf
 refine ga G hA (Cy _) Fz.nil h (a6 (G8 V.w.params (aC V) s.heap.objs.size s.toks l vs ep) (aB V)) (aS rfl) λs1 hs1 hf1=> ?_
 refine aR G hf1 (a6 (Ha V.w.params (aC V) s.heap.objs.size s1.heap.objs.size s1.toks s.toks l vs ep (kQ (-1) ns) (λρ=>cf [] ak vs (ρ 3)) (λρ=>fX (dm (af (-1) ns) (λk=>ρ (k+4)))) ns.length) (aB V)) hA hs1.at' ?_
 have hL:aQ V 1 (DH V.w.params s.heap.objs.size (s1.heap.objs.size+5) l s1.heap.objs.size (zV s.toks (s1.toks+2) (s1.toks+3) 0) (s1.toks+1) vs ep (kQ (-1) ns) (λρ=>cf [] ak vs (ρ 3)) (λρ=>fX (dm (af (-1) ns) (λk=>ρ (k+4)))) ns.length [0,7,1,2]) []
   (λρ=>∀e∈dm (af (-1) ns) (λk=>ρ (k+4)),s1.heap.objs.size+5≤e.pt) (λρ=>jk (dm (af (-1) ns) (λk=>ρ (k+4)))):=by
  intro A s2 hA hs2 _
  refine codeAny_mono (v6 G s2.heap.objs.size vs ns [] (-1) _ true 0 .none [] [] A s2 rfl hi (by decide) (by simpa using hsm) (Nat.le_refl _) (λO h=>nomatch h) hA hs2 Fz.nil) ?_
  rintro r s3 ⟨hr,dk',κ',pgs',h1,h2,h3,h4⟩
  rw[List.map_nil,List.nil_append] at h1
  have hlen:pgs'.length=ns.length:=by rw[←List.length_map (f:=λe:kJ=>(e.d,e.k)),h1,dG]
  have hb:dm (af (-1) ns) (λk=>a7 s3.heap.objs.size s3.toks (λj=>match j with|0=>dk'|1=>κ'|k+2=>xf pgs' k) (k+4))=pgs':=yn h1 λk=>rfl
  rw[hlen,List.nil_append,hi.length] at h3
  refine⟨a7 s3.heap.objs.size s3.toks (λj=>match j with|0=>dk'|1=>κ'|k+2=>xf pgs' k),hr,aW (H:=DH V.w.params s.heap.objs.size (s1.heap.objs.size+5) l s1.heap.objs.size (zV s.toks (s1.toks+2) (s1.toks+3) 0) (s1.toks+1) vs ep (kQ (-1) ns) (λρ=>cf [] ak vs (ρ 3)) (λρ=>fX (dm (af (-1) ns) (λk=>ρ (k+4)))) ns.length [0,7,1,2]) h3 _ rfl ?_ (λO hp=>nomatch hp),?_,λp hp=> ?_⟩
  ·show _=List.zip _ (List.map _ (ra _ _ _ _ _ _ _ _ _ _ _ _ (fX (dm (af (-1) ns) (λk=>a7 s3.heap.objs.size s3.toks (λj=>match j with|0=>dk'|1=>κ'|k+2=>xf pgs' k) (k+4)))) _))++[]
   rw[hb];rfl
  ·intro e he
   have he:e∈dm (af (-1) ns) (λk=>a7 s3.heap.objs.size s3.toks (λj=>match j with|0=>dk'|1=>κ'|k+2=>xf pgs' k) (k+4)):=he
   rw[hb] at he
   exact Nat.le_trans (Nat.le_of_lt (Heap.lt_size (hs2.get (s1.heap.objs.size+5,aj l 0) (.tail _ (.head _))))) (h2 e he)
  ·have hp:p∈jk (dm (af (-1) ns) (λk=>a7 s3.heap.objs.size s3.toks (λj=>match j with|0=>dk'|1=>κ'|k+2=>xf pgs' k) (k+4))):=hp
   rw[hb] at hp
   refine⟨(h4 p (by simpa using hp)).1,?_,λhm=>nomatch hm⟩
   obtain⟨e,he,rfl⟩:=List.mem_map.mp hp
   exact h2 e he
 refine dD (l:=1) hL rfl rfl rfl λρ hP O=>an rfl λs2 hs2 hf2=> ?_
 have hE:=hs1.trans hs2 (λa ha=>by
  simp only[List.map_cons,List.map_nil,gV,List.not_mem_nil,or_false] at ha⊢
  rcases ha with rfl|rfl
  ·exact .inr (Nat.le_refl _)
  ·exact .inl (.head _))
 have hg:=hs1.grow
 refine⟨a7 s2.heap.objs.size s2.toks (λj=>match j with|0=>s1.heap.objs.size|k+1=>ρ (k+4)),rfl,aW (H:=n8 l ep vs ns js) hE _ rfl rfl (λp hp=> ?_),trivial,λp hp=> ?_⟩
 ·rw[List.mem_singleton.mp hp];exact hg
 ·have hp:p∈jk (dm (af (-1) ns) (λk=>ρ (k+4))):=hp
  obtain⟨h6,h7,_⟩:=hf2 p hp
  refine⟨h6,?_,λhm=>h7 ?_⟩
  ·obtain⟨e,he,rfl⟩:=List.mem_map.mp hp
   have:=hP e he
   show s.heap.objs.size≤e.pt
   lia
  ·have hm:p.1∈[s1.heap.objs.size]:=hm
   rw[List.mem_singleton.mp hm]
   exact .tail _ (.head _)
noncomputable def nU:Array Nat:=#[100,114,97,119,110]
noncomputable def f5:Array Nat:=#[114,111,119]
noncomputable def fb(P:Params)(fr cD:Addr):Env:=f6 (aU P 223) 223 fr [(nm nU,cD)]
noncomputable def C2(P:Params):Expr:=jF (aA (aU P 223)) 4
noncomputable def Ag(P:Params)(fr cD C I acc:Addr):Code:= .compLoop (C2 P) 0 (.ref I) (.ref acc) (compEnvC (aT (C2 P)) [] C (fb P fr cD))
noncomputable def xS(P:Params)(fr cD C I acc:Addr):Code:= .compStart (C2 P) 0 (.ref I) (.ref acc) (compEnvC (aT (C2 P)) [] C (fb P fr cD))
noncomputable def EC(P:Params)(b1 b2:Bool)(n t fr cD C I acc a:Nat)(first:Bool)(κ:Nat)(v:Value)(j:Nat)(ls:List Value)(ep:Nat)(out:List Value)(eq:Nat)(x:Str)(tx:Nat)(sb:Nat)(sn snt:Int)(sl:Nat)(sc:Nat→Int):bu:=
 ap P b1 b2 (Ag P fr cD C I acc) (fL P C I a acc (bk first f5 κ v) (aj a j) ls ep out eq) n t
 (.hook [2] 0 (a8 I a j ls ep (.str x tx) [1,2]) λρ=> .hook [1,1,0,1,0,0,0,0,0,0,0,0,0,0,0,0,0,0,0,0,0,0,0,0,0,0,0,0,0,0,0,0,0,0,6,0,6,0,0,0,0] 2 (iH P (ρ 0+1) (ρ 0) x tx ⟨sb,sn,snt,sl,sc⟩ [5,4]) λρ1=> .hook [] 0 (a5 acc out eq (.ref (ρ 0+1)) [3]) λρ2=>
  .again [] (Ag P fr cD C I acc) [0,1,2,3,5,4,6,7] (fL P C I a acc [(f5,ao first κ (ρ 1),.str x tx)] (aj a (j+1)) ls ep (out++[.ref (ρ 0+1)]) (eq+1)++(mm (ρ 0+1) (ρ 0) (ρ1 2) (ρ1 3) (λi=>ρ1 (i+4)) x tx ⟨sb,sn,snt,sl,sc⟩).K P))
theorem Gv(P b1 n t fr cD C I acc a κ v j ls ep out eq x tx sb sn snt sl sc):Qk 400 λr=>ay λfirst b2=>r (EC P b1 b2 n t fr cD C I acc a first κ v j ls ep out eq x tx sb sn snt sl sc):=by unfold Qk;kernel_rfl!
theorem Gx(P:Params)(n t fr cD C I acc a:Nat)(T:aF)(j:Nat)(ls:List Value)(ep:Nat)(out:List Value)(eq:Nat):Qk 200 λr=>ay λb1 b2=>r ( ap P b1 b2 (Ag P fr cD C I acc) (fL P C I a acc T (aj a j) ls ep out eq) n t
 (.hook [2] 0 (cn I a j ls ep [1,2]) λρ=> .fin [6] (.ok .next) [0,1,2,3] (fL P C I a acc T (ba j) ls ep out eq))):=by unfold Qk;kernel_rfl!
theorem Gy(P:Params)(n t fr cD C I acc a:Nat)(ls:List Value)(ep:Nat):Qk 200 λr=>ay λb1 b2=>r ( ap P b1 b2 (xS P fr cD C I acc) (fL P C I a acc [] (aj a 0) ls ep [] 0) n t
 (.again (match b1 with|true=>[]|false=>[2,2,0,2,2]) (Ag P fr cD C I acc) [0,1,2,3] (fL P C I a acc [] (aj a 0) ls ep [] 0))):=by unfold Qk;kernel_rfl!
abbrev nF:=List (List Nat×Nat)
noncomputable def dY(rr:nF)(i:Nat):List Nat×Nat:=rr.getD i ([],0)
noncomputable def jj(rr:nF)(tx:Nat→Nat)(i:Nat):Value:= .str (aX ((dY rr i).1++[(dY rr i).2])) (tx i)
noncomputable def be(rr:nF)(tx:Nat→Nat):List Value:=(List.range rr.length).map (jj rr tx)
noncomputable def mo(f:Nat→Nat)(k:Nat):Nat:=if k<11 then f k else 0
noncomputable def bZ(rr:nF)(tx τ:Nat→Nat)(i:Nat):WS:=mm (τ (16*i)) (τ (16*i+1)) (τ (16*i+2)) (τ (16*i+3)) (mo λk=>τ (16*i+4+k)) (aX ((dY rr i).1++[(dY rr i).2])) (tx i) (bX (dY rr i).1)
noncomputable def en(rr:nF)(tx:Nat→Nat)(m:Nat)(τ:Nat→Nat):List WS:=(List.range m).map (bZ rr tx τ)
noncomputable def eE(τ:Nat→Nat)(m:Nat)(f:Nat→Nat)(k:Nat):Nat:=if k<16*m then τ k else f (k-16*m)
theorem jY{f g:Nat→Nat}(h:∀k,k<11→f k=g k):mo f=mo g:=by
 funext k
 unfold mo
 by_cases hk:k<11
 ·rw[if_pos hk,if_pos hk,h k hk]
 ·rw[if_neg hk,if_neg hk]
theorem v8(l:Nat)(c:Nat→Int)(f:Nat→Nat):pW l c (mo f)=pW l c f:=by
 match l with
 |0=>rfl
 |1=>rfl
 |2=>rfl
 |_+3=>rfl
theorem sv(P:Params)(a b c d:Nat)(f:Nat→Nat)(x:Str)(t:Nat)(S:da):(mm a b c d (mo f) x t S).K P=(mm a b c d f x t S).K P:=by
 unfold WS.K mm
 simp only[v8]
 rfl
theorem uP(rr:nF)(tx τ f:Nat→Nat){m i:Nat}(h:i<m):bZ rr tx (eE τ m f) i=bZ rr tx τ i:=by
 have e:∀k,k<16→eE τ m f (16*i+k)=τ (16*i+k):=λk hk=>by unfold eE;rw[if_pos (by lia)]
 unfold bZ
 rw[show eE τ m f (16*i)=τ (16*i) from e 0 (by decide),e 1 (by decide),e 2 (by decide),e 3 (by decide),jY (f:=λk=>eE τ m f (16*i+4+k)) (g:=λk=>τ (16*i+4+k)) λk hk=>by rw[Nat.add_assoc];exact e (4+k) (by lia)]
theorem uO(rr:nF)(tx τ f:Nat→Nat)(m:Nat):bZ rr tx (eE τ m f) m=mm (f 0) (f 1) (f 2) (f 3) (mo λk=>f (4+k)) (aX ((dY rr m).1++[(dY rr m).2])) (tx m) (bX (dY rr m).1):=by
 have e:∀k,eE τ m f (16*m+k)=f k:=λk=>by unfold eE;rw[if_neg (by lia)];congr 1;lia
 unfold bZ
 rw[show eE τ m f (16*m)=f 0 from e 0,e 1,e 2,e 3]
 congr 1
 exact jY λk O=>by rw[Nat.add_assoc];exact e (4+k)
theorem fh(rr:nF)(tx τ f:Nat→Nat)(m:Nat):en rr tx (m+1) (eE τ m f)=en rr tx m τ++[bZ rr tx (eE τ m f) m]:=by
 unfold en
 rw[List.range_succ,List.map_append]
 congr 1
 exact List.map_congr_left λi hi=>uP rr tx τ f (List.mem_range.mp hi)
theorem qO(P:Params)(ws:List WS)(x:WS):cy P (ws++[x])=cy P ws++x.K P:=by simp[cy]
theorem lh(P:Params)(ws:List WS):(cy P ws).map (·.1)=ws.flatMap cG:=by
 unfold cy
 rw[List.map_flatMap]
 congr 1
theorem i7(ws:List WS)(x:WS):ag (ws++[x])=ag ws++[.ref x.self]:=by simp[ag]
noncomputable def slots(a b c d:Nat)(g:Nat→Nat):Nat→Nat
 |0=>a
 |1=>b
 |2=>c
 |3=>d
 |k+4=>g k
theorem vu{V:Gw}(G:au V)(n0:Nat){fr cD C I acc a ep:Nat}{rr:nF}{tx:Nat→Nat}(hrr:∀p∈rr,p.2∈[40,91,123]∧no 0 p.1)(hsm:rr.length≤100){F:KL}:∀(r m:Nat) (first:Bool) (κ:Nat) (v:Value) (τ:Nat→Nat) (A:Around) (s:Shared),rr.length=m+r→n0≤s.heap.objs.size→(∀b∈(en rr tx m τ).flatMap cG,n0≤b)→((en rr tx m τ).flatMap cG).Nodup→(∀x∈en rr tx m τ,x.l<4)→Bd 3 A→
  At V (fL V.w.params C I a acc (bk first f5 κ v) (aj a m) (be rr tx) ep (ag (en rr tx m τ)) m) s→Fz V (F++cy V.w.params (en rr tx m τ)) (fL V.w.params C I a acc (bk first f5 κ v) (aj a m) (be rr tx) ep (ag (en rr tx m τ)) m) s→
  codeAny (model V.prog V.w) A (Ag V.w.params fr cD C I acc) (λres s'=>res= .ok .next∧∃τ' T',((r=0∧T'=bk first f5 κ v)∨∃κ',T'=[(f5,κ',jj rr tx (rr.length-1))])∧(∀b∈(en rr tx rr.length τ').flatMap cG,n0≤b)∧((en rr tx rr.length τ').flatMap cG).Nodup∧(∀x∈en rr tx rr.length τ',x.l<4)∧
   am V [C,I,a,acc] s (fL V.w.params C I a acc T' (ba rr.length) (be rr tx) ep (ag (en rr tx rr.length τ')) rr.length) s'∧Fz V (F++cy V.w.params (en rr tx rr.length τ')) (fL V.w.params C I a acc T' (ba rr.length) (be rr tx) ep (ag (en rr tx rr.length τ')) rr.length) s') s:=by
 intro r
 induction r with
 |zero=>
  intro m first κ v τ A s hm hn0 ha hnd hl hA hs hF
  rw[Nat.add_zero] at hm
  subst hm
  refine aR G hF (ad (Gx V.w.params s.heap.objs.size s.toks fr cD C I acc a (bk first f5 κ v) rr.length (be rr tx) ep (ag (en rr tx rr.length τ)) rr.length) (aC V) (aB V)) hA hs ?_
  exact ac (bq (L:=0) (by simp[be])) rfl rfl rfl λρ O O=>an rfl λs' hs' hf'=>⟨rfl,τ,_,.inl ⟨rfl,rfl⟩,ha,hnd,hl,hs',hf'⟩
 |succ r ih=>
  intro m first κ v τ A s hm hn0 ha hnd hl hA hs hF
  have hlt:m<rr.length:=by lia
  have hget:(be rr tx)[m]?=some (.str (aX ((dY rr m).1++[(dY rr m).2])) (tx m)):=by simp[be,hlt,jj]
  have hmem:dY rr m∈rr:=by
   have:dY rr m=rr[m]:=by unfold dY;rw[List.getD_eq_getElem?_getD,List.getElem?_eq_getElem hlt];rfl
   rw[this];exact List.getElem_mem _
  obtain⟨h1,h2⟩:=hrr _ hmem
  refine aR G hF (ad (Gv V.w.params (aC V) s.heap.objs.size s.toks fr cD C I acc a κ v m (be rr tx) ep (ag (en rr tx m τ)) m (aX ((dY rr m).1++[(dY rr m).2])) (tx m) (bX (dY rr m).1).b (bX (dY rr m).1).n (bX (dY rr m).1).nt (bX (dY rr m).1).l (bX (dY rr m).1).c) first (aB V)) hA hs ?_
  refine ac (aJ (L:=0) hget) rfl rfl rfl λρ O hρ=>ac (l:=2) (tD G h1 rfl h2) rfl rfl rfl λρ1 hl3 O=>ac (aM (L:=0) (by show _≤1000;simp[ag,en];lia)) rfl rfl rfl λρ2 O O=>ax rfl λs' hs' hf'=>⟨rfl,?_⟩
  let f:=slots (ρ 0+1) (ρ 0) (ρ1 2) (ρ1 3) (λi=>ρ1 (i+4))
  have ex:bZ rr tx (eE τ m f) m=mm (ρ 0+1) (ρ 0) (ρ1 2) (ρ1 3) (mo λi=>ρ1 (i+4)) (aX ((dY rr m).1++[(dY rr m).2])) (tx m) (bX (dY rr m).1):=by
   rw[uO]
   have:(λk=>f (4+k))=λi=>ρ1 (i+4):=by funext k;rw[Nat.add_comm];rfl
   rw[this];rfl
  have eK:(mm (ρ 0+1) (ρ 0) (ρ1 2) (ρ1 3) (λi=>ρ1 (i+4)) (aX ((dY rr m).1++[(dY rr m).2])) (tx m) (bX (dY rr m).1)).K V.w.params=(bZ rr tx (eE τ m f) m).K V.w.params:=by rw[ex,sv]
  have eS:(.ref (ρ 0+1):Value)= .ref (bZ rr tx (eE τ m f) m).self:=by rw[ex];rfl
  have hs2:am V [C,I,a,acc] s (fL V.w.params C I a acc [(f5,ao first κ (ρ 1),jj rr tx m)] (aj a (m+1)) (be rr tx) ep (ag (en rr tx (m+1) (eE τ m f))) (m+1)++(bZ rr tx (eE τ m f) m).K V.w.params) s':=by
   rw[←eK,fh,i7,←eS];exact hs'
  have hf2:Fz V (F++cy V.w.params (en rr tx m τ)) (fL V.w.params C I a acc [(f5,ao first κ (ρ 1),jj rr tx m)] (aj a (m+1)) (be rr tx) ep (ag (en rr tx (m+1) (eE τ m f))) (m+1)++(bZ rr tx (eE τ m f) m).K V.w.params) s':=by
   rw[←eK,fh,i7,←eS];exact hf'
  have hF2:=hf2.take hs2.at'
  rw[List.append_assoc,←qO,←fh] at hF2
  have hfresh:∀b∈cG (bZ rr tx (eE τ m f) m),b∉(en rr tx m τ).flatMap cG:=λb hb hb'=>by
   rw[←lh V.w.params] at hb'
   obtain⟨p,hp,rfl⟩:=List.mem_map.mp hb'
   refine(hf2 p (List.mem_append_right _ hp)).2.1 ?_
   rw[List.map_append,WS.K_fst]
   exact List.mem_append_right _ hb
  have hxn:(cG (bZ rr tx (eE τ m f) m)).Nodup:=by
   have:=hs2.at'.nodup
   rw[List.map_append,List.nodup_append,WS.K_fst] at this
   exact this.2.1
  have hge:∀b∈cG (bZ rr tx (eE τ m f) m),n0≤b:=λb hb=>by
   rw[ex] at hb
   obtain⟨_,h5,h6⟩:=hl3
   have h7:n0≤ρ 0:=Nat.le_trans hn0 hρ
   have hb:b∈[ρ 0+1,ρ 0,ρ1 2,ρ1 3]:=hb
   simp only[gV,List.not_mem_nil,or_false] at hb
   rcases hb with rfl|rfl|rfl|rfl<;>lia
  refine codeAny_mono (ih (m+1) false (ao first κ (ρ 1)) (jj rr tx m) (eE τ m f) A s' (by lia) (Nat.le_trans hn0 hs'.grow) ?_ ?_ ?_ hA hs2.keep.at' hF2) ?_
  ·intro b hb
   rw[fh,List.flatMap_append] at hb
   rcases List.mem_append.mp hb with hb|hb
   ·exact ha b hb
   ·exact hge b (by simpa using hb)
  ·rw[fh,List.flatMap_append,List.nodup_append]
   exact⟨hnd,by simpa using hxn,λb hb c hc e=>hfresh c (by simpa using hc) (e▸hb)⟩
  ·intro x hx
   rw[fh] at hx
   rcases List.mem_append.mp hx with hx|hx
   ·exact hl x hx
   ·rw[List.mem_singleton.mp hx,ex]
    have:=hl3.1
    show(bX (dY rr m).1).l<4
    lia
  ·rintro res s'' ⟨hr,τ',T',hT,h3,h4,h5,h6,h7⟩
   refine⟨hr,τ',T',.inr ?_,h3,h4,h5,hs2.keep.trans h6 (λb hb=> .inl hb),h7⟩
   rcases hT with⟨h8,h9⟩|h9
   ·subst h8
    have:m=rr.length-1:=by lia
    exact⟨_,this▸h9⟩
   ·exact h9
noncomputable def Dr(P:Params)(fr cD C I acc a ep:Nat)(rr:nF)(tx:Nat→Nat)(js:List Nat):aD:=
 ⟨xS P fr cD C I acc,js,fL P C I a acc [] (aj a 0) (be rr tx) ep [] 0,λO=> .ok .next,
  λρ=>(fL P C I a acc [(f5,ρ 2,jj rr tx (rr.length-1))] (ba rr.length) (be rr tx) ep (ag (en rr tx rr.length (λk=>ρ (k+3)))) rr.length).map (·.2),λO=>[]⟩
theorem B9{V:Gw}(G:au V){fr cD C I acc a ep:Nat}{rr:nF}{tx:Nat→Nat}(hrr:∀p∈rr,p.2∈[40,91,123]∧no 0 p.1∧(bX p.1).b≤5)(hsm:rr.length≤100)(hne:rr≠[]){js:List Nat}{F:KL}:
  aQ V 3 (Dr V.w.params fr cD C I acc a ep rr tx js) F (λρ=>cg (en rr tx rr.length (λk=>ρ (k+3)))∧∀b∈(en rr tx rr.length (λk=>ρ (k+3))).flatMap cG,I≤b) (λρ=>cy V.w.params (en rr tx rr.length (λk=>ρ (k+3)))):=by
 intro A s hA hs hf
 refine aR G hf (ad (Gy V.w.params s.heap.objs.size s.toks fr cD C I acc a (be rr tx) ep) (aC V) (aB V)) hA hs (ax rfl λs' hs' hf'=>⟨rfl,?_⟩)
 refine codeAny_mono (vu G s.heap.objs.size (λp hp=>⟨(hrr p hp).1,(hrr p hp).2.1⟩) hsm rr.length 0 true 0 .none (λO=>0) A s' (by lia) hs'.grow (λb hb=>by simp[en] at hb) (by simp[en]) (λx hx=>by simp[en] at hx) hA hs'.at' (by rw[show cy V.w.params (en rr tx 0 (λO=>0))=[] from rfl,List.append_nil];exact hf')) ?_
 rintro r s'' ⟨hr,τ,T',hT,h1,h2,h3,h4,h5⟩
 rcases hT with⟨h6,_⟩|⟨κ',rfl⟩
 ·exact absurd (List.length_eq_zero_iff.mp h6) hne
 have hE:=hs'.trans h4 (λb hb=> .inl hb)
 refine⟨a7 s''.heap.objs.size s''.toks (λj=>match j with|0=>κ'|k+1=>τ k),hr,aW (H:=Dr V.w.params fr cD C I acc a ep rr tx js) hE _ rfl rfl (λO hp=>nomatch hp),⟨⟨λx hx=>⟨h3 x hx,?_,?_⟩,h2⟩,λb hb=> ?_⟩,λp hp=> ?_⟩
 ·obtain⟨i,_,rfl⟩:=List.mem_map.mp hx
  exact Int.natCast_nonneg _
 ·obtain⟨i,hi,rfl⟩:=List.mem_map.mp hx
  have hlt:i<rr.length:=List.mem_range.mp hi
  have hmem:dY rr i∈rr:=by
   have:dY rr i=rr[i]:=by unfold dY;rw[List.getD_eq_getElem?_getD,List.getElem?_eq_getElem hlt];rfl
   rw[this];exact List.getElem_mem _
  have:=(hrr _ hmem).2.2
  show((bX (dY rr i).1).b:Int)≤5
  lia
 ·exact Nat.le_trans (Nat.le_of_lt (Heap.lt_size (hs.get (I,aj a 0) (.tail _ (.head _))))) (h1 b hb)
 ·have hp:p∈cy V.w.params (en rr tx rr.length τ):=hp
  refine⟨(h5 p (List.mem_append_right _ hp)).1,h1 p.1 ?_,λhm=>nomatch hm⟩
  rw[←lh V.w.params]
  exact List.mem_map_of_mem hp
noncomputable def oZ(e:Expr)(k:Nat):Expr:=match e with
 | .Call _ args _ _=>args[k]?.getD e
 |_=>e
noncomputable def wk(P:Params):Expr:=oZ (oZ (jF (aA (aU P 223)) 6) 0) 1
noncomputable def rJ(P:Params)(fr cD C:Addr):Env:=compEnvC (aT (wk P)) [] C (fb P fr cD)
noncomputable def Ii(P:Params)(fr cD C Zz acc:Addr):Code:= .compLoop (wk P) 0 (.ref Zz) (.ref acc) (rJ P fr cD C)
noncomputable def xR(P:Params)(fr cD C Zz acc:Addr):Code:= .compStart (wk P) 0 (.ref Zz) (.ref acc) (rJ P fr cD C)
noncomputable def Am(a b:Nat)(x y:Value):aF:=[(f5,a,x),(wB,b,y)]
noncomputable def nM(first:Bool)(a b:Nat)(x y:Value):aF:=match first with
 |true=>[]
 |false=>Am a b x y
noncomputable def Ep(P:Params)(b1 b2:Bool)(n t fr cD C acc Tt:Nat)(first:Bool)(ka kb:Nat)(va vb:Value)(out:List Value)(eq:Nat)(x:WS)(cs:List Nat)(tx:Nat)(ch:Nat):bu:=
 bf P b1 b2 (gN (bd (wk P)) (rJ P fr cD C) (.ref Tt) (gB (wk P)) (bx (wk P)) (.ref acc)) ([(C,bn P (nM first ka kb va vb)),(acc,aa out eq)]++[(Tt,al [.str (aX cs) tx,.ref x.self])]++x.K P) n t
 (.hook [3,3,3,0,3,8,8,0,8,8,8,3,8,8,8,0,8,8,8,3,8,8,8,0,8,8,8,3,8,8,10,1,1,1,1,1,1,4,0,0,0,0,4,0,0,0,4,4,0,5] 3 {aN (hY "str.__getitem__" (.str (aX cs) tx) (.int x.n (x.k 5))) (λρ=> .str (aX [ch]) (ρ 2)) with js:=[]} λρ=> .hook [] 0 (a5 acc out eq (.str (aX [ch]) (ρ 2)) [1]) λρ2=>
  .fin [] (.ok .next) [0,1,3,4,5,6] ([(C,bn P (Am (ao first ka t) (ao first kb (t+1)) (.str (aX cs) tx) (.ref x.self))),(acc,aa (out++[.str (aX [ch]) (ρ 2)]) (eq+1))]++x.K P))
theorem nc(P):iJ (wk P):=iQ (by kernel_rfl!)
theorem vZ(P):eN (bd (wk P))=true:=by kernel_rfl!
theorem FK(P n t fr cD C acc Tt ka kb va vb out eq x cs tx ch):Qk 400 λr=>co λfirst b1 b2=>r (Ep P b1 b2 n t fr cD C acc Tt first ka kb va vb out eq x cs tx ch):=by unfold Qk;kernel_rfl!
theorem FL(P:Params)(n t fr cD C acc Zz zt zk i1 i2 l g:Nat)(vs:List Value)(ep:Nat)(ps:List Value)(eg:Nat):Qk 200 λr=>ay λb1 b2=>r ( ap P b1 b2 (xR P fr cD C Zz acc) (bA Zz zt zk i1 i2 l g .none .none .none 0 vs ep ps eg++[(C,bn P []),(acc,aa [] 0)]) n t
 (.again (match b1 with|true=>[]|false=>[1,1,0,1,1]) (Ii P fr cD C Zz acc) [0,1,2,3,4,5,6,7,8] (bA Zz zt zk i1 i2 l g .none .none .none 0 vs ep ps eg++[(C,bn P []),(acc,aa [] 0)]))):=by unfold Qk;kernel_rfl!
theorem kT:∀(cs:List Nat) (S:da),(cs.foldl da.step S).n=S.n+cs.length
 |[],S=>by simp
 |c::cs,S=>by
  rw[List.foldl_cons,kT cs]
  have:(S.step c).n=S.n+1:=by unfold da.step;split<;>rfl
  rw[this,List.length_cons];lia
theorem Bc(cs:List Nat):(bX cs).n=cs.length:=by unfold bX;rw[kT];simp
theorem uV{V:Gw}(G:au V){fr cD C acc Zz zt zk i1 i2 l g ep eg:Nat}{rr:nF}{tx τ:Nat→Nat}(hL:cg (en rr tx rr.length τ))(hsm:rr.length≤100)(hcs:∀p∈rr,p.1.length≤100){F:KL}(hFw:∀p∈cy V.w.params (en rr tx rr.length τ),p∈F):
  ∀(r m:Nat) (first:Bool) (ka kb:Nat) (va vb za zb:Value) (st:List (List Nat×Nat)) (A:Around) (s:Shared),rr.length=m+r→st.length=m→Bd 3 A→
   At V (bA Zz zt zk i1 i2 l g .none za zb m (be rr tx) ep (ag (en rr tx rr.length τ)) eg++[(C,bn V.w.params (nM first ka kb va vb)),(acc,aa (cI st) m)]) s→
   Fz V F (bA Zz zt zk i1 i2 l g .none za zb m (be rr tx) ep (ag (en rr tx rr.length τ)) eg++[(C,bn V.w.params (nM first ka kb va vb)),(acc,aa (cI st) m)]) s→
   codeAny (model V.prog V.w) A (Ii V.w.params fr cD C Zz acc) (λres s'=>res= .ok .next∧E4 λst' T' za' zb'=>A3 (st'.map (·.1)=st.map (·.1)++(rr.drop m).map (λp=>[p.2])) ((r=0∧T'=nM first ka kb va vb∧za'=za∧zb'=zb)∨∃a b,T'=Am a b (jj rr tx (rr.length-1)) (.ref (bZ rr tx τ (rr.length-1)).self)∧za'=jj rr tx (rr.length-1)∧zb'= .ref (bZ rr tx τ (rr.length-1)).self) 
    (am V ([Zz,zt,zk,i1,i2,l,g]++[C,acc]) s (fP Zz zt zk i1 i2 l g .none za' zb' rr.length (be rr tx) ep (ag (en rr tx rr.length τ)) eg++[(C,bn V.w.params T'),(acc,aa (cI st') rr.length)]) s')) s:=by
 intro r
 induction r with
 |zero=>
  intro m first ka kb va vb za zb st A s hm hst hA hs hF
  rw[Nat.add_zero] at hm
  subst hm
  refine gH (nc _) (jO G (hA.weak (by decide)) hs hF (by simp[be]) λs' hE O=>⟨rfl,st,_,za,zb,by simp,.inl ⟨rfl,rfl,rfl,rfl⟩,hE⟩)
 |succ r ih=>
  intro m first ka kb va vb za zb st A s hm hst hA hs hF
  have hlt:m<rr.length:=by lia
  have hp:dY rr m=rr[m]:=by unfold dY;rw[List.getD_eq_getElem?_getD,List.getElem?_eq_getElem hlt];rfl
  have hmem:dY rr m∈rr:=by rw[hp];exact List.getElem_mem _
  have hget1:(be rr tx)[m]?=some (jj rr tx m):=by simp[be,hlt]
  have hget2:(ag (en rr tx rr.length τ))[m]?=some (.ref (bZ rr tx τ m).self):=by simp[ag,en,hlt]
  have hxm:bZ rr tx τ m∈en rr tx rr.length τ:=List.mem_map.mpr ⟨m,List.mem_range.mpr hlt,rfl⟩
  refine gH (nc _) (jN G (hA.weak (by decide)) (vZ _) hs hF hget1 hget2 λTt s1 hTt hE1 hF1=> ?_)
  have P1:(bA Zz zt zk i1 i2 l g .none (jj rr tx m) (.ref (bZ rr tx τ m).self) (m+1) (be rr tx) ep (ag (en rr tx rr.length τ)) eg++([(C,bn V.w.params (nM first ka kb va vb)),(acc,aa (cI st) m)]++[(Tt,al [jj rr tx m,.ref (bZ rr tx τ m).self])])).Perm
    (([(C,bn V.w.params (nM first ka kb va vb)),(acc,aa (cI st) m)]++[(Tt,al [jj rr tx m,.ref (bZ rr tx τ m).self])])++bA Zz zt zk i1 i2 l g .none (jj rr tx m) (.ref (bZ rr tx τ m).self) (m+1) (be rr tx) ep (ag (en rr tx rr.length τ)) eg):=List.perm_append_comm
  have hs2:=hE1.at'.perm P1
  have hF2:=hF1.perm P1
  have hTm:∀p∈(bZ rr tx τ m).K V.w.params,p∈F:=λp hp=>hFw p (fk hxm p hp)
  have hTn:(((bZ rr tx τ m).K V.w.params).map (·.1)).Nodup:=by rw[WS.K_fst];exact hL.one hxm
  have h0:=hs2.less.thaw hF2.less hTm hTn
  have hn:(bZ rr tx τ m).n=((dY rr m).1.length:Int):=Bc _
  have hg:∀t u,ai V 0 (aN (hY "str.__getitem__" (.str (aX ((dY rr m).1++[(dY rr m).2])) t) (.int (bZ rr tx τ m).n u)) λρ=> .str (aX [(dY rr m).2]) (ρ 2)) (λO=>True):=λt u=>by
   have:=hcs _ hmem
   rw[hn]
   exact vJ (by lia) (by lia) (by rw[Int.toNat_natCast];simp)
  refine aq G Fz.nil (bb (FK V.w.params s1.heap.objs.size s1.toks fr cD C acc Tt ka kb va vb (cI st) m (bZ rr tx τ m) ((dY rr m).1++[(dY rr m).2]) (tx m) (dY rr m).2) first (aC V) (aB V)) hA h0 ?_
  refine ae (hg _ _) rfl rfl rfl λρ O O=>ae (aM (L:=0) (by show _≤1000;simp[cI];lia)) rfl rfl rfl λρ2 O O=>aO rfl λs2 hs3=>⟨rfl,?_⟩
  obtain⟨E3,F3⟩:=gm hs2 hF2 hTm hTn hs3 (λp hp=> .inl (by rw[List.map_append];exact List.mem_append_left _ (List.mem_map_of_mem (f:=(·.1)) hp)))
  have er:cI st++[.str (aX [(dY rr m).2]) (ρ 2)]=cI (st++[([(dY rr m).2],ρ 2)]):=by simp[cI]
  rw[er] at E3 F3
  have E4:=E3.perm List.perm_append_comm
  have F4:=F3.perm (List.perm_append_comm)
  have hw1:∀q∈(([(C,bn V.w.params (nM first ka kb va vb)),(acc,aa (cI st) m)]++[(Tt,al [jj rr tx m,.ref (bZ rr tx τ m).self])])++bA Zz zt zk i1 i2 l g .none (jj rr tx m) (.ref (bZ rr tx τ m).self) (m+1) (be rr tx) ep (ag (en rr tx rr.length τ)) eg).map (·.1),q∈[Zz,zt,zk,i1,i2,l,g]++[C,acc]∨s.heap.objs.size≤q:=λq hq=>by
   rw[List.map_append,List.map_append] at hq
   rcases List.mem_append.mp hq with hq|hq
   ·rcases List.mem_append.mp hq with hq|hq
    ·exact .inl (List.mem_append_right _ hq)
    ·exact .inr (by rw[List.mem_singleton.mp hq];exact hTt)
   ·exact .inl (List.mem_append_left _ hq)
  have E5:am V ([Zz,zt,zk,i1,i2,l,g]++[C,acc]) s _ s2:=
   ⟨E4.at',λb o hb hbw=>E4.pres b o (hE1.pres b o hb (λhm=>hbw hm)) (λhm=>(hw1 b hm).elim hbw λhh=>absurd (Heap.lt_size hb) (Nat.not_lt.mpr hh)),Nat.le_trans hE1.grow E4.grow⟩
  refine codeAny_mono (ih (m+1) false _ _ _ _ (jj rr tx m) (.ref (bZ rr tx τ m).self) (st++[([(dY rr m).2],ρ 2)]) A s2 (by lia) (by simp[hst]) hA E4.at' F4) ?_
  rintro res s3 ⟨hr,st',T',za',zb',h1,hT,h2⟩
  refine⟨hr,st',T',za',zb',?_,.inr ?_,E5.trans h2 (λb hb=> .inl hb)⟩
  ·rw[h1,List.drop_eq_getElem_cons hlt,List.map_cons,←hp,List.map_append,List.append_assoc];rfl
  ·rcases hT with⟨h3,h4,h5,h6⟩|h3
   ·subst h3
    have:m=rr.length-1:=by lia
    rw[←this]
    exact⟨_,_,h4,h5,h6⟩
   ·exact h3
noncomputable def Dg(P:Params)(fr cD C acc Zz zt zk i1 i2 l g ep eg:Nat)(rr:nF)(tx τ:Nat→Nat)(js:List Nat):aD:=
 ⟨xR P fr cD C Zz acc,js,bA Zz zt zk i1 i2 l g .none .none .none 0 (be rr tx) ep (ag (en rr tx rr.length τ)) eg++[(C,bn P []),(acc,aa [] 0)],λO=> .ok .next,
  λρ=>(fP Zz zt zk i1 i2 l g .none (jj rr tx (rr.length-1)) (.ref (bZ rr tx τ (rr.length-1)).self) rr.length (be rr tx) ep (ag (en rr tx rr.length τ)) eg++[(C,bn P (Am (ρ 2) (ρ 3) (jj rr tx (rr.length-1)) (.ref (bZ rr tx τ (rr.length-1)).self))),(acc,aa (dc (rr.map λp=>[p.2]) (λi=>ρ (i+4))) rr.length)]).map (·.2),λO=>[]⟩
theorem B3{V:Gw}(G:au V){fr cD C acc Zz zt zk i1 i2 l g ep eg:Nat}{rr:nF}{tx τ:Nat→Nat}(hL:cg (en rr tx rr.length τ))(hsm:rr.length≤100)(hne:rr≠[])(hcs:∀p∈rr,p.1.length≤100){F:KL}(hFw:∀p∈cy V.w.params (en rr tx rr.length τ),p∈F){js:List Nat}:
  aQ V 3 (Dg V.w.params fr cD C acc Zz zt zk i1 i2 l g ep eg rr tx τ js) F (λO=>True) (λO=>[]):=by
 intro A s hA hs hf
 refine aR G hf (ad (FL V.w.params s.heap.objs.size s.toks fr cD C acc Zz zt zk i1 i2 l g (be rr tx) ep (ag (en rr tx rr.length τ)) eg) (aC V) (aB V)) hA hs (ax rfl λs' hs' hf'=>⟨rfl,?_⟩)
 refine codeAny_mono (uV G hL hsm hcs hFw rr.length 0 true 0 0 .none .none .none .none [] A s' (by lia) rfl hA hs'.at' hf') ?_
 rintro r s'' ⟨hr,st',T',za',zb',h1,hT,hE⟩
 rcases hT with⟨h6,_⟩|⟨a,b,rfl,rfl,rfl⟩
 ·exact absurd (List.length_eq_zero_iff.mp h6) hne
 have hE2:=hs'.trans hE (λb hb=> .inl hb)
 rw[List.drop_zero,List.map_nil,List.nil_append] at h1
 rw[pd,h1] at hE2
 exact⟨a7 s''.heap.objs.size s''.toks (λj=>match j with|0=>a|1=>b|k+2=>(st'.getD k ([],0)).2),hr,aW (H:=Dg V.w.params fr cD C acc Zz zt zk i1 i2 l g ep eg rr tx τ js) hE2 _ rfl rfl (λO hp=>nomatch hp),trivial,λO hp=>nomatch hp⟩
noncomputable def aG(d:Addr)(vs:List Value)(ep:Nat):Obj:={cls:= .ref 99,dict:=some d,data:= .seq ⟨vs⟩ ep}
theorem sW:("list.__new__".splitOn ".__new__").headD ""="list":=owner_list_new
noncomputable def oe(t:Nat):aD:=⟨.call (.builtin "list.__new__") ⟨[.ref 99,.int 0 t],[]⟩,[],[],λρ=> .ok (.ret (.ref (ρ 3))),λO=>[],λρ=>[(ρ 2,{cls:= .type "dict",data:= .dict #[]}),(ρ 3,aG (ρ 2) [] 0)]⟩
theorem Hv(P:Params)(b1:Bool)(n t0 t:Nat):Qk 60 λr=>fT λb2=>r (ap P b1 b2 (.call (.builtin "list.__new__") ⟨[.ref 99,.int 0 t],[]⟩) [] n t0 (.again [0,0,0,0,0,0,0] (.builtin "list.__new__" ⟨[.ref 99,.int 0 t],[]⟩) [] [])):=by unfold Qk;kernel_rfl!
noncomputable def lL:=ZFast.zw10380811246957099773
theorem jZ:isType=lL:=by unfold lL;exact ZFast.ze10380811246957099773
noncomputable def j3:=ZFast.zw16098473122060591676
theorem kE:isSubtype=j3:=by unfold j3;exact ZFast.ze16098473122060591676
theorem tS{V:Gw}(G:au V){t:Nat}:ai V 1 (oe t) (λO=>True):=by
 intro A s hA hs
 refine bc G (a6 (Hv V.w.params (aC V) s.heap.objs.size s.toks t) (aB V)) hA hs (aE rfl λs1 hs1=>⟨plainId_quiet F.plain_list_new _,?_⟩)
 refine codeAny_builtin_stack F.entry_list_new rfl λp st=> ?_
 rw[Around.under_plainId F.plain_list_new _]
 simp only[sW]
 rw[jZ,kE]
 refine aq (f:=200) (L:=0) (K:=[]) (F:=[]) (scr:= .fin [0,0,0] (.ok (.ret (.ref (s1.heap.objs.size+1)))) [0,1] [(s1.heap.objs.size,{cls:= .type "dict",data:= .dict #[]}),(s1.heap.objs.size+1,aG s1.heap.objs.size [] 0)]) G Fz.nil ?_ hA.in1 hs1.at' (an rfl λs2 hs2 O=> ?_)
 ·kernel_rfl!
 ·have E:=hs1.trans hs2 (λO h=>nomatch h)
  have hg:=hs1.grow
  exact⟨a7 _ _ (λk=>match k with|0=>s1.heap.objs.size|_=>s1.heap.objs.size+1),rfl,aW (H:=oe t) E _ rfl rfl (λp hp=>by
   rcases e6 hp with rfl|hp
   ·exact hg
   ·rw[List.mem_singleton.mp hp];exact Nat.le_succ_of_le hg),trivial⟩
noncomputable def rV:Array Nat:=#[95,95,99,108,97,115,115,95,95]
noncomputable def eJ:Array Nat:=#[95,105,110,105,116,105,97,108,95,115,105,122,101]
noncomputable def nT:Array Nat:=#[105,110,105,116,105,97,108,95,115,105,122,101]
noncomputable def bz(P:Params)(fr:Addr):Env:=f6 (aU P 38) 38 fr [(nm rV,25)]
noncomputable def km(sts:List Stmt)(k:Nat):Stmt:=sts[k]?.getD (.Pass ⟨0,0,0,0⟩)
noncomputable def zC:Stmt→Expr
 | .Expr e _=>e
 |_=> .Constant .none 0 ⟨0,0,0,0⟩
noncomputable def bI:Expr→Pos
 | .Call (.Attribute _ _ p) _ _ _=>p
 |_=>⟨0,0,0,0⟩
noncomputable def aZ:Expr→Pos
 | .Call _ _ _ p=>p
 |_=>⟨0,0,0,0⟩
noncomputable def wy:Stmt→Pos
 | .Expr _ p=>p
 |_=>⟨0,0,0,0⟩
noncomputable def cS:Expr→Expr
 | .Call (.Attribute o _ _) _ _ _=>o
 |e=>e
noncomputable def jp:Expr→Pos
 | .Call (.Name _ p) _ _ _=>p
 |_=>⟨0,0,0,0⟩
noncomputable def nu(P:Params)(fr a d:Addr)(k0 k1 t:Nat)(T:aF)(vs:List Value)(ep:Nat):KL:=
 [(fr,cY P [(b4,k0,.ref a),(nT,k1,.int 0 t)]),(a,aG d vs ep),(d,bn P T)]
noncomputable def pZ(x:Sem Value):Sem PySem.Fin:=x>>=λv=>pure (.done (.ret v))
noncomputable def xD(D x C:Addr):Obj:={cls:= .type "super",data:= .fields #[.ref D,.ref x,.ref C]}
noncomputable def eI(P:Params):Expr:=zC (km (aA (aU P 38)) 1)
noncomputable def wE(P:Params)(fr so:Addr):Sem Value:=standAt (bI (eI P)).atName>>=λO=>methodCall (cS (eI P)) "__init__" (bI (eI P)) (aZ (eI P)) (bz P fr) (.ref so) 0 (backTo (aZ (eI P)) (starEach [] (bz P fr))) (backToKw (aZ (eI P)) (keywordEach [] (bz P fr)))
theorem Jb(P:Params)(n t a d u:Nat):Qk 100 λr=>ay λb1 b2=>r (bK P b1 b2 38 [.ref a,.int 0 u] [(a,aG d [] 0),(d,bn P [])] n t [0,0,3,3,3,3] n [(nm rV,25)] [2,0,1] (nu P n a d t (t+1) u [] [] 0)):=by unfold Qk;kernel_rfl!
theorem Ja(P:Params)(n tt fr a d k0 k1 t:Nat):Qk 100 λr=>ay λb1 b2=>r ( bf P b1 b2 (gQ [km (aA (aU P 38)) 0] (bz P fr)) (nu P fr a d k0 k1 t [] [] 0) n tt (.fin [1,1,2,0,0,0,0,2,0,2,0,2,0,0,0,2,0,3,3,3] (.ok .next) [0,1,2] (nu P fr a d k0 k1 t [(eJ,tt+1,.int 0 t)] [] 0))):=by unfold Qk;kernel_rfl!
theorem I9(P:Params)(n tt fr a d k0 k1 t:Nat)(T:aF):Qk 100 λr=>ay λb1 b2=>r ( bf P b1 b2 (pZ (loadName (bz P fr) "super")) (nu P fr a d k0 k1 t T [] 0) n tt (.fin [0,0] (.ok (.ret (.type "super"))) [0,1,2] (nu P fr a d k0 k1 t T [] 0))):=by unfold Qk;kernel_rfl!
theorem I8(P:Params)(n tt fr a d k0 k1 t:Nat)(T:aF):Qk 100 λr=>ay λb1 b2=>r ( bf P b1 b2 (pZ (loadName (bz P fr) "__class__")) (nu P fr a d k0 k1 t T [] 0) n tt (.fin [0] (.ok (.ret (.ref 99))) [0,1,2] (nu P fr a d k0 k1 t T [] 0))):=by unfold Qk;kernel_rfl!
theorem I7(P:Params)(n tt fr a d k0 k1 t:Nat)(T:aF):Qk 100 λr=>ay λb1 b2=>r ( bf P b1 b2 (pZ (loadName (bz P fr) (nm b4))) (nu P fr a d k0 k1 t T [] 0) n tt (.fin [1] (.ok (.ret (.ref a))) [0,1,2] (nu P fr a d k0 k1 t T [] 0))):=by unfold Qk;kernel_rfl!
theorem I6(P:Params)(n tt fr a d k0 k1 t:Nat)(T:aF):Qk 100 λr=>ay λb1 b2=>r ( bf P b1 b2 (lL (.ref 99)>>=λb=>pure (.done (.ret (.bool b)))) (nu P fr a d k0 k1 t T [] 0) n tt (.fin [0] (.ok (.ret (.bool true))) [0,1,2] (nu P fr a d k0 k1 t T [] 0))):=by unfold Qk;kernel_rfl!
theorem I5(P:Params)(n tt fr a d k0 k1 t:Nat)(T:aF):Qk 100 λr=>ay λb1 b2=>r ( bf P b1 b2 (w9 (.type "super") [.ref 99,.ref a]) (nu P fr a d k0 k1 t T [] 0) n tt (.fin [0,0,0,4,4,0,4,0,2,2,0,4,4,4,4,4,4] (.ok (.ret (.ref n))) [0,1,2,3] (nu P fr a d k0 k1 t T [] 0++[(n,xD 99 a 99)]))):=by unfold Qk;kernel_rfl!
theorem I4(P:Params)(n tt fr x d k0 k1 t so:Nat)(T:aF):Qk 200 λr=>ay λb1 b2=>r ( bf P b1 b2 (pZ (wE P fr so)) (nu P fr (x+100) d k0 k1 t T [] 0++[(so,xD 99 (x+100) 99)]) n tt (.fin [4,4,0,4,4,4,4,0,0,0,2,0,5,0,5,2,2,2,2] (.ok (.ret .none)) [0,1,2] (nu P fr (x+100) d k0 k1 t T [] 0))):=by unfold Qk;kernel_rfl!
theorem zO(P):aA (aU P 38)=[km (aA (aU P 38)) 0,.Expr (.Call (.Attribute (.Call (.Name "super" (jp (cS (eI P)))) [] [] (aZ (cS (eI P)))) "__init__" (bI (eI P))) [] [] (aZ (eI P))) (wy (km (aA (aU P 38)) 1))]:=by kernel_rfl!
theorem Bp(P):cS (eI P)= .Call (.Name "super" (jp (cS (eI P)))) [] [] (aZ (cS (eI P))):=by kernel_rfl!
theorem HL(P):d4 P 38=true:=by kernel_rfl!
theorem Eb(P fr):(bz P fr).kindOf "super"=some .globalImplicit:=by kernel_rfl!
theorem Ec(P fr):(bz P fr).kindOf "__class__"=some .free:=by kernel_rfl!
theorem Fk(P):(((aU P 38).params.posonlyargs++(aU P 38).params.args).head?).map (·.arg)=some (nm b4):=by kernel_rfl!
theorem kF{prog:Program}{w:World}{A:Around}{st:Stmt}{env:Env}{X:Shared→Prop}{s:Shared}(h:wpAny (model prog w) A (execs [st] env) (λf s'=>f= .next∧X s') No s):wpAny (model prog w) A (exec st env) (λf s'=>f= .next∧X s') No s:=λΓ p hΓ=>by
 have z:=h Γ p hΓ
 rw[execs_cons,Sem.wp_bind'] at z
 refine Sem.wp_mono _ Γ _ (λf p' s' h'=> ?_) (λO O O x=>x) _ _ z
 cases f with
 |next=>exact h'
 |_=>exact h'
noncomputable def bN(P:Params)(a:Addr):Addr:=match(aU P a).code with
 | .ref c=>c
 |_=>0
noncomputable def bC(P:Params)(a:Addr):Obj:=((ck P).get a).getD {cls:= .none}
noncomputable def jM(o:Obj):Array Value:=match o.data with
 | .fields vs=>vs
 |_=>#[]
noncomputable def wU(vs:Array Value):Str:=match(vs[2]?:Option Value) with
 |some (.str f _)=>f
 |_=>⟨#[]⟩
noncomputable def zA(vs:Array Value):Nat:=match(vs[2]?:Option Value) with
 |some (.str _ t)=>t
 |_=>0
theorem zL(P):(aU P 38).code= .ref (bN P 38):=by kernel_rfl!
theorem D6(P):(ck P).get (bN P 38)=some (bC P (bN P 38)):=by kernel_rfl!
theorem D5(P):(bC P (bN P 38)).data= .fields (jM (bC P (bN P 38))):=by kernel_rfl!
theorem D4(P):(jM (bC P (bN P 38)))[2]?=some (.str (wU (jM (bC P (bN P 38)))) (zA (jM (bC P (bN P 38))))):=by kernel_rfl!
theorem zB(P):((PySem.Challenge.pw_ti0049_01.main.file:Str)==wU (jM (bC P (bN P 38))))=true:=by kernel_rfl!
theorem Bl:(PySem.Challenge.pw_ti0049_01.main.scope.names.lookup ("super":Str)).isSome=false:=by kernel_rfl!
theorem D7(P):(ck P).get 38=some (bC P 38):=by kernel_rfl!
theorem BO(P):(ck P).get 189=some (bC P 189):=by kernel_rfl!
theorem BN(P):(bC P 38).data= .func (aU P 38):=by kernel_rfl!
noncomputable def gE(P:Params)(a d u:Nat)(js:List Nat):aD:=⟨.call (.ref 38) ⟨[.ref a,.int 0 u],[]⟩,js,[(a,aG d [] 0),(d,bn P [])],λO=> .ok (.ret .none),λρ=>[aG d [] 0,bn P [(eJ,ρ 2,.int 0 u)]],λO=>[]⟩
theorem uQ{M:Model}{A:Around}{c:Code}{α:Type}{t:Sem α}{Q:α→Shared→Prop}{E:Value→Shared→Prop}{s:Shared}(h:PySem.wpAt M A c t Q No s):PySem.wpAt M A c t Q E s:=ks_wpAt_mono h (λO O x=>x) λO O x=>x.elim
theorem B0(P fr):interactive (bz P fr)=false:=by kernel_rfl!
noncomputable abbrev p0 (P:Params):Expr:= .Call (.Name "super" (jp (cS (eI P)))) [] [] (aZ (cS (eI P)))
theorem qH{V:Gw}(G:au V){a d u:Nat}{js:List Nat}(h100:100≤a):ai V 2 (gE V.w.params a d u js) (λO=>True):=by
 obtain⟨x,rfl⟩:∃x,a=x+100:=⟨a-100,(Nat.sub_add_cancel h100).symm⟩
 intro A s hA h
 refine jB G hA (HL _) h (ad (Jb V.w.params s.heap.objs.size s.toks (x+100) d u) (aC V) (aB V)) (aS rfl) λs1 hs1=> ?_
 show codeAny _ A (.func (aA (aU V.w.params 38)) (bz V.w.params s.heap.objs.size)) _ s1
 refine ks_codeAny_funcAt ?_
 have hA2:Bd 1 (A.deeper (bz V.w.params s.heap.objs.size)):=hA.deeper _
 generalize A.deeper (bz V.w.params s.heap.objs.size)=A' at hA2⊢
 refine uQ ?_
 have hbody:∀c:Code,c= .func (aA (aU V.w.params 38)) (bz V.w.params s.heap.objs.size)→PySem.wpAt (model V.prog V.w) A' c (execs (aA (aU V.w.params 38)) (bz V.w.params s.heap.objs.size)) (λf s'=>f= .next∧bO V (gE V.w.params (x+100) d u js) (λO=>True) s (.ok (.ret .none)) s') No s1:=by
  intro c hc
  rw[zO]
  refine ks_wpAt_execs_cons (PySem.wpAt_of_wpAny ?_)
  refine wpAny_mono (kF (X:=λs'=>PySem.wpAt (model V.prog V.w) A' c (execs [.Expr (.Call (.Attribute (.Call (.Name "super" (jp (cS (eI V.w.params)))) [] [] (aZ (cS (eI V.w.params)))) "__init__" (bI (eI V.w.params))) [] [] (aZ (eI V.w.params))) (wy (km (aA (aU V.w.params 38)) 1))] (bz V.w.params s.heap.objs.size)) (λf s'=>f= .next∧bO V (gE V.w.params (x+100) d u js) (λO=>True) s (.ok (.ret .none)) s') No s') ?_) (λf s' hf=> ?_) (λO O x=>x)
  ·refine eh (aq G Fz.nil (ad (Ja V.w.params s1.heap.objs.size s1.toks s.heap.objs.size (x+100) d s.toks (s.toks+1) u) (aC V) (aB V)) hA2 hs1.at' (an rfl λs2 hs2 O=> ?_))
   refine⟨rfl,?_⟩
   subst hc
   refine ks_wpAt_execs_cons (ks_wpAt_Expr_any ?_ (B0 _ _) rfl)
   have he:eval (.Call (.Attribute (p0 V.w.params) "__init__" (bI (eI V.w.params))) [] [] (aZ (eI V.w.params))) (bz V.w.params s.heap.objs.size)=(attributeBase (p0 V.w.params) "__init__" (bz V.w.params s.heap.objs.size) (eval (p0 V.w.params) (bz V.w.params s.heap.objs.size))>>=λov=>
    standAt (bI (eI V.w.params)).atName>>=λO=>methodCall (p0 V.w.params) "__init__" (bI (eI V.w.params)) (aZ (eI V.w.params)) (bz V.w.params s.heap.objs.size) ov 0 (backTo (aZ (eI V.w.params)) (starEach [] (bz V.w.params s.heap.objs.size))) (backToKw (aZ (eI V.w.params)) (keywordEach [] (bz V.w.params s.heap.objs.size)))):=rfl
   rw[he]
   refine PySem.wpAt_bind ?_
   obtain⟨ar,har,hn⟩:∃ar,((aU V.w.params 38).params.posonlyargs++(aU V.w.params 38).params.args).head?=some ar∧ar.arg=nm b4:=by
    have:=Fk V.w.params
    cases hh:((aU V.w.params 38).params.posonlyargs++(aU V.w.params 38).params.args).head? with
    |none=>rw[hh] at this;cases this
    |some ar=>rw[hh] at this;exact⟨ar,rfl,Option.some.inj this⟩
   have hget:∀b o,(ck V.w.params).get b=some o→s2.heap.get? b=some o:=λb o hb=>hs2.at'.base.old b o (G.kt b o hb).1 (G.kt b o hb).2
   refine ks_wpAt_super_base (Eb _ _) (Ec _ _) (by decide) rfl (hget 38 _ (D7 _)) (BN _) har (zL _) (hget _ _ (D6 _)) (D5 _) (D4 _) (by rw[G.prog];exact zB _) (by rw[G.prog];exact Bl) ?_
   refine cC (aq G Fz.nil (ad (I9 V.w.params s2.heap.objs.size s2.toks s.heap.objs.size (x+100) d s.toks (s.toks+1) u [(eJ,s1.toks+1,.int 0 u)]) (aC V) (aB V)) hA2 hs2.at' (an rfl λs3 hs3 O=>⟨rfl,?_⟩))
   refine cC (aq G Fz.nil (ad (I8 V.w.params s3.heap.objs.size s3.toks s.heap.objs.size (x+100) d s.toks (s.toks+1) u [(eJ,s1.toks+1,.int 0 u)]) (aC V) (aB V)) hA2 hs3.at' (an rfl λs4 hs4 O=> ?_))
   rw[hn]
   refine cC (aq G Fz.nil (ad (I7 V.w.params s4.heap.objs.size s4.toks s.heap.objs.size (x+100) d s.toks (s.toks+1) u [(eJ,s1.toks+1,.int 0 u)]) (aC V) (aB V)) hA2 hs4.at' (an rfl λs5 hs5 O=> ?_))
   refine ip (enc:=λb=> .ret (.bool b)) (R:=λf s'=>match f with| .done (.ret (.bool b))=>b=true∧wpAny (model V.prog V.w) A' (call (.type "super") [.ref 99,.ref (x+100)]) (λov s'=>PySem.wpAt (model V.prog V.w) A' (.func (aA (aU V.w.params 38)) (bz V.w.params s.heap.objs.size)) (standAt (bI (eI V.w.params)).atName>>=λO=>methodCall (p0 V.w.params) "__init__" (bI (eI V.w.params)) (aZ (eI V.w.params)) (bz V.w.params s.heap.objs.size) ov 0 (backTo (aZ (eI V.w.params)) (starEach [] (bz V.w.params s.heap.objs.size))) (backToKw (aZ (eI V.w.params)) (keywordEach [] (bz V.w.params s.heap.objs.size)))) _ No s') No s'|_=>False) (λb s' hb=>hb) ?_
   rw[jZ]
   refine aq G Fz.nil (ad (I6 V.w.params s5.heap.objs.size s5.toks s.heap.objs.size (x+100) d s.toks (s.toks+1) u [(eJ,s1.toks+1,.int 0 u)]) (aC V) (aB V)) hA2 hs5.at' (an rfl λs6 hs6 O=>⟨rfl,?_⟩)
   refine cC (aq G Fz.nil (ad (I5 V.w.params s6.heap.objs.size s6.toks s.heap.objs.size (x+100) d s.toks (s.toks+1) u [(eJ,s1.toks+1,.int 0 u)]) (aC V) (aB V)) hA2 hs6.at' (an rfl λs7 hs7 O=>PySem.wpAt_of_wpAny ?_))
   have hr:(standAt (bI (eI V.w.params)).atName>>=λO=>methodCall (p0 V.w.params) "__init__" (bI (eI V.w.params)) (aZ (eI V.w.params)) (bz V.w.params s.heap.objs.size) (.ref s6.heap.objs.size) 0 (backTo (aZ (eI V.w.params)) (starEach [] (bz V.w.params s.heap.objs.size))) (backToKw (aZ (eI V.w.params)) (keywordEach [] (bz V.w.params s.heap.objs.size))))=wE V.w.params s.heap.objs.size s6.heap.objs.size:=
    (congrArg (λo=>(standAt (bI (eI V.w.params)).atName>>=λO=>methodCall o "__init__" (bI (eI V.w.params)) (aZ (eI V.w.params)) (bz V.w.params s.heap.objs.size) (.ref s6.heap.objs.size) 0 (backTo (aZ (eI V.w.params)) (starEach [] (bz V.w.params s.heap.objs.size))) (backToKw (aZ (eI V.w.params)) (keywordEach [] (bz V.w.params s.heap.objs.size))))) (Bp V.w.params)).symm
   rw[hr]
   refine cC (aq G Fz.nil (ad (I4 V.w.params s7.heap.objs.size s7.toks s.heap.objs.size x d s.toks (s.toks+1) u s6.heap.objs.size [(eJ,s1.toks+1,.int 0 u)]) (aC V) (aB V)) hA2 hs7.at' (an rfl λs8 hs8 O=>PySem.wpAt_of_wpAny (wpAny_execs_nil ⟨rfl,?_⟩)))
   have hsup:∀q∈(nu V.w.params s.heap.objs.size (x+100) d s.toks (s.toks+1) u [(eJ,s1.toks+1,.int 0 u)] [] 0++[(s6.heap.objs.size,xD 99 (x+100) 99)]).map (·.1),q∈[s.heap.objs.size,x+100,d]∨s1.heap.objs.size≤q:=λq hq=>by
    rw[List.map_append] at hq
    rcases List.mem_append.mp hq with hq|hq
    ·exact .inl hq
    ·rw[List.mem_singleton.mp hq]
     exact .inr (Nat.le_trans hs2.grow (Nat.le_trans hs3.grow (Nat.le_trans hs4.grow (Nat.le_trans hs5.grow hs6.grow))))
   have E6:=hs2.trans (hs3.trans (hs4.trans (hs5.trans hs6 (λO h=> .inl h)) (λO h=> .inl h)) (λO h=> .inl h)) (λO h=> .inl h)
   have E7:=E6.trans hs7 (λO h=> .inl h)
   have E8:=E7.trans hs8 hsup
   have E:=hs1.trans E8 (λq hq=>by
    have hq:q∈[s.heap.objs.size,x+100,d]:=hq
    simp only[gV,List.not_mem_nil,or_false] at hq
    rcases hq with rfl|rfl|rfl
    ·exact .inr (Nat.le_refl _)
    ·exact .inl (.head _)
    ·exact .inl (.tail _ (.head _)))
   have E':am V ((gE V.w.params (x+100) d u js).K.map (·.1)) s [((x+100:Nat),aG d [] 0),(d,bn V.w.params [(eJ,s1.toks+1,.int 0 u)])] s8:=(E.perm (K':=[((x+100:Nat),aG d [] 0),(d,bn V.w.params [(eJ,s1.toks+1,.int 0 u)])]++[(s.heap.objs.size,cY V.w.params [(b4,s.toks,.ref (x+100)),(nT,s.toks+1,.int 0 u)])]) (List.perm_append_comm (l₁:=[(s.heap.objs.size,cY V.w.params [(b4,s.toks,.ref (x+100)),(nT,s.toks+1,.int 0 u)])]) (l₂:=[((x+100:Nat),aG d [] 0),(d,bn V.w.params [(eJ,s1.toks+1,.int 0 u)])]))).keep
   exact⟨a7 _ _ (λO=>s1.toks+1),rfl,aW (H:=gE V.w.params (x+100) d u js) E' (λO=>s1.toks+1) rfl rfl (λO hp=>nomatch hp),trivial⟩
  ·obtain⟨rfl,hx⟩:=hf
   exact hx
 refine ks_wpAt_mono (hbody _ rfl) (λf s' hf=> ?_) λO O x=>x
 obtain⟨rfl,hx⟩:=hf
 exact hx
theorem Jl(P:Params)(n tt a d:Nat)(vs:List Value)(ep:Nat)(x:Value):Qk 60 λr=>ay λb1 b2=>r ( ap P b1 b2 (.call (.builtin "list.append") ⟨[.ref a,x],[]⟩) [(a,aG d vs ep)] n tt (.again [1,0] (.builtin "list.append" ⟨[.ref a,x],[]⟩) [0] [(a,aG d vs ep)])):=by unfold Qk;kernel_rfl!
noncomputable def rO(a d:Nat)(vs:List Value)(ep:Nat)(x:Value)(js:List Nat):aD:=⟨.call (.builtin "list.append") ⟨[.ref a,x],[]⟩,js,[(a,aG d vs ep)],λO=> .ok (.ret .none),λO=>[aG d (vs++[x]) (ep+1)],λO=>[]⟩
theorem ni(d:Nat)(vs:List Value)(ep:Nat)(x:Value):Obj.mapSeq (λx_1=>x_1.push x) (aG d vs ep)=aG d (vs++[x]) (ep+1):=by
 have h1:(⟨vs⟩:Array Value).push x=⟨vs++[x]⟩:=by simp
 show Obj.mk _ _ (.seq ((⟨vs⟩:Array Value).push x) (if((⟨vs⟩:Array Value).push x).size==(⟨vs⟩:Array Value).size then ep else ep+1)) _=_
 have h2:(((⟨vs⟩:Array Value).push x).size==(⟨vs⟩:Array Value).size)=false:=by simp
 rw[h2,h1];rfl
theorem vS{V:Gw}(G:au V){a d ep:Nat}{vs:List Value}{x:Value}{js:List Nat}(hsm:aw vs.length):ai V 1 (rO a d vs ep x js) (λO=>True):=by
 intro A s hA hs
 refine bc G (ad (Jl V.w.params s.heap.objs.size s.toks a d vs ep x) (aC V) (aB V)) hA hs (aE rfl λs1 hs1=>⟨plainId_quiet (by decide+kernel) _,?_⟩)
 have ho:s1.heap.get? a=some (aG d vs ep):=hs1.at'.get (a,aG d vs ep) (.head _)
 refine codeAny_builtin F.entry_list_append ?_
 rw[Around.under_plainId (by decide+kernel) _]
 show wpAny _ _ (Builtin.List.listUpdate (.ref a) (·.push x)>>=λO=>ret .none) _ _ s1
 refine wpAny_bind ?_
 show wpAny _ _ (updateSeq a (·.push x)) _ _ s1
 refine wpAny_updateSeq (hz:=by show(⟨vs⟩:Array Value).size≤_;exact hsm.fits) (_hz':=by show((⟨vs⟩:Array Value).push x).size≤_;rw[Array.size_push];exact Nat.succ_le_succ hsm.fits) ho rfl (wpAny_pure ?_)
 have E:=hs1.at'.ends.upd (j:=0) (p:=(a,aG d vs ep)) (f:=Obj.mapSeq λx_1=>x_1.push x) Wr.self rfl (by rw[ni];rfl)
 have e:d3 [(a,aG d vs ep)] 0 (Obj.mapSeq λx_1=>x_1.push x)=[(a,aG d (vs++[x]) (ep+1))]:=by
  show [(a,Obj.mapSeq (λx_1=>x_1.push x) (aG d vs ep))]=_
  rw[ni]
 rw[e] at E
 have E2:=hs1.trans E (λO h=> .inl h)
 exact⟨a7 _ _ (λO=>0),rfl,aW (H:=rO a d vs ep x js) E2 (λO=>0) rfl rfl (λO hp=>nomatch hp),trivial⟩
noncomputable def kq:Array Nat:=#[102,119,115]
noncomputable def pe:Array Nat:=#[115,116,114,105,110,103]
noncomputable def b6(κ u:Nat)(z:Int):aF:=[(eJ,κ,.int z u)]
theorem FT(P:Params)(n tt a d κ z u:Nat)(vs:List Value)(ep:Nat)(y:Str)(ty:Nat):Qk 100 λr=>ay λb1 b2=>r ( bK P b1 b2 45 [.ref a,.str ⟨#[]⟩ u,.str y ty] [(a,aG d vs ep),(d,bn P (b6 κ z 0))] n tt [0,3,3,3,3,3,3] n [] [2,0,1] [(n,cY P [(b4,tt,.ref a),(kq,tt+1,.str ⟨#[]⟩ u),(pe,tt+2,.str y ty)]),(a,aG d vs ep),(d,bn P (b6 κ z 0))]):=by unfold Qk;kernel_rfl!
theorem FU(P:Params)(n n' tt tt' a d κ z u:Nat)(vs:List Value)(ep:Nat)(y:Str)(ty:Nat):Qk 300 λr=>ay λb1 b2=>r ( ap P b1 b2 (cc P 45 n []) [(n,cY P [(b4,tt,.ref a),(kq,tt+1,.str ⟨#[]⟩ u),(pe,tt+2,.str y ty)]),(a,aG d vs ep),(d,bn P (b6 κ z 0))] n' tt'
 (.hook [1,2,0,0,0,2,0,0,0,2,0,0,0,2,3,1,1] 1 (rO a d vs ep (.ref n') [1]) λρ=> .fin [] (.ok (.ret .none)) [1,2,3] [(a,aG d (vs++[.ref n']) (ep+1)),(d,bn P (b6 κ z 0)),(n',al [.str ⟨#[]⟩ u,.str y ty])])):=by unfold Qk;kernel_rfl!
theorem HK(P):d4 P 45=true:=by kernel_rfl!
noncomputable def oN(P:Params)(a d κ z u:Nat)(vs:List Value)(ep:Nat)(y:Str)(ty:Nat)(js:List Nat):aD:=
 ⟨.call (.ref 45) ⟨[.ref a,.str ⟨#[]⟩ u,.str y ty],[]⟩,js,[(a,aG d vs ep),(d,bn P (b6 κ z 0))],λO=> .ok (.ret .none),λρ=>[aG d (vs++[.ref (ρ 2)]) (ep+1),bn P (b6 κ z 0)],λρ=>[(ρ 2,al [.str ⟨#[]⟩ u,.str y ty])]⟩
theorem pG{V:Gw}(G:au V){a d κ z u ep ty:Nat}{vs:List Value}{y:Str}{js:List Nat}(hsm:aw vs.length):ai V 2 (oN V.w.params a d κ z u vs ep y ty js) (λO=>True):=by
 intro A s hA h
 refine jB G hA (HK _) h (ad (FT V.w.params s.heap.objs.size s.toks a d κ z u vs ep y ty) (aC V) (aB V)) (aS rfl) λs1 hs1=> ?_
 refine bc G (ad (FU V.w.params s.heap.objs.size s1.heap.objs.size s.toks s1.toks a d κ z u vs ep y ty) (aC V) (aB V)) hA hs1.at' ?_
 refine ae (vS G hsm) rfl rfl rfl λρ O O=>aO rfl λs2 hs2=> ?_
 have E:=hs1.trans hs2 (λq hq=>by
  have hq:q∈[s.heap.objs.size,a,d]:=hq
  simp only[gV,List.not_mem_nil,or_false] at hq
  rcases hq with rfl|rfl|rfl
  ·exact .inr (Nat.le_refl _)
  ·exact .inl (.head _)
  ·exact .inl (.tail _ (.head _)))
 exact⟨a7 _ _ (λO=>s1.heap.objs.size),rfl,aW (H:=oN V.w.params a d κ z u vs ep y ty js) E (λO=>s1.heap.objs.size) rfl rfl (λp hp=>by rw[List.mem_singleton.mp hp];exact hs1.grow),trivial⟩
noncomputable def lw:Array Nat:=#[115,105,103,110,115]
noncomputable def mR:Array Nat:=#[99,108,111,115,105,110,103]
noncomputable def bT:Array Nat:=#[97,104,101,97,100]
noncomputable def rU:Array Nat:=#[108,101,118,101,108]
noncomputable def i0:Array Nat:=#[115,105,103,110]
noncomputable def kS(P:Params)(fr:Addr):Env:=f6 (aU P 196) 196 fr []
noncomputable def xA(P:Params):Expr:=iR (aA (aU P 196)) 1
noncomputable def uH(P:Params):List Stmt:=eQ (aA (aU P 196)) 1
noncomputable def ri(P:Params):Expr:=iR (uH P) 0
noncomputable def uI(P:Params):List Stmt:=eQ (uH P) 0
noncomputable def AR(P:Params)(fr Zz:Addr):Code:= .forLoop (xA P) (.ref Zz) (uH P) [] (kS P fr)
noncomputable def xQ(P:Params)(fr Zz:Addr):Code:= .forLoop (ri P) (.ref Zz) (uI P) [] (kS P fr)
noncomputable def ur(P:Params)(t:Nat):List (Array Nat×Nat×Value):=[(#[40],t,.str ⟨#[41]⟩ (t+1)),(#[91],t+2,.str ⟨#[93]⟩ (t+3)),(#[123],t+4,.str ⟨#[125]⟩ (t+5))]
noncomputable def Ib(P:Params)(kk:Nat→Nat)(lv sg cd a ah le:Addr)(T:aF):Obj:=
 cY P ([(ci,kk 0,.ref lv),(lw,kk 1,.ref sg),(mR,kk 2,.ref cd),(f5,kk 3,.ref a),(bT,kk 4,.ref ah),(rU,kk 5,.ref le)]++T)
noncomputable def rg(a b:Nat)(x y:Value):aF:=[(bo,a,x),(i0,b,y)]
noncomputable def iF(first:Bool)(a b:Nat)(x y:Value):aF:=match first with
 |true=>[]
 |false=>rg a b x y
noncomputable def eX(P:Params)(fr:Addr)(kk:Nat→Nat)(lv sg cd a d ah le:Addr)(T:aF)(ct κ z:Nat)(vs:List Value)(ep:Nat)(As:List Value)(ea:Nat)(Ls:List Value)(el:Nat):KL:=
 [(fr,Ib P kk lv sg cd a ah le T),(a,aG d vs ep),(d,bn P (b6 κ z 0)),(cd,bn P (ur P ct)),(ah,aa As ea),(le,aa Ls el)]
noncomputable def Em(P:Params)(b1 b2:Bool)(n t fr:Nat)(kk:Nat→Nat)(lv sg cd a d ah le:Nat)(first:Bool)(ka kb:Nat)(va vb:Value)(ct κ z:Nat)(vs:List Value)(ep:Nat)(As:List Value)(ea:Nat)(Ls:List Value)(el:Nat)(Tt p pu:Nat)(y:Str)(ty:Nat):bu:=
 bf P b1 b2 (hV (ri P) (kS P fr) (.ref Tt) (uI P)) (eX P fr kk lv sg cd a d ah le (iF first ka kb va vb) ct κ z vs ep As ea Ls el++[(Tt,al [.int p pu,.str y ty])]) n t
 (.hook [7,7,7,0,7,8,8,0,8,8,8,7,8,8,8,0,8,8,8,7,8,8,8,0,8,8,8,7,8,8,10,1,1,1,1,1,1,5,5] 3 (jC ah As ea (.int p pu) false [4]) λρ=> .hook [1,1,6,6] 0 (jC le Ls el (.int p pu) false [5]) λρ1=>
  .fin [] (.ok .next) [0,1,2,3,4,5] (eX P fr kk lv sg cd a d ah le (rg (ao first ka t) (ao first kb (t+1)) (.int p pu) (.str y ty)) ct κ z vs ep As ea Ls el))
noncomputable def En(P:Params)(b1 b2:Bool)(n t fr:Nat)(kk:Nat→Nat)(lv sg cd a d ah le:Nat)(first:Bool)(ka kb:Nat)(va vb:Value)(ct κ z:Nat)(vs:List Value)(ep:Nat)(As:List Value)(ea:Nat)(Ls:List Value)(el:Nat)(Tt p pu:Nat)(y:Str)(ty:Nat):bu:=
 bf P b1 b2 (hV (ri P) (kS P fr) (.ref Tt) (uI P)) (eX P fr kk lv sg cd a d ah le (iF first ka kb va vb) ct κ z vs ep As ea Ls el++[(Tt,al [.int p pu,.str y ty])]) n t
 (.hook [7,7,7,0,7,8,8,0,8,8,8,7,8,8,8,0,8,8,8,7,8,8,8,0,8,8,8,7,8,8,10,1,1,1,1,1,1,5,5] 3 (jC ah As ea (.int p pu) false [4]) λρ=> .hook [1,1,6,6] 0 (jC le Ls el (.int p pu) true [5]) λρ1=> .hook [1,2,0,0,0,2,0,0,0,2,0,0,0,0,2,3,1,0] 0 (oN P a d κ z (ρ1 1) vs ep y ty [1,2]) λρ2=>
  .fin [] (.ok .next) [0,1,2,3,4,5,10] (eX P fr kk lv sg cd a d ah le (rg (ao first ka t) (ao first kb (t+1)) (.int p pu) (.str y ty)) ct κ z (vs++[.ref (ρ2 2)]) (ep+1) As ea Ls el++[(ρ2 2,al [.str ⟨#[]⟩ (ρ1 1),.str y ty])]))
noncomputable def w5(P:Params)(D:Nat)(l:List (Array Nat×Nat×Value))(k:Str)(u:Nat)(v:Value)(js:List Nat):aD:=iw (.call (.builtin "dict.__getitem__") ⟨[.ref D,.str k u],[]⟩) js [(D,bn P l)] λO=>v
noncomputable def Eo(P:Params)(b1 b2:Bool)(n t fr:Nat)(kk:Nat→Nat)(lv sg cd a d ah le:Nat)(first:Bool)(ka kb:Nat)(va vb:Value)(ct κ z:Nat)(vs:List Value)(ep:Nat)(As:List Value)(ea:Nat)(Ls:List Value)(el:Nat)(Tt p pu:Nat)(y:Str)(ty:Nat)(y':Str)(ty':Nat):bu:=
 bf P b1 b2 (hV (ri P) (kS P fr) (.ref Tt) (uI P)) (eX P fr kk lv sg cd a d ah le (iF first ka kb va vb) ct κ z vs ep As ea Ls el++[(Tt,al [.int p pu,.str y ty])]) n t
 (.hook [7,7,7,0,7,8,8,0,8,8,8,7,8,8,8,0,8,8,8,7,8,8,8,0,8,8,8,7,8,8,10,1,1,1,1,1,1,5,5] 3 (jC ah As ea (.int p pu) true [4]) λρ=> .hook [1,2,0,0,0,2,0,0,0,2,0,0,0,0,2,3,1,1,4,4,4] 0 (w5 P cd (ur P ct) y ty (.str y' ty') [3]) λρ1=> .hook [0] 0 (oN P a d κ z (ρ 1) vs ep y' ty' [1,2]) λρ2=>
  .fin [] (.ok .next) [0,1,2,3,4,5,10] (eX P fr kk lv sg cd a d ah le (rg (ao first ka t) (ao first kb (t+1)) (.int p pu) (.str y ty)) ct κ z (vs++[.ref (ρ2 2)]) (ep+1) As ea Ls el++[(ρ2 2,al [.str ⟨#[]⟩ (ρ 1),.str y' ty'])]))
theorem FC(P b1 n t fr kk lv sg cd a d ah le ka kb va vb ct κ z vs ep As ea Ls el Tt p pu y ty):Qk 400 λr=>ay λfirst b2=>r (Em P b1 b2 n t fr kk lv sg cd a d ah le first ka kb va vb ct κ z vs ep As ea Ls el Tt p pu y ty):=by unfold Qk;kernel_rfl!
theorem FD(P b1 n t fr kk lv sg cd a d ah le ka kb va vb ct κ z vs ep As ea Ls el Tt p pu y ty):Qk 400 λr=>ay λfirst b2=>r (En P b1 b2 n t fr kk lv sg cd a d ah le first ka kb va vb ct κ z vs ep As ea Ls el Tt p pu y ty):=by unfold Qk;kernel_rfl!
theorem FG(P b1 n t fr kk lv sg cd a d ah le ka kb va vb ct κ z vs ep As ea Ls el Tt p pu y ty y' ty'):Qk 400 λr=>ay λfirst b2=>r (Eo P b1 b2 n t fr kk lv sg cd a d ah le first ka kb va vb ct κ z vs ep As ea Ls el Tt p pu y ty y' ty'):=by unfold Qk;kernel_rfl!
noncomputable def xC(P:Params)(fr Zz it sg:Nat)(kk:Nat→Nat)(lv cd a d ah le:Nat)(first:Bool)(ka kb:Nat)(va vb:Value)(ct κ z:Nat)(vs:List Value)(ep:Nat)(As:List Value)(ea:Nat)(Ls:List Value)(el:Nat)(ss:List Value)(es:Nat)(T:br→aF)(VS:br→List Value)(m:Nat)(w:Value)(js:List Nat):aD:=
 ⟨xQ P fr Zz,js,eH Zz it sg .none .none 0 ss es++eX P fr kk lv sg cd a d ah le (iF first ka kb va vb) ct κ z vs ep As ea Ls el,λO=> .ok .next,
  λρ=>(gP Zz it sg .none w ss.length ss es++eX P fr kk lv sg cd a d ah le (T ρ) ct κ z (VS ρ) m As ea Ls el).map (·.2),λO=>[]⟩
noncomputable def kI(P:Params)(fr sg cd a d:Addr)(T:aF)(kk:Nat→Nat)(lv:Addr)(ct κ z:Nat)(vs:List Value)(ep:Nat)(ss:List Value)(es:Nat):KL:=
 [(fr,cY P ([(ci,kk 0,.ref lv),(lw,kk 1,.ref sg),(mR,kk 2,.ref cd),(f5,kk 3,.ref a)]++T)),(a,aG d vs ep),(d,bn P (b6 κ z 0)),(cd,bn P (ur P ct)),(sg,aa ss es)]
noncomputable def mf(first:Bool)(a b ka kb:Nat)(x y va vb:Value):aF:=match first with
 |true=>[]
 |false=>[(bT,a,x),(rU,b,y),(bo,ka,va),(i0,kb,vb)]
noncomputable def H6(kk:Nat→Nat)(a b:Nat):Nat→Nat
 |4=>a
 |5=>b
 |k=>kk k
noncomputable def El(P:Params)(b1 b2:Bool)(n t fr:Nat)(kk:Nat→Nat)(lv sg cd a d ah le:Nat)(first:Bool)(ka kb kc kd:Nat)(va vb vc vd:Value)(ct κ z:Nat)(vs:List Value)(ep:Nat)(As:List Value)(ea:Nat)(Ls:List Value)(el:Nat)(ss:List Value)(es Tt:Nat)(T:br→aF)(VS:br→List Value)(m:Nat)(w:Value)(x y:Nat→Value):bu:=
 bf P b1 b2 (hV (xA P) (kS P fr) (.ref Tt) (uH P)) (kI P fr sg cd a d (mf first ka kb kc kd va vb vc vd) kk lv ct κ z vs ep ss es++[(Tt,al [.ref ah,.ref le])]++[(ah,aa As ea),(le,aa Ls el)]) n t
 (.hook [6,6,6,0,6,9,9,0,9,9,9,6,9,9,9,0,9,9,9,6,9,9,9,0,9,9,9,6,9,9,11,1,1,1,1,0,0,1,0] 3 (jJ sg ss es [4]) λρ=> .hook [13,13,0,13,13,13,13,0,13,13] 0 (xC P fr (ρ 3) (ρ 2) sg (H6 kk (ao first ka t) (ao first kb (t+1))) lv cd a d ah le first kc kd vc vd ct κ z vs ep As ea Ls el ss es T VS m w [12,11,4,0,1,2,3,6,7]) λρ1=>
  .fin [] (.ok .next) [0,1,2,3,4,6,7] ([(fr,Ib P (H6 kk (ao first ka t) (ao first kb (t+1))) lv sg cd a ah le (T ρ1)),(a,aG d (VS ρ1) m),(d,bn P (b6 κ z 0)),(cd,bn P (ur P ct)),(sg,aa ss es)]++[(ah,aa As ea),(le,aa Ls el)]))
noncomputable def xB(P:Params)(fr Zz zt zk i1 i2 l g:Nat)(kk:Nat→Nat)(lv sg cd a d e1 e2:Nat)(ct κ z:Nat)(vs:List Value)(ep:Nat)(ps:List Value)(eg:Nat)(ss:List Value)(es:Nat)(T:br→aF)(VS:br→List Value)(m:Nat)(za zb:br→Value)(j:Nat)(js:List Nat):aD:=
 ⟨AR P fr Zz,js,bA Zz zt zk i1 i2 l g .none .none .none 0 vs ep ps eg++kI P fr sg cd a d [] kk lv ct κ z [] 0 ss es++[(e1,aa [] 0),(e2,aa [] 0)],λO=> .ok .next,
  λρ=>(fP Zz zt zk i1 i2 l g .none (za ρ) (zb ρ) j vs ep ps eg++kI P fr sg cd a d (T ρ) kk lv ct κ z (VS ρ) m ss es++[(e1,aa [] 0),(e2,aa [] 0)]).map (·.2),λO=>[]⟩
theorem FE(P:Params)(b1:Bool)(n t:Nat)(l g:Addr)(vs:List Value)(ep:Nat)(ps:List Value)(eg:Nat):Qk 100 λr=>fT λb2=>r (bK P b1 b2 196 [.ref l,.ref g] [(l,aa vs ep),(g,aa ps eg)] n t [0,3,3,3,3] n [] [2,0,1] [(n,cY P [(ci,t,.ref l),(lw,t+1,.ref g)]),(l,aa vs ep),(g,aa ps eg)]):=by unfold Qk;kernel_rfl!
theorem FB(P b1 n t fr kk lv sg cd a d ah le ka kb kc kd va vb vc vd ct κ z vs ep As ea Ls el ss es Tt T VS m w x y):Qk 500 λr=>ay λfirst b2=>r (El P b1 b2 n t fr kk lv sg cd a d ah le first ka kb kc kd va vb vc vd ct κ z vs ep As ea Ls el ss es Tt T VS m w x y):=by unfold Qk;kernel_rfl!
theorem FF(P:Params)(b1:Bool)(n n' t t0:Nat)(l g:Addr)(vs:List Value)(ep:Nat)(ps:List Value)(eg:Nat)(T:br→aF)(VS:br→List Value)(m:Nat)(za zb:br→Value):Qk 600 λr=>fT λb2=>r ( ap P b1 b2 (cc P 196 n []) [(n,cY P [(ci,t0,.ref l),(lw,t0+1,.ref g)]),(l,aa vs ep),(g,aa ps eg)] n' t
 (.hook [0,0,0,0,0,0,0,0,0,0] 0 {oe t with js:=[]} λρ=> .hook [5,0,5,0,0,0,0] 0 (gE P (ρ 3) (ρ 2) t [4,3]) λρ1=>
  .hook [0,6,6,6,6,0,6,6,6,6,0,6,6,6,6,7,7,7,0,7,8,8,0,8,8,8,7,8,8,8,0,8,8,8,7,8,8,8,0,8,8,8,7,8,8,10,1,1,1,1,0,0,1,12,2,12] 7 (jH (ρ1 0+6) l [.ref (ρ1 0+5)] vs 0 ep [11,1]) λρa=> .hook [1,2,15,2] 2 (jH l (ρa 0+1) vs [.ref (ρa 0)] ep 0 [1,14]) λρb=>
  .hook [0,0,13,13,0,13,17,16,16,0,16,18,21,21,0,21,21,21,21,0,21,21] 5 (xB P n (ρb 0+4) (ρb 0+2) (ρb 0+3) (ρb 0) (ρb 0+1) (ρa 2) (ρb 2) (zV t0 (t0+1) (ρ1 1+9) (ρ1 1+10)) l g (ρ1 0) (ρ 3) (ρ 2) (ρ1 0+5) (ρa 0) (ρ1 1) (ρ1 2) t ([.ref (ρ1 0+5)]++vs) 0 (vs++[.ref (ρa 0)]) 0 ps eg T VS m za zb (vs.length+1) [20,18,19,16,17,12,15,0,4,3,5,2,10,13]) λρc=>
  .fin [1] (.ok (.ret (.ref (ρ 3)))) [1,2,4,3] [(l,aa vs ep),(g,aa ps eg),(ρ 3,aG (ρ 2) (VS ρc) m),(ρ 2,bn P (b6 (ρ1 2) t 0))])):=by unfold Qk;kernel_rfl!
theorem B1(P:Params)(x:Array Nat):hz P x=reduceHash (P.strHash x):=by
 unfold hz
 rw[←ZFast.ze12210062019545310541]
noncomputable def ud(c:Nat):Nat:=if c=40 then 41 else if c=91 then 93 else 125
noncomputable def nL(t c:Nat):Nat:=if c=40 then t+1 else if c=91 then t+3 else t+5
theorem zm{V:Gw}{cd ct c t:Nat}(hc:c∈[40,91,123]){js:List Nat}{L:Nat}:ai V L (w5 V.w.params cd (ur V.w.params ct) (aX [c]) t (.str (aX [ud c]) (nL ct c)) js) (λO=>True):=by
 have he:∀e∈(ur V.w.params ct).map (λp=>(⟨hz V.w.params p.1,.str ⟨p.1⟩ p.2.1,p.2.2⟩:DictEntry)),∃k,(PySem.strKind V.prog V.w).is k e.key=true∧e.hash=(PySem.strKind V.prog V.w).hash k:=λe he=>by
  obtain⟨p,hp,rfl⟩:=List.mem_map.mp he
  refine⟨⟨p.1⟩,by simp[PySem.strKind,Value.isStrOf],?_⟩
  show hz V.w.params p.1=hashStr V.w ⟨p.1⟩
  rw[B1]
  simp only[ur,gV,List.not_mem_nil,or_false] at hp
  rcases hp with rfl|rfl|rfl<;>rfl
 exact pL (PySem.strKind V.prog V.w) (k:=aX [c]) (key:= .str (aX [c]) t) (v:= .str (aX [ud c]) (nL ct c)) (es:=(ur V.w.params ct).map (λp=>(⟨hz V.w.params p.1,.str ⟨p.1⟩ p.2.1,p.2.2⟩:DictEntry))) (by simp[PySem.strKind,Value.isStrOf]) he (by
  simp only[gV,List.not_mem_nil,or_false] at hc
  rcases hc with rfl|rfl|rfl<;>simp[ur,PySem.strKind,Value.isStrOf,aX,ud,nL])
structure fU where
 pt:Nat
 u:Nat
 c:Nat
 t:Nat
noncomputable def fU.o(e:fU):Obj:=al [.str ⟨#[]⟩ e.u,.str (aX [e.c]) e.t]
noncomputable def gv(es:List fU):KL:=es.map λe=>(e.pt,e.o)
noncomputable def bg(es:List fU):List Value:=es.map λe=> .ref e.pt
noncomputable def iX(as ls:List Int):Nat→List Nat→List Nat
 |_,[]=>[]
 |p,c::r=>(if(p:Int)∈as then [ud c] else if(p:Int)∈ls then [c] else [])++iX as ls (p+1) r
theorem iN{V:Gw}{K K' R F:KL}{s s':Shared}(h:At V (K++R) s)(hF:Fz V F (K++R) s)
  (hE:am V (K.map (·.1)) s K' s') (hw:∀p∈K',p.1∈K.map (·.1)∨s.heap.objs.size≤p.1):am V ((K++R).map (·.1)) s (K'++R) s'∧Fz V F (K'++R) s':=
 gm (Tm:=[]) h hF (λO h=>nomatch h) List.nodup_nil (by rw[List.append_nil,List.append_nil];exact hE) hw
theorem sy(P):eN (ri P)=true:=by kernel_rfl!
theorem sx(P):eN (xA P)=true:=by kernel_rfl!
theorem DS{V:Gw}(G:au V)(n0:Nat){fr Zz it sg lv cd a d ah le ct κ z ea el es:Nat}{kk:Nat→Nat}{As Ls:List Value}{as ls:List Int}(hAs:aI As as)(hLs:aI Ls ls){sgs:List Nat}{τ:Nat→Nat}(hch:∀c∈sgs,c∈[40,91,123])(hsg:sgs.length≤20){F:KL}:
  ∀(rest:List Nat) (m:Nat) (first:Bool) (ka kb:Nat) (va vb old:Value) (E:List fU) (A:Around) (s:Shared),sgs.drop m=rest→m+rest.length=sgs.length→E.length+rest.length≤200→n0≤s.heap.objs.size→Bd 4 A→
   At V (eH Zz it sg .none old m (dc (sgs.map λc=>[c]) τ) es++eX V.w.params fr kk lv sg cd a d ah le (iF first ka kb va vb) ct κ z (bg E) E.length As ea Ls el) s→
   Fz V (F++gv E) (eH Zz it sg .none old m (dc (sgs.map λc=>[c]) τ) es++eX V.w.params fr kk lv sg cd a d ah le (iF first ka kb va vb) ct κ z (bg E) E.length As ea Ls el) s→
   codeAny (model V.prog V.w) A (xQ V.w.params fr Zz) (λr s'=>r= .ok .next∧E3 λN' T' old'=>A5 (N'.map (·.c)=iX as ls m rest) (∀e∈N',n0≤e.pt) ((rest=[]∧T'=iF first ka kb va vb∧old'=old)∨∃x y t,T'=rg x y (.int (sgs.length-1:Nat) t) (.str (aX [sgs.getD (sgs.length-1) 0]) (τ (sgs.length-1)))∧old'= .str (aX [sgs.getD (sgs.length-1) 0]) (τ (sgs.length-1))) 
    (am V ([Zz,it,sg]++[fr,a,d,cd,ah,le]) s (gP Zz it sg .none old' sgs.length (dc (sgs.map λc=>[c]) τ) es++eX V.w.params fr kk lv sg cd a d ah le T' ct κ z (bg (E++N')) (E++N').length As ea Ls el) s') 
    (Fz V (F++gv (E++N')) (gP Zz it sg .none old' sgs.length (dc (sgs.map λc=>[c]) τ) es++eX V.w.params fr kk lv sg cd a d ah le T' ct κ z (bg (E++N')) (E++N').length As ea Ls el) s')) s:=by
 intro rest
 induction rest with
 |nil=>
  intro m first ka kb va vb old E A s hd hm hsm hn0 hA hs hF
  have hm':m=sgs.length:=by simpa using hm
  subst hm'
  refine dL (iV G (hA.weak (by decide)) hs hF (by simp[dc]) λs' hE hf=>⟨rfl,[],_,old,by simp[iX],λO h=>(nomatch h),.inl ⟨rfl,rfl,rfl⟩,by rw[List.append_nil];exact hE,by rw[List.append_nil];exact hf⟩)
 |cons c rest ih=>
  intro m first ka kb va vb old E A s hd hm hsm hn0 hA hs hF
  have hlt:m<sgs.length:=by rw[←hm];simp
  have hc:sgs[m]=c:=by
   have:=List.drop_eq_getElem_cons hlt
   rw[hd] at this
   exact((List.cons.inj this).1).symm
  have hd':sgs.drop (m+1)=rest:=by
   have:=List.drop_eq_getElem_cons hlt
   rw[hd] at this
   exact((List.cons.inj this).2).symm
  have hcm:c∈[40,91,123]:=hch c (hc▸List.getElem_mem hlt)
  have hget:(dc (sgs.map λc=>[c]) τ)[m]?=some (.str (aX [c]) (τ m)):=by simp[dc,hlt,List.getD_eq_getElem?_getD,hc]
  refine dL (iU G (hA.weak (by decide)) (sy _) hs hF hget λTt pu s1 hTt hE1 hF1=> ?_)
  have P1:(eH Zz it sg .none (.str (aX [c]) (τ m)) (m+1) (dc (sgs.map λc=>[c]) τ) es++(eX V.w.params fr kk lv sg cd a d ah le (iF first ka kb va vb) ct κ z (bg E) E.length As ea Ls el++[(Tt,al [.int m pu,.str (aX [c]) (τ m)])])).Perm
    ((eX V.w.params fr kk lv sg cd a d ah le (iF first ka kb va vb) ct κ z (bg E) E.length As ea Ls el++[(Tt,al [.int m pu,.str (aX [c]) (τ m)])])++eH Zz it sg .none (.str (aX [c]) (τ m)) (m+1) (dc (sgs.map λc=>[c]) τ) es):=List.perm_append_comm
  have hs2:=hE1.at'.perm P1
  have hF2:=hF1.perm P1
  have hEl:aw (bg E).length:=by show _≤1000;simp only[bg,List.length_map,List.length_cons] at hsm⊢;lia
  have hA3:Bd 3 A:=hA.weak (by decide)
  have fin:∀(N:List fU) (x y:Nat) (s2:Shared),N.map (·.c)=(if(m:Int)∈as then [ud c] else if(m:Int)∈ls then [c] else [])→(∀e∈N,s1.heap.objs.size≤e.pt)→
    am V ((eX V.w.params fr kk lv sg cd a d ah le (iF first ka kb va vb) ct κ z (bg E) E.length As ea Ls el++[(Tt,al [.int m pu,.str (aX [c]) (τ m)])]).map (·.1)) s1 (eX V.w.params fr kk lv sg cd a d ah le (rg x y (.int m pu) (.str (aX [c]) (τ m))) ct κ z (bg (E++N)) (E++N).length As ea Ls el++gv N) s2→
    codeAny (model V.prog V.w) A (xQ V.w.params fr Zz) (λr s'=>r= .ok .next∧E3 λN' T' old'=>A5 (N'.map (·.c)=iX as ls m (c::rest)) (∀e∈N',n0≤e.pt) ((c::rest=[]∧T'=iF first ka kb va vb∧old'=old)∨∃x y t,T'=rg x y (.int (sgs.length-1:Nat) t) (.str (aX [sgs.getD (sgs.length-1) 0]) (τ (sgs.length-1)))∧old'= .str (aX [sgs.getD (sgs.length-1) 0]) (τ (sgs.length-1))) 
     (am V ([Zz,it,sg]++[fr,a,d,cd,ah,le]) s (gP Zz it sg .none old' sgs.length (dc (sgs.map λc=>[c]) τ) es++eX V.w.params fr kk lv sg cd a d ah le T' ct κ z (bg (E++N')) (E++N').length As ea Ls el) s') 
     (Fz V (F++gv (E++N')) (gP Zz it sg .none old' sgs.length (dc (sgs.map λc=>[c]) τ) es++eX V.w.params fr kk lv sg cd a d ah le T' ct κ z (bg (E++N')) (E++N').length As ea Ls el) s')) s2:=by
   intro N x y s2 hN hNp hEs
   have hNl:N.length≤1:=by
    rw[←List.length_map (f:=λe:fU=>e.c),hN]
    split
    ·exact Nat.le_refl _
    ·split
     ·exact Nat.le_refl _
     ·exact Nat.zero_le _
   obtain⟨E3,F3⟩:=iN hs2 hF2 hEs (λp hp=>by
    rcases List.mem_append.mp hp with hp|hp
    ·exact .inl (by rw[List.map_append];exact List.mem_append_left _ (List.mem_map_of_mem (f:=(·.1)) hp))
    ·obtain⟨e,he,rfl⟩:=List.mem_map.mp hp
     exact .inr (hNp e he))
   have hperm:∀(A B C:KL),((A++B)++C).Perm ((C++A)++B):=λA B C=>by
    rw[List.append_assoc C];exact List.perm_append_comm
   have E4:=E3.perm (hperm _ _ _)
   have F4:=F3.perm (hperm _ _ _)
   have E5:=E4.keep
   have F5:=F4.take E4.at'
   have hpk:F++gv E++gv N=F++gv (E++N):=by simp[gv]
   rw[hpk] at F5
   have hw1:∀q∈((eX V.w.params fr kk lv sg cd a d ah le (iF first ka kb va vb) ct κ z (bg E) E.length As ea Ls el++[(Tt,al [.int m pu,.str (aX [c]) (τ m)])])++eH Zz it sg .none (.str (aX [c]) (τ m)) (m+1) (dc (sgs.map λc=>[c]) τ) es).map (·.1),q∈[Zz,it,sg]++[fr,a,d,cd,ah,le]∨s.heap.objs.size≤q:=λq hq=>by
    rw[List.map_append,List.map_append] at hq
    rcases List.mem_append.mp hq with hq|hq
    ·rcases List.mem_append.mp hq with hq|hq
     ·exact .inl (List.mem_append_right _ hq)
     ·exact .inr (by rw[List.mem_singleton.mp hq];exact hTt)
    ·exact .inl (List.mem_append_left _ hq)
   have E6:am V ([Zz,it,sg]++[fr,a,d,cd,ah,le]) s _ s2:=
    ⟨E5.at',λb o hb hbw=>E5.pres b o (hE1.pres b o hb (λhm=>hbw hm)) (λhm=>(hw1 b hm).elim hbw λhh=>absurd (Heap.lt_size hb) (Nat.not_lt.mpr hh)),Nat.le_trans hE1.grow E5.grow⟩
   refine codeAny_mono (ih (m+1) false x y (.int m pu) (.str (aX [c]) (τ m)) (.str (aX [c]) (τ m)) (E++N) A s2 hd' (by simp only[List.length_cons] at hm;lia) (by simp only[List.length_append,List.length_cons] at hsm⊢;lia) (Nat.le_trans hn0 (Nat.le_trans hE1.grow E5.grow)) hA E5.at' F5) ?_
   ·rintro r s3 ⟨hr,N2,T',old',h1,h2,hT,h3,h4⟩
    rw[List.append_assoc] at h3 h4
    refine⟨hr,N++N2,T',old',?_,λe he=> ?_,.inr ?_,E6.trans h3 (λb hb=> .inl hb),h4⟩
    ·rw[List.map_append,h1,hN];rfl
    ·rcases List.mem_append.mp he with he|he
     ·exact Nat.le_trans hn0 (Nat.le_trans hE1.grow (hNp e he))
     ·exact h2 e he
    ·rcases hT with⟨h5,h6,h7⟩|h5
     ·subst h5
      have hml:m=sgs.length-1:=by simp only[List.length_cons,List.length_nil] at hm;lia
      have hgd:sgs.getD (sgs.length-1) 0=c:=by rw[←hml,List.getD_eq_getElem?_getD,List.getElem?_eq_getElem hlt,hc];rfl
      rw[hgd,←hml]
      exact⟨x,y,pu,h6,h7⟩
     ·exact h5
  have hpv:∀e:fU,bg E++[.ref e.pt]=bg (E++[e]):=λe=>by simp[bg]
  have hpl:∀e:fU,E.length+1=(E++[e]).length:=λe=>by simp
  by_cases h1:(m:Int)∈as
  ·refine aq (L:=3) G Fz.nil (ad (FG V.w.params (aC V) s1.heap.objs.size s1.toks fr kk lv sg cd a d ah le ka kb va vb ct κ z (bg E) E.length As ea Ls el Tt m pu (aX [c]) (τ m) (aX [ud c]) (nL ct c)) first (aB V)) hA3 hs2.less ?_
   refine ae (fG (L:=0) hAs (by simp[h1])) rfl rfl rfl λρ O O=>ae (zm (L:=0) hcm) rfl rfl rfl λρ1 O O=>jR (l:=2) (pG G hEl) rfl rfl rfl λρ2 O O hnew=>aO rfl λs2 hs3=>⟨rfl,?_⟩
   have hs3:=hs3
   rw[hpv ⟨ρ2 2,ρ 1,ud c,nL ct c⟩,hpl ⟨ρ2 2,ρ 1,ud c,nL ct c⟩] at hs3
   exact fin [⟨ρ2 2,ρ 1,ud c,nL ct c⟩] _ _ s2 (by rw[if_pos h1];rfl) (λe he=>by rw[List.mem_singleton.mp he];exact hnew (ρ2 2,_) (.head _)) hs3
  ·by_cases h2:(m:Int)∈ls
   ·refine aq (L:=3) G Fz.nil (ad (FD V.w.params (aC V) s1.heap.objs.size s1.toks fr kk lv sg cd a d ah le ka kb va vb ct κ z (bg E) E.length As ea Ls el Tt m pu (aX [c]) (τ m)) first (aB V)) hA3 hs2.less ?_
    refine ae (fG (L:=0) hAs (by simp[h1])) rfl rfl rfl λρ O O=>ae (fG (L:=0) hLs (by simp[h2])) rfl rfl rfl λρ1 O O=>jR (l:=2) (pG G hEl) rfl rfl rfl λρ2 O O hnew=>aO rfl λs2 hs3=>⟨rfl,?_⟩
    have hs3:=hs3
    rw[hpv ⟨ρ2 2,ρ1 1,c,τ m⟩,hpl ⟨ρ2 2,ρ1 1,c,τ m⟩] at hs3
    exact fin [⟨ρ2 2,ρ1 1,c,τ m⟩] _ _ s2 (by rw[if_neg h1,if_pos h2];rfl) (λe he=>by rw[List.mem_singleton.mp he];exact hnew (ρ2 2,_) (.head _)) hs3
   ·refine aq (L:=3) G Fz.nil (ad (FC V.w.params (aC V) s1.heap.objs.size s1.toks fr kk lv sg cd a d ah le ka kb va vb ct κ z (bg E) E.length As ea Ls el Tt m pu (aX [c]) (τ m)) first (aB V)) hA3 hs2.less ?_
    refine ae (fG (L:=0) hAs (by simp[h1])) rfl rfl rfl λρ O O=>ae (fG (L:=0) hLs (by simp[h2])) rfl rfl rfl λρ1 O O=>aO rfl λs2 hs3=>⟨rfl,?_⟩
    refine fin [] (ao first ka s1.toks) (ao first kb (s1.toks+1)) s2 (by rw[if_neg h1,if_neg h2];rfl) (λO h=>nomatch h) ?_
    rw[List.append_nil]
    show am V _ s1 (_++[]) s2
    rw[List.append_nil]
    exact hs3
noncomputable def fK(C:List Nat)(τ:Nat→Nat):List fU:=(List.range C.length).map λi=>⟨τ (3*i),τ (3*i+1),C.getD i 0,τ (3*i+2)⟩
noncomputable def CS(es:List fU)(k:Nat):Nat:=if k%3=0 then(es.getD (k/3) ⟨0,0,0,0⟩).pt else if k%3=1 then(es.getD (k/3) ⟨0,0,0,0⟩).u else(es.getD (k/3) ⟨0,0,0,0⟩).t
theorem rW{C:List Nat}{es:List fU}(h:(es.map (·.c))=C){τ:Nat→Nat}(hτ:∀k,τ k=CS es k):fK C τ=es:=by
 subst h
 apply List.ext_getElem
 ·simp[fK]
 ·intro i h1 h2
  have e1:(3*i+1)%3=1:=Nat.mul_add_mod 3 i 1
  have e2:(3*i+2)%3=2:=Nat.mul_add_mod 3 i 2
  have d1:(3*i+1)/3=i:=Nat.mul_add_div (by decide) i 1
  have d2:(3*i+2)/3=i:=Nat.mul_add_div (by decide) i 2
  simp[fK,hτ,CS,e1,e2,d1,d2,List.getD_eq_getElem?_getD,h2]
theorem o8(as ls:List Int):∀(r:List Nat) (p:Nat),(iX as ls p r).length≤r.length
 |[],_=>Nat.le_refl _
 |c::r,p=>by
  have h:=o8 as ls r (p+1)
  unfold iX
  rw[List.length_append,List.length_cons]
  split
  ·simp only[List.length_cons,List.length_nil];lia
  ·split
   ·simp only[List.length_cons,List.length_nil];lia
   ·simp only[List.length_nil];lia
noncomputable def fY(sgs:List Nat)(τ:Nat→Nat):List Value:=dc (sgs.map λc=>[c]) τ
noncomputable def l8(sgs:List Nat)(τ:Nat→Nat):Value:= .str (aX [sgs.getD (sgs.length-1) 0]) (τ (sgs.length-1))
theorem yZ{V:Gw}(G:au V){fr Zz it sg lv cd a d ah le ka kb ct κ z ea el es m:Nat}{kk:Nat→Nat}{first:Bool}{va vb:Value}{As Ls:List Value}{as ls:List Int}(hAs:aI As as)(hLs:aI Ls ls){sgs:List Nat}{τ:Nat→Nat}(hch:∀c∈sgs,c∈[40,91,123])(hne:sgs≠[])(hsg:sgs.length≤20){E:List fU}(hsm:E.length+sgs.length≤200){F:KL}(hF:∀p∈gv E,p∈F){js:List Nat}(hm:m=E.length+(iX as ls 0 sgs).length):
  aQ V 4 (xC V.w.params fr Zz it sg kk lv cd a d ah le first ka kb va vb ct κ z (bg E) E.length As ea Ls el (fY sgs τ) es (λρ=>rg (ρ 2) (ρ 3) (.int (sgs.length-1:Nat) (ρ 4)) (l8 sgs τ)) (λρ=>bg (E++fK (iX as ls 0 sgs) (λi=>ρ (i+5)))) m (l8 sgs τ) js) F (λO=>True) (λρ=>gv (fK (iX as ls 0 sgs) (λi=>ρ (i+5)))):=by
 subst hm
 intro A s hA hs hf
 refine codeAny_mono (DS G s.heap.objs.size hAs hLs hch hsg (F:=[]) sgs 0 first ka kb va vb .none E A s rfl (by simp) hsm (Nat.le_refl _) hA hs (by rw[List.nil_append];exact hf.sub hF)) ?_
 rintro r s' ⟨hr,N,T',old',h1,h2,hT,hE,hf'⟩
 rcases hT with⟨h3,_⟩|⟨x,y,t,rfl,rfl⟩
 ·exact absurd h3 hne
 let σ:Nat→Nat:=λk=>match k with|0=>x|1=>y|2=>t|k+3=>CS N k
 have e1:fK (iX as ls 0 sgs) (λi=>a7 s'.heap.objs.size s'.toks σ (i+5))=N:=rW h1 λk=>rfl
 have hNl:N.length=(iX as ls 0 sgs).length:=by rw[←h1,List.length_map]
 have hE':am V ((eH Zz it sg .none .none 0 (fY sgs τ) es++eX V.w.params fr kk lv sg cd a d ah le (iF first ka kb va vb) ct κ z (bg E) E.length As ea Ls el).map (·.1)) s _ s':=hE
 refine⟨a7 _ _ σ,hr,aW (H:=xC V.w.params fr Zz it sg kk lv cd a d ah le first ka kb va vb ct κ z (bg E) E.length As ea Ls el (fY sgs τ) es (λρ=>rg (ρ 2) (ρ 3) (.int (sgs.length-1:Nat) (ρ 4)) (l8 sgs τ)) (λρ=>bg (E++fK (iX as ls 0 sgs) (λi=>ρ (i+5)))) (E.length+(iX as ls 0 sgs).length) (l8 sgs τ) js) hE' σ rfl ?_ (λO hp=>nomatch hp),trivial,λp hp=> ?_⟩
 ·show _=List.zip _ (List.map _ (gP Zz it sg .none (l8 sgs τ) (fY sgs τ).length (fY sgs τ) es++eX V.w.params fr kk lv sg cd a d ah le (rg x y (.int (sgs.length-1:Nat) t) (l8 sgs τ)) ct κ z (bg (E++fK (iX as ls 0 sgs) (λi=>a7 s'.heap.objs.size s'.toks σ (i+5)))) (E.length+(iX as ls 0 sgs).length) As ea Ls el))++[]
  rw[e1,←hNl,List.append_nil,show(fY sgs τ).length=sgs.length from by simp[fY,dc],List.length_append]
  rfl
 ·have hp:p∈gv (fK (iX as ls 0 sgs) (λi=>a7 s'.heap.objs.size s'.toks σ (i+5))):=hp
  rw[e1] at hp
  obtain⟨h4,h5,h6⟩:=hf' p (by rw[List.nil_append,gv,List.map_append];exact List.mem_append_right _ hp)
  refine⟨h4,?_,λhm=>nomatch hm⟩
  obtain⟨e,he,rfl⟩:=List.mem_map.mp hp
  exact h2 e he
structure dU where
 a:Nat
 vs:List Value
 e:Nat
 ns:List Int
noncomputable def dU.k(q:dU):Addr×Obj:=(q.a,aa q.vs q.e)
noncomputable def uj(sgs:List Nat):List (List Int)→List Nat
 |p::q::r=>iX p q 0 sgs++uj sgs (q::r)
 |_=>[]
noncomputable def wg:dU:=⟨0,[],0,[]⟩
theorem DR{V:Gw}(G:au V)(n0:Nat){fr Zz zt zk i1 i2 l g sg lv cd a d ct κ z ep eg es:Nat}{kk:Nat→Nat}{Q:List dU}(hQv:∀q∈Q,aI q.vs q.ns)(hQn:(Q.map (·.a)).Nodup)(hQ0:∀q∈Q,q.a<n0){vs ps:List Value}
  (hv:∀i p q,Q[i]?=some p→Q[i+1]?=some q→vs[i]?=some (.ref p.a)∧ps[i]?=some (.ref q.a)) (hvl:vs.length=Q.length-1) {sgs:List Nat} {τ:Nat→Nat} (hch:∀c∈sgs,c∈[40,91,123]) (hne:sgs≠[]) (hsg:sgs.length≤20) {F:KL} (hFp:∀q∈Q,q.k∈F):
  ∀(rest:List dU) (p:dU) (m:Nat) (first:Bool) (ka kb kc kd:Nat) (va vb vc vd za zb:Value) (E:List fU) (A:Around) (s:Shared),Q.drop m=p::rest→E.length+rest.length*sgs.length≤180→n0≤s.heap.objs.size→(∀e∈E,n0≤e.pt)→Bd 5 A→
   At V (bA Zz zt zk i1 i2 l g .none za zb m vs ep ps eg++kI V.w.params fr sg cd a d (mf first ka kb kc kd va vb vc vd) kk lv ct κ z (bg E) E.length (fY sgs τ) es) s→
   Fz V (F++gv E) (bA Zz zt zk i1 i2 l g .none za zb m vs ep ps eg++kI V.w.params fr sg cd a d (mf first ka kb kc kd va vb vc vd) kk lv ct κ z (bg E) E.length (fY sgs τ) es) s→
   codeAny (model V.prog V.w) A (AR V.w.params fr Zz) (λr s'=>r= .ok .next∧E4 λN T' za' zb'=>A5 (N.map (·.c)=uj sgs ((p::rest).map (·.ns))) (∀e∈N,n0≤e.pt) 
    ((rest=[]∧T'=mf first ka kb kc kd va vb vc vd∧za'=za∧zb'=zb)∨E5 λx y u v t=>A3 (T'=mf false x y u v (.ref (Q.getD (Q.length-2) wg).a) (.ref (Q.getD (Q.length-1) wg).a) (.int (sgs.length-1:Nat) t) (l8 sgs τ)) (za'= .ref (Q.getD (Q.length-2) wg).a) (zb'= .ref (Q.getD (Q.length-1) wg).a)) 
    (am V ([Zz,zt,zk,i1,i2,l,g]++[fr,a,d,cd,sg]) s (fP Zz zt zk i1 i2 l g .none za' zb' vs.length vs ep ps eg++kI V.w.params fr sg cd a d T' kk lv ct κ z (bg (E++N)) (E++N).length (fY sgs τ) es) s') 
    (Fz V (F++gv (E++N)) (fP Zz zt zk i1 i2 l g .none za' zb' vs.length vs ep ps eg++kI V.w.params fr sg cd a d T' kk lv ct κ z (bg (E++N)) (E++N).length (fY sgs τ) es) s')) s:=by
 intro rest
 induction rest with
 |nil=>
  intro p m first ka kb kc kd va vb vc vd za zb E A s hd hsm hn0 hE0 hA hs hF
  have hm:m=vs.length:=by
   have h:=congrArg List.length hd
   rw[List.length_drop] at h
   simp only[List.length_cons,List.length_nil] at h
   lia
  subst hm
  refine dL (jO G (hA.weak (by decide)) hs hF (by simp) λs' hE hf=>⟨rfl,[],_,za,zb,rfl,λO h=>(nomatch h),.inl ⟨rfl,rfl,rfl,rfl⟩,by rw[List.append_nil];exact hE,by rw[List.append_nil];exact hf⟩)
 |cons q rest ih=>
  intro p m first ka kb kc kd va vb vc vd za zb E A s hd hsm hn0 hE0 hA hs hF
  have hp:Q[m]?=some p:=by
   have:=congrArg (·[0]?) hd
   simpa using this
  have hq:Q[m+1]?=some q:=by
   have:=congrArg (·[1]?) hd
   simpa using this
  have hd':Q.drop (m+1)=q::rest:=by
   have h:=congrArg List.tail hd
   rw[List.tail_drop] at h
   simpa using h
  obtain⟨hx,hy⟩:=hv m p q hp hq
  have hpQ:=List.mem_of_getElem? hp
  have hqQ:=List.mem_of_getElem? hq
  have hpq:p.a≠q.a:=λe=>by
   have h1:(Q.map (·.a))[m]?=some p.a:=by rw[List.getElem?_map,hp];rfl
   have h2:(Q.map (·.a))[m+1]?=some p.a:=by rw[List.getElem?_map,hq,e];rfl
   obtain⟨l1,e1⟩:=List.getElem?_eq_some_iff.mp h1
   obtain⟨l2,e2⟩:=List.getElem?_eq_some_iff.mp h2
   exact absurd ((List.getElem_inj hQn).mp (e1.trans e2.symm)) (Nat.ne_of_lt (Nat.lt_succ_self m))
  have hlen:(q::rest).length*sgs.length=sgs.length+rest.length*sgs.length:=by rw[List.length_cons,Nat.succ_mul,Nat.add_comm]
  rw[hlen] at hsm
  refine dL (jN G (hA.weak (by decide)) (sx _) hs hF hx hy λTt s1 hTt hE1 hF1=> ?_)
  have P1:(bA Zz zt zk i1 i2 l g .none (.ref p.a) (.ref q.a) (m+1) vs ep ps eg++(kI V.w.params fr sg cd a d (mf first ka kb kc kd va vb vc vd) kk lv ct κ z (bg E) E.length (fY sgs τ) es++[(Tt,al [.ref p.a,.ref q.a])])).Perm
    ((kI V.w.params fr sg cd a d (mf first ka kb kc kd va vb vc vd) kk lv ct κ z (bg E) E.length (fY sgs τ) es++[(Tt,al [.ref p.a,.ref q.a])])++bA Zz zt zk i1 i2 l g .none (.ref p.a) (.ref q.a) (m+1) vs ep ps eg):=List.perm_append_comm
  have hs2:=hE1.at'.perm P1
  have hF2:=hF1.perm P1
  have hTm:∀x∈[(p.a,aa p.vs p.e),(q.a,aa q.vs q.e)],x∈F++gv E:=λx hx=>by
   simp only[List.mem_cons,List.not_mem_nil,or_false] at hx
   rcases hx with rfl|rfl
   ·exact List.mem_append_left _ (hFp p hpQ)
   ·exact List.mem_append_left _ (hFp q hqQ)
  have hTn:(([(p.a,aa p.vs p.e),(q.a,aa q.vs q.e)]:KL).map (·.1)).Nodup:=by simp[hpq]
  have h0:=hs2.less.thaw hF2.less hTm hTn
  have hFE:Fz V (gv E) ((kI V.w.params fr sg cd a d (mf first ka kb kc kd va vb vc vd) kk lv ct κ z (bg E) E.length (fY sgs τ) es++[(Tt,al [.ref p.a,.ref q.a])])++[(p.a,aa p.vs p.e),(q.a,aa q.vs q.e)]) s1:=λx hx=>by
   obtain⟨g1,g2,g3⟩:=hF2.less x (List.mem_append_right _ hx)
   refine⟨g1,λhm=> ?_,g3⟩
   rw[List.map_append] at hm
   rcases List.mem_append.mp hm with hm|hm
   ·exact g2 hm
   ·obtain⟨e,he,rfl⟩:=List.mem_map.mp hx
    have he0:=hE0 e he
    simp only[List.map_cons,List.map_nil,List.mem_cons,List.not_mem_nil,or_false] at hm
    rcases hm with hm|hm
    ·exact absurd (hQ0 p hpQ) (Nat.not_lt.mpr (hm▸he0))
    ·exact absurd (hQ0 q hqQ) (Nat.not_lt.mpr (hm▸he0))
  have hCl:=o8 p.ns q.ns sgs 0
  refine aq (L:=5) G hFE (ad (FB V.w.params (aC V) s1.heap.objs.size s1.toks fr kk lv sg cd a d p.a q.a ka kb kc kd va vb vc vd ct κ z (bg E) E.length p.vs p.e q.vs q.e (fY sgs τ) es Tt
   (λρ=>rg (ρ 2) (ρ 3) (.int (sgs.length-1:Nat) (ρ 4)) (l8 sgs τ)) (λρ=>bg (E++fK (iX p.ns q.ns 0 sgs) (λi=>ρ (i+5)))) (E.length+(iX p.ns q.ns 0 sgs).length) (l8 sgs τ) (λO=> .none) (λO=> .none)) first (aB V)) hA h0 ?_
  refine ac (l:=0) ik rfl rfl rfl λρ O O=>bh (l:=4) (yZ G (hQv p hpQ) (hQv q hqQ) hch hne hsg (by lia) (λO h=>h) rfl) rfl rfl rfl λρ1 O O O hnew=>an rfl λs2 hs3 hf3=>⟨rfl,?_⟩
  try dsimp only at hs3 hf3 hnew
  generalize hNe:fK (iX p.ns q.ns 0 sgs) (λi=>ρ1 (i+5))=N at hs3 hf3 hnew
  have hNc:N.map (·.c)=iX p.ns q.ns 0 sgs:=by
   rw[←hNe]
   apply List.ext_getElem
   ·simp[fK]
   ·intro i h1 h2
    simp[fK,List.getD_eq_getElem?_getD,h2]
  have hNl:N.length=(iX p.ns q.ns 0 sgs).length:=by rw[←hNc,List.length_map]
  rw[←hNl,←List.length_append] at hs3 hf3
  have hNew:∀e∈N,s1.heap.objs.size≤e.pt:=λe he=>hnew (e.pt,e.o) (List.mem_map_of_mem (f:=λe:fU=>(e.pt,e.o)) he)
  have hs4:am V (((kI V.w.params fr sg cd a d (mf first ka kb kc kd va vb vc vd) kk lv ct κ z (bg E) E.length (fY sgs τ) es++[(Tt,al [.ref p.a,.ref q.a])])++[(p.a,aa p.vs p.e),(q.a,aa q.vs q.e)]).map (·.1)) s1
   (kI V.w.params fr sg cd a d (mf false (ao first ka s1.toks) (ao first kb (s1.toks+1)) (ρ1 2) (ρ1 3) (.ref p.a) (.ref q.a) (.int (sgs.length-1:Nat) (ρ1 4)) (l8 sgs τ)) kk lv ct κ z (bg (E++N)) (E++N).length (fY sgs τ) es++[(p.a,aa p.vs p.e),(q.a,aa q.vs q.e)]) s2:=hs3
  have hf4:Fz V (gv E++gv N) (kI V.w.params fr sg cd a d (mf false (ao first ka s1.toks) (ao first kb (s1.toks+1)) (ρ1 2) (ρ1 3) (.ref p.a) (.ref q.a) (.int (sgs.length-1:Nat) (ρ1 4)) (l8 sgs τ)) kk lv ct κ z (bg (E++N)) (E++N).length (fY sgs τ) es++[(p.a,aa p.vs p.e),(q.a,aa q.vs q.e)]) s2:=hf3
  obtain⟨E3,F3⟩:=gm hs2 hF2 hTm hTn hs4 (λx hx=> .inl (by rw[List.map_append];exact List.mem_append_left _ (List.mem_map_of_mem (f:=(·.1)) hx)))
  have F3':Fz V (F++gv (E++N)) (kI V.w.params fr sg cd a d (mf false (ao first ka s1.toks) (ao first kb (s1.toks+1)) (ρ1 2) (ρ1 3) (.ref p.a) (.ref q.a) (.int (sgs.length-1:Nat) (ρ1 4)) (l8 sgs τ)) kk lv ct κ z (bg (E++N)) (E++N).length (fY sgs τ) es++bA Zz zt zk i1 i2 l g .none (.ref p.a) (.ref q.a) (m+1) vs ep ps eg) s2:=λx hx=>by
   rw[show F++gv (E++N)=(F++gv E)++gv N from by simp[gv]] at hx
   rcases List.mem_append.mp hx with hx|hx
   ·exact F3 x hx
   ·obtain⟨g1,g2,g3⟩:=hf4 x (List.mem_append_right _ hx)
    refine⟨g1,λhm=> ?_,g3⟩
    rw[List.map_append] at hm
    rcases List.mem_append.mp hm with hm|hm
    ·exact g2 (by rw[List.map_append];exact List.mem_append_left _ hm)
    ·obtain⟨e,he,rfl⟩:=List.mem_map.mp hx
     obtain⟨y,hy,e2⟩:=List.mem_map.mp hm
     have hlt:=Heap.lt_size (hs2.get y (List.mem_append_right _ hy))
     have e2':y.1=e.pt:=e2
     exact absurd hlt (Nat.not_lt.mpr (e2'▸hNew e he))
  have E4:=E3.perm List.perm_append_comm
  have F4:=F3'.perm List.perm_append_comm
  have hw1:∀x∈((kI V.w.params fr sg cd a d (mf first ka kb kc kd va vb vc vd) kk lv ct κ z (bg E) E.length (fY sgs τ) es++[(Tt,al [.ref p.a,.ref q.a])])++bA Zz zt zk i1 i2 l g .none (.ref p.a) (.ref q.a) (m+1) vs ep ps eg).map (·.1),x∈[Zz,zt,zk,i1,i2,l,g]++[fr,a,d,cd,sg]∨s.heap.objs.size≤x:=λx hx=>by
   rw[List.map_append,List.map_append] at hx
   rcases List.mem_append.mp hx with hx|hx
   ·rcases List.mem_append.mp hx with hx|hx
    ·exact .inl (List.mem_append_right _ hx)
    ·exact .inr (by rw[List.mem_singleton.mp hx];exact hTt)
   ·exact .inl (List.mem_append_left _ hx)
  have E5:am V ([Zz,zt,zk,i1,i2,l,g]++[fr,a,d,cd,sg]) s (bA Zz zt zk i1 i2 l g .none (.ref p.a) (.ref q.a) (m+1) vs ep ps eg++kI V.w.params fr sg cd a d (mf false (ao first ka s1.toks) (ao first kb (s1.toks+1)) (ρ1 2) (ρ1 3) (.ref p.a) (.ref q.a) (.int (sgs.length-1:Nat) (ρ1 4)) (l8 sgs τ)) kk lv ct κ z (bg (E++N)) (E++N).length (fY sgs τ) es) s2:=
   ⟨E4.at',λb o hb hbw=>E4.pres b o (hE1.pres b o hb (λhm=>hbw hm)) (λhm=>(hw1 b hm).elim hbw λhh=>absurd (Heap.lt_size hb) (Nat.not_lt.mpr hh)),Nat.le_trans hE1.grow E4.grow⟩
  refine codeAny_mono (ih q (m+1) false (ao first ka s1.toks) (ao first kb (s1.toks+1)) (ρ1 2) (ρ1 3) (.ref p.a) (.ref q.a) (.int (sgs.length-1:Nat) (ρ1 4)) (l8 sgs τ) (.ref p.a) (.ref q.a) (E++N) A s2 hd' (by rw[List.length_append];lia) (Nat.le_trans hn0 E5.grow) (λe he=> ?_) hA E5.at' F4) ?_
  ·rcases List.mem_append.mp he with he|he
   ·exact hE0 e he
   ·exact Nat.le_trans hn0 (Nat.le_trans hE1.grow (hNew e he))
  ·rintro r s3 ⟨hr,N2,T',za',zb',h1,h2,hT,h3,h4⟩
   rw[List.append_assoc] at h3 h4
   refine⟨hr,N++N2,T',za',zb',?_,λe he=> ?_,.inr ?_,E5.trans h3 (λb hb=> .inl hb),h4⟩
   ·rw[List.map_append,hNc,h1];rfl
   ·rcases List.mem_append.mp he with he|he
    ·exact Nat.le_trans hn0 (Nat.le_trans hE1.grow (hNew e he))
    ·exact h2 e he
   ·rcases hT with⟨h5,h6,h7,h8⟩|h5
    ·subst h5
     have hQl:Q.length=m+2:=by
      have h:=congrArg List.length hd
      rw[List.length_drop] at h
      simp only[List.length_cons,List.length_nil] at h
      lia
     have d1:Q.getD (Q.length-2) wg=p:=by rw[hQl,List.getD_eq_getElem?_getD,show m+2-2=m from by lia,hp];rfl
     have d2:Q.getD (Q.length-1) wg=q:=by rw[hQl,List.getD_eq_getElem?_getD,show m+2-1=m+1 from by lia,hq];rfl
     rw[d1,d2]
     exact⟨_,_,_,_,_,h6,h7,h8⟩
    ·exact h5
theorem sm{V:Gw}(G:au V):189<V.h0.objs.size:=Heap.lt_size (G.kt _ _ (BO _)).1
noncomputable def l7(sgs:List Nat)(lvs:List dU):List Nat:=uj sgs (([]::lvs.map (·.ns))++[[]])
noncomputable def dT(lvs:List dU):List Value:=lvs.map λq=> .ref q.a
theorem yY{V:Gw}(G:au V){fr Zz zt zk i1 i2 l g sg lv cd a d e1 e2 ct κ z ep eg es m j:Nat}{kk:Nat→Nat}{lvs:List dU}{F:KL}(hlv:∀q∈lvs,aI q.vs q.ns∧q.k∈F)(hn:(lvs.map (·.a)).Nodup)(hne:lvs≠[]){vs ps:List Value}(hvs:vs= .ref e1::dT lvs)(hps:ps=dT lvs++[.ref e2])
  {sgs:List Nat} {τ:Nat→Nat} (hch:∀c∈sgs,c∈[40,91,123]) (hnes:sgs≠[]) (hsg:sgs.length≤20) (hsm:(lvs.length+1)*sgs.length≤180) {js:List Nat} (hm:m=(l7 sgs lvs).length) (hj:j=lvs.length+1):
  aQ V 5 (xB V.w.params fr Zz zt zk i1 i2 l g kk lv sg cd a d e1 e2 ct κ z vs ep ps eg (fY sgs τ) es (λρ=>mf false (ρ 2) (ρ 3) (ρ 4) (ρ 5) (.ref (ρ 6)) (.ref (ρ 7)) (.int (sgs.length-1:Nat) (ρ 8)) (l8 sgs τ)) (λρ=>bg (fK (l7 sgs lvs) (λi=>ρ (i+9)))) m (λρ=> .ref (ρ 6)) (λρ=> .ref (ρ 7)) j js) F (λO=>True) (λρ=>gv (fK (l7 sgs lvs) (λi=>ρ (i+9)))):=by
 subst hm hj
 intro A s hA hs hf
 let Q:List dU:=(⟨e1,[],0,[]⟩::lvs)++[⟨e2,[],0,[]⟩]
 have hQl:Q.length=lvs.length+2:=by simp[Q]
 have hs0:At V (bA Zz zt zk i1 i2 l g .none .none .none 0 vs ep ps eg++kI V.w.params fr sg cd a d [] kk lv ct κ z [] 0 (fY sgs τ) es) s:=hs.less
 have hf0:=Fz.take (R:=[(e1,aa [] 0),(e2,aa [] 0)]) hs hf
 have hlt:∀q∈lvs,q.a<s.heap.objs.size:=λq hq=>Heap.lt_size (hf q.k (hlv q hq).2).1
 have hnk:∀q∈lvs,q.a≠e1∧q.a≠e2:=λq hq=>by
  have h:=(hf q.k (hlv q hq).2).2.1
  refine⟨λe=>h ?_,λe=>h ?_⟩
  ·show q.k.1∈_
   rw[show q.k.1=e1 from e]
   exact List.mem_map_of_mem (f:=(·.1)) (a:=(e1,aa [] 0)) (List.mem_append_right _ (.head _))
  ·show q.k.1∈_
   rw[show q.k.1=e2 from e]
   exact List.mem_map_of_mem (f:=(·.1)) (a:=(e2,aa [] 0)) (List.mem_append_right _ (.tail _ (.head _)))
 have he12:e1≠e2:=by
  have h:=hs.nodup
  have h2:(([(e1,aa [] 0),(e2,aa [] 0)]:KL).map (·.1)).Nodup:=by
   have hs':At V ((bA Zz zt zk i1 i2 l g .none .none .none 0 vs ep ps eg++kI V.w.params fr sg cd a d [] kk lv ct κ z [] 0 (fY sgs τ) es)++[(e1,aa [] 0),(e2,aa [] 0)]) s:=hs
   have h:=hs'.nodup
   rw[List.map_append,List.nodup_append] at h
   exact h.2.1
  simpa using h2
 have hQn:(Q.map (·.a)).Nodup:=by
  have e:Q.map (·.a)=e1::(lvs.map (·.a)++[e2]):=by simp[Q]
  rw[e,List.nodup_cons,List.nodup_append]
  refine⟨λhm=> ?_,hn,by simp,λx hx y hy=> ?_⟩
  ·rcases List.mem_append.mp hm with hm|hm
   ·obtain⟨q,hq,e⟩:=List.mem_map.mp hm
    exact(hnk q hq).1 e
   ·exact he12 (List.mem_singleton.mp hm)
  ·obtain⟨q,hq,rfl⟩:=List.mem_map.mp hx
   rw[List.mem_singleton.mp hy]
   exact(hnk q hq).2
 have hmem:∀q∈Q,q=⟨e1,[],0,[]⟩∨q∈lvs∨q=⟨e2,[],0,[]⟩:=λq hq=>by
  simp only[Q,List.mem_append,List.mem_cons,List.not_mem_nil,or_false] at hq
  rcases hq with(h|h)|h
  ·exact .inl h
  ·exact .inr (.inl h)
  ·exact .inr (.inr h)
 have hnil:aI [] []:=by constructor
 have hv:∀i p q,Q[i]?=some p→Q[i+1]?=some q→vs[i]?=some (.ref p.a)∧ps[i]?=some (.ref q.a):=λi p q hp hq=>by
  have hi:i+1<Q.length:=(List.getElem?_eq_some_iff.mp hq).1
  rw[hQl] at hi
  have hp':((⟨e1,[],0,[]⟩:dU)::lvs)[i]?=some p:=by
   have:Q[i]?=((⟨e1,[],0,[]⟩:dU)::lvs)[i]?:=List.getElem?_append_left (by simp;lia)
   rw[←this];exact hp
  have hq':(lvs++[(⟨e2,[],0,[]⟩:dU)])[i]?=some q:=by
   have:Q[i+1]?=(lvs++[(⟨e2,[],0,[]⟩:dU)])[i]?:=by simp[Q]
   rw[←this];exact hq
  subst hvs hps
  constructor
  ·have:(.ref e1::dT lvs:List Value)=((⟨e1,[],0,[]⟩:dU)::lvs).map λq=> .ref q.a:=rfl
   rw[this,List.getElem?_map,hp'];rfl
  ·have:(dT lvs++[.ref e2]:List Value)=(lvs++[(⟨e2,[],0,[]⟩:dU)]).map λq=> .ref q.a:=by simp[dT]
   rw[this,List.getElem?_map,hq'];rfl
 have hvl:vs.length=Q.length-1:=by rw[hvs,hQl];simp[dT]
 refine codeAny_mono (DR G s.heap.objs.size (λq hq=> ?_) hQn (λq hq=> ?_) hv hvl hch hnes hsg (F:=F++[(e1,aa [] 0),(e2,aa [] 0)]) (λq hq=> ?_) (lvs++[⟨e2,[],0,[]⟩]) ⟨e1,[],0,[]⟩ 0 true 0 0 0 0 .none .none .none .none .none .none [] A s rfl (by simpa using hsm) (Nat.le_refl _) (λO h=>nomatch h) hA hs0 (by rw[show gv []=[] from rfl,List.append_nil];exact hf0)) ?_
 ·rcases hmem q hq with rfl|h|rfl
  ·exact hnil
  ·exact(hlv q h).1
  ·exact hnil
 ·rcases hmem q hq with rfl|h|rfl
  ·exact Heap.lt_size (hs.get (e1,aa [] 0) (List.mem_append_right _ (.head _)))
  ·exact hlt q h
  ·exact Heap.lt_size (hs.get (e2,aa [] 0) (List.mem_append_right _ (.tail _ (.head _))))
 ·rcases hmem q hq with rfl|h|rfl
  ·exact List.mem_append_right _ (.head _)
  ·exact List.mem_append_left _ (hlv q h).2
  ·exact List.mem_append_right _ (.tail _ (.head _))
 rintro r s' ⟨hr,N,T',za',zb',h1,h2,hT,hE,hf'⟩
 rcases hT with⟨h3,_⟩|⟨x,y,u,v,t,rfl,rfl,rfl⟩
 ·simp at h3
 rw[List.nil_append] at hE hf'
 have hC:N.map (·.c)=l7 sgs lvs:=by rw[h1];simp[l7]
 let w1:=(Q.getD (Q.length-2) wg).a
 let w2:=(Q.getD (Q.length-1) wg).a
 let σ:Nat→Nat:=λk=>match k with|0=>x|1=>y|2=>u|3=>v|4=>w1|5=>w2|6=>t|k+7=>CS N k
 have e1':fK (l7 sgs lvs) (λi=>a7 s'.heap.objs.size s'.toks σ (i+9))=N:=rW hC λk=>rfl
 have hNl:N.length=(l7 sgs lvs).length:=by rw[←hC,List.length_map]
 have hTn:(([(e1,aa [] 0),(e2,aa [] 0)]:KL).map (·.1)).Nodup:=by simp[he12]
 have hE2:am V ((bA Zz zt zk i1 i2 l g .none .none .none 0 vs ep ps eg++kI V.w.params fr sg cd a d [] kk lv ct κ z [] 0 (fY sgs τ) es++[(e1,aa [] 0),(e2,aa [] 0)]).map (·.1)) s _ s':=
  ⟨hE.at'.thaw hf' (R:=[(e1,aa [] 0),(e2,aa [] 0)]) (λp hp=>List.mem_append_left _ (List.mem_append_right _ hp)) hTn,λb o h hb=>hE.pres b o h λhm=>hb (by
   rw[List.map_append];exact List.mem_append_left _ hm),hE.grow⟩
 refine⟨a7 _ _ σ,hr,aW (H:=xB V.w.params fr Zz zt zk i1 i2 l g kk lv sg cd a d e1 e2 ct κ z vs ep ps eg (fY sgs τ) es (λρ=>mf false (ρ 2) (ρ 3) (ρ 4) (ρ 5) (.ref (ρ 6)) (.ref (ρ 7)) (.int (sgs.length-1:Nat) (ρ 8)) (l8 sgs τ)) (λρ=>bg (fK (l7 sgs lvs) (λi=>ρ (i+9)))) (l7 sgs lvs).length (λρ=> .ref (ρ 6)) (λρ=> .ref (ρ 7)) (lvs.length+1) js) hE2 σ rfl ?_ (λO hp=>nomatch hp),trivial,λp hp=> ?_⟩
 ·show _=List.zip _ (List.map _ (fP Zz zt zk i1 i2 l g .none (.ref w1) (.ref w2) (lvs.length+1) vs ep ps eg++kI V.w.params fr sg cd a d (mf false x y u v (.ref w1) (.ref w2) (.int (sgs.length-1:Nat) t) (l8 sgs τ)) kk lv ct κ z (bg (fK (l7 sgs lvs) (λi=>a7 s'.heap.objs.size s'.toks σ (i+9)))) (l7 sgs lvs).length (fY sgs τ) es++[(e1,aa [] 0),(e2,aa [] 0)]))++[]
  have hvl':vs.length=lvs.length+1:=by rw[hvl,hQl];rfl
  rw[e1',←hNl,List.append_nil,←hvl']
  rfl
 ·have hp:p∈gv (fK (l7 sgs lvs) (λi=>a7 s'.heap.objs.size s'.toks σ (i+9))):=hp
  rw[e1'] at hp
  obtain⟨h4,h5,h6⟩:=hf' p (List.mem_append_right _ hp)
  refine⟨h4,?_,λhm=>nomatch hm⟩
  obtain⟨e,he,rfl⟩:=List.mem_map.mp hp
  exact h2 e he
theorem Cv(P):d4 P 196=true:=by kernel_rfl!
noncomputable def nO(P:Params)(l g ep eg:Nat)(lvs:List dU)(sgs:List Nat)(τ:Nat→Nat)(js:List Nat):aD:=
 ⟨.call (.ref 196) ⟨[.ref l,.ref g],[]⟩,js,[(l,aa (dT lvs) ep),(g,aa (fY sgs τ) eg)],λρ=> .ok (.ret (.ref (ρ 3))),λO=>[aa (dT lvs) ep,aa (fY sgs τ) eg],λρ=>[(ρ 3,aG (ρ 2) (bg (fK (l7 sgs lvs) (λi=>ρ (i+6)))) (l7 sgs lvs).length),(ρ 2,bn P (b6 (ρ 4) (ρ 5) 0))]⟩
theorem tH{V:Gw}(G:au V){l g ep eg:Nat}{lvs:List dU}{F:KL}(hlv:∀q∈lvs,aI q.vs q.ns∧q.k∈F)(hn:(lvs.map (·.a)).Nodup)(hne:lvs≠[])
  {sgs:List Nat} {τ:Nat→Nat} (hch:∀c∈sgs,c∈[40,91,123]) (hnes:sgs≠[]) (hsg:sgs.length≤20) (hsm:(lvs.length+1)*sgs.length≤180) (hll:lvs.length≤100) {js:List Nat}:
  aQ V 6 (nO V.w.params l g ep eg lvs sgs τ js) F (λO=>True) (λρ=>gv (fK (l7 sgs lvs) (λi=>ρ (i+6)))):=by
 intro A s hA h hf
 refine ga G hA (Cv _) hf h (a6 (FE V.w.params (aC V) s.heap.objs.size s.toks l g (dT lvs) ep (fY sgs τ) eg) (aB V)) (aS rfl) λs1 hs1 hf1=> ?_
 have hlr:(dT lvs).length=lvs.length:=by simp[dT]
 refine aR G hf1 (a6 (FF V.w.params (aC V) s.heap.objs.size s1.heap.objs.size s1.toks s.toks l g (dT lvs) ep (fY sgs τ) eg
  (λρ=>mf false (ρ 2) (ρ 3) (ρ 4) (ρ 5) (.ref (ρ 6)) (.ref (ρ 7)) (.int (sgs.length-1:Nat) (ρ 8)) (l8 sgs τ)) (λρ=>bg (fK (l7 sgs lvs) (λi=>ρ (i+9)))) (l7 sgs lvs).length (λρ=> .ref (ρ 6)) (λρ=> .ref (ρ 7))) (aB V)) hA hs1.at' ?_
 have hb:=sm G
 have hb1:=hs1.at'.base.size
 refine bh (l:=1) (X:=λO=>[]) (ai.hookF (tS G)) rfl rfl rfl λρ O O hn1 O=> ?_
 rw[List.append_nil]
 have hρ3:=hn1 (ρ 3,aG (ρ 2) [] 0) (.tail _ (.head _))
 refine ac (l:=2) (qH G (Nat.le_trans (by lia) hρ3)) rfl rfl rfl λρ1 O O=>ac (l:=0) (jy (by show _≤1000;rw[hlr];simp;lia)) rfl rfl rfl λρa O O=>ac (l:=0) (jy (by show _≤1000;rw[hlr];simp;lia)) rfl rfl rfl λρb O O=> ?_
 refine bh (l:=5) (yY G hlv hn hne rfl rfl hch hnes hsg hsm rfl (by rw[hlr])) rfl rfl rfl λρc O O O hX=>an rfl λs2 hs2 hf2=> ?_
 try dsimp only at hs2 hf2 hX
 have hE:=hs1.trans hs2 (λa ha=>by
  simp only[List.map_cons,List.map_nil,gV,List.not_mem_nil,or_false] at ha⊢
  rcases ha with rfl|rfl|rfl
  ·exact .inr (Nat.le_refl _)
  ·exact .inl (.head _)
  ·exact .inl (.tail _ (.head _)))
 have hg:=hs1.grow
 let τ':Nat→Nat:=λk=>match k with|0=>ρ 2|1=>ρ 3|2=>ρ1 2|3=>s1.toks|k+4=>ρc (k+9)
 refine⟨a7 s2.heap.objs.size s2.toks τ',rfl,aW (H:=nO V.w.params l g ep eg lvs sgs τ js) hE τ' rfl rfl (λp hp=> ?_),trivial,λp hp=> ?_⟩
 ·rcases e6 hp with rfl|hp
  ·exact Nat.le_trans hg hρ3
  ·rw[List.mem_singleton.mp hp]
   exact Nat.le_trans hg (hn1 (ρ 2,{cls:= .type "dict",data:= .dict #[]}) (.head _))
 ·obtain⟨h4,h5,h6⟩:=hf2 p (List.mem_append_right _ hp)
  exact⟨h4,Nat.le_trans hg (hX p hp),λhm=>h5 (by
   obtain⟨q,hq,e⟩:=List.mem_map.mp hm
   rw[←e]
   exact List.mem_map_of_mem (f:=(·.1)) (.tail _ (.tail _ hq)))⟩
section
variable {prog:Program} {w:World} {A:Around} {E:Value→Shared→Prop} {s:Shared}
theorem nj{it l:Addr}{i:Nat}{items:Array Value}{ol:Obj}{nl:Nat}{Q:Option Value→Shared→Prop}(hh:A.handled=none)
  (hit:s.heap.IsListIter it l i) (hol:s.heap.get? l=some ol) (hdl:ol.data= .seq items nl)
  (hs:∀x,items[i]?=some x→∀h',h'.IsListIter it l (i+1)→Heap.SameBut it s.heap h'→Q (some x) {s with heap:=h'})
  (hn:items[i]?=none→∀h',Heap.ExtBut it s.heap h'→Q none {s with heap:=h'}):wpAny (model prog w) A (pyNext (.ref it)) Q E s:=by
 obtain⟨o,ho,hc,hd⟩:=id hit
 unfold pyNext
 refine wpAny_bind (wpAny_attempt (wpAny_callSpecial?_slot (name:=Str.ofString "__next__") hit.typeIs slot_listiter_next (wpAny_call_entry slot_listiter_next hit.typeIs entry_listiter_next ?_ (args_listiter_next _))))
 show wpAny _ _ (field (.ref it) 0>>=_) _ _ s
 refine wpAny_bind (wpAny_field ho hd (x:= .ref l) rfl ?_)
 show wpAny _ _ (if(Value.ref l==Value.none)=true then _ else _) _ _ s
 rw[if_neg (show¬((Value.ref l==Value.none)=true) from Bool.false_ne_true)]
 show wpAny _ _ (field (.ref it) 1>>=_) _ _ s
 refine wpAny_bind (wpAny_field ho hd (x:= .int i 0) rfl ?_)
 show wpAny _ _ (seqItems? (.ref l)>>=_) _ _ s
 refine wpAny_bind (wpAny_seqItems hol hdl ?_)
 cases hx:items[i]? with
 |some x=>
  simp only[Int.toNat_natCast,hx]
  refine wpAny_bind (wpAny_setField ho hd (by simp) (wpAny_pure ⟨x,rfl,wpAny_pure (hs x hx _ ?_ (Heap.SameBut.update ..))⟩))
  exact⟨_,Heap.get?_update_self _ ho (Obj.isFreed_of_fields (Obj.data_mapFields hd _)),(Obj.cls_mapFields ..).trans hc,by rw[Obj.data_mapFields hd];simp[rawInt]⟩
 |none=>
  simp only[Int.toNat_natCast,hx]
  refine wpAny_bind (wpAny_rule (wpAny_bind (wpAny_setField ho hd (by simp) ?_)))
  show wpAny _ _ (newExc (.type "StopIteration") []>>=_) _ _ _
  refine wpAny_bind ?_
  simp only[newExc,newTuple]
  refine wpAny_bind (wpAny_newObj_type ?_ (by size_fits))
  refine wpAny_bind (m:=firstArgMember _ _) (wpAny_of_eq (a:=Value.none) (by first|rfl|(simp only[firstArgMember];rfl)) ?_)
  refine wpAny_newObj_type ?_ (by size_fits)
  simp only[raiseNew]
  refine wpAny_bind (wpAny_handled ?_)
  rw[show A.in1.handled=none from hh]
  refine wpAny_bind (wpAny_pure (wpAny_throw ?_))
  refine wpAny_bind (wpAny_isInstance (T:="StopIteration") (b:=true) ⟨_,Heap.get?_push_size _ rfl,rfl⟩ isSubtype_stop ?_)
  exact wpAny_pure (hn hx _ (((Heap.SameBut.update ..).extBut.push _).push _))
end
noncomputable def mu(I a d ep:Nat)(es:List fU)(j:Nat)(h:Heap):Prop:=h.IsListIter I a j∧h.get? a=some (aG d (bg es) ep)∧∀e∈es,h.get? e.pt=some e.o
noncomputable def Ba(es:List fU)(j:Nat)(v:Array Value):Prop:=∃e,es[j]?=some e∧v=#[.str ⟨#[]⟩ e.u,.str (aX [e.c]) e.t]
theorem lY{I a d ep j:Nat}{es:List fU}{h:Heap}(x:mu I a d ep es j h):a≠I∧∀e∈es,e.pt≠I:=by
 obtain⟨⟨o,ho,hc,hd⟩,h1,h2⟩:=x
 refine⟨λe=> ?_,λp hp e=> ?_⟩
 ·rw[e,ho] at h1;cases h1;cases hc
 ·have h3:=h2 p hp
  rw[e,ho] at h3
  injection h3 with h3
  rw[h3] at hc
  exact absurd hc (by simp[fU.o,al])
theorem qR{I a d ep j j':Nat}{es:List fU}{h h':Heap}(x:mu I a d ep es j h)(hit:h'.IsListIter I a j')(hk:Heap.ExtBut I h h'):mu I a d ep es j' h':=
 ⟨hit,hk _ _ (lY x).1 x.2.1,λe he=>hk _ _ ((lY x).2 e he) (x.2.2 e he)⟩
theorem qQ{prog:Program}{w:World}{A:Around}(hh:A.handled=none)(I a d ep:Nat)(es:List fU):
  WalksU prog w A I (I::a::es.map (·.pt)) [I] es.length (Ba es) (mu I a d ep es) (λj T h=>(∃e,es[j]?=some e∧T=e.pt)∧mu I a d ep es (j+1) h) where
 sub:=λb hb=>by simp at hb;simp[hb]
 frame:=λO O O st hk=>⟨st.1.at λo e=>hk I (by simp) o e,hk a (by simp) _ st.2.1,λe he=>hk e.pt (List.mem_cons_of_mem _ (List.mem_cons_of_mem _ (List.mem_map_of_mem he))) _ (st.2.2 e he)⟩
 item:=λi s Q E hi st hQ=>by
  refine nj hh st.1 st.2.1 rfl (λx hx h' hit hs=> ?_) (λhx=> ?_)
  ·have hx:(bg es)[i]?=some x:=by simpa using hx
   have hg:es[i]?=some es[i]:=List.getElem?_eq_getElem hi
   have hx':x= .ref es[i].pt:=by rw[bg,List.getElem?_map,hg] at hx;exact(Option.some.inj hx).symm
   subst hx'
   have st':=qR st hit hs.extBut
   exact hQ es[i].pt _ h' s.toks ⟨_,hg,rfl⟩ ⟨_,st'.2.2 _ (List.getElem_mem hi),rfl,_,rfl⟩ ⟨⟨_,hg,rfl⟩,st'⟩ λb o hb e=>hs.extBut b o (λh=>hb (by simp[h])) e
  ·exfalso
   have hx:(bg es)[i]?=none:=by simpa using hx
   rw[bg,List.getElem?_map,List.getElem?_eq_getElem hi] at hx
   cases hx
 go:=λO O O O O s Q O hm hQ=>wpAny_letOwnedTupleGo_listiter hm.2.1 (hQ s.heap hm.2 λO O O e=>e)
 apart:=λj T h hm hmem=>by
  obtain⟨⟨e,he,rfl⟩,st⟩:=hm
  exact(lY st).2 e (List.mem_of_getElem? he) (List.mem_singleton.mp hmem)
 done:=λs Q E st hQ=>by
  refine nj hh st.1 st.2.1 rfl (λx hx=> ?_) (λhx h' he'=>hQ h' s.toks λb o hb e=>he' b o (λh=>hb (by simp[h])) e)
  exfalso
  have hx:(bg es)[es.length]?=some x:=by simpa using hx
  rw[List.getElem?_eq_none (by simp[bg])] at hx
  cases hx
 self:=λO O O O st hQ=>wpAny_pyIter_listiter st.1 hQ
noncomputable def ln(line col:Int):Nat→Array Value
 |0=>#[]
 |x+1=>#[rawInt line,rawInt col,.ref x]
noncomputable def aP(p:Pos)(x:Nat):Obj:={cls:= .none,data:= .fields (ln p.line p.col x)}
theorem eT(n:Nat):passing (λO=>true) n 0=List.range n:=by
 unfold passing
 rw[List.drop_zero,List.filter_eq_self.mpr λO O=>rfl]
noncomputable def Top(V:Gw)(h:Heap):Prop:=∀b o,V.h0.get? b=some o→b∉V.tb→h.get? b=some o
theorem Top.of{V:Gw}{s:Shared}(B:f8 V s):Top V s.heap:=B.old
structure fS(V:Gw):Prop where
 mod:∃ob,V.h0.get? 4=some ob∧4∉V.tb∧ob.cls= .type "module"∧ob.dict=some builtinsNs∧ob.data= .plain
 gp:∀x,V.gp x↔AllBare x
 tb62:62∈V.tb
 tb69:69∈V.tb
structure Bb(V:Gw)(A:Around)(s:Shared)(Pt:Addr)(p:Pos)(n:Nat)(Fv:Nat→Value→Prop)(g:Addr)(s':Shared):Prop where
 walk:∃fp wr gi St,WalksS V.prog V.w A.in4 g fp wr (GenOnlyQ gi) (passing (λO=>true) n 0).length (λj y=>∃i,(passing (λO=>true) n 0)[j]?=some i∧Fv i y) St∧St 0 s'∧(∀i s',St i s'→s'.TypeIs (.ref g) "generator")∧g∈fp∧(∀b∈fp,b<s'.heap.objs.size)∧(∀b∈wr,s.heap.objs.size≤b)∧
  ∀h' tk,(∀b∈fp,∀o,s'.heap.get? b=some o→h'.get? b=some o)→St 0 {s' with heap:=h',toks:=tk}
 gens:AllBare s'.gens
 drawn:s'.drawn=V.d
 os:s'.os=V.os
 grow:s.heap.objs.size≤s'.heap.objs.size
 heap:Heap.ExtBut Pt s.heap s'.heap
 tab:∃x,s'.heap.get? Pt=some (aP p x)
theorem pS{V:Gw}(G:au V)(hM:fS V){env:Env}{elt itx:Expr}{xa xb:Str}{pa pb pt pos:Pos}{kt:Nat}{scope:Scope}{A:Around}{s:Shared}{a d ep Pt c:Nat}{es:List fU}{Fv:Nat→Value→Prop}{Q:Value→Shared→Prop}
  (hh:A.handled=none) (hroom:A.depth<recursionLimit) (hco:scope.isCoroutine=false) (hclos:closureFor scope env=pure []) (hcell:∀y∈scope.names,y.2≠ .cell) (h0:scope.names.lookup (".0":Str)=some NameKind.local)
  (hxa:scope.names.lookup xa=some .local) (hxb:scope.names.lookup xb=some .local) (hab:xa≠xb) (hkind:scope.kind= .function) (hs:∀x,genFold itx env x=pure x)
  (hcode:env.code= .ref c) (hIC:∀(h:Heap) (x:Nat),Top V h→h.get? Pt=some (aP pos x)→h.IsCode c Pt (ln pos.line pos.col x)∧h.TableAt c Pt (ln pos.line pos.col x))
  (hBM:∀h:Heap,Top V h→∃mg bm ob,BMod h env.globals mg bm ob) (hPt:Pt∈V.tb)
  (hev:wpAny (model V.prog V.w) A (eval itx env) (λxv s₁=>wpAny (model V.prog V.w) A (pyIter xv) (λit s₂=>∃I x,it= .ref I∧s.heap.objs.size≤I∧I<s₂.heap.objs.size∧f8 V s₂∧s.heap.objs.size≤s₂.heap.objs.size∧(∀b o,s.heap.get? b=some o→s₂.heap.get? b=some o)∧mu I a d ep es 0 s₂.heap∧s₂.heap.get? Pt=some (aP pos x)∧I≠Pt∧a≠Pt∧∀e∈es,e.pt≠Pt) No s₁) No s)
  (hbig:V.h0.objs.size≤s.heap.objs.size)
  (helt:∀(A':Around) E' (C:Addr) (code:Value) (e:fU) i (s₂:Shared) m₂,A'.handled=none→es[i]?=some e→s₂.heap.Ns C m₂→m₂ xa=some (.str ⟨#[]⟩ e.u)→m₂ xb=some (.str (aX [e.c]) e.t)→Top V s₂.heap→
   wpAny (model V.prog V.w) A' (eval elt (genEnv scope [] C code builtinsNs env)) (λy s₃=>Fv i y∧Keeps s₂ s₃) E' s₂)
  (hQ:∀g s',Bb V A s Pt pos es.length Fv g s'→Q (.ref g) s'):
  wpAny (model V.prog V.w) A (eval (.GeneratorExp elt [⟨.Tuple [.Name xa pa,.Name xb pb] kt pt,itx,[],0⟩] scope pos) env) Q No s:=by
 refine wpAny_GeneratorExp_walksQT hh hco hclos hcell h0 hxa hxb hab hkind hroom (wpAny_mono hev (λxv s₁ h₁=>wpAny_mono h₁ (λit s₂ h₂=> ?_) λO O e=>e) λO O e=>e) hs
 obtain⟨I,x,rfl,hI,hIl,B₂,hg₂,hk₂,hst,htab,hIP,haP,heP⟩:=h₂
 have T₂:=Top.of B₂
 have hlim:=G.lim s₂ B₂
 have hcP:cStatics≠Pt:=λe=>by
  obtain⟨_,hns,_⟩:=hlim
  obtain⟨o,es,ep,ho,hd,_⟩:=hns
  rw[e,htab] at ho;cases ho;cases hd
 refine⟨hlim,?_⟩
 have main:∀(code:Value) (h₃:Heap) (tk:Nat) (x':Nat),Heap.ExtBut Pt s₂.heap h₃→s₂.heap.objs.size≤h₃.objs.size→h₃.get? Pt=some (aP pos x')→
   wpAny (model V.prog V.w) A (builtinsFor env.globals env.builtins) (λbi s₄=>
    ∃I' fp wr n₀ Pt St₀ Mid pz F,Value.ref I= .ref I'∧(∀A':Around,A'.handled=none→WalksU V.prog V.w A' I' fp wr n₀ Pt St₀ Mid)∧(∀i vals,Pt i vals→∃va vb,vals=#[va,vb])∧St₀ 0 s₄.heap∧(∀b∈fp,b<s₄.heap.objs.size)∧s₄.heap.NoLimit∧cStatics∉wr∧
     (∀href:Heap,(∀b o,s₄.heap.get? b=some o→href.get? b=some o)→
      QuietGenT V.prog V.w (genEnv scope [] s₄.heap.objs.size code bi env) xa xb [] elt (List.range s₄.heap.objs.size) wr Pt pz F href)∧
     (∀a h₅ tk gs,gs.bare=true→s₄.heap.objs.size<a→h₅.objs.size=a+1→(∀b o,s₄.heap.get? b=some o→h₅.get? b=some o)→
      WalksS V.prog V.w A.in4 a (a::s₄.heap.objs.size::List.range s₄.heap.objs.size) (s₄.heap.objs.size::wr) (GenOnlyQ s₄.gens.size) (passing pz n₀ 0).length
       (λj y=>∃i,(passing pz n₀ 0)[j]?=some i∧F i y) (GenAt V.prog V.w A.in4 a s₄.gens.size s₄.heap.objs.size (List.range s₄.heap.objs.size) wr pz n₀ F)→
      GenAt V.prog V.w A.in4 a s₄.gens.size s₄.heap.objs.size (List.range s₄.heap.objs.size) wr pz n₀ F 0 {s₄ with gens:=s₄.gens.push gs,toks:=tk,heap:=h₅}→
      Q (.ref a) {s₄ with gens:=s₄.gens.push gs,toks:=tk,heap:=h₅})) No {s₂ with heap:=h₃,toks:=tk}:=by
  intro code h₃ tk x' hx₃ hsz htab₃
  have T₃:Top V h₃:=λb o hb hbt=>hx₃ b o (λe=>hbt (e▸hPt)) (T₂ b o hb hbt)
  obtain⟨mg,bm,ob,M⟩:=hBM h₃ T₃
  refine wpAny_builtinsFor (s:={s₂ with heap:=h₃,toks:=tk}) M.ns M.name M.ne M.obj M.cls M.dict M.data ?_
  have hcl:cStatics<V.h0.objs.size:=by
   obtain⟨mc,hns,_⟩:=hlim
   exact Nat.lt_of_le_of_lt (show(2:Nat)≤189 by decide) (sm G)
  have hst₃:mu I a d ep es 0 h₃:=⟨hst.1.at λo e=>hx₃ _ o hIP e,hx₃ _ _ haP hst.2.1,λe he=>hx₃ _ _ (heP e he) (hst.2.2 e he)⟩
  have hIw:cStatics∉[I]:=λhm=>by
   have e:cStatics=I:=List.mem_singleton.mp hm
   rw[e] at hcl
   exact absurd (Nat.le_trans hbig hI) (Nat.not_le.mpr hcl)
  refine⟨I,I::a::es.map (·.pt),[I],es.length,Ba es,mu I a d ep es,_,(λO=>true),Fv,rfl,λA' hA'=>qQ hA' I a d ep es,λi vals ⟨e,_,h⟩=>⟨_,_,h⟩,hst₃,?_,hlim.extBut hx₃ hcP,hIw,λhref hhref=> ?_,λg h₅ tk' gs hgb hag hsz₅ hk₅ W hat=> ?_⟩
  ·intro b hb
   show b<h₃.objs.size
   rcases e6 hb with rfl|hb
   ·exact Nat.lt_of_lt_of_le hIl hsz
   ·rcases e6 hb with rfl|hb
    ·exact Heap.lt_size hst₃.2.1
    ·obtain⟨e,he,rfl⟩:=List.mem_map.mp hb
     exact Heap.lt_size (hst₃.2.2 e he)
  ·constructor
   ·intro A' E' i va vb s' m' _ _ _ _ _ _
    exact wpAny_pure ⟨rfl,_,_,rfl,λO O e=>e⟩
   ·intro A' E' i va vb s' m' hA' hP _ hn' ha' hb' hk'
    obtain⟨e,he,hv⟩:=hP
    injection hv with hv
    injection hv with h1 hv
    injection hv with h2 _
    subst h1 h2
    refine helt A' E' _ code e i s' m' hA' he hn' ha' hb' λb o hb hbt=> ?_
    have hb3:=T₃ b o hb hbt
    refine hk' b (List.mem_range.mpr (Heap.lt_size hb3)) (λhm=> ?_) o (hhref b o hb3)
    have e:b=I:=List.mem_singleton.mp hm
    have hlt:=Heap.lt_size hb
    rw[e] at hlt
    exact absurd (Nat.le_trans hbig hI) (Nat.not_le.mpr hlt)
  ·have hag:h₃.objs.size<g:=hag
   refine hQ g _ ⟨⟨_,_,_,_,W,hat,λi s' st=>st.1.typeIs,List.mem_cons_self,?_,?_,?_⟩,AllBare.push ((hM.gp _).mp B₂.gens) hgb,B₂.drawn,B₂.os,?_,λb o hb e=>hk₅ b o (hx₃ b o hb (hk₂ b o e)),x',hk₅ _ _ htab₃⟩
   ·intro b hb
    show b<h₅.objs.size
    rw[hsz₅]
    rcases e6 hb with rfl|hb
    ·exact Nat.lt_succ_self _
    ·rcases e6 hb with rfl|hb
     ·exact Nat.lt_succ_of_lt hag
     ·exact Nat.lt_succ_of_lt (Nat.lt_trans (List.mem_range.mp hb) hag)
   ·intro b hb
    rcases e6 hb with rfl|hb
    ·exact Nat.le_trans hg₂ hsz
    ·rw[List.mem_singleton.mp hb];exact hI
   ·intro h' tk'' hk'
    exact W.frame 0 {s₂ with heap:=h₅,toks:=0,gens:=s₂.gens.push gs} h' tk'' hat (Nat.zero_le _) hk'
   ·show s.heap.objs.size≤h₅.objs.size
    rw[hsz₅];exact Nat.le_succ_of_le (Nat.le_trans hg₂ (Nat.le_trans hsz (Nat.le_of_lt hag)))
 cases x with
 |zero=>
  obtain⟨hc₀,ht₀⟩:=hIC s₂.heap 0 T₂ htab
  exact wpAny_genexprCodeX hcode hc₀ ht₀ rfl λc' h₃ tk₃ hx₃ hge hlt hcode₃ O htab₃ O=>main (.ref c') h₃ tk₃ (c'+1) hx₃ (Nat.le_trans hge (Nat.le_of_lt hlt)) htab₃.2
 |succ x=>
  obtain⟨hc₀,ht₀⟩:=hIC s₂.heap (x+1) T₂ htab
  refine wpAny_genexprCode_hit hcode hc₀ (c':= .ref x) ?_ (main (.ref x) s₂.heap s₂.toks (x+1) (Heap.ExtBut.refl _ _) (Nat.le_refl _) htab)
  simp[ln,codeAmong,rawInt]
noncomputable def oR:=ZFast.zw8711993805878244202
theorem m5:pyIter=oR:=by unfold oR;exact ZFast.ze8711993805878244202
noncomputable def Di:List Stmt→Expr
 |[.Return (some e) _]=>e
 |_=> .Constant .none 0 ⟨0,0,0,0⟩
noncomputable def HW:List Stmt→Pos
 |[.Return (some e) p]=>p
 |_=>⟨0,0,0,0⟩
noncomputable def iE:Expr→Nat→Expr
 | .Call _ as _ _,k=>as[k]?.getD (.Constant .none 0 ⟨0,0,0,0⟩)
 |e,_=>e
noncomputable def cE:Expr→Expr
 | .GeneratorExp e _ _ _=>e
 |e=>e
noncomputable def kw:Expr→Expr
 | .GeneratorExp _ [⟨_,it,_,_⟩] _ _=>it
 |e=>e
noncomputable def mq:Expr→Expr
 | .GeneratorExp _ [⟨t,_,_,_⟩] _ _=>t
 |e=>e
noncomputable def d5:Expr→Scope
 | .GeneratorExp _ _ s _=>s
 |_=>default
noncomputable def CW:Expr→Pos
 | .GeneratorExp _ _ _ p=>p
 |_=>⟨0,0,0,0⟩
noncomputable def zS:Expr→Nat→Expr
 | .Tuple es _ _,k=>es[k]?.getD (.Constant .none 0 ⟨0,0,0,0⟩)
 |e,_=>e
noncomputable def De:Expr→Nat
 | .Tuple _ k _=>k
 |_=>0
noncomputable def Dd:Expr→Pos
 | .Tuple _ _ p=>p
 |_=>⟨0,0,0,0⟩
noncomputable def nq:Expr→Pos
 | .Name _ p=>p
 |_=>⟨0,0,0,0⟩
noncomputable def i3:Array Nat:=#[112,97,114,116]
noncomputable def p5:Array Nat:=#[69,77,80,84,89,83,84,82,73,78,71]
noncomputable def fQ(P:Params)(fr:Addr):Env:=f6 (aU P 74) 74 fr []
noncomputable def zZ(P:Params):Expr:=Di (aA (aU P 74))
noncomputable def f4(P:Params):Expr:=iE (zZ P) 0
noncomputable def eo(P:Params):Pos:=CW (f4 P)
noncomputable def ul(P:Params)(fr a d:Addr)(k0:Nat)(vs:List Value)(ep:Nat)(Pt:Addr)(p:Pos)(x:Nat):KL:=[(fr,cY P [(b4,k0,.ref a)]),(a,aG d vs ep),(Pt,aP p x)]
theorem IZ(P:Params)(n t a d:Nat)(vs:List Value)(ep x:Nat):Qk 100 λr=>ay λb1 b2=>r (bK P b1 b2 74 [.ref a] [(a,aG d vs ep),(69,aP (eo P) x)] n t [0,3,3] n [] [2,0,1] (ul P n a d t vs ep 69 (eo P) x)):=by unfold Qk;kernel_rfl!
theorem IY(P:Params)(n tt fr a d k0:Nat)(vs:List Value)(ep x:Nat):Qk 100 λr=>ay λb1 b2=>r ( dQ P b1 b2 (kw (f4 P)) (fQ P fr) (ul P fr a d k0 vs ep 69 (eo P) x) n tt (.fin [1] (.ok (.ret (.ref a))) [0,1,2] (ul P fr a d k0 vs ep 69 (eo P) x))):=by unfold Qk;kernel_rfl!
theorem IX(P:Params)(n tt fr a d k0:Nat)(vs:List Value)(ep x Pt:Nat)(p:Pos):Qk 100 λr=>ay λb1 b2=>r ( bf P b1 b2 (pZ (oR (.ref a))) (ul P fr a d k0 vs ep Pt p x) n tt (.fin [2,0,0,0,2,0,0,0,0,2,0,4] (.ok (.ret (.ref n))) [0,1,2,3] (ul P fr a d k0 vs ep Pt p x++[(n,aj a 0)]))):=by unfold Qk;kernel_rfl!
theorem zM(P):aA (aU P 74)=[.Return (some (.Call (.Attribute (.Name (nm p5) (nq (cS (zZ P)))) "join" (bI (zZ P))) [.GeneratorExp (cE (f4 P)) [⟨.Tuple [.Name (nm kq) (nq (zS (mq (f4 P)) 0)),.Name (nm i3) (nq (zS (mq (f4 P)) 1))] (De (mq (f4 P))) (Dd (mq (f4 P))),kw (f4 P),[],0⟩] (d5 (f4 P)) (CW (f4 P))] [] (aZ (zZ P)))) (HW (aA (aU P 74)))]:=by kernel_rfl!
theorem CD(P):cE (f4 P)= .Call (.Attribute (.Name (nm p5) (nq (cS (cE (f4 P))))) "join" (bI (cE (f4 P)))) [.Tuple [.Name (nm kq) (nq (zS (iE (cE (f4 P)) 0) 0)),.Name (nm i3) (nq (zS (iE (cE (f4 P)) 0) 1))] (De (iE (cE (f4 P)) 0)) (Dd (iE (cE (f4 P)) 0))] [] (aZ (cE (f4 P))):=by kernel_rfl!
theorem HH(P):d4 P 74=true:=by kernel_rfl!
theorem yC(P):((bI (zZ P)).endLine==(aZ (zZ P)).line)=true:=by kernel_rfl!
theorem vo(P):((bI (cE (f4 P))).endLine==(aZ (cE (f4 P))).line)=true:=by kernel_rfl!
theorem Fg(P):kw (f4 P)= .Name (nm b4) (nq (kw (f4 P))):=by kernel_rfl!
theorem Ee(P fr):(fQ P fr).kindOf (nm p5)=some .globalImplicit:=by kernel_rfl!
theorem DW(P fr):(fQ P fr).scope.kind= .function:=by kernel_rfl!
theorem xM(P fr):(fQ P fr).globals=3:=by kernel_rfl!
theorem HO(P fr):(fQ P fr).code= .ref (bN P 74):=by kernel_rfl!
theorem Fo(P):(d5 (f4 P)).isCoroutine=false:=by kernel_rfl!
theorem AD(P):(d5 (f4 P)).kind= .function:=by kernel_rfl!
theorem AB(P):(d5 (f4 P)).names.all (λy=>match y.2 with| .cell=>false| .free=>false|_=>true)=true:=by kernel_rfl!
theorem HD(P):(d5 (f4 P)).names.lookup (".0":Str)=some NameKind.local:=by kernel_rfl!
theorem AH(P):(d5 (f4 P)).names.lookup (nm kq)=some NameKind.local:=by kernel_rfl!
theorem AF(P):(d5 (f4 P)).names.lookup (nm i3)=some NameKind.local:=by kernel_rfl!
theorem Fm(P):(d5 (f4 P)).names.lookup (nm p5)=some NameKind.globalImplicit:=by kernel_rfl!
theorem Ap(P):(ck P).get (bN P 74)=some (bC P (bN P 74)):=by kernel_rfl!
noncomputable def jv(o:Obj)(Pt:Nat):Bool:=match o.cls with
 | .type "code"=>match o.data with
  | .fields vs=>(match vs[11]? with|some (Value.ref q)=>Nat.beq q Pt|_=>false)&&((match vs.getD 18 .none with| .str _ _=>true|_=>false)&&((match vs.getD 7 .none with| .int _ _=>true|_=>false)&&((match vs.getD 9 .none with| .bool _=>true|_=>false)&&(match vs.getD 10 .none with| .int _ _=>true|_=>false))))
  |_=>false
 |_=>false
theorem Az(P):jv (bC P (bN P 74)) 69=true:=by kernel_rfl!
theorem Au(P):Nat.beq (bN P 74) 69=false:=by kernel_rfl!
noncomputable def bM(o:Obj):List DictEntry:=match o.data with
 | .dict es _=>es.toList
 |_=>[]
noncomputable def ju(o:Obj):Bool:=match o.data with
 | .dict es _=>es.toList.all λe=>match e.key with| .str _ _=>true|_=>false
 |_=>false
noncomputable def c9(es:List DictEntry)(x:Str):Option Value:=(es.find? λe=>e.key.isStr x).map (·.val)
theorem xg(P):(ck P).get 3=some (bC P 3):=by kernel_rfl!
theorem H1(P):(ck P).get 0=some (bC P 0):=by kernel_rfl!
theorem xj(P):ju (bC P 3)=true:=by kernel_rfl!
theorem Ih(P):ju (bC P 0)=true:=by kernel_rfl!
noncomputable def D1(v:Option Value):Nat:=match v with
 |some (.ref a)=>a
 |_=>0
noncomputable def Bm(v:Option Value):Nat:=match v with
 |some (.str _ t)=>t
 |_=>0
noncomputable def tE(P:Params):Nat:=Bm (c9 (bM (bC P 3)) (nm p5))
theorem AO(P):c9 (bM (bC P 3)) (nm p5)=some (.str ⟨#[]⟩ (tE P)):=by kernel_rfl!
noncomputable def Im(P:Params):Nat:=D1 (c9 (bM (bC P 3)) "__builtins__")
theorem In(P):c9 (bM (bC P 3)) "__builtins__"=some (.ref (Im P)):=by kernel_rfl!
theorem A9(P):Im P=4:=by kernel_rfl!
set_option tactic.hygienic true
theorem hZ{h:Heap}{a:Addr}{o:Obj}(ho:h.get? a=some o)(hd:ju o=true):h.Ns a (c9 (bM o)):=by
 obtain⟨c,d,dt,sl⟩:=o
 cases dt with
 |dict es ep=>
  refine⟨_,es,ep,ho,rfl,λe he=> ?_,λname=> ?_⟩
  ·have h1:=List.all_eq_true.mp hd e (by simpa using he)
   cases hk:e.key with
   |str n t=>exact⟨n,t,rfl⟩
   |_=>rw[hk] at h1;cases h1
  ·show findBy _ es name=(es.toList.find? _).map _
   obtain⟨l⟩:=es
   unfold findBy
   rw[List.find?_toArray]
 |_=>cases hd
theorem dR{V:Gw}(G:au V){h:Heap}(T:Top V h){b:Addr}{o:Obj}(e:(ck V.w.params).get b=some o):h.get? b=some o:=T b o (G.kt b o e).1 (G.kt b o e).2
theorem rQ{V:Gw}(G:au V)(hM:fS V){h:Heap}(T:Top V h):∃mg bm ob,BMod h 3 mg bm ob:=by
 obtain⟨ob,h1,h2,h3,h4,h5⟩:=hM.mod
 refine⟨_,4,ob,hZ (dR G T (xg _)) (xj _),?_,by decide,T _ _ h1 h2,h3,h4,h5⟩
 rw[In,A9]
theorem gG{h:Heap}{c Pt:Addr}{o:Obj}{p:Pos}{x:Nat}(ho:h.get? c=some o)(hb:jv o Pt=true)(hne:Nat.beq c Pt=false)(ht:h.get? Pt=some (aP p x)):h.IsCode c Pt (ln p.line p.col x)∧h.TableAt c Pt (ln p.line p.col x):=by
 have hne':c≠Pt:=λe=>by rw[e,Nat.beq_refl] at hne;cases hne
 have htr:TriplesOk (ln p.line p.col x).toList:=by cases x<;>trivial
 obtain⟨cl,d,dt,sl⟩:=o
 unfold jv at hb
 split at hb
 case h_2=>cases hb
 rename_i hcl
 split at hb
 case h_2=>cases hb
 rename_i vs hdt
 simp only[Bool.and_eq_true] at hb
 obtain⟨b11,b18,b7,b9,b10⟩:=hb
 have e11:vs[11]?=some (.ref Pt):=by
  split at b11
  ·rename_i q hq;rw[hq,Nat.eq_of_beq_eq_true b11]
  ·cases b11
 have e18:∃f tf,vs.getD 18 .none= .str f tf:=by
  split at b18
  ·rename_i f tf hf;exact⟨f,tf,hf⟩
  ·cases b18
 have e7:∃f tf,vs.getD 7 .none= .int f tf:=by
  split at b7
  ·rename_i f tf hf;exact⟨f,tf,hf⟩
  ·cases b7
 have e9:∃f,vs.getD 9 .none= .bool f:=by
  split at b9
  ·rename_i f hf;exact⟨f,hf⟩
  ·cases b9
 have e10:∃f tf,vs.getD 10 .none= .int f tf:=by
  split at b10
  ·rename_i f tf hf;exact⟨f,tf,hf⟩
  ·cases b10
 obtain⟨f18,t18,e18⟩:=e18
 obtain⟨f7,t7,e7⟩:=e7
 obtain⟨f9,e9⟩:=e9
 obtain⟨f10,t10,e10⟩:=e10
 have e11':vs.getD 11 .none= .ref Pt:=by rw[Array.getD_eq_getD_getElem?,e11];rfl
 exact⟨⟨_,vs,f18,t18,f7,t7,f9,f10,t10,_,ho,hdt,e11',e18,e7,e9,e10,ht,rfl,htr,hne'⟩,⟨_,vs,ho,hcl,hdt,e11⟩,ht⟩
theorem vX{V:Gw}(G:au V){A:Around}{E:Value→Shared→Prop}{C:Addr}{code:Value}{fr:Addr}{u t c:Nat}{s:Shared}{m:Str→Option Value}(hn:s.heap.Ns C m)(ha:m (nm kq)=some (.str ⟨#[]⟩ u))(hb:m (nm i3)=some (.str (aX [c]) t))(T:Top V s.heap):
  wpAny (model V.prog V.w) A (eval (cE (f4 V.w.params)) (genEnv (d5 (f4 V.w.params)) [] C code builtinsNs (fQ V.w.params fr))) (λy s₃=>(∃t',y= .str (aX [c]) t')∧Keeps s s₃) E s:=by
 have hk:(genEnv (d5 (f4 V.w.params)) [] C code builtinsNs (fQ V.w.params fr)).scope.kind= .function:=AD V.w.params
 have hloc:∀{x:Str} {p:Pos} {v:Value} {Q:Value→Shared→Prop},(d5 (f4 V.w.params)).names.lookup x=some .local→(x==("__debug__":Str))=false→m x=some v→Q v s→wpAny (model V.prog V.w) A (eval (.Name x p) (genEnv (d5 (f4 V.w.params)) [] C code builtinsNs (fQ V.w.params fr))) Q E s:=
  λhx hd hv hQ=>wpAny_Name (wpAny_loadName_local hk hx hn hv hQ) hd
 rw[CD]
 refine Call_method1 rfl rfl (vo _) ?_
 refine Calls.Name_function_global hk (Fm V.w.params) (Calls.loadGlobal_global (mg:=c9 (bM (bC V.w.params 3))) ?_ (AO _) ?_) (by decide)
 ·show s.heap.Ns (fQ V.w.params fr).globals _
  rw[xM]
  exact hZ (dR G T (xg _)) (xj _)
 ·refine⟨"str","str.join",PySem.F.plainAttrs_str,PySem.F.slot_str_join,PySem.F.type_str_join,typeIs_str _ _ _,(λO e=>nomatch e),?_⟩
  refine Calls.callWith_builtin rfl (Calls.evalArgs_plain (Calls.spliced_cons (wpAny_Tuple (Calls.spliced_cons (hloc (AH V.w.params) (by decide) ha (Calls.spliced_cons (hloc (AF V.w.params) (by decide) hb (Calls.spliced_nil ⟨show 2≤sizeLine by decide,Calls.spliced_nil ?_⟩))))))))
  refine join_tuple (items:=#[.str ⟨#[]⟩ u,.str (aX [c]) t]) (ys:=[⟨#[]⟩,aX [c]]) ⟨_,Heap.get?_push_size _ rfl,rfl,_,rfl⟩ (.cons _ _ (.cons _ _ .nil)) (by show 0+(1+0)+2*0≤_;decide) λt' k=>⟨⟨t',?_⟩,_,_,rfl,λb o e=>Heap.get?_push_of_some _ e⟩
  rfl
noncomputable def DV(P:Params)(a d:Addr)(es:List fU)(ep x:Nat)(js:List Nat):aD:=⟨.call (.ref 74) ⟨[.ref a],[]⟩,js,[(a,aG d (bg es) ep),(69,aP (eo P) x)],λρ=> .ok (.ret (.str (aX (es.map (·.c))) (ρ 2))),λρ=>[aG d (bg es) ep,aP (eo P) (ρ 3)],λO=>[]⟩
theorem w7{sc:Scope}{env:Env}(h:sc.names.all (λy=>match y.2 with| .cell=>false| .free=>false|_=>true)=true):closureFor sc env=pure []:=by
 unfold closureFor
 generalize sc.names=ns at h⊢
 have key:∀(ns:List (Str×NameKind)) (cs:List (Str×Addr)),ns.all (λy=>match y.2 with| .cell=>false| .free=>false|_=>true)=true→
   (forIn ns cs (λ(x:Str×NameKind) r=>do
    if x.2== .free then
     let a ←cellOf env x.1
     pure (ForInStep.yield ((x.1,a)::r))
    else pure (ForInStep.yield r)):Sem (List (Str×Addr)))=pure cs:=by
  intro ns
  induction ns with
  |nil=>intro cs _;rfl
  |cons y ns ih=>
   intro cs h
   rw[List.all_cons,Bool.and_eq_true] at h
   have hy:(y.2==NameKind.free)=false:=by
    cases hk:y.2 with
    |free=>rw[hk] at h;cases h.1
    |_=>rfl
   rw[List.forIn_cons,if_neg (by rw[hy];decide)]
   show(forIn ns cs _:Sem _)=_
   exact ih cs h.2
 have:=key ns [] h
 simp only[bind_pure]
 exact this
theorem r3{sc:Scope}(h:sc.names.all (λy=>match y.2 with| .cell=>false| .free=>false|_=>true)=true):∀y∈sc.names,y.2≠ .cell:=λy hy e=>by
 have:=List.all_eq_true.mp h y hy
 rw[e] at this
 cases this
theorem zy(P:Params)(env:Env):∀x,genFold (kw (f4 P)) env x=pure x:=by
 rw[Fg]
 intro x
 rfl
theorem BW(cs:List Nat):Txt.join ⟨#[]⟩ (cs.map λc=>aX [c])=aX cs:=by
 have h:=la (cs.map λc=>[c])
 rw[List.map_map] at h
 refine Eq.trans h (congrArg aX ?_)
 clear h
 induction cs with
 |nil=>rfl
 |cons c r ih=>simp[ih]
theorem am.full{V:Gw}{K R:KL}{s s':Shared}(h:At V K s)(hE:am V (K.map (·.1)) s (K++R) s'):∀b o,s.heap.get? b=some o→s'.heap.get? b=some o:=λb o e=>by
 by_cases hb:b∈K.map (·.1)
 ·obtain⟨p,hp,rfl⟩:=List.mem_map.mp hb
  have h1:=h.get p hp
  rw[e] at h1
  injection h1 with h1
  rw[h1]
  exact hE.at'.get p (List.mem_append_left _ hp)
 ·exact hE.pres b o e hb
structure qd(V:Gw)(s:Shared)(Pt:Nat)(p:Pos)(s':Shared):Prop where
 top:Top V s'.heap
 gens:V.gp s'.gens
 drawn:s'.drawn=V.d
 os:s'.os=V.os
 full:Heap.ExtBut Pt s.heap s'.heap
 tab:∃x,s'.heap.get? Pt=some (aP p x)
theorem qd.of{V:Gw}(hM:fS V){A:Around}{s1 s' s'':Shared}{Pt n:Nat}{p:Pos}{Fv:Nat→Value→Prop}{g:Addr}{wr:List Addr}{gi:Nat}{x:Nat}(hPt:Pt∈V.tb)(hB:f8 V s1)
  (htab:s1.heap.get? Pt=some (aP p x)) (hg:Bb V A s1 Pt p n Fv g s') (hmh:∀b o,b∉wr→s'.heap.get? b=some o→s''.heap.get? b=some o) (hmg:GenOnlyQ gi s'.gens s''.gens) (hmd:s''.drawn=s'.drawn) (hmo:s''.os=s'.os) (hwr:∀b∈wr,s1.heap.objs.size≤b):qd V s1 Pt p s'':=by
 have hlt:∀{b o},s1.heap.get? b=some o→b∉wr:=λe hb=>absurd (Heap.lt_size e) (Nat.not_lt.mpr (hwr _ hb))
 refine⟨λb o hb hbt=> ?_,(hM.gp _).mpr (hg.gens.moved hmg),hmd.trans hg.drawn,hmo.trans hg.os,λb o hb e=>hmh b o (hlt e) (hg.heap b o hb e),?_⟩
 ·have h1:=hB.old b o hb hbt
  exact hmh b o (hlt h1) (hg.heap b o (λe=>hbt (e▸hPt)) h1)
 ·obtain⟨x',hx⟩:=hg.tab
  exact⟨x',hmh Pt _ (hlt htab) hx⟩
theorem y8{V:Gw}(G:au V)(hM:fS V){a d ep x:Nat}{es:List fU}{F:KL}(hes:∀e∈es,(e.pt,e.o)∈F)(hsm:es.length≤1000){js:List Nat}:
  aQ V 2 (DV V.w.params a d es ep x js) F (λO=>True) (λO=>[]):=by
 intro A s hA hs hf
 refine codeAny_mono (d9 (R:=λr s''=>(∃t',r= .ok (.ret (.str (aX (es.map (·.c))) t')))∧∃s1,am V [a,69] s (ul V.w.params s.heap.objs.size a d s.toks (bg es) ep 69 (eo V.w.params) x) s1∧qd V s1 69 (eo V.w.params) s'') ?_) ?_
 ·refine ga G hA (HH _) hf hs (ad (IZ V.w.params s.heap.objs.size s.toks a d (bg es) ep x) (aC V) (aB V)) (aS rfl) λs1 hs1 hf1=> ?_
  show codeAny _ A (.func (aA (aU V.w.params 74)) (fQ V.w.params s.heap.objs.size)) _ s1
  refine codeAny_func ?_
  have hA2:Bd 1 (A.deeper (fQ V.w.params s.heap.objs.size)):=hA.deeper _
  generalize A.deeper (fQ V.w.params s.heap.objs.size)=A' at hA2⊢
  rw[zM]
  refine wpAny_execs_cons (wpAny_Return_some ?_)
  refine Call_method1 rfl rfl (yC _) ?_
  refine Calls.Name_function_global (DW V.w.params _) (Ee V.w.params _) (Calls.loadGlobal_global (mg:=c9 (bM (bC V.w.params 3))) ?_ (AO _) ?_) (by decide)
  ·rw[xM]
   exact hZ (dR G (Top.of hs1.at'.base) (xg _)) (xj _)
  refine⟨"str","str.join",PySem.F.plainAttrs_str,PySem.F.slot_str_join,PySem.F.type_str_join,typeIs_str _ _ _,(λO e=>nomatch e),?_⟩
  have hA1:A'.depth<recursionLimit:=by have:=hA2.1;show _<1000;lia
  refine Calls.callWith_builtin rfl (Calls.evalArgs_plain (Calls.spliced_cons (wpAny_mono (E:=No) (pS (a:=a) (d:=d) (ep:=ep) (Pt:=69) (c:=bN V.w.params 74) (es:=es) (Fv:=λi y=>∃e,es[i]?=some e∧∃t',y= .str (aX [e.c]) t') G hM hA2.2.2 hA1 (Fo _) (w7 (AB _)) (r3 (AB _)) (HD _) (AH _) (AF _) (by decide) (AD _) (zy _ _) (HO _ _)
   (λh x T ht=>gG (dR G T (Ap _)) (Az _) (Au _) ht) (λh T=>by rw[xM];exact rQ G hM T) hM.tb69 ?_ (Nat.le_trans hs.base.size hs1.grow) (λA' E' C code e i s₂ m₂ O he hn ha hb T=>wpAny_mono (vX G hn ha hb T) (λy s₃ h=>⟨⟨e,he,h.1⟩,h.2⟩) λO O x=>x) (λg s' hg=> ?_)) (λv s' h=>h) (λO O h=>h.elim))))
  ·refine gu (L:=1) G (ad (IY V.w.params s1.heap.objs.size s1.toks s.heap.objs.size a d s.toks (bg es) ep x) (aC V) (aB V)) hA2 hs1.at' (aO rfl λs2 hs2=> ?_)
   show wpAny _ _ (pyIter (.ref a)) _ _ s2
   rw[m5]
   refine cC (aq (L:=1) G Fz.nil (ad (IX V.w.params s2.heap.objs.size s2.toks s.heap.objs.size a d s.toks (bg es) ep x 69 (eo V.w.params)) (aC V) (aB V)) hA2 hs2.at' (an rfl λs3 hs3 O=> ?_))
   have hfull:∀b o,s1.heap.get? b=some o→s3.heap.get? b=some o:=λb o e=>hs3.full hs2.at' b o (am.full (R:=[]) hs1.at' (by rw[List.append_nil];exact hs2) b o e)
   have hacc:=hfull _ _ (hs1.at'.get (a,aG d (bg es) ep) (.tail _ (.head _)))
   have htab:=hfull _ _ (hs1.at'.get (69,aP (eo V.w.params) x) (.tail _ (.tail _ (.head _))))
   have hit:=hs3.at'.get (s2.heap.objs.size,aj a 0) (by simp[ul])
   have hnd:=hs1.at'.nodup
   simp only[ul,List.map_cons,List.map_nil,List.nodup_cons,List.mem_cons,List.not_mem_nil,or_false] at hnd
   refine⟨s2.heap.objs.size,x,rfl,hs2.grow,Heap.lt_size hit,hs3.at'.base,Nat.le_trans hs2.grow hs3.grow,hfull,⟨⟨_,hit,rfl,rfl⟩,hacc,λe he=>hfull _ _ (hf1 _ (hes e he)).1⟩,htab,?_,hnd.2.1,λe he h=> ?_⟩
   ·intro h
    have:=Heap.lt_size (hs2.at'.get (69,aP (eo V.w.params) x) (.tail _ (.tail _ (.head _))))
    rw[h] at this
    exact Nat.lt_irrefl _ this
   ·refine(hf1 _ (hes e he)).2.1 ?_
    show e.pt∈_
    rw[h]
    exact .tail _ (.tail _ (.head _))
  ·obtain⟨fp,wr,gi,St,W,hst,hT,hgf,hfp,hwr,_⟩:=hg.walk
   refine Calls.spliced_nil ?_
   refine SC.joinGen W.in4_2 hT hst hfp hgf (λi v ⟨_,_,_,_,t',h⟩=>⟨_,_,h⟩) (λs'' l hm hi=> ?_) ?_
   ·have hl:l.map (·.1)=(es.map (·.c)).map λc=>aX [c]:=by
     obtain⟨h1,h2⟩:=hi
     have hlen:l.length=es.length:=by
      have:=h1
      rw[eT,List.length_range] at this
      simpa[strValues] using this
     refine List.ext_getElem? λj=> ?_
     by_cases hj:j<l.length
     ·obtain⟨i,hi',e,he,t',hv⟩:=h2 j (.str l[j].1 l[j].2) (by simp[strValues,List.getElem?_eq_getElem hj])
      have hij:i=j:=by
       rw[eT] at hi'
       obtain⟨h3,h4⟩:=List.getElem?_eq_some_iff.mp hi'
       rw[←h4,List.getElem_range]
      subst hij
      injection hv with hv _
      rw[List.getElem?_map,List.getElem?_eq_getElem hj,List.getElem?_map,List.getElem?_map,he]
      show some l[i].1=some (aX [e.c])
      rw[hv]
     ·rw[List.getElem?_eq_none (by simpa using hj),List.getElem?_eq_none (by simp;lia)]
    rw[hl,BW]
    refine⟨joinOk_of ?_,λt' k=>⟨⟨t',rfl⟩,?_⟩⟩
    ·have h1:((es.map (·.c)).map λc=>aX [c]).map (·.length)=es.map λO=>1:=by
      rw[List.map_map,List.map_map];rfl
     have h2:∀l:List fU,(l.map λO=>1).sum=l.length:=λl=>by
      induction l with
      |nil=>rfl
      |cons _ _ ih=>simp[ih,Nat.add_comm]
     rw[h1,h2]
     show es.length+_*0≤_
     lia
    ·have hE:=qd.of hM hM.tb69 hs1.at'.base (hs1.at'.get (69,aP (eo V.w.params) x) (.tail _ (.tail _ (.head _)))) hg hm.heap hm.gens hm.drawn hm.os hwr
     exact⟨s1,hs1,hE.top,hE.gens,hE.drawn,hE.os,hE.full,hE.tab⟩
   ·rw[eT,List.length_range]
    exact Nat.le_trans hsm (by decide)
 ·rintro r s'' ⟨hsz,⟨t',hr⟩,s1,hs1,hE⟩
  obtain⟨x',hx⟩:=hE.tab
  have hne:a≠69:=by
   have h:=hs1.at'.nodup
   simp only[ul,List.map_cons,List.map_nil,List.nodup_cons,List.mem_cons,List.not_mem_nil,or_false] at h
   exact h.2.1
  have hacc:=hE.full a _ hne (hs1.at'.get (a,aG d (bg es) ep) (.tail _ (.head _)))
  refine⟨a7 s''.heap.objs.size s''.toks (λk=>if k=0 then t' else x'),hr,⟨⟨hE.top,Nat.le_trans hs.base.size hsz,hE.gens,hE.drawn,hE.os⟩,rfl,rfl,hsz,?_,(λO h=>nomatch h),(λO h=>nomatch h),List.nodup_nil,λb o hb hbw=>hE.full b o (λe=>hbw (e▸ .tail _ (.head _))) (hs1.pres b o hb hbw)⟩,trivial,λO h=>nomatch h⟩
  show [s''.heap.get? a,s''.heap.get? 69]=[some _,some _]
  rw[hacc,hx]
  rfl
set_option tactic.hygienic false
noncomputable def DA:Expr→Expr
 | .Call f _ _ _=>f
 |e=>e
noncomputable def bL:Expr→Expr
 | .BinOp l _ _ _=>l
 |e=>e
noncomputable def bR:Expr→Expr
 | .BinOp _ _ r _=>r
 |e=>e
noncomputable def bP:Expr→Pos
 | .BinOp _ _ _ p=>p
 |_=>⟨0,0,0,0⟩
noncomputable def eO(P:Params)(fr:Addr):Env:=f6 (aU P 67) 67 fr []
noncomputable def wo(P:Params):Expr:=Di (aA (aU P 67))
noncomputable def gK(P:Params):Expr:=iE (wo P) 0
noncomputable def fy(P:Params):Pos:=CW (gK P)
noncomputable def nx(P:Params)(fr a d:Addr)(k0:Nat)(vs:List Value)(ep:Nat)(k t:Nat)(x:Nat):KL:=[(fr,cY P [(b4,k0,.ref a)]),(a,aG d vs ep),(d,bn P (b6 k t 0)),(62,aP (fy P) x)]
theorem Gu(P:Params)(n t0 a d:Nat)(vs:List Value)(ep k t x:Nat):Qk 100 λr=>ay λb1 b2=>r (bK P b1 b2 67 [.ref a] [(a,aG d vs ep),(d,bn P (b6 k t 0)),(62,aP (fy P) x)] n t0 [0,4,4] n [] [3,0,1,2] (nx P n a d t0 vs ep k t x)):=by unfold Qk;kernel_rfl!
theorem Gt(P:Params)(n tt fr a d k0:Nat)(vs:List Value)(ep k t x:Nat):Qk 100 λr=>ay λb1 b2=>r ( dQ P b1 b2 (kw (gK P)) (eO P fr) (nx P fr a d k0 vs ep k t x) n tt (.fin [1] (.ok (.ret (.ref a))) [0,1,2,3] (nx P fr a d k0 vs ep k t x))):=by unfold Qk;kernel_rfl!
theorem Gs(P:Params)(n tt fr a d k0:Nat)(vs:List Value)(ep k t x:Nat):Qk 100 λr=>ay λb1 b2=>r ( bf P b1 b2 (pZ (oR (.ref a))) (nx P fr a d k0 vs ep k t x) n tt (.fin [2,0,0,0,2,0,0,0,0,2,0,5] (.ok (.ret (.ref n))) [0,1,2,3,4] (nx P fr a d k0 vs ep k t x++[(n,aj a 0)]))):=by unfold Qk;kernel_rfl!
theorem Gr(P:Params)(n tt fr a d k0:Nat)(vs:List Value)(ep k t x:Nat):Qk 100 λr=>ay λb1 b2=>r ( dQ P b1 b2 (iE (wo P) 1) (eO P fr) (nx P fr a d k0 vs ep k t x) n tt (.fin [1,2,0,0,0,0,0,0,0,2,0,2,0,0,0,2,2,0,3] (.ok (.ret (.int 0 t))) [0,1,2,3] (nx P fr a d k0 vs ep k t x))):=by unfold Qk;kernel_rfl!
theorem zN(P):aA (aU P 67)=[.Return (some (.Call (.Name "sum" (nq (DA (wo P)))) [.GeneratorExp (cE (gK P)) [⟨.Tuple [.Name (nm kq) (nq (zS (mq (gK P)) 0)),.Name (nm i3) (nq (zS (mq (gK P)) 1))] (De (mq (gK P))) (Dd (mq (gK P))),kw (gK P),[],0⟩] (d5 (gK P)) (CW (gK P)),iE (wo P) 1] [] (aZ (wo P)))) (HW (aA (aU P 67)))]:=by kernel_rfl!
theorem CE(P):cE (gK P)= .BinOp (.Call (.Name "len" (nq (DA (bL (cE (gK P)))))) [.Name (nm kq) (nq (iE (bL (cE (gK P))) 0))] [] (aZ (bL (cE (gK P))))) .Add (.Call (.Name "len" (nq (DA (bR (cE (gK P)))))) [.Name (nm i3) (nq (iE (bR (cE (gK P))) 0))] [] (aZ (bR (cE (gK P))))) (bP (cE (gK P))):=by kernel_rfl!
theorem HI(P):d4 P 67=true:=by kernel_rfl!
theorem Fh(P):kw (gK P)= .Name (nm b4) (nq (kw (gK P))):=by kernel_rfl!
theorem Ed(P fr):(eO P fr).kindOf "sum"=some .globalImplicit:=by kernel_rfl!
theorem DX(P fr):(eO P fr).scope.kind= .function:=by kernel_rfl!
theorem xN(P fr):(eO P fr).globals=3:=by kernel_rfl!
theorem HQ(P fr):(eO P fr).builtins=0:=by kernel_rfl!
theorem HP(P fr):(eO P fr).code= .ref (bN P 67):=by kernel_rfl!
theorem Fp(P):(d5 (gK P)).isCoroutine=false:=by kernel_rfl!
theorem AE(P):(d5 (gK P)).kind= .function:=by kernel_rfl!
theorem AC(P):(d5 (gK P)).names.all (λy=>match y.2 with| .cell=>false| .free=>false|_=>true)=true:=by kernel_rfl!
theorem HE(P):(d5 (gK P)).names.lookup (".0":Str)=some NameKind.local:=by kernel_rfl!
theorem AI(P):(d5 (gK P)).names.lookup (nm kq)=some NameKind.local:=by kernel_rfl!
theorem AG(P):(d5 (gK P)).names.lookup (nm i3)=some NameKind.local:=by kernel_rfl!
theorem Fn(P):(d5 (gK P)).names.lookup ("len":Str)=some NameKind.globalImplicit:=by kernel_rfl!
theorem Aq(P):(ck P).get (bN P 67)=some (bC P (bN P 67)):=by kernel_rfl!
theorem AA(P):jv (bC P (bN P 67)) 62=true:=by kernel_rfl!
theorem Av(P):Nat.beq (bN P 67) 62=false:=by kernel_rfl!
theorem DT(P):c9 (bM (bC P 3)) "sum"=none:=by kernel_rfl!
theorem DU(P):c9 (bM (bC P 0)) "sum"=some (.builtin "sum"):=by kernel_rfl!
theorem D9(P):c9 (bM (bC P 3)) "len"=none:=by kernel_rfl!
theorem Ea(P):c9 (bM (bC P 0)) "len"=some (.builtin "len"):=by kernel_rfl!
theorem qN(a b:Value):argsOk "sum" ⟨[a,b],[]⟩:=by unfold argsOk;kernel_rfl
section
variable {prog:Program} {w:World} {A:Around} {E:Value→Shared→Prop} {s:Shared}
theorem qK{x:Value}{t0:Tok}{Q:Value→Shared→Prop}
  (h:wpAny (model prog w) A.in1 (pyIter x) (λit s₂=>E8 λI fp wr G n P St val=>A6 (it= .ref I) (WalksS prog w A.in1 I fp wr G n P St) (St 0 s₂) (∀b∈fp,b<s₂.heap.objs.size) 
   (∀i v,P i v→∃t,v= .int (val i) t) (∀s' t',Moved wr G s₂ s'→Q (.int (preSum val n) t') s')) E s):
  wpAny (model prog w) A (call (.builtin "sum") [x,.int 0 t0]) Q E s:=by
 refine call_function_tree F.kind_sum F.plain_sum F.entry_sum (qN _ _) ?_
 unfold Builtin.«sum»
 simp only[List.length_cons,List.length_nil]
 rw[if_neg (by decide)]
 refine wpAny_bind (wpAny_of_eq (show Builtin.Builtins.bindParams "sum" ["start"] 0 {pos:=[.int 0 t0]}=pure [some (.int 0 t0)] from rfl) ?_)
 refine wpAny_bind (wpAny_mono h (λit s₂ h₂=> ?_) λO O e=>e)
 obtain⟨I,fp,wr,G,n,P,St,val,rfl,W,hst,hfp,hval,hQ⟩:=h₂
 dsimp only
 rw[if_pos (by decide)]
 refine wpAny_bind (wpAny_rule (wpAny_bind (wpAny_mkInt (wpAny_bind (wpAny_pure ?_)))))
 simp only[List.forIn_cons,List.forIn_nil]
 refine wpAny_bind (wpAny_bind (wpAny_bind (wpAny_isInstance (T:="int") (b:=false) (typeIs_int _ _ _) PySem.sub_int_str ?_)))
 simp only[Bool.false_eq_true,if_false]
 refine wpAny_pure (wpAny_bind (wpAny_bind (wpAny_isInstance (T:="int") (b:=false) (typeIs_int _ _ _) PySem.sub_int_bytes ?_)))
 simp only[Bool.false_eq_true,if_false]
 refine wpAny_pure (wpAny_bind (wpAny_bind (wpAny_isInstance (T:="int") (b:=false) (typeIs_int _ _ _) PySem.sub_int_bytearray ?_)))
 simp only[Bool.false_eq_true,if_false]
 refine wpAny_pure (wpAny_pure ?_)
 refine wpAny_bind (wpAny_newObj_type ?_)
 have hSf:s₂.heap.objs.size∉fp:=λhm=>Nat.lt_irrefl _ (hfp _ hm)
 refine wpAny_pure ⟨plainId_quiet F.plain_sum_loop _,codeAny_sum_loopAnyS W val hval s₂.heap.objs.size hSf n 0 _ s₂.toks 0 0 (.inl rfl) rfl (Nat.zero_le _)
  (W.frame 0 s₂ _ _ hst (by first|exact Nat.le_refl _|exact Nat.le_succ _|lia) λb O o e=>Heap.get?_push_of_some _ e) (Heap.get?_push_size _ rfl) λs' t' hm=> ?_⟩
 exact hQ s' t' (hm.drop_new (by first|exact Nat.le_refl _|exact Nat.le_succ _|lia))
end
theorem vY{V:Gw}(G:au V){A:Around}{E:Value→Shared→Prop}{C:Addr}{code:Value}{fr:Addr}{u t c:Nat}{s:Shared}{m:Str→Option Value}(hn:s.heap.Ns C m)(ha:m (nm kq)=some (.str ⟨#[]⟩ u))(hb:m (nm i3)=some (.str (aX [c]) t))(T:Top V s.heap):
  wpAny (model V.prog V.w) A (eval (cE (gK V.w.params)) (genEnv (d5 (gK V.w.params)) [] C code builtinsNs (eO V.w.params fr))) (λy s₃=>(∃t',y= .int 1 t')∧Keeps s s₃) E s:=by
 have hk:(genEnv (d5 (gK V.w.params)) [] C code builtinsNs (eO V.w.params fr)).scope.kind= .function:=AE V.w.params
 have hlen:∀{x:Str} {np p cp:Pos} {v:Str} {tv:Nat} {Q:Value→Shared→Prop} (tk:Nat),(d5 (gK V.w.params)).names.lookup x=some .local→(x==("__debug__":Str))=false→m x=some (.str v tv)→(¬(v.length:Int)≥2^63)→(∀t' tk',Q (.int v.length t') {s with toks:=tk'})→
   wpAny (model V.prog V.w) A (eval (.Call (.Name "len" np) [.Name x p] [] cp) (genEnv (d5 (gK V.w.params)) [] C code builtinsNs (eO V.w.params fr))) Q E {s with toks:=tk}:=by
  intro x np p cp v tv Q tk hx hd hv hfit hQ
  refine Call_name1 rfl (Calls.Name_function_global hk (Fn V.w.params) (Calls.loadGlobal_builtin (mg:=c9 (bM (bC V.w.params 3))) (mb:=c9 (bM (bC V.w.params 0))) ?_ (D9 _) ?_ (Ea _) ?_) (by decide))
  ·show s.heap.Ns (eO V.w.params fr).globals _
   rw[xN]
   exact hZ (dR G T (xg _)) (xj _)
  ·show s.heap.Ns 0 _
   exact hZ (dR G T (H1 _)) (Ih _)
  ·exact callWith_builtin1 (wpAny_Name (wpAny_loadName_local hk hx (s:={s with toks:=tk}) hn hv (len_str hfit (hQ _ _))) hd)
 rw[CE]
 refine wpAny_BinOp (hlen s.toks (AI _) (by decide) ha (by show¬((0:Nat):Int)≥_;decide) λt1 k1=>hlen k1 (AG _) (by decide) hb (by show¬((1:Nat):Int)≥_;decide) λt2 k2=>wpAny_add_int ⟨⟨_,rfl⟩,_,_,rfl,λb o e=>e⟩)
noncomputable def CK(P:Params)(a d:Addr)(es:List fU)(ep k t x:Nat)(js:List Nat):aD:=⟨.call (.ref 67) ⟨[.ref a],[]⟩,js,[(a,aG d (bg es) ep),(d,bn P (b6 k t 0)),(62,aP (fy P) x)],λρ=> .ok (.ret (.int (es.length:Nat) (ρ 2))),λρ=>[aG d (bg es) ep,bn P (b6 k t 0),aP (fy P) (ρ 3)],λO=>[]⟩
noncomputable def Jw:Expr→Expr
 | .Attribute o _ _=>o
 |e=>e
noncomputable def Jv:Expr→Pos
 | .Attribute _ _ p=>p
 |_=>⟨0,0,0,0⟩
theorem CJ(P):iE (wo P) 1= .Attribute (.Name (nm b4) (nq (Jw (iE (wo P) 1)))) (nm eJ) (Jv (iE (wo P) 1)):=by kernel_rfl!
theorem zz(P:Params)(env:Env):∀x,genFold (kw (gK P)) env x=pure x:=by
 rw[Fh]
 intro x
 rfl
theorem ot:∀n,preSum (λO=>1) n=n:=by
 intro n
 induction n with
 |zero=>rfl
 |succ n ih=>show preSum _ n+1=_;rw[ih];simp
theorem qI{V:Gw}(G:au V)(hM:fS V){a d ep k t x:Nat}{es:List fU}{F:KL}(hes:∀e∈es,(e.pt,e.o)∈F)(hsm:es.length≤1000){js:List Nat}:
  aQ V 2 (CK V.w.params a d es ep k t x js) F (λO=>True) (λO=>[]):=by
 intro A s hA hs hf
 refine codeAny_mono (d9 (R:=λr s''=>(∃t',r= .ok (.ret (.int (es.length:Nat) t')))∧∃s1,am V [a,d,62] s (nx V.w.params s.heap.objs.size a d s.toks (bg es) ep k t x) s1∧qd V s1 62 (fy V.w.params) s'') ?_) ?_
 ·refine ga G hA (HI _) hf hs (ad (Gu V.w.params s.heap.objs.size s.toks a d (bg es) ep k t x) (aC V) (aB V)) (aS rfl) λs1 hs1 hf1=> ?_
  show codeAny _ A (.func (aA (aU V.w.params 67)) (eO V.w.params s.heap.objs.size)) _ s1
  refine codeAny_func ?_
  have hA2:Bd 1 (A.deeper (eO V.w.params s.heap.objs.size)):=hA.deeper _
  generalize A.deeper (eO V.w.params s.heap.objs.size)=A' at hA2⊢
  rw[zN]
  refine wpAny_execs_cons (wpAny_Return_some ?_)
  have hA1:A'.depth<recursionLimit:=by have:=hA2.1;show _<1000;lia
  have m62:(62,aP (fy V.w.params) x)∈nx V.w.params s.heap.objs.size a d s.toks (bg es) ep k t x:= .tail _ (.tail _ (.tail _ (.head _)))
  have hnd:=hs1.at'.nodup
  simp only[nx,List.map_cons,List.map_nil,List.nodup_cons,List.mem_cons,List.not_mem_nil,or_false,not_or] at hnd
  refine Call_Name2 (hs:= ?hst) (Calls.Name_function_global (DX V.w.params _) (Ed V.w.params _) (Calls.loadGlobal_builtin (mg:=c9 (bM (bC V.w.params 3))) (mb:=c9 (bM (bC V.w.params 0))) ?_ (DT _) ?_ (DU _) ?_) (by decide))
  case hst=>rw[CJ];rfl
  ·rw[xN]
   exact hZ (dR G (Top.of hs1.at'.base) (xg _)) (xj _)
  ·rw[HQ]
   exact hZ (dR G (Top.of hs1.at'.base) (H1 _)) (Ih _)
  refine Calls.callWith_builtin rfl (Calls.evalArgs_plain (Calls.spliced_cons (wpAny_mono (E:=No) (pS (a:=a) (d:=d) (ep:=ep) (Pt:=62) (c:=bN V.w.params 67) (es:=es) (Fv:=λi y=>∃t',y= .int 1 t') G hM hA2.2.2 hA1 (Fp _) (w7 (AC _)) (r3 (AC _)) (HE _) (AI _) (AG _) (by decide) (AE _) (zz _ _) (HP _ _)
   (λh x T ht=>gG (dR G T (Aq _)) (AA _) (Av _) ht) (λh T=>by rw[xN];exact rQ G hM T) hM.tb62 ?_ (Nat.le_trans hs.base.size hs1.grow) (λA' E' C code e i s₂ m₂ O he hn ha hb T=>wpAny_mono (vY G hn ha hb T) (λy s₃ h=>h) λO O x=>x) (λg s' hg=> ?_)) (λv s' h=>h) (λO O h=>h.elim))))
  ·refine gu (L:=1) G (ad (Gt V.w.params s1.heap.objs.size s1.toks s.heap.objs.size a d s.toks (bg es) ep k t x) (aC V) (aB V)) hA2 hs1.at' (aO rfl λs2 hs2=> ?_)
   show wpAny _ _ (pyIter (.ref a)) _ _ s2
   rw[m5]
   refine cC (aq (L:=1) G Fz.nil (ad (Gs V.w.params s2.heap.objs.size s2.toks s.heap.objs.size a d s.toks (bg es) ep k t x) (aC V) (aB V)) hA2 hs2.at' (an rfl λs3 hs3 O=> ?_))
   have hfull:∀b o,s1.heap.get? b=some o→s3.heap.get? b=some o:=λb o e=>hs3.full hs2.at' b o (am.full (R:=[]) hs1.at' (by rw[List.append_nil];exact hs2) b o e)
   have hacc:=hfull _ _ (hs1.at'.get (a,aG d (bg es) ep) (.tail _ (.head _)))
   have htab:=hfull _ _ (hs1.at'.get _ m62)
   have hit:=hs3.at'.get (s2.heap.objs.size,aj a 0) (by simp[nx])
   refine⟨s2.heap.objs.size,x,rfl,hs2.grow,Heap.lt_size hit,hs3.at'.base,Nat.le_trans hs2.grow hs3.grow,hfull,⟨⟨_,hit,rfl,rfl⟩,hacc,λe he=>hfull _ _ (hf1 _ (hes e he)).1⟩,htab,?_,hnd.2.1.2,λe he h=> ?_⟩
   ·intro h
    have:=Heap.lt_size (hs2.at'.get _ m62)
    rw[h] at this
    exact Nat.lt_irrefl _ this
   ·refine(hf1 _ (hes e he)).2.1 ?_
    show e.pt∈_
    rw[h]
    exact List.mem_map_of_mem (f:=(·.1)) m62
  ·
   obtain⟨fp,wr,gi,St,W,hst,hT,hgf,hfp,hwr,hfr⟩:=hg.walk
   let V':Gw:={V with gp:=λx=>x=s'.gens}
   have G':au V':=⟨G.prog,G.kt,λs0 hb=>G.lim {s0 with gens:=s.gens} ⟨hb.old,hb.size,hs.base.gens,hb.drawn,hb.os⟩⟩
   obtain⟨x',hx'⟩:=hg.tab
   have hK:At V' (nx V.w.params s.heap.objs.size a d s.toks (bg es) ep k t x') s':=by
    refine⟨⟨λb o hb hbt=>hg.heap b o (λe=>hbt (e▸hM.tb62)) (hs1.at'.base.old b o hb hbt),Nat.le_trans hs1.at'.base.size hg.grow,rfl,hg.drawn,hg.os⟩,λp hp=> ?_,hs1.at'.nodup,λp hp=> ?_⟩
    ·simp only[nx,List.mem_cons,List.not_mem_nil,or_false] at hp
     rcases hp with rfl|rfl|rfl|rfl
     ·exact hg.heap _ _ hnd.1.2.2 (hs1.at'.get (_,_) (.head _))
     ·exact hg.heap _ _ hnd.2.1.2 (hs1.at'.get (_,_) (.tail _ (.head _)))
     ·exact hg.heap _ _ hnd.2.2.1 (hs1.at'.get (_,_) (.tail _ (.tail _ (.head _))))
     ·exact hx'
    ·simp only[nx,List.mem_cons,List.not_mem_nil,or_false] at hp
     rcases hp with rfl|rfl|rfl|rfl
     ·exact hs1.at'.ok (_,_) (.head _)
     ·exact hs1.at'.ok (_,_) (.tail _ (.head _))
     ·exact hs1.at'.ok (_,_) (.tail _ (.tail _ (.head _)))
     ·exact(hs1.at'.ok _ m62:z9 V 62)
   refine Calls.spliced_cons (wpAny_mono (E:=No) (gu (V:=V') (L:=1) G' (ad (Gr V.w.params s'.heap.objs.size s'.toks s.heap.objs.size a d s.toks (bg es) ep k t x') (aC V) (aB V)) hA2 hK (aO (V:=V') rfl λs2 hs2=> ?_)) (λv s' h=>h) (λO O h=>h.elim))
   show wpAny _ _ (spliced []) _ _ s2
   have hful:∀b o,s'.heap.get? b=some o→s2.heap.get? b=some o:=am.full (V:=V') (R:=[]) hK (by rw[List.append_nil];exact hs2)
   have e2:s2={s' with heap:=s2.heap,toks:=s2.toks}:=by
    have h1:s2.gens=s'.gens:=hs2.at'.base.gens
    have h2:s2.drawn=s'.drawn:=hs2.at'.base.drawn.trans hg.drawn.symm
    have h3:s2.os=s'.os:=hs2.at'.base.os.trans hg.os.symm
    obtain⟨_,_,_,_,_⟩:=s2
    simp only at h1 h2 h3
    subst h1 h2 h3
    rfl
   have hst2:St 0 s2:=by
    rw[e2]
    exact hfr s2.heap s2.toks λb O o e=>hful b o e
   refine Calls.spliced_nil ?_
   refine qK ?_
   refine W.in4_1.self 0 _ _ _ hst2 ⟨g,fp,wr,_,_,_,St,λO=>1,rfl,W.in4_1,hst2,λb hb=>Nat.lt_of_lt_of_le (hfp b hb) hs2.grow,λi v ⟨_,_,h⟩=>h,λs3 t' hm=> ?_⟩
   have hd1:s2.gens=s'.gens:=hs2.at'.base.gens
   refine⟨⟨t',?_⟩,s1,hs1,qd.of hM hM.tb62 hs1.at'.base (hs1.at'.get _ m62) hg (gi:=gi) (λb o hb e=>hm.heap b o hb (hful b o e)) (hd1▸hm.gens) (hm.drawn.trans (hs2.at'.base.drawn.trans hg.drawn.symm)) (hm.os.trans (hs2.at'.base.os.trans hg.os.symm)) hwr⟩
   rw[ot,eT,List.length_range]
 ·rintro r s'' ⟨hsz,⟨t',hr⟩,s1,hs1,hE⟩
  obtain⟨x',hx⟩:=hE.tab
  have hnd:=hs1.at'.nodup
  simp only[nx,List.map_cons,List.map_nil,List.nodup_cons,List.mem_cons,List.not_mem_nil,or_false,not_or] at hnd
  have hacc:=hE.full a _ hnd.2.1.2 (hs1.at'.get (a,aG d (bg es) ep) (.tail _ (.head _)))
  have hdct:=hE.full d _ hnd.2.2.1 (hs1.at'.get (d,bn V.w.params (b6 k t 0)) (.tail _ (.tail _ (.head _))))
  refine⟨a7 s''.heap.objs.size s''.toks (λk=>if k=0 then t' else x'),hr,⟨⟨hE.top,Nat.le_trans hs.base.size hsz,hE.gens,hE.drawn,hE.os⟩,rfl,rfl,hsz,?_,(λO h=>nomatch h),(λO h=>nomatch h),List.nodup_nil,λb o hb hbw=>hE.full b o (λe=>hbw (e▸ .tail _ (.tail _ (.head _)))) (hs1.pres b o hb hbw)⟩,trivial,λO h=>nomatch h⟩
  show [s''.heap.get? a,s''.heap.get? d,s''.heap.get? 62]=[some _,some _,some _]
  rw[hacc,hdct,hx]
  rfl
theorem Jf(P:Params)(n tt a d:Nat)(vs:List Value)(ep sl:Nat)(lo:Value):Qk 60 λr=>ay λb1 b2=>r ( ap P b1 b2 (.call (.builtin "list.__getitem__") ⟨[.ref a,.ref sl],[]⟩) [(a,aG d vs ep),(sl,bD lo .none .none)] n tt (.again [1,0] (.builtin "list.__getitem__" ⟨[.ref a,.ref sl],[]⟩) [0,1] [(a,aG d vs ep),(sl,bD lo .none .none)])):=by unfold Qk;kernel_rfl!
theorem Je(P:Params)(n tt a d:Nat)(vs:List Value)(ep sl:Nat)(lo:Value)(v:Nat)(ns:List Value)(e2:Nat):Qk 60 λr=>ay λb1 b2=>r ( ap P b1 b2 (.call (.builtin "list.__setitem__") ⟨[.ref a,.ref sl,.ref v],[]⟩) [(a,aG d vs ep),(sl,bD lo .none .none),(v,aa ns e2)] n tt (.again [1,0] (.builtin "list.__setitem__" ⟨[.ref a,.ref sl,.ref v],[]⟩) [0,1,2] [(a,aG d vs ep),(sl,bD lo .none .none),(v,aa ns e2)])):=by unfold Qk;kernel_rfl!
noncomputable def jA(a d sl:Addr)(vs:List Value)(ep:Nat)(lo:Value)(ws:List Value)(js:List Nat):aD:=⟨.call (.builtin "list.__getitem__") ⟨[.ref a,.ref sl],[]⟩,js,[(a,aG d vs ep),(sl,bD lo .none .none)],λρ=> .ok (.ret (.ref (ρ 2))),λO=>[aG d vs ep,bD lo .none .none],λρ=>[(ρ 2,aa ws 0)]⟩
noncomputable def oY(a d sl v:Addr)(vs:List Value)(ep:Nat)(lo:Value)(ns:List Value)(e2:Nat)(ws:List Value)(js:List Nat):aD:=⟨.call (.builtin "list.__setitem__") ⟨[.ref a,.ref sl,.ref v],[]⟩,js,[(a,aG d vs ep),(sl,bD lo .none .none),(v,aa ns e2)],λO=> .ok (.ret .none),λρ=>[aG d ws (ρ 2),bD lo .none .none,aa ns e2],λO=>[]⟩
noncomputable def sI:Array Nat:=#[105]
noncomputable def kX:Array Nat:=#[115,116,97,114,116,118,97,108]
theorem F9(P:Params)(n tt a d:Nat)(vs:List Value)(ep:Nat)(i:Int)(u:Nat):Qk 100 λr=>ay λb1 b2=>r ( bK P b1 b2 53 [.ref a,.int i u] [(a,aG d vs ep)] n tt [0,0,2,2,2,2] n [] [1,0] [(n,cY P [(b4,tt,.ref a),(sI,tt+1,.int i u)]),(a,aG d vs ep)]):=by unfold Qk;kernel_rfl!
theorem F8(P:Params)(n fr tt t0 a d:Nat)(vs ws ds:List Value)(ep:Nat)(i:Int)(u:Nat):Qk 300 λr=>ay λb1 b2=>r ( ap P b1 b2 (cc P 53 fr []) [(fr,cY P [(b4,t0,.ref a),(sI,t0+1,.int i u)]),(a,aG d vs ep)] n tt
  (.hook [1,1,2,0,0,0,2,0,2,0,0,0] 1 (jA a d n vs ep (.int i u) ds [1,2]) λρ=> .hook [1,1,1,1,2,0,2,0,0,0] 2 (oY a d (ρ 0+1) (ρ 0) vs ep (.int i u) [] 0 ws [1,5,4]) λρ1=> .fin [1] (.ok (.ret (.ref (ρ 2)))) [1,3] [(a,aG d ws (ρ1 2)),(ρ 2,aa ds 0)])):=by unfold Qk;kernel_rfl!
theorem FP(P:Params)(n tt a d:Nat)(vs:List Value)(ep k t v:Nat)(ns:List Value)(e2:Nat):Qk 100 λr=>ay λb1 b2=>r ( bK P b1 b2 82 [.ref a,.ref v] [(a,aG d vs ep),(d,bn P (b6 k t 0)),(v,aa ns e2)] n tt [0,0,4,4,4,4] n [] [3,0,1,2] [(n,cY P [(b4,tt,.ref a),(kX,tt+1,.ref v)]),(a,aG d vs ep),(d,bn P (b6 k t 0)),(v,aa ns e2)]):=by unfold Qk;kernel_rfl!
theorem FO(P:Params)(n fr tt t0 a d:Nat)(vs:List Value)(ep k t v:Nat)(ns:List Value)(e2:Nat):Qk 300 λr=>ay λb1 b2=>r ( ap P b1 b2 (cc P 82 fr []) [(fr,cY P [(b4,t0,.ref a),(kX,t0+1,.ref v)]),(a,aG d vs ep),(d,bn P (b6 k t 0)),(v,aa ns e2)] n tt
  (.hook [1,1,1,2,0,2,0,0,0] 1 (oY a d n v vs ep .none ns e2 ns [1,4,3]) λρ=> .fin [1,2,0,0,0,0,2,0,2,0,2,0,0,0,2,0,3,3,3] (.ok (.ret .none)) [1,2,3] [(a,aG d ns (ρ 2)),(d,bn P (b6 k (ρ 1) 0)),(v,aa ns e2)])):=by unfold Qk;kernel_rfl!
theorem HJ(P):d4 P 53=true:=by kernel_rfl!
theorem HG(P):d4 P 82=true:=by kernel_rfl!
theorem qF{V:Gw}(G:au V){a d sl ep:Nat}{vs ws:List Value}{lo:Value}{k:Option Int}(pa:IsPart lo k){js:List Nat}(hw:slicePick ⟨vs⟩ k none none=⟨ws⟩)(hs:aw vs.length):ai V 1 (jA a d sl vs ep lo ws js) (λO=>True):=by
 intro A s0 hA hs0
 refine bc G (ad (Jf V.w.params s0.heap.objs.size s0.toks a d vs ep sl lo) (aC V) (aB V)) hA hs0 (aE rfl λs hs1=>⟨plainId_quiet (by decide+kernel) _,?_⟩)
 have hs':=hs1.at'
 have ho:s.heap.get? a=some (aG d vs ep):=hs'.get (a,aG d vs ep) (.head _)
 have hos:s.heap.get? sl=some (bD lo .none .none):=hs'.get (sl,bD lo .none .none) (.tail _ (.head _))
 have hTs:s.TypeIs (.ref sl) "slice":=⟨_,hos,rfl⟩
 refine codeAny_builtin entry_list_getitem ?_
 rw[Around.under_plainId (by decide+kernel) _]
 show wpAny _ _ (Builtin.List.listSubscript? (.ref sl)>>=_) _ _ s
 refine wpAny_bind ?_
 unfold Builtin.List.listSubscript?
 refine wpAny_bind (wpAny_specialOf hTs slice_no_index ?_)
 refine pY rfl ?_
 refine wpAny_pure ?_
 show wpAny _ _ (typeOf (.ref sl)>>=_) _ _ s
 refine wpAny_bind (wpAny_typeOf hTs ?_)
 rw[if_neg (by decide)]
 rw[listSliceParts_eq]
 have hstep: ¬((rawPart none==rawInt 0)=true):=Bool.false_ne_true
 refine wpAny_bind (wpAny_bind (wpAny_field hos rfl (x:= .none) rfl (wpAny_bind (wpAny_listPart .none ?_))))
 rw[if_neg hstep]
 refine wpAny_bind (wpAny_field hos rfl (x:=lo) rfl (wpAny_bind (wpAny_listPart pa ?_)))
 refine wpAny_bind (wpAny_field hos rfl (x:= .none) rfl (wpAny_bind (wpAny_listPart .none (wpAny_pure ?_))))
 refine wpAny_bind (m:=Builtin.List.listItems (.ref a)) ?_
 unfold Builtin.List.listItems
 refine wpAny_bind (wpAny_seqItems ho rfl (wpAny_pure ?_))
 refine wpAny_bind (wpAny_of_eq (sliceIndices_raw k none none (⟨vs⟩:Array Value).size (by simp)) ?_)
 have E:=hs1.trans (hs'.ends.push (o:=aa ws 0) rfl) (λb hb=> .inl hb)
 have fin:bO V (jA a d sl vs ep lo ws js) (λO=>True) s0 (.ok (.ret (.ref s.heap.objs.size))) {s with heap:=s.heap.push {cls:= .type "list",data:= .seq (slicePick ⟨vs⟩ k none none)}}:=by
  rw[hw]
  exact⟨a7 _ _ (λO=>s.heap.objs.size),rfl,aW (H:=jA a d sl vs ep lo ws js) E (λO=>s.heap.objs.size) rfl rfl (λp hp=>by rw[List.mem_singleton.mp hp];exact hs1.grow),trivial⟩
 exact wpAny_bind (wpAny_newObj_type (wpAny_pure fin) (Nat.le_trans (slicePick_size_le ⟨vs⟩ k none none) hs.fits))
noncomputable def oW(k:Option Int)(n:Nat):Nat:=(sliceBounds k none none n).1.toNat
theorem pN{V:Gw}(G:au V){a d sl v ep e2:Nat}{vs ns ws:List Value}{lo:Value}{k:Option Int}(pa:IsPart lo k){js:List Nat}(hw:vs.take (oW k vs.length)++ns=ws)(hs:aw vs.length)(hn:aw ns.length):ai V 1 (oY a d sl v vs ep lo ns e2 ws js) (λO=>True):=by
 intro A s0 hA hs0
 refine bc G (ad (Je V.w.params s0.heap.objs.size s0.toks a d vs ep sl lo v ns e2) (aC V) (aB V)) hA hs0 (aE rfl λs hs1=>⟨plainId_quiet (by decide+kernel) _,?_⟩)
 have hs':=hs1.at'
 have ho:s.heap.get? a=some (aG d vs ep):=hs'.get (a,aG d vs ep) (.head _)
 have hos:s.heap.get? sl=some (bD lo .none .none):=hs'.get (sl,bD lo .none .none) (.tail _ (.head _))
 have hov:s.heap.get? v=some (aa ns e2):=hs'.get (v,aa ns e2) (.tail _ (.tail _ (.head _)))
 have hnd:=hs'.nodup
 simp only[List.map_cons,List.map_nil,List.nodup_cons,List.mem_cons,List.not_mem_nil,or_false,not_or] at hnd
 have hav:(Builtin.List.listSameRef (.ref a) (.ref v))=false:=by
  show(a==v)=false
  simpa using hnd.1.2
 have hTs:s.TypeIs (.ref sl) "slice":=⟨_,hos,rfl⟩
 have hTv:s.TypeIs (.ref v) "list":=⟨_,hov,rfl⟩
 refine codeAny_builtin F.entry_list_setitem ?_
 rw[Around.under_plainId (by decide+kernel) _]
 show wpAny _ _ (Builtin.List.listSubscript? (.ref sl)>>=_) _ _ s
 refine wpAny_bind ?_
 unfold Builtin.List.listSubscript?
 refine wpAny_bind (wpAny_specialOf hTs slice_no_index ?_)
 refine pY rfl ?_
 refine wpAny_pure ?_
 show wpAny _ _ (typeOf (.ref sl)>>=_) _ _ s
 refine wpAny_bind (wpAny_typeOf hTs ?_)
 rw[if_neg (by decide)]
 rw[listSliceParts_eq]
 have hstep: ¬((rawPart none==rawInt 0)=true):=Bool.false_ne_true
 refine wpAny_bind (wpAny_bind (wpAny_field hos rfl (x:= .none) rfl (wpAny_bind (wpAny_listPart .none ?_))))
 rw[if_neg hstep]
 refine wpAny_bind (wpAny_field hos rfl (x:=lo) rfl (wpAny_bind (wpAny_listPart pa ?_)))
 refine wpAny_bind (wpAny_field hos rfl (x:= .none) rfl (wpAny_bind (wpAny_listPart .none (wpAny_pure ?_))))
 simp only[hav,Bool.false_eq_true,if_false]
 refine wpAny_bind ?_
 unfold Builtin.List.listAllItems
 refine wpAny_bind (wpAny_typeOf hTv ?_)
 rw[if_pos (by decide)]
 unfold Builtin.List.listItems
 refine wpAny_bind (wpAny_seqItems hov rfl (wpAny_pure ?_))
 refine wpAny_bind (wpAny_bind (wpAny_seqItems ho rfl (wpAny_pure ?_)))
 refine wpAny_bind (wpAny_of_eq (sliceIndices_raw k none none (⟨vs⟩:Array Value).size (by simp)) ?_)
 dsimp only
 rw[if_pos (show((sliceBounds k none none (⟨vs⟩:Array Value).size).2.2==1)=true from rfl)]
 refine wpAny_bind (wpAny_rule ?_)
 have hs2:vs.length≤1000:=hs
 have hn2:ns.length≤1000:=hn
 have hlong:Builtin.List.listTooLong ((⟨vs⟩:Array Value).size+(⟨ns⟩:Array Value).size)=false:=by
  show decide (vs.length+ns.length>sizeLine)=false
  rw[sizeLine_eq]
  exact decide_eq_false (by lia)
 rw[if_neg (by rw[hlong];exact Bool.false_ne_true)]
 refine wpAny_bind ?_
 generalize hf:(λxs:Array Value=>xs.extract 0 (sliceBounds k none none (⟨vs⟩:Array Value).size).1.toNat++(⟨ns⟩:Array Value)++xs.extract (max (sliceBounds k none none (⟨vs⟩:Array Value).size).1 (sliceBounds k none none (⟨vs⟩:Array Value).size).2.1).toNat)=f
 have hfv:f ⟨vs⟩=⟨ws⟩:=by
  rw[←hf,←hw]
  have h1:vs.length≤(max (sliceBounds k none none vs.length).1 (vs.length:Int)).toNat:=Int.toNat_le_toNat (Int.le_max_right (sliceBounds k none none vs.length).1 (vs.length:Int))
  have h2:(⟨vs⟩:Array Value).extract (max (sliceBounds k none none vs.length).1 (vs.length:Int)).toNat=#[]:=by
   apply Array.toList_inj.mp
   rw[Array.toList_extract]
   simp[List.extract,List.drop_eq_nil_of_le h1]
  show(⟨vs⟩:Array Value).extract 0 (sliceBounds k none none vs.length).1.toNat++(⟨ns⟩:Array Value)++(⟨vs⟩:Array Value).extract (max (sliceBounds k none none vs.length).1 (vs.length:Int)).toNat=_
  rw[h2]
  apply Array.toList_inj.mp
  simp[oW,List.extract]
 show wpAny _ _ (updateSeq a f) _ _ s
 have hwl:ws.length≤2000:=by
  rw[←hw,List.length_append,List.length_take];lia
 refine wpAny_updateSeq (hz:=by show vs.length≤_;exact hs.fits) (_hz':=by rw[show f _=⟨ws⟩ from hfv];show ws.length≤sizeLine+1;rw[sizeLine_eq];lia) ho rfl ?_
 refine wpAny_bind (wpAny_letGo (wpAny_pure ?_))
 have hmap:Obj.mapSeq f (aG d vs ep)=aG d ws (if(f ⟨vs⟩).size==(⟨vs⟩:Array Value).size then ep else ep+1):=by
  show Obj.mk _ _ (.seq (f ⟨vs⟩) (if(f ⟨vs⟩).size==(⟨vs⟩:Array Value).size then ep else ep+1)) _=_
  rw[hfv];rfl
 generalize (if(f ⟨vs⟩).size==(⟨vs⟩:Array Value).size then ep else ep+1)=ep' at hmap
 have E:=hs'.ends.upd (j:=0) (p:=(a,aG d vs ep)) (f:=Obj.mapSeq f) Wr.self rfl (by rw[hmap];rfl)
 have e:d3 [(a,aG d vs ep),(sl,bD lo .none .none),(v,aa ns e2)] 0 (Obj.mapSeq f)=[(a,aG d ws ep'),(sl,bD lo .none .none),(v,aa ns e2)]:=by
  show [(a,Obj.mapSeq f (aG d vs ep)),_,_]=_
  rw[hmap]
 rw[e] at E
 have E2:=hs1.trans E (λO h=> .inl h)
 exact⟨a7 _ _ (λO=>ep'),rfl,aW (H:=oY a d sl v vs ep lo ns e2 ws js) E2 (λO=>ep') rfl rfl (λO hp=>nomatch hp),trivial⟩
theorem tZ(n:Nat):oW none n=0:=rfl
theorem tY(i n:Nat)(h:i≤n):oW (some (i:Int)) n=i:=by
 show(max 0 (min (if(i:Int)<0 then(i:Int)+n else i) n)).toNat=i
 rw[if_neg (Int.not_lt.mpr (Int.natCast_nonneg i)),Int.min_eq_left (Int.ofNat_le.mpr h),Int.max_eq_right (Int.natCast_nonneg i)];rfl
noncomputable def Ao(a d:Nat)(vs:List Value)(ep i u:Nat)(js:List Nat):aD:=
 ⟨.call (.ref 53) ⟨[.ref a,.int (i:Nat) u],[]⟩,js,[(a,aG d vs ep)],λρ=> .ok (.ret (.ref (ρ 2))),λρ=>[aG d (vs.take i) (ρ 3)],λρ=>[(ρ 2,aa (vs.drop i) 0)]⟩
theorem zd{V:Gw}(G:au V){a d ep i u:Nat}{vs:List Value}{js:List Nat}(hsm:aw vs.length)(hi:i≤vs.length):ai V 2 (Ao a d vs ep i u js) (λO=>True):=by
 intro A s hA h
 refine jB G hA (HJ _) h (ad (F9 V.w.params s.heap.objs.size s.toks a d vs ep i u) (aC V) (aB V)) (aS rfl) λs1 hs1=> ?_
 refine bc G (ad (F8 V.w.params s1.heap.objs.size s.heap.objs.size s1.toks s.toks a d vs (vs.take i) (vs.drop i) ep i u) (aC V) (aB V)) hA hs1.at' ?_
 refine jR (qF G (.int _ _) (slicePick_from' ⟨vs⟩ i) hsm) rfl rfl rfl λρ O O hnew=>ae (pN G (.int _ _) (by rw[tY _ _ hi,List.append_nil]) hsm (Nat.zero_le _)) rfl rfl rfl λρ1 O O=>aO rfl λs2 hs2=> ?_
 have E:=hs1.trans hs2 (λq hq=>by
  have hq:q∈[s.heap.objs.size,a]:=hq
  simp only[gV,List.not_mem_nil,or_false] at hq
  rcases hq with rfl|rfl
  ·exact .inr (Nat.le_refl _)
  ·exact .inl (.head _))
 exact⟨a7 _ _ (λk=>if k=0 then ρ 2 else ρ1 2),rfl,aW (H:=Ao a d vs ep i u js) E _ rfl rfl (λp hp=>by rw[List.mem_singleton.mp hp];exact Nat.le_trans hs1.grow (hnew (ρ 2,_) (.head _))),trivial⟩
noncomputable def lz(P:Params)(a d:Nat)(vs:List Value)(ep k t v:Nat)(ns:List Value)(e2:Nat)(js:List Nat):aD:=
 ⟨.call (.ref 82) ⟨[.ref a,.ref v],[]⟩,js,[(a,aG d vs ep),(d,bn P (b6 k t 0)),(v,aa ns e2)],λρ=> .ok (.ret .none),λρ=>[aG d ns (ρ 2),bn P (b6 k (ρ 3) 0),aa ns e2],λρ=>[]⟩
theorem m8{V:Gw}(G:au V){a d ep k t v e2:Nat}{vs ns:List Value}{js:List Nat}(hsm:aw vs.length)(hn:aw ns.length):ai V 2 (lz V.w.params a d vs ep k t v ns e2 js) (λO=>True):=by
 intro A s hA h
 refine jB G hA (HG _) h (ad (FP V.w.params s.heap.objs.size s.toks a d vs ep k t v ns e2) (aC V) (aB V)) (aS rfl) λs1 hs1=> ?_
 refine bc G (ad (FO V.w.params s1.heap.objs.size s.heap.objs.size s1.toks s.toks a d vs ep k t v ns e2) (aC V) (aB V)) hA hs1.at' ?_
 refine ae (pN G .none (by rw[tZ];rfl) hsm hn) rfl rfl rfl λρ O O=>aO rfl λs2 hs2=> ?_
 have E:=hs1.trans hs2 (λq hq=>by
  have hq:q∈[s.heap.objs.size,a,d,v]:=hq
  simp only[gV,List.not_mem_nil,or_false] at hq
  rcases hq with rfl|rfl|rfl|rfl
  ·exact .inr (Nat.le_refl _)
  ·exact .inl (.head _)
  ·exact .inl (.tail _ (.head _))
  ·exact .inl (.tail _ (.tail _ (.head _))))
 exact⟨a7 _ _ (λj=>if j=0 then ρ 2 else ρ 1),rfl,aW (H:=lz V.w.params a d vs ep k t v ns e2 js) E _ rfl rfl (λp hp=>nomatch hp),trivial⟩
theorem am.trans'{V:Gw}{W:List Addr}{s s1 s2:Shared}{K₁ K₂:KL}(h1:am V W s K₁ s1)(h2:am V W s1 K₂ s2):am V W s K₂ s2:=
 ⟨h2.at',λb o e hb=>h2.pres b o (h1.pres b o e hb) hb,Nat.le_trans h1.grow h2.grow⟩
inductive LP {S:Type} (V:Gw) (W:List Addr) (s:Shared) (K F:S→KL) (I:S→Prop) (r:Result) (s':Shared):Prop
 |mk (h:r= .ok .next) (σ:S):I σ→am V W s (K σ) s'→Fz V (F σ) (K σ) s'→LP V W s K F I r s'
theorem bv{V:Gw}{S:Type}{code:Code}{L:Nat}{W:List Addr}(N n0:Nat)(Kf:Nat→S→KL)(Ff:Nat→S→KL)(KE:S→KL)(gT:Nat→S→Prop)
  (step:∀m σ A s (R:Result→Shared→Prop),m<N→gT m σ→Bd L A→n0≤s.heap.objs.size→At V (Kf m σ) s→Fz V (Ff m σ) (Kf m σ) s→
   (∀σ' s',gT (m+1) σ'→am V W s (Kf (m+1) σ') s'→Fz V (Ff (m+1) σ') (Kf (m+1) σ') s'→codeAny (model V.prog V.w) A code R s')→codeAny (model V.prog V.w) A code R s)
  (last:∀σ A s (R:Result→Shared→Prop),gT N σ→Bd L A→At V (Kf N σ) s→Fz V (Ff N σ) (Kf N σ) s→(∀s',am V W s (KE σ) s'→Fz V (Ff N σ) (KE σ) s'→R (.ok .next) s')→codeAny (model V.prog V.w) A code R s):
  ∀k m σ A s,m+k=N→gT m σ→Bd L A→n0≤s.heap.objs.size→At V (Kf m σ) s→Fz V (Ff m σ) (Kf m σ) s→
   codeAny (model V.prog V.w) A code (LP V W s KE (Ff N) (gT N)) s:=by
 intro k
 induction k with
 |zero=>
  intro m σ A s hm hI hA hn hs hF
  have:m=N:=by lia
  subst this
  exact last σ A s _ hI hA hs hF λs' h1 h2=>⟨rfl,σ,hI,h1,h2⟩
 |succ k ih=>
  intro m σ A s hm hI hA hn hs hF
  refine step m σ A s _ (by lia) hI hA hn hs hF λσ' s' hI' hE hF'=> ?_
  refine codeAny_mono (ih (m+1) σ' A s' (by lia) hI' hA (Nat.le_trans hn hE.grow) hE.at' hF') ?_
  rintro r s'' ⟨hr,σ2,h1,h2,h3⟩
  exact⟨hr,σ2,h1,hE.trans' h2,h3⟩
noncomputable def fc(vs:List Value):Nat→Value
 |0=> .none
 |m+1=>vs.getD m .none
theorem lb{V:Gw}(G:au V){S:Type}{e:Expr}{env:Env}{acc Zz it l ep L n0:Nat}{vs:List Value}{WR:List Addr}{F:KL}(he:iJ e)(ht:eN (bd e)=true)(hL:1≤L)(RK:Nat→S→KL)(gT:Nat→S→Prop)(hRW:∀m σ,(RK m σ).map (·.1)=WR)
  (turn:∀m σ x Tt pu A s (Q:Shared→Prop),vs[m]?=some x→gT m σ→Bd L A→n0≤s.heap.objs.size→At V (RK m σ++[(Tt,al [.int m pu,x])]) s→Fz V F (RK m σ++[(Tt,al [.int m pu,x])]) s→
   (∀σ' s',gT (m+1) σ'→am V ((RK m σ++[(Tt,al [.int m pu,x])]).map (·.1)) s (RK (m+1) σ') s'→Q s')→
   wpAny (model V.prog V.w) A (gN (bd e) env (.ref Tt) (gB e) (bx e) (.ref acc)) (λf s'=>f= .done .next∧Q s') No s):
  ∀σ A s,gT 0 σ→Bd L A→n0≤s.heap.objs.size→At V (eH Zz it l .none .none 0 vs ep++RK 0 σ) s→Fz V F (eH Zz it l .none .none 0 vs ep++RK 0 σ) s→
   codeAny (model V.prog V.w) A (.compLoop e 0 (.ref Zz) (.ref acc) env) (LP V ([Zz,it,l]++WR) s (λσ'=>gP Zz it l .none (fc vs vs.length) vs.length vs ep++RK vs.length σ') (λO=>F) (gT vs.length)) s:=by
 intro σ A s hI hA hn hs hF
 refine bv (L:=L) vs.length n0 (λm σ=>eH Zz it l .none (fc vs m) m vs ep++RK m σ) (λO O=>F) (λσ=>gP Zz it l .none (fc vs vs.length) vs.length vs ep++RK vs.length σ) gT ?_ ?_ vs.length 0 σ A s (by lia) hI hA hn hs hF
 ·intro m σ A s R hm hI hA hn hs hF k
  have hx:vs[m]?=some vs[m]:=List.getElem?_eq_getElem hm
  refine gH he (iU G (hA.weak hL) ht hs hF hx λTt pu s1 hTt hE1 hF1=> ?_)
  have hs2:=hE1.at'.perm List.perm_append_comm
  have hF2:=hF1.perm List.perm_append_comm
  refine turn m σ vs[m] Tt pu A s1 _ hx hI hA (Nat.le_trans hn hE1.grow) hs2.less hF2.less λσ' s2 hI' hE=> ?_
  obtain⟨E3,F3⟩:=iN hs2 hF2 hE (λp hp=> .inl (by
   have h1:p.1∈(RK (m+1) σ').map (·.1):=List.mem_map_of_mem hp
   rw[hRW] at h1
   rw[List.map_append,hRW]
   exact List.mem_append_left _ h1))
  have E4:=E3.perm List.perm_append_comm
  have F4:=F3.perm List.perm_append_comm
  have hold:vs[m]=fc vs (m+1):=by show _=vs.getD m .none;rw[List.getD_eq_getElem?_getD,hx];rfl
  rw[hold] at E4 F4
  refine k σ' s2 hI' ⟨E4.at',λb o hb hbw=>E4.pres b o (hE1.pres b o hb λhm=>hbw ?_) (λhm=> ?_),Nat.le_trans hE1.grow E4.grow⟩ F4
  ·rw[List.map_append,hRW] at hm;exact hm
  ·rw[List.map_append,List.map_append,hRW] at hm
   rcases List.mem_append.mp hm with hm|hm
   ·rcases List.mem_append.mp hm with hm|hm
    ·exact hbw (List.mem_append_right _ hm)
    ·have e:=List.mem_singleton.mp hm
     exact absurd (Heap.lt_size hb) (Nat.not_lt.mpr (by rw[e];exact hTt))
   ·exact hbw (List.mem_append_left _ hm)
 ·intro σ A s R hI hA hs hF k
  refine gH he (iV G (hA.weak hL) hs hF (by simp) λs' hE hF'=>k s' ?_ hF')
  have e:(eH Zz it l .none (fc vs vs.length) vs.length vs ep++RK vs.length σ).map (·.1)=[Zz,it,l]++WR:=by rw[List.map_append,hRW];rfl
  rw[←e];exact hE
noncomputable def rM(D:Nat)(x:Str)(t:Nat)(v:Value):aD:=iw (.call (.builtin "dict.__getitem__") ⟨[.ref D,.str x t],[]⟩) [] [] λO=>v
theorem BP(P):(ck P).get 170=some (bC P 170):=by kernel_rfl!
noncomputable def wG(P:Params)(v:Value):Int:=match v with
 | .str x _=>if x.cps.isEmpty=true then 0 else reduceHash (P.strHash x.cps)
 |_=>0
noncomputable def pC(o:Obj):Bool:=match o.cls with
 | .type "dict"=>(match o.dict with|none=>true|some _=>false)&&(match o.slots with|⟨[]⟩=>true|_=>false)
 |_=>false
theorem CH(P):ju (bC P 170)=true:=by kernel_rfl!
theorem CG(P):pC (bC P 170)=true:=by kernel_rfl!
theorem Cg(P):(bM (bC P 170)).map (·.hash)=(bM (bC P 170)).map (λe=>wG P e.key):=by kernel_rfl!
noncomputable def Ir(v:Option Value):Int:=match v with
 |some (.int a _)=>a
 |_=>0
noncomputable def DQ(v:Option Value):Nat:=match v with
 |some (.int _ t)=>t
 |_=>0
noncomputable def dx(c:Nat):Int:=if c=40 then 7 else if c=41 then 8 else if c=91 then 9 else if c=93 then 10 else if c=123 then 25 else 26
noncomputable def nE(P:Params)(c:Nat):Nat:=DQ (c9 (bM (bC P 170)) ⟨#[c]⟩)
noncomputable def fM(P:Params)(c:Nat):Value:= .int (dx c) (nE P c)
noncomputable def pX:List Nat:=[40,41,91,93,123,125]
theorem Bn(P):pX.map (λc=>c9 (bM (bC P 170)) ⟨#[c]⟩)=pX.map (λc=>some (fM P c)):=by kernel_rfl!
theorem yX{V:Gw}(G:au V){c t:Nat}(hc:c∈pX){L:Nat}:ai V L (rM 170 (aX [c]) t (fM V.w.params c)) (λO=>True):=by
 have hget:∀s,At V [] s→s.heap.get? 170=some (bC V.w.params 170):=λs hs=>dR G (Top.of hs.base) (BP _)
 have hz:=CG V.w.params
 have hd:=CH V.w.params
 have hh:=Cg V.w.params
 have hf:c9 (bM (bC V.w.params 170)) (aX [c])=some (fM V.w.params c):=List.map_inj_left.mp (Bn V.w.params) c hc
 generalize bC V.w.params 170=ob at hget hz hd hh hf
 obtain⟨cl,dd,dt,sl⟩:=ob
 unfold pC at hz
 split at hz
 case h_2=>cases hz
 rename_i hcl
 obtain⟨z1,z2⟩:=Bool.and_eq_true_iff.mp hz
 cases dt with
 |dict es ep=>
  have hcl:cl= .type "dict":=hcl
  have hdd:dd=none:=by
   try dsimp only at z1
   cases dd with
   |none=>rfl
   |some _=>cases z1
  have hsl:sl=#[]:=by
   try dsimp only at z2
   obtain⟨l⟩:=sl
   cases l with
   |nil=>rfl
   |cons _ _=>cases z2
  subst hcl hdd hsl
  refine cV (H:=rM 170 (aX [c]) t (fM V.w.params c)) rfl F.slot_dict_getitem (λs hs=>⟨_,hget s hs,rfl⟩) F.entry_dict_getitem (F.args_dict_getitem_2 _ _) λA s ha hs=> ?_
  have hm:s.heap.MapOf (PySem.strKind V.prog V.w) 170 (λk=>findBy (PySem.strKind V.prog V.w).is es k):=by
   refine⟨_,es,ep,hget s hs,⟨rfl,rfl,rfl⟩,rfl,λe hm=> ?_,λO=>rfl⟩
   have hm':e∈es.toList:=by simpa using hm
   have h1:=List.all_eq_true.mp hd e hm'
   have h2:e.hash=wG V.w.params e.key:=List.map_inj_left.mp hh e hm'
   cases hk:e.key with
   |str x u=>
    refine⟨x,by simp[PySem.strKind,Value.isStrOf],?_⟩
    rw[h2,hk]
    rfl
   |_=>rw[hk] at h1;cases h1
  have hf':findBy (PySem.strKind V.prog V.w).is es (aX [c])=some (fM V.w.params c):=by
   rw[←hf]
   obtain⟨l⟩:=es
   unfold findBy c9
   rw[List.find?_toArray]
   refine congrArg _ (congrArg (λf=>List.find? f l) (funext λe=> ?_))
   show Value.isStrOf (aX [c]) e.key=e.key.isStr (aX [c])
   cases e.key<;>rfl
  exact meets_dict_getitem (PySem.strKind V.prog V.w) (k:=aX [c]) 170 (by simp[PySem.strKind,Value.isStrOf]) A _ s ⟨_,_,hm,hf',a7 _ _ (λO=>0),rfl,cM (hs.ends.tok (s.toks+1)) (λO=>0),trivial⟩
 |_=>cases hd
noncomputable def oU(P:Params)(fr:Addr):Env:=f6 (aU P 201) 201 fr []
noncomputable def C8(P:Params):List Stmt:=eQ (aA (aU P 201)) 1
noncomputable def DG(P:Params)(w:Bool):Expr:=match w with
 |false=>jF (C8 P) 0
 |true=>pP (C8 P) 3
noncomputable def qX(P:Params):Expr:=jF (C8 P) 1
noncomputable def DF(P:Params):Expr:=oZ (jF (C8 P) 4) 0
noncomputable def w3(P:Params)(w:Bool)(fr C:Addr):Env:=compEnvC (aT (DG P w)) [] C (oU P fr)
noncomputable def mE(P:Params)(fr C:Addr):Env:=compEnvC (aT (qX P)) [] C (oU P fr)
noncomputable def w0(P:Params)(fr C:Addr):Env:=compEnvC (aT (DF P)) [] C (oU P fr)
noncomputable def Al(P:Params)(w:Bool)(fr C I acc:Addr):Code:= .compLoop (DG P w) 0 (.ref I) (.ref acc) (w3 P w fr C)
noncomputable def A8(P:Params)(w:Bool)(fr C I acc:Addr):Code:= .compStart (DG P w) 0 (.ref I) (.ref acc) (w3 P w fr C)
noncomputable def Js(P:Params)(fr C I acc:Addr):Code:= .compLoop (qX P) 0 (.ref I) (.ref acc) (mE P fr C)
noncomputable def A7(P:Params)(fr C I acc:Addr):Code:= .compStart (qX P) 0 (.ref I) (.ref acc) (mE P fr C)
noncomputable def xn(P:Params)(fr C I acc:Addr):Code:= .compLoop (DF P) 0 (.ref I) (.ref acc) (w0 P fr C)
noncomputable def A2(P:Params)(fr C I acc:Addr):Code:= .compStart (DF P) 0 (.ref I) (.ref acc) (w0 P fr C)
noncomputable def un(P:Params)(C I acc:Addr)(T:aF)(io:Obj)(out:List Value)(m:Nat):KL:=[(C,bn P T),(I,io),(acc,aa out m)]
noncomputable def Fa(P:Params)(b1 b2:Bool)(n t:Nat)(w:Bool)(fr C I acc:Nat)(first:Bool)(κ:Nat)(v0:Value)(x:Str)(tx m c:Nat)(v:Int)(vt:Nat)(out:List Value):bu:=
 ap P b1 b2 (Al P w fr C I acc) (un P C I acc (bk first i0 κ v0) (dZ (.str x tx) m) out m) n t
 (.hook [2] 0 (gg I x tx m c [1]) λρ=> .hook [1,1,0,1,0,0,0] 0 {rM 170 (aX [c]) (ρ 2) (.int v vt) with js:=[]} λρ1=> .hook [] 0 (a5 acc out m (.int v vt) [2]) λρ2=>
 .again [] (Al P w fr C I acc) [0,1,2] (un P C I acc [(i0,ao first κ (ρ 1),.str (aX [c]) (ρ 2))] (dZ (.str x tx) (m+1)) (out++[.int v vt]) (m+1)))
noncomputable def Fb(P:Params)(b1 b2:Bool)(n t:Nat)(w:Bool)(fr C I acc:Nat)(T:aF)(x:Str)(tx m:Nat)(out:List Value):bu:=
 ap P b1 b2 (Al P w fr C I acc) (un P C I acc T (dZ (.str x tx) m) out m) n t
 (.hook [2] 0 (oL I x tx m [1]) λρ=> .fin [5] (.ok .next) [0,1,2] (un P C I acc T (dZ .none m) out m))
theorem Ho(P b1 n t fr C I acc κ v0 x tx m c v vt out):Qk 300 λr=>co λw first b2=>r (Fa P b1 b2 n t w fr C I acc first κ v0 x tx m c v vt out):=by unfold Qk;kernel_rfl!
theorem Hp(P b1 n t fr C I acc T x tx m out):Qk 200 λr=>ay λw b2=>r (Fb P b1 b2 n t w fr C I acc T x tx m out):=by unfold Qk;kernel_rfl!
theorem Hq(P:Params)(n t:Nat)(fr C I acc:Nat)(x:Str)(tx:Nat):Qk 200 λr=>co λw b1 b2=>r ( ap P b1 b2 (A8 P w fr C I acc) (un P C I acc [] (dZ (.str x tx) 0) [] 0) n t
 (.again (match b1 with|true=>[]|false=>[2,2,0,2,2]) (Al P w fr C I acc) [0,1,2] (un P C I acc [] (dZ (.str x tx) 0) [] 0))):=by unfold Qk;kernel_rfl!
noncomputable def DM(a b:Nat)(x y:Value):aF:=[(bo,a,x),(ak,b,y)]
noncomputable def uL(first:Bool)(a b:Nat)(x y:Value):aF:=match first with
 |true=>[]
 |false=>DM a b x y
noncomputable def EZ(P:Params)(b1 b2:Bool)(n t fr C acc Tt:Nat)(first:Bool)(ka kb:Nat)(va vb:Value)(m pu:Nat)(x:Int)(u:Nat)(out:List Value)(eq:Nat):bu:=
 bf P b1 b2 (gN (bd (qX P)) (mE P fr C) (.ref Tt) (gB (qX P)) (bx (qX P)) (.ref acc)) ([(C,bn P (uL first ka kb va vb)),(acc,aa out eq)]++[(Tt,al [.int m pu,.int x u])]) n t
 (.hook [3,3,3,0,3,4,4,0,4,4,4,3,4,4,4,0,4,4,4,3,4,4,4,0,4,4,4,3,4,4,6,1,1,1,1,1,0] 3 {pV (Z.modQ x 2) 0 (t+3) (t+4) true with js:=[]} λρ'=> .hook [1] 0 (a5 acc out eq (.int m pu) [1]) λρ2=>
  .fin [] (.ok .next) [0,1] [(C,bn P (DM (ao first ka t) (ao first kb (t+1)) (.int m pu) (.int x u))),(acc,aa (out++[.int m pu]) (eq+1))])
noncomputable def E0(P:Params)(b1 b2:Bool)(n t fr C acc Tt:Nat)(first:Bool)(ka kb:Nat)(va vb:Value)(m pu:Nat)(x:Int)(u:Nat)(out:List Value)(eq:Nat):bu:=
 bf P b1 b2 (gN (bd (qX P)) (mE P fr C) (.ref Tt) (gB (qX P)) (bx (qX P)) (.ref acc)) ([(C,bn P (uL first ka kb va vb)),(acc,aa out eq)]++[(Tt,al [.int m pu,.int x u])]) n t
 (.hook [3,3,3,0,3,4,4,0,4,4,4,3,4,4,4,0,4,4,4,3,4,4,4,0,4,4,4,3,4,4,6,1,1,1,1,1,0] 3 {pV (Z.modQ x 2) 0 (t+3) (t+4) false with js:=[]} λρ'=>
  .fin [] (.ok .next) [0,1] [(C,bn P (DM (ao first ka t) (ao first kb (t+1)) (.int m pu) (.int x u))),(acc,aa out eq)])
theorem Hl(P n t fr C acc Tt ka kb va vb m pu x u out eq):Qk 300 λr=>co λfirst b1 b2=>r (EZ P b1 b2 n t fr C acc Tt first ka kb va vb m pu x u out eq):=by unfold Qk;kernel_rfl!
theorem Hm(P n t fr C acc Tt ka kb va vb m pu x u out eq):Qk 300 λr=>co λfirst b1 b2=>r (E0 P b1 b2 n t fr C acc Tt first ka kb va vb m pu x u out eq):=by unfold Qk;kernel_rfl!
theorem Hn(P:Params)(n t fr C Zz it l acc:Nat)(vs:List Value)(ep:Nat):Qk 200 λr=>ay λb1 b2=>r ( ap P b1 b2 (A7 P fr C Zz acc) (eH Zz it l .none .none 0 vs ep++[(C,bn P []),(acc,aa [] 0)]) n t
 (.again (match b1 with|true=>[]|false=>[1,1,0,1,1]) (Js P fr C Zz acc) [0,1,2,3,4] (eH Zz it l .none .none 0 vs ep++[(C,bn P []),(acc,aa [] 0)]))):=by unfold Qk;kernel_rfl!
noncomputable def eZ(P:Params)(C I l acc:Addr)(T:aF)(io:Obj)(vs:List Value)(ep:Nat)(out:List Value)(eq:Nat):KL:=[(C,bn P T),(I,io),(l,aa vs ep),(acc,aa out eq)]
noncomputable def EX(P:Params)(b1 b2:Bool)(n t:Nat)(fr C I l acc:Nat)(first:Bool)(κ:Nat)(v0:Value)(j:Nat)(vs:List Value)(ep:Nat)(x:Int)(u:Nat)(out:List Value)(eq:Nat):bu:=
 ap P b1 b2 (xn P fr C I acc) (eZ P C I l acc (bk first ak κ v0) (aj l j) vs ep out eq) n t
 (.hook [2] 0 (a8 I l j vs ep (.int x u) [1,2]) λρ=> .hook [1,1,1,0] 0 {pV (Z.modQ x 2) 1 (ρ 1+2) (ρ 1+3) true with js:=[]} λρ1=> .hook [1] 0 (a5 acc out eq (.int x u) [3]) λρ2=>
 .again [] (xn P fr C I acc) [0,1,2,3] (eZ P C I l acc [(ak,ao first κ (ρ 1),.int x u)] (aj l (j+1)) vs ep (out++[.int x u]) (eq+1)))
noncomputable def EY(P:Params)(b1 b2:Bool)(n t:Nat)(fr C I l acc:Nat)(first:Bool)(κ:Nat)(v0:Value)(j:Nat)(vs:List Value)(ep:Nat)(x:Int)(u:Nat)(out:List Value)(eq:Nat):bu:=
 ap P b1 b2 (xn P fr C I acc) (eZ P C I l acc (bk first ak κ v0) (aj l j) vs ep out eq) n t
 (.hook [2] 0 (a8 I l j vs ep (.int x u) [1,2]) λρ=> .hook [1,1,1,0] 0 {pV (Z.modQ x 2) 1 (ρ 1+2) (ρ 1+3) false with js:=[]} λρ1=>
 .again [] (xn P fr C I acc) [0,1,2,3] (eZ P C I l acc [(ak,ao first κ (ρ 1),.int x u)] (aj l (j+1)) vs ep out eq))
theorem Hh(P b1 n t fr C I l acc κ v0 j vs ep x u out eq):Qk 300 λr=>ay λfirst b2=>r (EX P b1 b2 n t fr C I l acc first κ v0 j vs ep x u out eq):=by unfold Qk;kernel_rfl!
theorem Hi(P b1 n t fr C I l acc κ v0 j vs ep x u out eq):Qk 300 λr=>ay λfirst b2=>r (EY P b1 b2 n t fr C I l acc first κ v0 j vs ep x u out eq):=by unfold Qk;kernel_rfl!
theorem Hj(P:Params)(b1:Bool)(n t:Nat)(fr C I l acc:Nat)(T:aF)(j:Nat)(vs:List Value)(ep:Nat)(out:List Value)(eq:Nat):Qk 200 λr=>fT λb2=>r ( ap P b1 b2 (xn P fr C I acc) (eZ P C I l acc T (aj l j) vs ep out eq) n t
 (.hook [2] 0 (cn I l j vs ep [1,2]) λρ=> .fin [6] (.ok .next) [0,1,2,3] (eZ P C I l acc T (ba j) vs ep out eq))):=by unfold Qk;kernel_rfl!
theorem Hk(P:Params)(n t:Nat)(fr C I l acc:Nat)(vs:List Value)(ep:Nat):Qk 200 λr=>ay λb1 b2=>r ( ap P b1 b2 (A2 P fr C I acc) (eZ P C I l acc [] (aj l 0) vs ep [] 0) n t
 (.again (match b1 with|true=>[]|false=>[2,2,0,2,2]) (xn P fr C I acc) [0,1,2,3] (eZ P C I l acc [] (aj l 0) vs ep [] 0))):=by unfold Qk;kernel_rfl!
theorem tX(P):iJ (qX P):=iQ (by kernel_rfl!)
theorem v5(P):eN (bd (qX P))=true:=by kernel_rfl!
noncomputable def aK(P:Params)(cs:List Nat):List Value:=cs.map (fM P)
theorem cu(P:Params)(cs:List Nat):(aK P cs).length=cs.length:=by simp[aK]
theorem lg(P:Params)(cs:List Nat){m:Nat}(h:m<cs.length):aK P (cs.take m)++[fM P (cs.getD m 0)]=aK P (cs.take (m+1)):=by
 rw[List.take_add_one,List.getElem?_eq_getElem h,aK,aK,List.map_append,List.getD_eq_getElem?_getD,List.getElem?_eq_getElem h];rfl
noncomputable def z3(P:Params)(w:Bool)(fr C I acc:Nat)(cs:List Nat)(t:Nat)(e:Bool)(js:List Nat):aD:=
 ⟨A8 P w fr C I acc,js,un P C I acc [] (dZ (.str (aX cs) t) 0) [] 0,λO=> .ok .next,λρ=>[bn P (bk e i0 (ρ 2) (.str (aX [cs.getD (cs.length-1) 0]) (ρ 3))),dZ .none cs.length,aa (aK P cs) cs.length],λO=>[]⟩
theorem oS{V:Gw}(G:au V){w:Bool}{fr C I acc t:Nat}{cs:List Nat}{e:Bool}(he:e=(cs.length==0))(hc:∀c∈cs,c∈pX)(hsm:cs.length≤500){js:List Nat}:ai V 1 (z3 V.w.params w fr C I acc cs t e js) (λO=>True):=by
 subst he
 intro A s hA hs
 refine bc G (bb (Hq V.w.params s.heap.objs.size s.toks fr C I acc (aX cs) t) w (aC V) (aB V)) hA hs (aE rfl λs1 hs1=>⟨rfl,?_⟩)
 have main:=bv (V:=V) (S:=Nat×Nat) (code:=Al V.w.params w fr C I acc) (L:=1) (W:=[C,I,acc]) cs.length 0
  (λm σ=>un V.w.params C I acc (bk (m==0) i0 σ.1 (.str (aX [cs.getD (m-1) 0]) σ.2)) (dZ (.str (aX cs) t) m) (aK V.w.params (cs.take m)) m) (λO O=>[])
  (λσ=>un V.w.params C I acc (bk (cs.length==0) i0 σ.1 (.str (aX [cs.getD (cs.length-1) 0]) σ.2)) (dZ .none cs.length) (aK V.w.params cs) cs.length) (λO O=>True) ?_ ?_ cs.length 0 (0,0) A s1 (Nat.zero_add _) trivial hA (Nat.zero_le _) hs1.at' Fz.nil
 ·refine codeAny_mono main ?_
  rintro r s'' ⟨hr,σ,_,hE,_⟩
  have E:=hs1.trans hE (λb hb=> .inl hb)
  exact⟨a7 _ _ (λk=>if k=0 then σ.1 else σ.2),hr,aW (H:=z3 V.w.params w fr C I acc cs t (cs.length==0) js) E _ rfl rfl (λO hp=>nomatch hp),trivial⟩
 ·intro m σ A s R hm _ hA _ hs _ k
  have hget:cs[m]?=some (cs.getD m 0):=by rw[List.getD_eq_getElem?_getD,List.getElem?_eq_getElem hm];rfl
  have hmem:cs.getD m 0∈cs:=List.mem_of_getElem? hget
  refine bc G (bb (Ho V.w.params (aC V) s.heap.objs.size s.toks fr C I acc σ.1 (.str (aX [cs.getD (m-1) 0]) σ.2) (aX cs) t m (cs.getD m 0) (dx (cs.getD m 0)) (nE V.w.params (cs.getD m 0)) (aK V.w.params (cs.take m))) w (m==0) (aB V)) hA hs ?_
  refine ae (dK (L:=0) (by simpa[aX] using hget)) rfl rfl rfl λρ O O=>ae (yX (L:=0) G (hc _ hmem)) rfl rfl rfl λρ1 O O=>ae (aM (L:=0) (by show _≤1000;rw[cu,List.length_take];lia)) rfl rfl rfl λρ2 O O=>aE rfl λs' hs'=>⟨rfl,?_⟩
  have hs':=hs'
  rw[show aK V.w.params (cs.take m)++[.int (dx (cs.getD m 0)) (nE V.w.params (cs.getD m 0))]=aK V.w.params (cs.take (m+1)) from lg _ _ hm] at hs'
  exact k (ao (m==0) σ.1 (ρ 1),ρ 2) s' trivial hs' Fz.nil
 ·intro σ A s R _ hA hs _ k
  have e:cs.take cs.length=cs:=List.take_length
  rw[e] at hs
  refine bc G (ad (Hp V.w.params (aC V) s.heap.objs.size s.toks fr C I acc (bk (cs.length==0) i0 σ.1 (.str (aX [cs.getD (cs.length-1) 0]) σ.2)) (aX cs) t cs.length (aK V.w.params cs)) w (aB V)) hA hs ?_
  exact ae (vK (L:=0) (by simp[aX])) rfl rfl rfl λρ O O=>aO rfl λs' hs'=>k s' hs' Fz.nil
noncomputable def p8(c:Nat):Bool:=decide ((dx c).fmod 2=0)
noncomputable def cH(c:Nat):Bool:=decide ((dx c).fmod 2=1)
noncomputable def dz(cs:List Nat):List Nat:=(List.range cs.length).filter λi=>p8 (cs.getD i 0)
noncomputable def bF(ns:List Nat)(τ:Nat→Nat):List Value:=(List.range ns.length).map λi=> .int (ns.getD i 0:Nat) (τ i)
noncomputable def dr(ps:List (Nat×Nat)):List Value:=ps.map λp=> .int (p.1:Nat) p.2
theorem lI(ps:List (Nat×Nat)):dr ps=bF (ps.map (·.1)) (λi=>(ps.getD i (0,0)).2):=Do ps (0,0) (·.1) λ(x:Nat) p=>Value.int x p.2
noncomputable def C7(P:Params)(fr C Zz it l acc:Nat)(cs:List Nat)(ep:Nat)(e:Bool)(js:List Nat):aD:=
 ⟨A7 P fr C Zz acc,js,eH Zz it l .none .none 0 (aK P cs) ep++[(C,bn P []),(acc,aa [] 0)],λO=> .ok .next,
  λρ=>[ge .none it cs.length (fc (aK P cs) cs.length),ba cs.length,aa (aK P cs) ep,bn P (uL e (ρ 2) (ρ 3) (.int (cs.length-1:Nat) (ρ 4)) (fM P (cs.getD (cs.length-1) 0))),aa (bF (dz cs) (λi=>ρ (i+5))) (dz cs).length],λO=>[]⟩
theorem nh(cs:List Nat){m:Nat}(hm:m<cs.length):((List.range (m+1)).filter λi=>p8 (cs.getD i 0))=((List.range m).filter λi=>p8 (cs.getD i 0))++(if p8 (cs.getD m 0) then [m] else []):=by
 rw[List.range_succ,List.filter_append]
 congr 1
 simp only[List.filter_cons,List.filter_nil]
theorem wS{V:Gw}(G:au V){fr C Zz it l acc ep:Nat}{cs:List Nat}{e:Bool}(he:e=(cs.length==0))(hsm:cs.length≤500){js:List Nat}:ai V 2 (C7 V.w.params fr C Zz it l acc cs ep e js) (λO=>True):=by
 subst he
 intro A s hA hs
 refine bc G (ad (Hn V.w.params s.heap.objs.size s.toks fr C Zz it l acc (aK V.w.params cs) ep) (aC V) (aB V)) hA hs (aE rfl λs1 hs1=>⟨rfl,?_⟩)
 have main:=lb (V:=V) G (S:=(Nat×Nat×Nat)×List (Nat×Nat)) (e:=qX V.w.params) (env:=mE V.w.params fr C) (acc:=acc) (Zz:=Zz) (it:=it) (l:=l) (ep:=ep) (L:=2) (n0:=0) (vs:=aK V.w.params cs) (WR:=[C,acc]) (F:=[]) (tX _) (v5 _) (by decide)
  (λm σ=>[(C,bn V.w.params (uL (m==0) σ.1.1 σ.1.2.1 (.int (m-1:Nat) σ.1.2.2) (fM V.w.params (cs.getD (m-1) 0)))),(acc,aa (dr σ.2) σ.2.length)])
  (λm σ=>σ.2.map (·.1)=(List.range m).filter λi=>p8 (cs.getD i 0)) (λO O=>rfl) ?_ ((0,0,0),[]) A s1 rfl hA (Nat.zero_le _) hs1.at' Fz.nil
 ·refine codeAny_mono main ?_
  rintro r s'' ⟨hr,σ,hI,hE,_⟩
  have E:=hs1.trans hE (λb hb=> .inl hb)
  rw[cu] at E hI
  have hI:σ.2.map (·.1)=dz cs:=hI
  have hl:σ.2.length=(dz cs).length:=by rw[←hI,List.length_map]
  rw[lI,hI,hl] at E
  exact⟨a7 _ _ (λk=>match k with|0=>σ.1.1|1=>σ.1.2.1|2=>σ.1.2.2|k+3=>(σ.2.getD k (0,0)).2),hr,aW (H:=C7 V.w.params fr C Zz it l acc cs ep (cs.length==0) js) E _ rfl rfl (λO hp=>nomatch hp),trivial⟩
 ·intro m σ x Tt pu A s Q hx hI hA _ hs hF k
  have hm:m<cs.length:=by
   rw[←cu V.w.params cs]
   exact(List.getElem?_eq_some_iff.mp hx).1
  have hx':x= .int (dx (cs.getD m 0)) (nE V.w.params (cs.getD m 0)):=by
   rw[aK,List.getElem?_map,List.getElem?_eq_getElem hm] at hx
   rw[List.getD_eq_getElem?_getD,List.getElem?_eq_getElem hm]
   exact(Option.some.inj hx).symm
  subst hx'
  have hl:σ.2.length≤m:=by
   rw[←List.length_map (f:=(·.1)),hI]
   exact Nat.le_trans (List.length_filter_le _ _) (by rw[List.length_range];exact Nat.le_refl _)
  have e2:(dx (cs.getD m 0)).fmod 2=Z.modQ (dx (cs.getD m 0)) 2:=by rw[←Z.modQ_eq]
  cases hb:p8 (cs.getD m 0) with
  |true=>
   have hb':(dx (cs.getD m 0)).fmod 2=0:=of_decide_eq_true hb
   refine aq G hF (bb (Hl V.w.params s.heap.objs.size s.toks fr C acc Tt σ.1.1 σ.1.2.1 (.int (m-1:Nat) σ.1.2.2) (fM V.w.params (cs.getD (m-1) 0)) m pu (dx (cs.getD m 0)) (nE V.w.params (cs.getD m 0)) (dr σ.2) σ.2.length) (m==0) (aC V) (aB V)) hA hs ?_
   refine ac (l:=0) (ff G true ⟨λO=>e2▸hb',λO=>rfl⟩) rfl rfl rfl λρ' O O=>ac (aM (L:=0) (by show _≤1000;simp[dr];lia)) rfl rfl rfl λρ2 O O=>an rfl λs' hs' O=>⟨rfl,?_⟩
   refine k ((ao (m==0) σ.1.1 s.toks,ao (m==0) σ.1.2.1 (s.toks+1),pu),σ.2++[(m,pu)]) s' ?_ ?_
   ·rw[List.map_append,hI,nh cs hm,hb];rfl
   ·rw[show dr (σ.2++[(m,pu)])=dr σ.2++[.int m pu] by simp[dr],show(σ.2++[(m,pu)]).length=σ.2.length+1 by simp]
    exact hs'
  |false=>
   have hb': ¬(dx (cs.getD m 0)).fmod 2=0:=of_decide_eq_false hb
   refine aq G hF (bb (Hm V.w.params s.heap.objs.size s.toks fr C acc Tt σ.1.1 σ.1.2.1 (.int (m-1:Nat) σ.1.2.2) (fM V.w.params (cs.getD (m-1) 0)) m pu (dx (cs.getD m 0)) (nE V.w.params (cs.getD m 0)) (dr σ.2) σ.2.length) (m==0) (aC V) (aB V)) hA hs ?_
   refine ac (l:=0) (ff G false ⟨(λh=>nomatch h),λh=>absurd (e2.trans h) hb'⟩) rfl rfl rfl λρ' O O=>an rfl λs' hs' O=>⟨rfl,?_⟩
   refine k ((ao (m==0) σ.1.1 s.toks,ao (m==0) σ.1.2.1 (s.toks+1),pu),σ.2) s' ?_ ?_
   ·rw[hI,nh cs hm,hb];simp
   ·exact hs'
noncomputable def C6(P:Params)(fr C I l acc:Nat)(cs:List Nat)(ep:Nat)(e:Bool)(js:List Nat):aD:=
 ⟨A2 P fr C I acc,js,eZ P C I l acc [] (aj l 0) (aK P cs) ep [] 0,λO=> .ok .next,
  λρ=>[bn P (bk e ak (ρ 2) (fM P (cs.getD (cs.length-1) 0))),ba cs.length,aa (aK P cs) ep,aa (aK P (cs.filter cH)) (cs.filter cH).length],λO=>[]⟩
theorem wR{V:Gw}(G:au V){fr C I l acc ep:Nat}{cs:List Nat}{e:Bool}(he:e=(cs.length==0))(hsm:cs.length≤500){js:List Nat}:ai V 1 (C6 V.w.params fr C I l acc cs ep e js) (λO=>True):=by
 subst he
 intro A s hA hs
 refine bc G (ad (Hk V.w.params s.heap.objs.size s.toks fr C I l acc (aK V.w.params cs) ep) (aC V) (aB V)) hA hs (aE rfl λs1 hs1=>⟨rfl,?_⟩)
 have main:=bv (V:=V) (S:=Nat) (code:=xn V.w.params fr C I acc) (L:=1) (W:=[C,I,l,acc]) cs.length 0
  (λm σ=>eZ V.w.params C I l acc (bk (m==0) ak σ (fM V.w.params (cs.getD (m-1) 0))) (aj l m) (aK V.w.params cs) ep (aK V.w.params ((cs.take m).filter cH)) ((cs.take m).filter cH).length) (λO O=>[])
  (λσ=>eZ V.w.params C I l acc (bk (cs.length==0) ak σ (fM V.w.params (cs.getD (cs.length-1) 0))) (ba cs.length) (aK V.w.params cs) ep (aK V.w.params (cs.filter cH)) (cs.filter cH).length) (λO O=>True) ?_ ?_ cs.length 0 0 A s1 (Nat.zero_add _) trivial hA (Nat.zero_le _) hs1.at' Fz.nil
 ·refine codeAny_mono main ?_
  rintro r s'' ⟨hr,σ,_,hE,_⟩
  have E:=hs1.trans hE (λb hb=> .inl hb)
  exact⟨a7 _ _ (λk=>σ),hr,aW (H:=C6 V.w.params fr C I l acc cs ep (cs.length==0) js) E _ rfl rfl (λO hp=>nomatch hp),trivial⟩
 ·intro m σ A s R hm _ hA _ hs _ k
  have hget:(aK V.w.params cs)[m]?=some (.int (dx (cs.getD m 0)) (nE V.w.params (cs.getD m 0))):=by
   rw[aK,List.getElem?_map,List.getElem?_eq_getElem hm,List.getD_eq_getElem?_getD,List.getElem?_eq_getElem hm];rfl
  have htk:cs.take (m+1)=cs.take m++[cs.getD m 0]:=by
   rw[List.take_add_one,List.getElem?_eq_getElem hm,List.getD_eq_getElem?_getD,List.getElem?_eq_getElem hm];rfl
  have hlen:((cs.take m).filter cH).length≤m:=Nat.le_trans (List.length_filter_le _ _) (by rw[List.length_take];lia)
  have e2:(dx (cs.getD m 0)).fmod 2=Z.modQ (dx (cs.getD m 0)) 2:=by rw[←Z.modQ_eq]
  cases hb:cH (cs.getD m 0) with
  |true=>
   have hb':(dx (cs.getD m 0)).fmod 2=1:=of_decide_eq_true hb
   have hf:(cs.take (m+1)).filter cH=(cs.take m).filter cH++[cs.getD m 0]:=by
    rw[htk,List.filter_append,List.filter_cons_of_pos hb];rfl
   refine bc G (ad (Hh V.w.params (aC V) s.heap.objs.size s.toks fr C I l acc σ (fM V.w.params (cs.getD (m-1) 0)) m (aK V.w.params cs) ep (dx (cs.getD m 0)) (nE V.w.params (cs.getD m 0)) (aK V.w.params ((cs.take m).filter cH)) ((cs.take m).filter cH).length) (m==0) (aB V)) hA hs ?_
   refine ae (aJ (L:=0) hget) rfl rfl rfl λρ O O=>ae (l:=0) (ff G true ⟨λO=>e2▸hb',λO=>rfl⟩) rfl rfl rfl λρ1 O O=>ae (aM (L:=0) (by show _≤1000;rw[cu];lia)) rfl rfl rfl λρ2 O O=>aE rfl λs' hs'=>⟨rfl,?_⟩
   refine k (ao (m==0) σ (ρ 1)) s' trivial ?_ Fz.nil
   have hv:aK V.w.params ((cs.take (m+1)).filter cH)=aK V.w.params ((cs.take m).filter cH)++[.int (dx (cs.getD m 0)) (nE V.w.params (cs.getD m 0))]:=by
    rw[hf,aK,aK,List.map_append];rfl
   rw[hv,hf,List.length_append]
   exact hs'
  |false=>
   have hb': ¬(dx (cs.getD m 0)).fmod 2=1:=of_decide_eq_false hb
   have hf:(cs.take (m+1)).filter cH=(cs.take m).filter cH:=by
    rw[htk,List.filter_append,List.filter_cons_of_neg (by rw[hb];exact Bool.false_ne_true)];simp
   refine bc G (ad (Hi V.w.params (aC V) s.heap.objs.size s.toks fr C I l acc σ (fM V.w.params (cs.getD (m-1) 0)) m (aK V.w.params cs) ep (dx (cs.getD m 0)) (nE V.w.params (cs.getD m 0)) (aK V.w.params ((cs.take m).filter cH)) ((cs.take m).filter cH).length) (m==0) (aB V)) hA hs ?_
   refine ae (aJ (L:=0) hget) rfl rfl rfl λρ O O=>ae (l:=0) (ff G false ⟨(λh=>nomatch h),λh=>absurd (e2.trans h) hb'⟩) rfl rfl rfl λρ1 O O=>aE rfl λs' hs'=>⟨rfl,?_⟩
   refine k (ao (m==0) σ (ρ 1)) s' trivial ?_ Fz.nil
   rw[hf]
   exact hs'
 ·intro σ A s R _ hA hs _ k
  have e:cs.take cs.length=cs:=List.take_length
  rw[e] at hs
  refine bc G (a6 (Hj V.w.params (aC V) s.heap.objs.size s.toks fr C I l acc (bk (cs.length==0) ak σ (fM V.w.params (cs.getD (cs.length-1) 0))) cs.length (aK V.w.params cs) ep (aK V.w.params (cs.filter cH)) (cs.filter cH).length) (aB V)) hA hs ?_
  exact ae (bq (L:=0) (by rw[List.getElem?_eq_none (by rw[cu];exact Nat.le_refl _)])) rfl rfl rfl λρ O O=>aO rfl λs' hs'=>k s' hs' Fz.nil
noncomputable def xd(P:Params)(a d:Addr)(vs:List Value)(ep kd t x k:Nat)(js:List Nat):aD:=⟨.call (.ref 67) ⟨[.ref a],[]⟩,js,[(a,aG d vs ep),(d,bn P (b6 kd t 0)),(62,aP (fy P) x)],λρ=> .ok (.ret (.int k (ρ 2))),λρ=>[aG d vs ep,bn P (b6 kd t 0),aP (fy P) (ρ 3)],λO=>[]⟩
noncomputable def Fe(P:Params)(b1 b2:Bool)(n tt a d:Nat)(vs:List Value)(ep kd t x k:Nat):bu:=
 ap P b1 b2 (.call (.builtin "len") ⟨[.ref a],[]⟩) [(a,aG d vs ep),(d,bn P (b6 kd t 0)),(62,aP (fy P) x)] n tt
  (.hook [1,0,0,0,0] 0 (xd P a d vs ep kd t x k [0,1,2]) λρ=> .fin [] (.ok (.ret (.int k (ρ 1)))) [0,1,2] [(a,aG d vs ep),(d,bn P (b6 kd t 0)),(62,aP (fy P) (ρ 3))])
theorem Hw(P n tt a d vs ep kd t x):Qk 100 λr=>([0,1,2,3,4,5,6,7,8,9,10,11,12]:List (Nat)).map λp=>ay λb1 b2=>r (Fe P b1 b2 n tt a d vs ep kd t x p):=by unfold Qk;kernel_rfl!
noncomputable def rN(P:Params)(a d:Addr)(vs:List Value)(ep kd t x k:Nat)(js:List Nat):aD:=⟨.call (.builtin "len") ⟨[.ref a],[]⟩,js,[(a,aG d vs ep),(d,bn P (b6 kd t 0)),(62,aP (fy P) x)],λρ=> .ok (.ret (.int k (ρ 2))),λρ=>[aG d vs ep,bn P (b6 kd t 0),aP (fy P) (ρ 3)],λO=>[]⟩
noncomputable def xW(P:Params)(a d:Addr)(vs:List Value)(cs:List Nat)(ep x:Nat)(js:List Nat):aD:=⟨.call (.ref 74) ⟨[.ref a],[]⟩,js,[(a,aG d vs ep),(69,aP (eo P) x)],λρ=> .ok (.ret (.str (aX cs) (ρ 2))),λρ=>[aG d vs ep,aP (eo P) (ρ 3)],λO=>[]⟩
noncomputable def xH(a d:Nat)(vs ws ds:List Value)(ep i u:Nat)(js:List Nat):aD:=
 ⟨.call (.ref 53) ⟨[.ref a,.int (i:Nat) u],[]⟩,js,[(a,aG d vs ep)],λρ=> .ok (.ret (.ref (ρ 2))),λρ=>[aG d ws (ρ 3)],λρ=>[(ρ 2,aa ds 0)]⟩
noncomputable def nG(P:Params)(a d:Addr)(vs:List Value)(cs:List Nat)(ep x:Nat)(js:List Nat):aD:=⟨.call (.builtin "str.__new__") ⟨[.type "str",.ref a],[]⟩,js,[(a,aG d vs ep),(69,aP (eo P) x)],λρ=> .ok (.ret (.str (aX cs) (ρ 2))),λρ=>[aG d vs ep,aP (eo P) (ρ 3)],λO=>[]⟩
noncomputable def lT:Value→Str→List Value→List (Str×Value)→Sem (Option Value):= @ZFast.zw9201129301070521445
theorem oD: @callSpecial?=lT:=by unfold lT;exact ZFast.ze9201129301070521445
theorem FJ(P:Params)(n tt a d:Nat)(vs:List Value)(ep x:Nat):Qk 60 λr=>ay λb1 b2=>r ( ap P b1 b2 (.call (.builtin "str.__new__") ⟨[.type "str",.ref a],[]⟩) [(a,aG d vs ep),(69,aP (eo P) x)] n tt (.again [] (.builtin "str.__new__" ⟨[.type "str",.ref a],[]⟩) [0,1] [(a,aG d vs ep),(69,aP (eo P) x)])):=by unfold Qk;kernel_rfl!
theorem FI(P:Params)(n tt a d:Nat)(vs:List Value)(cs:List Nat)(ep x:Nat):Qk 100 λr=>ay λb1 b2=>r ( bf P b1 b2 (lT (.ref a) "__str__" [] []>>=λo=>pure (.done (uG o))) [(a,aG d vs ep),(69,aP (eo P) x)] n tt (.hook [1,0,0,0,0] 0 (xW P a d vs cs ep x [0,1]) λρ=> .fin [] (.ok (.ret (.str (aX cs) (ρ 2)))) [0,1] [(a,aG d vs ep),(69,aP (eo P) (ρ 3))])):=by unfold Qk;kernel_rfl!
noncomputable def H2(a b:Int)(u v:Nat)(β:Bool)(js:List Nat):aD:={aN (aY "int.__lt__" a b u v) (λO=> .bool β) with js:=js}
noncomputable def ie:Array Nat:=#[112,105,101,99,101,115]
noncomputable def uX:Array Nat:=#[111,112,101,110,101,100]
noncomputable def qi:Array Nat:=#[99,108,111,115,105,110,103,115]
noncomputable def Bt:Array Nat:=#[114,101,115,116]
noncomputable def uu(k3 k4 k5 k6:Nat)(i:Int)(ti nl cl rl:Nat):aF:=[(c7,k3,.int i ti),(bU,k4,.ref nl),(qi,k5,.ref cl),(Bt,k6,.ref rl)]
noncomputable def qb(first:Bool)(k3 k4 k5 k6:Nat)(i:Int)(ti nl cl rl:Nat):aF:=match first with
 |true=>[]
 |false=>uu k3 k4 k5 k6 i ti nl cl rl
noncomputable def nB(P:Params)(k0 k1 k2:Nat)(a pl:Addr)(o:Nat)(uo:Nat)(T:aF):Obj:=cY P ([(f5,k0,.ref a),(uX,k1,.int o uo),(ie,k2,.ref pl)]++T)
noncomputable def ut(P:Params)(fr I:Addr):Code:=d7 (aA (aU P 201)) 1 (.ref I) (oU P fr)
noncomputable def nw(P:Params)(fr I a d pl:Addr)(fo:Obj)(i b:Nat)(pvs:List Value)(el:Nat)(vs:List Value)(ea kd td x1 x2:Nat):KL:=
 [(fr,fo),(I,fW i b 1),(pl,aa pvs el),(a,aG d vs ea),(d,bn P (b6 kd td 0)),(62,aP (fy P) x2),(69,aP (eo P) x1)]
noncomputable def Ey(P:Params)(b1 b2:Bool)(n t fr I a d pl k0 k1 k2 k3 k4 k5 k6:Nat)(first:Bool)(i':Int)(ti nl cl rl i b:Nat)(o uo:Nat)(pvs:List Value)(el:Nat)(vs:List Value)(ea kd td x1 x2:Nat)(cs cs3:List Nat)(ws ds:List Value)(cut:Nat)(β:Bool):bu:=
 ap P b1 b2 (ut P fr I) (nw P fr I a d pl (nB P k0 k1 k2 a pl o uo (qb first k3 k4 k5 k6 i' ti nl cl rl)) i (b+1) pvs el vs ea kd td x1 x2) n t
 (.hook [2] 0 (dC I i b [1]) λρ0=> .hook [1,1,0,0,1,0] 0 (nG P a d vs cs ea x1 [3,6]) λρ1=> .hook [0] 0 {fF (aX cs) (ρ1 2) with js:=[]} λρi=> .hook [8] 2 (z3 P false fr (ρi 0+1) (ρi 2) (ρi 0) cs (ρ1 2) false [9,7,8]) λρ2=>
  .hook [1,1,10,10,10,0,0,1,0] 0 (jJ (ρi 0) (aK P cs) cs.length [8]) λρ3=> .hook [12,12,0,12,12,12,12,0,12,12] 2 (C7 P fr (ρ3 0+1) (ρ3 3) (ρ3 2) (ρi 0) (ρ3 0) cs cs.length false [11,10,8,13,12]) λρ4=>
  .hook [1,1,14,14,14,14,14,14,1,4,0,0,0,4,0,0,0,4,0,0,0,0,4,5,1,0,0,1] 0 (jf (ρ3 0) (bF (dz cs) (λi=>ρ4 (i+5))) (dz cs).length [12]) λρ5=> .hook [] 0 (H2 o (bF (dz cs) (λi=>ρ4 (i+5))).length uo (ρ5 2) true []) λρ6=>
  .hook [1,1,13,13,13] 0 (bS (ρ3 0) (bF (dz cs) (λi=>ρ4 (i+5))) (dz cs).length o uo (.int (cut:Nat) (ρ4 (o+5))) [12]) λρ7=> .hook [0] 0 (xH a d vs ws ds ea cut (ρ4 (o+5)) [3]) λρ8=>
  .hook [1,1,1,3,3,3,3,0,0,1,0] 0 (nG P a d ws cs3 (ρ8 3) (ρ1 3) [3,6]) λρ9=> .hook [0] 0 {fF (aX cs3) (ρ9 2) with js:=[]} λρj=> .hook [16] 2 (z3 P true fr (ρj 0+1) (ρj 2) (ρj 0) cs3 (ρ9 2) β [17,15,16]) λρ10=>
  .hook (bif β then [18] else [18,18,18]) 0 (a5 pl pvs el (.ref (ρj 0)) [2]) λρ11=> .hook [0,0,1,0,3,3,3] 0 (bS pl (pvs++[.ref (ρj 0)]) (el+1) (-1) (ρ11 1+1) (.ref (ρj 0)) [2]) λρ12=>
  .hook [17,17,0,17,19] 3 (C6 P fr (ρ12 0+2) (ρ12 0) (ρj 0) (ρ12 0+1) cs3 cs3.length β [20,18,16,19]) λρ13=> .hook (bif β then [21] else [21,21,21]) 0 (jf (ρ12 0+1) (aK P (cs3.filter cH)) (cs3.filter cH).length [19]) λρ14=>
  .hook [1,1,1,4,0,0,0,4,0,0,0,4,0,0,0,0,4,5,1,0] 0 (lz P a d ws (ρ8 3) kd td (ρ8 2) ds 0 [3,4,14]) λρ15=>
  .again [] (ut P fr I) [0,1,2,3,4,5,6,16] (nw P fr I a d pl (nB P k0 k1 k2 a pl (aK P (cs3.filter cH)).length (ρ14 2) (uu (ao first k3 (ρ0 1)) (ao first k4 (ρ2 1)) (ao first k5 (ρ4 1)) (ao first k6 (ρ8 1)) i (ρ0 2) (ρi 0) (ρ3 0) (ρ8 2))) (i+1) b (pvs++[.ref (ρj 0)]) (el+1) ds (ρ15 2) kd (ρ15 3) (ρ9 3) x2++[(ρj 0,aa (aK P cs3) cs3.length)]))
theorem Gk(P b1 n t fr I a d pl k0 k1 k2 k3 k4 k5 k6 i' ti nl cl rl i b o uo pvs el vs ea kd td x1 x2 cs cs3 ws ds cut):Qk 600 λr=>co λfirst b2 β=>r (Ey P b1 b2 n t fr I a d pl k0 k1 k2 k3 k4 k5 k6 first i' ti nl cl rl i b o uo pvs el vs ea kd td x1 x2 cs cs3 ws ds cut β):=by unfold Qk;kernel_rfl!
noncomputable def Ex(P:Params)(b1 b2:Bool)(n t fr I a d pl k0 k1 k2 k3 k4 k5 k6:Nat)(first:Bool)(i':Int)(ti nl cl rl i b:Nat)(o uo:Nat)(pvs:List Value)(el:Nat)(vs:List Value)(ea kd td x1 x2:Nat)(cs cs3:List Nat)(ws ds:List Value)(cut:Nat)(β:Bool):bu:=
 ap P b1 b2 (ut P fr I) (nw P fr I a d pl (nB P k0 k1 k2 a pl o uo (qb first k3 k4 k5 k6 i' ti nl cl rl)) i (b+1) pvs el vs ea kd td x1 x2) n t
 (.hook [2] 0 (dC I i b [1]) λρ0=> .hook [1,1,0,0,1,0] 0 (nG P a d vs cs ea x1 [3,6]) λρ1=> .hook [0] 0 {fF (aX cs) (ρ1 2) with js:=[]} λρi=> .hook [8] 2 (z3 P false fr (ρi 0+1) (ρi 2) (ρi 0) cs (ρ1 2) β [9,7,8]) λρ2=>
  .hook (bif β then [1,1,10,0,0,1,0] else [1,1,10,10,10,0,0,1,0]) 0 (jJ (ρi 0) (aK P cs) cs.length [8]) λρ3=> .hook [12,12,0,12,12,12,12,0,12,12] 2 (C7 P fr (ρ3 0+1) (ρ3 3) (ρ3 2) (ρi 0) (ρ3 0) cs cs.length β [11,10,8,13,12]) λρ4=>
  .hook (bif β then [1,1,14,14,1,4,0,0,0,4,0,0,0,4,0,0,0,0,4,5,1,0,0,1] else [1,1,14,14,14,14,14,14,1,4,0,0,0,4,0,0,0,4,0,0,0,0,4,5,1,0,0,1]) 0 (jf (ρ3 0) (bF (dz cs) (λi=>ρ4 (i+5))) (dz cs).length [12]) λρ5=> .hook [] 0 (H2 o (bF (dz cs) (λi=>ρ4 (i+5))).length uo (ρ5 2) false []) λρ6=>
  .hook [0,0,1] 0 (rN P a d vs ea kd td x2 cut [3,4,5]) λρ7=> .hook [0] 0 (xH a d vs ws ds ea cut (ρ7 2) [3]) λρ8=>
  .hook [1,1,1,3,3,3,3,0,0,1,0] 0 (nG P a d ws cs3 (ρ8 3) (ρ1 3) [3,6]) λρ9=> .hook [0] 0 {fF (aX cs3) (ρ9 2) with js:=[]} λρj=> .hook [16] 2 (z3 P true fr (ρj 0+1) (ρj 2) (ρj 0) cs3 (ρ9 2) β [17,15,16]) λρ10=>
  .hook (bif β then [18] else [18,18,18]) 0 (a5 pl pvs el (.ref (ρj 0)) [2]) λρ11=> .hook [0,0,1,0,3,3,3] 0 (bS pl (pvs++[.ref (ρj 0)]) (el+1) (-1) (ρ11 1+1) (.ref (ρj 0)) [2]) λρ12=>
  .hook [17,17,0,17,19] 3 (C6 P fr (ρ12 0+2) (ρ12 0) (ρj 0) (ρ12 0+1) cs3 cs3.length β [20,18,16,19]) λρ13=> .hook (bif β then [21] else [21,21,21]) 0 (jf (ρ12 0+1) (aK P (cs3.filter cH)) (cs3.filter cH).length [19]) λρ14=>
  .hook [1,1,1,4,0,0,0,4,0,0,0,4,0,0,0,0,4,5,1,0] 0 (lz P a d ws (ρ8 3) kd td (ρ8 2) ds 0 [3,4,14]) λρ15=>
  .again [] (ut P fr I) [0,1,2,3,4,5,6,16] (nw P fr I a d pl (nB P k0 k1 k2 a pl (aK P (cs3.filter cH)).length (ρ14 2) (uu (ao first k3 (ρ0 1)) (ao first k4 (ρ2 1)) (ao first k5 (ρ4 1)) (ao first k6 (ρ8 1)) i (ρ0 2) (ρi 0) (ρ3 0) (ρ8 2))) (i+1) b (pvs++[.ref (ρj 0)]) (el+1) ds (ρ15 2) kd (ρ15 3) (ρ9 3) (ρ7 3)++[(ρj 0,aa (aK P cs3) cs3.length)]))
theorem Gj(P b1 n t fr I a d pl k0 k1 k2 k3 k4 k5 k6 i' ti nl cl rl i b o uo pvs el vs ea kd td x1 x2 cs cs3 ws ds cut):Qk 600 λr=>co λfirst b2 β=>r (Ex P b1 b2 n t fr I a d pl k0 k1 k2 k3 k4 k5 k6 first i' ti nl cl rl i b o uo pvs el vs ea kd td x1 x2 cs cs3 ws ds cut β):=by unfold Qk;kernel_rfl!
theorem Gi(P:Params)(b1:Bool)(n t fr I a d pl:Nat)(fo:Obj)(i:Nat)(pvs:List Value)(el:Nat)(vs:List Value)(ea kd td x1 x2:Nat):Qk 200 λr=>fT λb2=>r ( ap P b1 b2 (ut P fr I) (nw P fr I a d pl fo i 0 pvs el vs ea kd td x1 x2) n t
 (.hook [2] 0 (i5 I i [1]) λρ=> .fin [9] (.ok .next) [0,1,2,3,4,5,6] (nw P fr I a d pl fo i 0 pvs el vs ea kd td x1 x2))):=by unfold Qk;kernel_rfl!
theorem Gh(P:Params)(n t a d:Nat)(vs:List Value)(ea kd td x1 x2:Nat):Qk 100 λr=>ay λb1 b2=>r (bK P b1 b2 201 [.ref a] [(a,aG d vs ea),(d,bn P (b6 kd td 0)),(62,aP (fy P) x2),(69,aP (eo P) x1)] n t [0,5,5] n [] [4,0,1,2,3] [(n,cY P [(f5,t,.ref a)]),(a,aG d vs ea),(d,bn P (b6 kd td 0)),(62,aP (fy P) x2),(69,aP (eo P) x1)]):=by unfold Qk;kernel_rfl!
noncomputable def cw(es:List fU):List Nat:=es.map (·.c)
theorem jx{V:Gw}(G:au V)(hM:fS V){a d ep x:Nat}{es:List fU}{F:KL}(hes:∀e∈es,(e.pt,e.o)∈F)(hsm:es.length≤1000){js:List Nat}:
  aQ V 4 (nG V.w.params a d (bg es) (cw es) ep x js) F (λO=>True) (λO=>[]):=by
 intro A s hA hs hf
 refine aR G hf (ad (FJ V.w.params s.heap.objs.size s.toks a d (bg es) ep x) (aC V) (aB V)) hA hs (ax rfl λs1 hs1 hf1=>⟨plainId_quiet (by decide+kernel) _,?_⟩)
 refine codeAny_builtin PySem.F.entry_str_new ?_
 rw[Around.under_plainId (by decide+kernel) _]
 rw[str_new_tree]
 refine wpAny_bind (wpAny_pure ?_)
 refine wpAny_bind (wpAny_of_eq isSubtype_str_str ?_)
 have hA3:Bd 3 A.in1:=hA.in1
 refine wpAny_bind (m:=Builtin.Str.strOf (.ref a)) ?_
 unfold Builtin.Str.strOf
 rw[if_neg (show¬(Builtin.Str.isExactStr (.ref a)=true) from Bool.false_ne_true)]
 refine wpAny_bind (wpAny_cRoomFor hA3.line ?_)
 refine wpAny_bind ?_
 rw[oD]
 refine ip (enc:=uG) (R:=λf s'=>match f with| .done (.ret v)=>∃ρ,v= .str (aX (cw es)) (ρ 2)∧nN V (nG V.w.params a d (bg es) (cw es) ep x js) s s' ρ|_=>False) ?_ ?_
 ·intro o s' h
  cases o with
  |none=>exact h.elim
  |some v=>
   obtain⟨ρ,rfl,hE⟩:=h
   refine wpAny_bind (m:=asStr? _) (wpAny_pure ?_)
   exact wpAny_pure (wpAny_pure ⟨ρ,rfl,hE,trivial,λO h=>nomatch h⟩)
 ·refine aq G hf1 (ad (FI V.w.params s1.heap.objs.size s1.toks a d (bg es) (cw es) ep x) (aC V) (aB V)) hA3 hs1.at' (dD (l:=2) (y8 G hM hes hsm) rfl rfl rfl λρ O O=>an rfl λs2 hs2 O=> ?_)
  have E:=hs1.trans hs2 (λO h=> .inl h)
  exact⟨a7 s2.heap.objs.size s2.toks (λk=>if k=0 then ρ 2 else ρ 3),rfl,aW (H:=nG V.w.params a d (bg es) (cw es) ep x js) E (λk=>if k=0 then ρ 2 else ρ 3) rfl rfl (λO hp=>nomatch hp)⟩
theorem tR{V:Gw}(G:au V)(hM:fS V){a d ep kd t x k:Nat}{es:List fU}{F:KL}(hk:k=es.length)(hes:∀e∈es,(e.pt,e.o)∈F)(hsm:es.length≤12){js:List Nat}:
  aQ V 3 (rN V.w.params a d (bg es) ep kd t x k js) F (λO=>True) (λO=>[]):=by
 intro A s hA hs hf
 have hmem:∀k<13,k∈[0,1,2,3,4,5,6,7,8,9,10,11,12]:=by decide
 have hmem:=hmem k (by lia)
 refine aR G hf (ad (List.map_inj_left.mp (Hw V.w.params s.heap.objs.size s.toks a d (bg es) ep kd t x) k hmem) (aC V) (aB V)) hA hs ?_
 have hl:aQ V 2 (xd V.w.params a d (bg es) ep kd t x k [0,1,2]) F (λO=>True) (λO=>[]):=by subst hk;exact qI G hM hes (Nat.le_trans hsm (by decide))
 refine dD hl rfl rfl rfl λρ O O=>an rfl λs2 hs2 O=> ?_
 exact⟨a7 s2.heap.objs.size s2.toks (λk=>if k=0 then ρ 1 else ρ 3),rfl,aW (H:=rN V.w.params a d (bg es) ep kd t x k js) hs2 (λk=>if k=0 then ρ 1 else ρ 3) rfl rfl (λO hp=>nomatch hp),trivial,λO h=>nomatch h⟩
theorem pH{V:Gw}(G:au V){a d ep i u:Nat}{es:List fU}{js:List Nat}(hsm:es.length≤1000)(hi:i≤es.length):ai V 2 (xH a d (bg es) (bg (es.take i)) (bg (es.drop i)) ep i u js) (λO=>True):=by
 have e1:bg (es.take i)=(bg es).take i:=List.map_take ..
 have e2:bg (es.drop i)=(bg es).drop i:=List.map_drop ..
 rw[e1,e2]
 exact zd G (by show _≤1000;simpa[bg] using hsm) (by simpa[bg] using hi)
noncomputable def HY(P:Params)(fr I a d pl k0 k1 k2 uo:Nat)(vs:List Value)(vs':br→List Value)(ea kd td x1 x2:Nat)(o':br→Nat)(pvs:br→List Value)(T:br→aF)(js:List Nat):aD:=
 ⟨ut P fr I,js,nw P fr I a d pl (nB P k0 k1 k2 a pl 0 uo []) 0 7 [] 0 vs ea kd td x1 x2,λO=> .ok .next,
  λρ=>[nB P k0 k1 k2 a pl (o' ρ) (ρ 2) (T ρ),fW 7 0 1,aa (pvs ρ) 7,aG d (vs' ρ) (ρ 3),bn P (b6 kd (ρ 4) 0),aP (fy P) (ρ 5),aP (eo P) (ρ 6)],λO=>[]⟩
theorem Gg(P:Params)(n n' t t' a d:Nat)(vs:List Value)(vs':br→List Value)(ea kd td x1 x2:Nat)(o':br→Nat)(pvs:br→List Value)(T:br→aF):Qk 300 λr=>ay λb1 b2=>r ( ap P b1 b2 (cc P 201 n []) [(n,cY P [(f5,t,.ref a)]),(a,aG d vs ea),(d,bn P (b6 kd td 0)),(62,aP (fy P) x2),(69,aP (eo P) x1)] n' t'
 (.hook [7,7,7,0,7,8,8,0,8,8,8,7,8,8,8,0,8,8,8,7,8,8,8,0,8,8,8,7,8,8,10,1,1,1,1,0,0,0,0,11,11,0,11,11,11,11,0,11,11,11,11,12] 7 (HY P n (n'+6) a d n' t (t'+1) (t'+2) t' vs vs' ea kd td x1 x2 o' pvs T [0,11,5,1,2,3,4]) λρ=> .fin [1] (.ok (.ret (.ref n'))) [1,2,3,4,5] [(a,aG d (vs' ρ) (ρ 3)),(d,bn P (b6 kd (ρ 4) 0)),(62,aP (fy P) (ρ 5)),(69,aP (eo P) (ρ 6)),(n',aa (pvs ρ) 7)])):=by unfold Qk;kernel_rfl!
theorem Cu(P):d4 P 201=true:=by kernel_rfl!
noncomputable def g9(cs:List Nat)(o:Nat):Nat:=if o<(dz cs).length then(dz cs).getD o 0 else cs.length
noncomputable def fx:Nat→Nat→List Nat→List (List Nat)
 |0,_,_=>[]
 |k+1,o,cs=>cs.take (g9 cs o)::fx k ((cs.take (g9 cs o)).filter cH).length (cs.drop (g9 cs o))
theorem lH:∀k o cs,(fx k o cs).length=k
 |0,_,_=>rfl
 |k+1,o,cs=>by rw[fx,List.length_cons,lH k]
theorem sj{cs:List Nat}{o:Nat}(h:o<(dz cs).length):(dz cs).getD o 0<cs.length:=by
 have hm:(dz cs).getD o 0∈dz cs:=by rw[List.getD_eq_getElem?_getD,List.getElem?_eq_getElem h];exact List.getElem_mem _
 exact List.mem_range.mp (List.mem_filter.mp hm).1
theorem zJ(cs:List Nat)(o:Nat):g9 cs o≤cs.length:=by
 unfold g9
 split
 ·exact Nat.le_of_lt (sj ‹_›)
 ·exact Nat.le_refl _
theorem gI{cs:List Nat}(h:∀c∈cs,c∈pX):(aX cs).cps.all (·<128)=true:=by
 have:∀c∈cs,c<128:=λc hc=>by
  have:=h c hc
  simp only[pX,List.mem_cons,List.not_mem_nil,or_false] at this
  lia
 show(⟨cs⟩:Array Nat).all _=true
 rw[←Array.all_toList]
 exact List.all_eq_true.mpr λc hc=>decide_eq_true (this c hc)
structure DN where
 k3:Nat
 k4:Nat
 k5:Nat
 k6:Nat
 i:Int
 ti:Nat
 nl:Nat
 cl:Nat
 rl:Nat
 o:Nat
 uo:Nat
 es:List fU
 ea:Nat
 td:Nat
 x1:Nat
 x2:Nat
 ps:List (Addr×List Nat)
noncomputable def l9(P:Params)(q:Addr×List Nat):Addr×Obj:=(q.1,aa (aK P q.2) q.2.length)
noncomputable def dh(ps:List (Addr×List Nat)):List Value:=ps.map λq=> .ref q.1
noncomputable def mn(P:Params)(fr I a d pl k0 k1 k2 kd m:Nat)(σ:DN):KL:=
 nw P fr I a d pl (nB P k0 k1 k2 a pl σ.o σ.uo (qb (m==0) σ.k3 σ.k4 σ.k5 σ.k6 σ.i σ.ti σ.nl σ.cl σ.rl)) m (7-m) (dh σ.ps) σ.ps.length (bg σ.es) σ.ea kd σ.td σ.x1 σ.x2
theorem fj(ns:List Nat)(τ:Nat→Nat):(bF ns τ).length=ns.length:=by simp[bF]
theorem jS(ns:List Nat)(τ:Nat→Nat){o:Nat}(h:o<ns.length):(bF ns τ)[o]?=some (.int (ns.getD o 0:Nat) (τ o)):=by
 simp[bF,h]
theorem u6{V:Gw}(G:au V)(hM:fS V){fr I a d pl k0 k1 k2 kd:Nat}{es0:List fU}{F:KL}(hes:∀e∈es0,(e.pt,e.o)∈F)(hch:∀c∈cw es0,c∈pX)(hsm:es0.length≤12)(n0:Nat):
  ∀σ A s,(σ.o=0∧σ.es=es0∧σ.ps=[])→Bd 5 A→n0≤s.heap.objs.size→At V (mn V.w.params fr I a d pl k0 k1 k2 kd 0 σ) s→Fz V F (mn V.w.params fr I a d pl k0 k1 k2 kd 0 σ) s→
   codeAny (model V.prog V.w) A (ut V.w.params fr I) (λr s'=>r= .ok .next∧∃σ':DN,(σ'.ps.map (·.2)=fx 7 0 (cw es0)∧(∀q∈σ'.ps,n0≤q.1)∧σ'.ps.length=7∧σ'.i=6∧∃j,σ'.es=es0.drop j)∧
    am V [fr,I,pl,a,d,62,69] s (mn V.w.params fr I a d pl k0 k1 k2 kd 7 σ') s'∧Fz V (F++σ'.ps.map (l9 V.w.params)) (mn V.w.params fr I a d pl k0 k1 k2 kd 7 σ') s') s:=by
 intro σ A s hσ hA hn hs hF
 have main:=bv (V:=V) (S:=DN) (code:=ut V.w.params fr I) (L:=5) (W:=[fr,I,pl,a,d,62,69]) 7 n0
  (λm σ=>mn V.w.params fr I a d pl k0 k1 k2 kd m σ) (λm σ=>F++σ.ps.map (l9 V.w.params)) (λσ=>mn V.w.params fr I a d pl k0 k1 k2 kd 7 σ)
  (λm σ=>A6 (σ.ps.map (·.2)++fx (7-m) σ.o (cw σ.es)=fx 7 0 (cw es0)) (∀q∈σ.ps,n0≤q.1) (∃j,σ.es=es0.drop j) (σ.es.length≤12) (σ.ps.length=m) (m=0∨σ.i=(m-1:Nat))) ?_ ?_ 7 0 σ A s rfl ?_ hA hn hs ?_
 ·refine codeAny_mono main ?_
  rintro r s'' ⟨hr,σ',⟨h1,h2,h3,h4,h5,h6⟩,hE,hF'⟩
  refine⟨hr,σ',⟨?_,h2,h5,h6.elim (λh=>nomatch h) (λh=>h),h3⟩,hE,hF'⟩
  rw[←h1]
  simp[fx]
 ·intro m σ A s R hm hI hA hn hs hF k
  obtain⟨h1,h2,⟨j,hj⟩,h4,h5,_⟩:=hI
  have h3:∀e∈σ.es,e∈es0:=λe he=>by rw[hj] at he;exact List.mem_of_mem_drop he
  have hb:7-m=(6-m)+1:=(CQ hm).trans (by rw[Nat.sub_add_eq,Nat.sub_right_comm])
  have hes':∀e∈σ.es,(e.pt,e.o)∈F++σ.ps.map (l9 V.w.params):=λe he=>List.mem_append_left _ (hes e (h3 e he))
  have hch':∀c∈cw σ.es,c∈pX:=λc hc=>by
   obtain⟨e,he,rfl⟩:=List.mem_map.mp hc
   exact hch _ (List.mem_map_of_mem (h3 e he))
  have hcl:(cw σ.es).length=σ.es.length:=by simp[cw]
  have hcut:=zJ (cw σ.es) σ.o
  rw[hcl] at hcut
  have hct:cw (σ.es.take (g9 (cw σ.es) σ.o))=(cw σ.es).take (g9 (cw σ.es) σ.o):=List.map_take ..
  have hcd:cw (σ.es.drop (g9 (cw σ.es) σ.o))=(cw σ.es).drop (g9 (cw σ.es) σ.o):=List.map_drop ..
  generalize hcu:g9 (cw σ.es) σ.o=cut at hcut hct hcd
  have hesT:∀e∈σ.es.take cut,(e.pt,e.o)∈F++σ.ps.map (l9 V.w.params):=λe he=>hes' e (List.mem_of_mem_take he)
  have hchT:∀c∈cw (σ.es.take cut),c∈pX:=λc hc=>hch' c (by rw[hct] at hc;exact List.mem_of_mem_take hc)
  have hlT:(cw (σ.es.take cut)).length≤12:=by rw[hct,List.length_take];lia
  have hlD:(σ.es.drop cut).length≤12:=by rw[List.length_drop];lia
  have hvs:aw (bg (σ.es.take cut)).length:=by show _≤1000;simp only[bg,List.length_map,List.length_take];lia
  have hvd:aw (bg (σ.es.drop cut)).length:=by show _≤1000;simp only[bg,List.length_map,List.length_drop];lia
  have hpl:aw (dh σ.ps).length:=by show _≤1000;simp only[dh,List.length_map];lia
  have hcls:(dz (cw σ.es)).length≤12:=by
   unfold dz
   refine Nat.le_trans (List.length_filter_le _ _) ?_
   rw[List.length_range,hcl];exact h4
  have hs':At V (nw V.w.params fr I a d pl (nB V.w.params k0 k1 k2 a pl σ.o σ.uo (qb (m==0) σ.k3 σ.k4 σ.k5 σ.k6 σ.i σ.ti σ.nl σ.cl σ.rl)) m ((6-m)+1) (dh σ.ps) σ.ps.length (bg σ.es) σ.ea kd σ.td σ.x1 σ.x2) s:=by
   have h:=hs;unfold mn at h;rw[hb] at h;exact h
  have hF':Fz V (F++σ.ps.map (l9 V.w.params)) (nw V.w.params fr I a d pl (nB V.w.params k0 k1 k2 a pl σ.o σ.uo (qb (m==0) σ.k3 σ.k4 σ.k5 σ.k6 σ.i σ.ti σ.nl σ.cl σ.rl)) m ((6-m)+1) (dh σ.ps) σ.ps.length (bg σ.es) σ.ea kd σ.td σ.x1 σ.x2) s:=by
   have h:=hF;unfold mn at h;rw[hb] at h;exact h
  have fin:∀(κ3 κ4 κ5 κ6 ti nl cl rl uo ea td x1 x2 q:Nat) (s':Shared),s.heap.objs.size≤q→
    am V [fr,I,pl,a,d,62,69] s (nw V.w.params fr I a d pl (nB V.w.params k0 k1 k2 a pl (aK V.w.params ((cw (σ.es.take cut)).filter cH)).length uo (uu κ3 κ4 κ5 κ6 m ti nl cl rl)) (m+1) (6-m) (dh σ.ps++[.ref q]) (σ.ps.length+1) (bg (σ.es.drop cut)) ea kd td x1 x2++[(q,aa (aK V.w.params (cw (σ.es.take cut))) (cw (σ.es.take cut)).length)]) s'→
    Fz V (F++σ.ps.map (l9 V.w.params)) (nw V.w.params fr I a d pl (nB V.w.params k0 k1 k2 a pl (aK V.w.params ((cw (σ.es.take cut)).filter cH)).length uo (uu κ3 κ4 κ5 κ6 m ti nl cl rl)) (m+1) (6-m) (dh σ.ps++[.ref q]) (σ.ps.length+1) (bg (σ.es.drop cut)) ea kd td x1 x2++[(q,aa (aK V.w.params (cw (σ.es.take cut))) (cw (σ.es.take cut)).length)]) s'→
    codeAny (model V.prog V.w) A (ut V.w.params fr I) R s':=by
   intro κ3 κ4 κ5 κ6 ti nl cl rl uo ea td x1 x2 q s' hq hE hF2
   rw[cu] at hE hF2
   have hF3:=Fz.take hE.at' hF2
   refine k ⟨κ3,κ4,κ5,κ6,m,ti,nl,cl,rl,((cw (σ.es.take cut)).filter cH).length,uo,σ.es.drop cut,ea,td,x1,x2,σ.ps++[(q,cw (σ.es.take cut))]⟩ s' ⟨?_,?_,?_,?_,?_,.inr rfl⟩ ?_ ?_
   ·rw[←h1,hb,List.map_append,List.append_assoc]
    show _++(cw (σ.es.take cut)::fx (7-(m+1)) _ (cw (σ.es.drop cut)))=_
    rw[fx,hcu,hct,hcd,show 7-(m+1)=6-m by lia]
   ·intro p hp
    rcases List.mem_append.mp hp with hp|hp
    ·exact h2 p hp
    ·rw[List.mem_singleton.mp hp];exact Nat.le_trans hn hq
   ·exact⟨j+cut,by rw[hj,List.drop_drop]⟩
   ·exact hlD
   ·simp[h5]
   ·have e1:dh (σ.ps++[(q,cw (σ.es.take cut))])=dh σ.ps++[.ref q]:=by simp[dh]
    have e2:(σ.ps++[(q,cw (σ.es.take cut))]).length=σ.ps.length+1:=by simp
    have e3:7-(m+1)=6-m:=by lia
    show am V _ s (nw V.w.params fr I a d pl (nB V.w.params k0 k1 k2 a pl _ uo (uu κ3 κ4 κ5 κ6 m ti nl cl rl)) (m+1) (7-(m+1)) (dh (σ.ps++[(q,cw (σ.es.take cut))])) (σ.ps++[(q,cw (σ.es.take cut))]).length (bg (σ.es.drop cut)) ea kd td x1 x2) s'
    rw[e1,e2,e3]
    exact hE.keep
   ·have e1:dh (σ.ps++[(q,cw (σ.es.take cut))])=dh σ.ps++[.ref q]:=by simp[dh]
    have e2:(σ.ps++[(q,cw (σ.es.take cut))]).length=σ.ps.length+1:=by simp
    have e3:7-(m+1)=6-m:=by lia
    show Fz V (F++(σ.ps++[(q,cw (σ.es.take cut))]).map (l9 V.w.params)) (nw V.w.params fr I a d pl (nB V.w.params k0 k1 k2 a pl _ uo (uu κ3 κ4 κ5 κ6 m ti nl cl rl)) (m+1) (7-(m+1)) (dh (σ.ps++[(q,cw (σ.es.take cut))])) (σ.ps++[(q,cw (σ.es.take cut))]).length (bg (σ.es.drop cut)) ea kd td x1 x2) s'
    rw[e1,e2,e3,List.map_append,←List.append_assoc]
    exact hF3
  have hlast:∀q:Nat,(dh σ.ps++[Value.ref q]).getLast?=some (Value.ref q):=λq=>by simp
  have hes9:σ.es.length≤1000:=by lia
  have hesT9:(σ.es.take cut).length≤1000:=by rw[List.length_take];lia
  have hC9:(cw σ.es).length≤500:=by lia
  have hCT9:(cw (σ.es.take cut)).length≤500:=by lia
  by_cases ho:σ.o<(dz (cw σ.es)).length
  ·have hne:false=((cw σ.es).length==0):=by
    have:=sj ho
    symm;simp only[beq_eq_false_iff_ne];lia
   have hcv:cut=(dz (cw σ.es)).getD σ.o 0:=by rw[←hcu,g9,if_pos ho]
   have hg:∀τ:Nat→Nat,(bF (dz (cw σ.es)) τ)[((σ.o:Nat):Int).toNat]?=some (.int (cut:Nat) (τ σ.o)):=λτ=>by
    rw[Int.toNat_natCast,jS _ _ ho,hcv]
   have hlt:∀τ:Nat→Nat,true=true↔((σ.o:Nat):Int)<((bF (dz (cw σ.es)) τ).length:Int):=λτ=>⟨λO=>by rw[fj];lia,λO=>rfl⟩
   refine aR G hF' (bb (Gk V.w.params (aC V) s.heap.objs.size s.toks fr I a d pl k0 k1 k2 σ.k3 σ.k4 σ.k5 σ.k6 σ.i σ.ti σ.nl σ.cl σ.rl m (6-m) σ.o σ.uo (dh σ.ps) σ.ps.length (bg σ.es) σ.ea kd σ.td σ.x1 σ.x2 (cw σ.es) (cw (σ.es.take cut)) (bg (σ.es.take cut)) (bg (σ.es.drop cut)) cut) (m==0) (aB V) ((cw (σ.es.take cut)).length==0)) hA hs' ?_
   have h3e':((cw (σ.es.take cut)).length==0)=((cw (σ.es.take cut)).length==0):=rfl
   refine ac (l:=0) dg rfl rfl rfl λρ0 O hρ0=>aV (l:=4) (jx G hM hes' hes9) rfl rfl rfl λρ1 O O=>ac (ft (L:=0) (gI hch')) rfl rfl rfl λρi O O=>ac (l:=1) (oS G hne hch' hC9) rfl rfl rfl λρ2 O O=>
    ac (ik (L:=0)) rfl rfl rfl λρ3 O O=>ac (l:=2) (wS G hne hC9) rfl rfl rfl λρ4 O O=>ac (gj (L:=0) (by show _≤1000;rw[fj];lia)) rfl rfl rfl λρ5 O O=>ac (l:=0) (wM G true (hlt _)) rfl rfl rfl λρ6 O O=>
    ac (bG (L:=0) (by lia) (hg _) (by show _≤1000;rw[fj];lia)) rfl rfl rfl λρ7 O O=>ac (l:=2) (pH G hes9 hcut) rfl rfl rfl λρ8 O O=>aV (l:=4) (jx G hM hesT hesT9) rfl rfl rfl λρ9 O O=>ac (ft (L:=0) (gI hchT)) rfl rfl rfl λρj O hρj=>
    ac (l:=1) (oS G h3e' hchT hCT9) rfl rfl rfl λρ10 O O=>ac (aM (L:=0) hpl) rfl rfl rfl λρ11 O O=>ac (eW (L:=0) (hlast _)) rfl rfl rfl λρ12 O O=>ac (l:=1) (wR G h3e' hCT9) rfl rfl rfl λρ13 O O=>
    ac (gj (L:=0) (by show _≤1000;rw[cu];exact Nat.le_trans (List.length_filter_le _ _) (by lia))) rfl rfl rfl λρ14 O O=>ac (l:=2) (m8 G hvs hvd) rfl rfl rfl λρ15 O O=>ax rfl λs' hE hF2=>⟨rfl,?_⟩
   exact fin _ _ _ _ _ _ _ _ _ _ _ _ _ _ s' hρj hE hF2
  ·have hcut':cut=σ.es.length:=by rw[←hcu,g9,if_neg ho,hcl]
   have hlt:∀τ:Nat→Nat,false=true↔((σ.o:Nat):Int)<((bF (dz (cw σ.es)) τ).length:Int):=λτ=>⟨λh=>(nomatch h),λh=>by rw[fj] at h;lia⟩
   refine aR G hF' (bb (Gj V.w.params (aC V) s.heap.objs.size s.toks fr I a d pl k0 k1 k2 σ.k3 σ.k4 σ.k5 σ.k6 σ.i σ.ti σ.nl σ.cl σ.rl m (6-m) σ.o σ.uo (dh σ.ps) σ.ps.length (bg σ.es) σ.ea kd σ.td σ.x1 σ.x2 (cw σ.es) (cw (σ.es.take cut)) (bg (σ.es.take cut)) (bg (σ.es.drop cut)) cut) (m==0) (aB V) ((cw (σ.es.take cut)).length==0)) hA hs' ?_
   have h3e':((cw (σ.es.take cut)).length==0)=((cw (σ.es.take cut)).length==0):=rfl
   have hne:((cw (σ.es.take cut)).length==0)=((cw σ.es).length==0):=by rw[hct,hcut',List.take_of_length_le (by rw[hcl];exact Nat.le_refl _)]
   refine ac (l:=0) dg rfl rfl rfl λρ0 O hρ0=>aV (l:=4) (jx G hM hes' hes9) rfl rfl rfl λρ1 O O=>ac (ft (L:=0) (gI hch')) rfl rfl rfl λρi O O=>ac (l:=1) (oS G hne hch' hC9) rfl rfl rfl λρ2 O O=>
    ac (ik (L:=0)) rfl rfl rfl λρ3 O O=>ac (l:=2) (wS G hne hC9) rfl rfl rfl λρ4 O O=>ac (gj (L:=0) (by show _≤1000;rw[fj];lia)) rfl rfl rfl λρ5 O O=>ac (l:=0) (wM G false (hlt _)) rfl rfl rfl λρ6 O O=>
    aV (l:=3) (tR G hM hcut' hes' h4) rfl rfl rfl λρ7 O O=>ac (l:=2) (pH G hes9 hcut) rfl rfl rfl λρ8 O O=>aV (l:=4) (jx G hM hesT hesT9) rfl rfl rfl λρ9 O O=>ac (ft (L:=0) (gI hchT)) rfl rfl rfl λρj O hρj=>
    ac (l:=1) (oS G h3e' hchT hCT9) rfl rfl rfl λρ10 O O=>ac (aM (L:=0) hpl) rfl rfl rfl λρ11 O O=>ac (eW (L:=0) (hlast _)) rfl rfl rfl λρ12 O O=>ac (l:=1) (wR G h3e' hCT9) rfl rfl rfl λρ13 O O=>
    ac (gj (L:=0) (by show _≤1000;rw[cu];exact Nat.le_trans (List.length_filter_le _ _) (by lia))) rfl rfl rfl λρ14 O O=>ac (l:=2) (m8 G hvs hvd) rfl rfl rfl λρ15 O O=>ax rfl λs' hE hF2=>⟨rfl,?_⟩
   exact fin _ _ _ _ _ _ _ _ _ _ _ _ _ _ s' hρj hE hF2
 ·intro σ A s R hI hA hs hF k
  exact aR G hF (a6 (Gi V.w.params (aC V) s.heap.objs.size s.toks fr I a d pl (nB V.w.params k0 k1 k2 a pl σ.o σ.uo (qb (7==0) σ.k3 σ.k4 σ.k5 σ.k6 σ.i σ.ti σ.nl σ.cl σ.rl)) 7 (dh σ.ps) σ.ps.length (bg σ.es) σ.ea kd σ.td σ.x1 σ.x2) (aB V)) hA hs (ac (ii (L:=0)) rfl rfl rfl λρ O O=>an rfl λs' hE hF2=>k s' hE hF2)
 ·obtain⟨e1,e2,e3⟩:=hσ
  refine⟨?_,?_,?_,?_,?_,.inl rfl⟩
  ·rw[e1,e2,e3];rfl
  ·rw[e3];exactλO h=>nomatch h
  ·exact⟨0,by rw[e2];rfl⟩
  ·rw[e2];exact hsm
  ·rw[e3];rfl
 ·obtain⟨e1,e2,e3⟩:=hσ
  rw[e3]
  show Fz V (F++[]) _ s
  rw[List.append_nil]
  exact hF
noncomputable def pi(P:Params)(a d:Nat)(es:List fU)(ea kd td x1 x2:Nat)(js:List Nat):aD:=
 ⟨.call (.ref 201) ⟨[.ref a],[]⟩,js,[(a,aG d (bg es) ea),(d,bn P (b6 kd td 0)),(62,aP (fy P) x2),(69,aP (eo P) x1)],λρ=> .ok (.ret (.ref (ρ 2))),
  λρ=>[aG d (bg (es.drop (ρ 3))) (ρ 4),bn P (b6 kd (ρ 5) 0),aP (fy P) (ρ 6),aP (eo P) (ρ 7)],λρ=>[(ρ 2,aa (dh ((List.range 7).map λi=>(ρ (i+8),[]))) 7)]⟩
noncomputable def cz(P:Params)(L:List (List Nat))(f:Nat→Nat):KL:=(List.range L.length).map λi=>l9 P (f i,L.getD i [])
theorem ow(P:Params){L:List (List Nat)}{ps:List (Addr×List Nat)}(h:ps.map (·.2)=L):ps.map (l9 P)=cz P L (λi=>(ps.getD i (0,[])).1):=by
 subst h
 exact Do ps (0,[]) (·.2) λx p=>l9 P (p.1,x)
theorem yf{ps:List (Addr×List Nat)}{n:Nat}(h:ps.length=n):dh ps=dh ((List.range n).map λi=>((ps.getD i (0,[])).1,[])):=by
 subst h
 unfold dh
 refine List.ext_getElem? λi=> ?_
 by_cases h:i<ps.length
 ·simp[h,List.getD_eq_getElem?_getD]
 ·simp[h]
theorem qD{V:Gw}(G:au V)(hM:fS V){a d ea kd td x1 x2:Nat}{es:List fU}{F:KL}(hes:∀e∈es,(e.pt,e.o)∈F)(hch:∀c∈cw es,c∈pX)(hsm:es.length≤12){js:List Nat}:
  aQ V 6 (pi V.w.params a d es ea kd td x1 x2 js) F (λO=>True) (λρ=>cz V.w.params (fx 7 0 (cw es)) (λi=>ρ (i+8))):=by
 intro A s hA hs hf
 refine ga G hA (Cu _) hf hs (ad (Gh V.w.params s.heap.objs.size s.toks a d (bg es) ea kd td x1 x2) (aC V) (aB V)) (aS rfl) λs1 hs1 hf1=> ?_
 let T:br→aF:=λρ=>uu (ρ 7) (ρ 8) (ρ 9) (ρ 10) 6 (ρ 11) (ρ 12) (ρ 13) (ρ 14)
 have hl:aQ V 5 (HY V.w.params s.heap.objs.size (s1.heap.objs.size+6) a d s1.heap.objs.size s.toks (s1.toks+1) (s1.toks+2) s1.toks (bg es) (λρ=>bg (es.drop (ρ 15))) ea kd td x1 x2 (λρ=>ρ 16) (λρ=>dh ((List.range 7).map λi=>(ρ (i+17),[]))) T [0,11,5,1,2,3,4]) F (λρ=>ρ 0=ρ 0) (λρ=>cz V.w.params (fx 7 0 (cw es)) (λi=>ρ (i+17))):=by
  intro A0 s0 hA0 hs0 hf0
  refine codeAny_mono (u6 G hM hes hch hsm s0.heap.objs.size ⟨0,0,0,0,6,0,0,0,0,0,s1.toks,es,ea,td,x1,x2,[]⟩ A0 s0 ⟨rfl,rfl,rfl⟩ hA0 (Nat.le_refl _) hs0 hf0) ?_
  rintro r s' ⟨hr,⟨k3,k4,k5,k6,i,ti,nl,cl,rl,o,uo,es',ea',td',x1',x2',ps⟩,⟨h1,h2,h3,h4,j,hj⟩,hE,hF⟩
  try dsimp only at h1 h2 h3 h4 hj hF
  subst h4 hj
  have hE2:am V [s.heap.objs.size,s1.heap.objs.size+6,s1.heap.objs.size,a,d,62,69] s0 (nw V.w.params s.heap.objs.size (s1.heap.objs.size+6) a d s1.heap.objs.size (nB V.w.params s.toks (s1.toks+1) (s1.toks+2) a s1.heap.objs.size o uo (uu k3 k4 k5 k6 6 ti nl cl rl)) 7 0 (dh ps) ps.length (bg (es.drop j)) ea' kd td' x1' x2') s':=hE
  rw[h3,yf h3] at hE2
  let f:Nat→Nat:=λk=>match k with
   |0=>uo|1=>ea'|2=>td'|3=>x2'|4=>x1'|5=>k3|6=>k4|7=>k5|8=>k6|9=>ti|10=>nl|11=>cl|12=>rl|13=>j|14=>o|k+15=>(ps.getD k (0,[])).1
  refine⟨a7 s'.heap.objs.size s'.toks f,hr,aW hE2 f rfl rfl (λO hp=>nomatch hp),rfl,λp hp=> ?_⟩
  have hp':p∈ps.map (l9 V.w.params):=by rw[ow _ h1];exact hp
  refine⟨(hF p (List.mem_append_right _ hp')).1,?_,λh=>nomatch h⟩
  obtain⟨q,hq,rfl⟩:=List.mem_map.mp hp'
  exact h2 q hq
 refine aR G hf1 (ad (Gg V.w.params s.heap.objs.size s1.heap.objs.size s.toks s1.toks a d (bg es) (λρ=>bg (es.drop (ρ 15))) ea kd td x1 x2 (λρ=>ρ 16) (λρ=>dh ((List.range 7).map λi=>(ρ (i+17),[]))) T) (aC V) (aB V)) hA hs1.at' ?_
 refine bh (l:=5) hl rfl rfl rfl λρ O O O hX=>an rfl λs2 hs2 hf2=> ?_
 have E:=hs1.trans hs2 (λq hq=>by
  have hq:q∈[s.heap.objs.size,a,d,62,69]:=hq
  simp only[gV,List.not_mem_nil,or_false] at hq
  rcases hq with rfl|rfl|rfl|rfl|rfl
  ·exact .inr (Nat.le_refl _)
  ·exact .inl (.head _)
  ·exact .inl (.tail _ (.head _))
  ·exact .inl (.tail _ (.tail _ (.head _)))
  ·exact .inl (.tail _ (.tail _ (.tail _ (.head _)))))
 let g:Nat→Nat:=λk=>match k with
  |0=>s1.heap.objs.size|1=>ρ 15|2=>ρ 3|3=>ρ 4|4=>ρ 5|5=>ρ 6|k+6=>ρ (k+17)
 refine⟨a7 s2.heap.objs.size s2.toks g,rfl,aW (H:=pi V.w.params a d es ea kd td x1 x2 js) E g rfl rfl (λp hp=>by rw[List.mem_singleton.mp hp];exact hs1.grow),trivial,λp hp=> ?_⟩
 have hp':p∈cz V.w.params (fx 7 0 (cw es)) (λi=>ρ (i+17)):=hp
 obtain⟨f1,f2,f3⟩:=hf2 p (List.mem_append_right _ hp')
 refine⟨f1,Nat.le_trans hs1.grow (hX p hp'),λh=>f2 ?_⟩
 have h':p.1=s1.heap.objs.size:=List.mem_singleton.mp h
 rw[h']
 exact .tail _ (.tail _ (.tail _ (.tail _ (.head _))))
noncomputable def Aa(sts:List Stmt)(k:Nat):Expr:=match sts[k]? with
 |some (.If t _ _ _)=>t
 |_=> .Constant .none 0 ⟨0,0,0,0⟩
noncomputable def ly:Array Nat:=#[112,105,101,99,101]
noncomputable def DE(P:Params):Expr:=oZ (gC (Aa (aA (aU P 223)) 7)) 0
noncomputable def wZ(P:Params)(fr cD C:Addr):Env:=compEnvC (aT (DE P)) [] C (fb P fr cD)
noncomputable def rd(P:Params)(fr cD C I acc:Addr)(k:Nat):Code:= .compLoop (DE P) k (.ref I) (.ref acc) (wZ P fr cD C)
noncomputable def rp(P:Params)(fr cD C I acc:Addr)(k:Nat):Code:= .compStart (DE P) k (.ref I) (.ref acc) (wZ P fr cD C)
noncomputable def qV(P:Params)(C I q acc kp:Nat)(fn:Bool)(kn:Nat)(vn:Value)(io:Obj)(vs:List Value)(ep:Nat)(out:List Value)(eq:Nat):KL:=
 [(C,bn P ([(ly,kp,.ref q)]++bk fn ak kn vn)),(I,io),(q,aa vs ep),(acc,aa out eq)]
noncomputable def EO(P:Params)(b1 b2:Bool)(n t fr cD C I q acc kp:Nat)(fn:Bool)(kn:Nat)(vn:Value)(j:Nat)(vs:List Value)(ep:Nat)(out:List Value)(eq:Nat)(x:Int)(u:Nat):bu:=
 ap P b1 b2 (rd P fr cD C I acc 1) (qV P C I q acc kp fn kn vn (aj q j) vs ep out eq) n t
 (.hook [2] 0 (a8 I q j vs ep (.int x u) [1,2]) λρ=> .hook [1,1,1] 0 (a5 acc out eq (.int x u) [3]) λρ1=>
  .again [] (rd P fr cD C I acc 1) [0,1,2,3] (qV P C I q acc kp false (ao fn kn (ρ 1)) (.int x u) (aj q (j+1)) vs ep (out++[.int x u]) (eq+1)))
noncomputable def EP(P:Params)(b1 b2:Bool)(n t fr cD C I q acc kp:Nat)(fn:Bool)(kn:Nat)(vn:Value)(j:Nat)(vs:List Value)(ep:Nat)(out:List Value)(eq:Nat):bu:=
 ap P b1 b2 (rd P fr cD C I acc 1) (qV P C I q acc kp fn kn vn (aj q j) vs ep out eq) n t
 (.hook [2] 0 (cn I q j vs ep [1,2]) λρ=> .fin [6] (.ok .next) [0,1,2,3] (qV P C I q acc kp fn kn vn (ba j) vs ep out eq))
theorem GY(P b1 n t fr cD C I q acc kp kn vn j vs ep out eq x u):Qk 200 λr=>ay λfn b2=>r (EO P b1 b2 n t fr cD C I q acc kp fn kn vn j vs ep out eq x u):=by unfold Qk;kernel_rfl!
theorem GZ(P b1 n t fr cD C I q acc kp kn vn j vs ep out eq):Qk 200 λr=>ay λfn b2=>r (EP P b1 b2 n t fr cD C I q acc kp fn kn vn j vs ep out eq):=by unfold Qk;kernel_rfl!
theorem G0(P:Params)(n t fr cD C I q acc kp:Nat)(kn:Nat)(vn:Value)(vs:List Value)(ep:Nat)(out:List Value)(eq:Nat):Qk 200 λr=>co λfn b1 b2=>r ( ap P b1 b2 (rp P fr cD C I acc 1) (qV P C I q acc kp fn kn vn (aj q 0) vs ep out eq) n t
 (.again (match b1 with|true=>[]|false=>[2,2,0,2,2]) (rd P fr cD C I acc 1) [0,1,2,3] (qV P C I q acc kp fn kn vn (aj q 0) vs ep out eq))):=by unfold Qk;kernel_rfl!
noncomputable def uD(P:Params)(fr cD C I q acc kp:Nat)(fn:Bool)(kn:Nat)(vn:Value)(vs:List Value)(ep:Nat)(out:List Value)(eq:Nat)(fn':Bool)(vn':Value)(m:Nat)(js:List Nat):aD:=
 ⟨rp P fr cD C I acc 1,js,qV P C I q acc kp fn kn vn (aj q 0) vs ep out eq,λO=> .ok .next,λρ=>(qV P C I q acc kp fn' (ρ 2) vn' (ba m) vs ep (out++vs) (eq+m)).map (·.2),λO=>[]⟩
noncomputable def uv(fp:Bool)(kp:Nat)(vp:Value)(fn:Bool)(kn:Nat)(vn:Value):aF:=match fp with
 |true=>[]
 |false=>[(ly,kp,vp)]++bk fn ak kn vn
noncomputable def Jn(fp fn:Bool):Bool:=match fp with
 |true=>true
 |false=>fn
noncomputable def oH(P:Params)(C I l acc:Nat)(T:aF)(io:Obj)(ps:List Value)(ep:Nat)(out:List Value)(eq:Nat):KL:=
 [(C,bn P T),(I,io),(l,aa ps ep),(acc,aa out eq)]
noncomputable def xK(P:Params)(b1 b2:Bool)(n t fr cD C I l acc:Nat)(fp:Bool)(kp:Nat)(vp:Value)(fn:Bool)(kn:Nat)(vn:Value)(j:Nat)(ps:List Value)(ep:Nat)(out:List Value)(eq:Nat)(q:Nat)(vs:List Value)(eq':Nat)(fn':Bool)(vn':Value)(m:Nat):bu:=
 ap P b1 b2 (rd P fr cD C I acc 0) (oH P C I l acc (uv fp kp vp fn kn vn) (aj l j) ps ep out eq++[(q,aa vs eq')]) n t
 (.hook [2] 0 (a8 I l j ps ep (.ref q) [1,2]) λρ=> .hook [1,1,1,5,5,0,5,6] 1 (uD P fr cD C (ρ 0) q acc (ao fp kp (ρ 1)) (Jn fp fn) kn vn vs eq' out eq fn' vn' m [0,5,4,3]) λρ1=>
  .again [] (rd P fr cD C I acc 0) [0,1,2,3,4] (oH P C I l acc (uv false (ao fp kp (ρ 1)) (.ref q) fn' (ρ1 2) vn') (aj l (j+1)) ps ep (out++vs) (eq+m)++[(q,aa vs eq')]))
theorem AM(P:Params)(b1:Bool)(n t fr cD C I l acc:Nat)(kp:Nat)(vp:Value)(kn:Nat)(vn:Value)(j:Nat)(ps:List Value)(ep:Nat)(out:List Value)(eq:Nat)(q:Nat)(vs:List Value)(eq':Nat)(vn':Value)(m:Nat):Qk 300 λr=>co λsel e b2=>r (match sel with
 |true=>xK P b1 b2 n t fr cD C I l acc true kp vp true kn vn j ps ep out eq q vs eq' e vn' m
 |false=>xK P b1 b2 n t fr cD C I l acc false kp vp e kn vn j ps ep out eq q vs eq' false vn' m):=by unfold Qk;kernel_rfl!
theorem GV(P:Params)(b1:Bool)(n t fr cD C I l acc:Nat)(kp:Nat)(vp:Value)(kn:Nat)(vn:Value)(j:Nat)(ps:List Value)(ep:Nat)(out:List Value)(eq:Nat)(q:Nat)(vs:List Value)(eq':Nat)(vn':Value)(m:Nat):Qk 300 λr=>fT λb2=>r (xK P b1 b2 n t fr cD C I l acc false kp vp true kn vn j ps ep out eq q vs eq' true vn' m):=by unfold Qk;kernel_rfl!
theorem GW(P:Params)(b1:Bool)(n t fr cD C I l acc:Nat)(T:aF)(j:Nat)(ps:List Value)(ep:Nat)(out:List Value)(eq:Nat):Qk 200 λr=>fT λb2=>r ( ap P b1 b2 (rd P fr cD C I acc 0) (oH P C I l acc T (aj l j) ps ep out eq) n t
 (.hook [2] 0 (cn I l j ps ep [1,2]) λρ=> .fin [6] (.ok .next) [0,1,2,3] (oH P C I l acc T (ba j) ps ep out eq))):=by unfold Qk;kernel_rfl!
theorem GX(P:Params)(n t fr cD C I l acc:Nat)(ps:List Value)(ep:Nat):Qk 200 λr=>ay λb1 b2=>r ( ap P b1 b2 (rp P fr cD C I acc 0) (oH P C I l acc [] (aj l 0) ps ep [] 0) n t
 (.again (match b1 with|true=>[]|false=>[2,2,0,2,2]) (rd P fr cD C I acc 0) [0,1,2,3] (oH P C I l acc [] (aj l 0) ps ep [] 0))):=by unfold Qk;kernel_rfl!
theorem t9{P:Params}{cs:List Nat}{m:Nat}(hm:m<cs.length):(aK P cs)[m]?=some (.int (dx (cs.getD m 0)) (nE P (cs.getD m 0))):=by
 rw[aK,List.getElem?_map,List.getElem?_eq_getElem hm,List.getD_eq_getElem?_getD,List.getElem?_eq_getElem hm];rfl
theorem zj{V:Gw}(G:au V){fr cD C I q acc kp kn ep eq m:Nat}{fn fn':Bool}{vn vn':Value}{cs:List Nat}{out:List Value}(hfn:fn'=(fn&&(cs.length==0)))(hvn:vn'=if cs.length=0 then vn else fM V.w.params (cs.getD (cs.length-1) 0))(hm:m=cs.length)
  (hsm:out.length+cs.length≤900) {js:List Nat}:ai V 1 (uD V.w.params fr cD C I q acc kp fn kn vn (aK V.w.params cs) ep out eq fn' vn' m js) (λO=>True):=by
 subst hm
 intro A s hA hs
 refine bc G (bb (G0 V.w.params s.heap.objs.size s.toks fr cD C I q acc kp kn vn (aK V.w.params cs) ep out eq) fn (aC V) (aB V)) hA hs (aE rfl λs1 hs1=>⟨rfl,?_⟩)
 let vm:Nat→Value:=λm=>if m=0 then vn else fM V.w.params (cs.getD (m-1) 0)
 have main:=bv (V:=V) (S:=Nat) (code:=rd V.w.params fr cD C I acc 1) (L:=1) (W:=[C,I,q,acc]) cs.length 0
  (λm σ=>qV V.w.params C I q acc kp (fn&&(m==0)) σ (vm m) (aj q m) (aK V.w.params cs) ep (out++aK V.w.params (cs.take m)) (eq+m)) (λO O=>[])
  (λσ=>qV V.w.params C I q acc kp (fn&&(cs.length==0)) σ (vm cs.length) (ba cs.length) (aK V.w.params cs) ep (out++aK V.w.params cs) (eq+cs.length)) (λO O=>True) ?_ ?_ cs.length 0 kn A s1 (Nat.zero_add _) trivial hA (Nat.zero_le _) ?_ Fz.nil
 ·refine codeAny_mono main ?_
  rintro r s'' ⟨hr,σ,_,hE,_⟩
  have E:=hs1.trans hE (λb hb=> .inl hb)
  subst hfn hvn
  exact⟨a7 _ _ (λk=>σ),hr,aW (H:=uD V.w.params fr cD C I q acc kp fn kn vn (aK V.w.params cs) ep out eq _ _ cs.length js) E _ rfl rfl (λO hp=>nomatch hp),trivial⟩
 ·intro m σ A s R hm _ hA _ hs _ k
  refine bc G (ad (GY V.w.params (aC V) s.heap.objs.size s.toks fr cD C I q acc kp σ (vm m) m (aK V.w.params cs) ep (out++aK V.w.params (cs.take m)) (eq+m) (dx (cs.getD m 0)) (nE V.w.params (cs.getD m 0))) (fn&&(m==0)) (aB V)) hA hs ?_
  refine ae (aJ (L:=0) (t9 hm)) rfl rfl rfl λρ O O=>ae (aM (L:=0) (by show _≤1000;rw[List.length_append,cu,List.length_take];exact Nat.le_trans (Nat.add_le_add_left (Nat.min_le_right _ _) _) (Nat.le_trans hsm (by decide)))) rfl rfl rfl λρ1 O O=>aE rfl λs' hs'=>⟨rfl,?_⟩
  have hs':=hs'
  rw[List.append_assoc,show aK V.w.params (cs.take m)++[.int (dx (cs.getD m 0)) (nE V.w.params (cs.getD m 0))]=aK V.w.params (cs.take (m+1)) from lg _ _ hm] at hs'
  refine k (ao (fn&&(m==0)) σ (ρ 1)) s' trivial ?_ Fz.nil
  have e1:(fn&&(m+1==0))=false:=by cases fn<;>rfl
  show am V _ s (qV V.w.params C I q acc kp (fn&&(m+1==0)) _ _ _ _ _ _ _) s'
  rw[e1]
  exact hs'
 ·intro σ A s R _ hA hs _ k
  have e:cs.take cs.length=cs:=List.take_length
  rw[e] at hs
  refine bc G (ad (GZ V.w.params (aC V) s.heap.objs.size s.toks fr cD C I q acc kp σ (vm cs.length) cs.length (aK V.w.params cs) ep (out++aK V.w.params cs) (eq+cs.length)) (fn&&(cs.length==0)) (aB V)) hA hs ?_
  exact ae (bq (L:=0) (by rw[List.getElem?_eq_none (by rw[cu];exact Nat.le_refl _)])) rfl rfl rfl λρ O O=>aO rfl λs' hs'=>k s' hs' Fz.nil
 ·have e1:(fn&&(0==0))=fn:=by cases fn<;>rfl
  show At V (qV V.w.params C I q acc kp (fn&&(0==0)) kn vn (aj q 0) (aK V.w.params cs) ep (out++[]) eq) s1
  rw[e1,List.append_nil]
  exact hs1.at'
noncomputable def cF(ps:List (Addr×List Nat)):List Nat:=ps.flatMap (·.2)
noncomputable def fE(cs:List Nat):Nat:=cs.getD (cs.length-1) 0
noncomputable def DB(P:Params)(fr cD C I l acc ep:Nat)(ps:List (Addr×List Nat))(fn:Bool)(js:List Nat):aD:=
 ⟨rp P fr cD C I acc 0,js,oH P C I l acc [] (aj l 0) (dh ps) ep [] 0,λO=> .ok .next,
  λρ=>(oH P C I l acc (uv (ps.length==0) (ρ 2) (.ref (ps.getD (ps.length-1) (0,[])).1) fn (ρ 3) (fM P (fE (cF ps)))) (ba ps.length) (dh ps) ep (aK P (cF ps)) (cF ps).length).map (·.2),λO=>[]⟩
theorem Ce{V:Gw}(G:au V){fr cD C I l acc ep:Nat}{ps:List (Addr×List Nat)}{fn:Bool}(hfn:fn=((cF ps).length==0)){F:KL}(hps:∀q∈ps,l9 V.w.params q∈F)(hl:ps.length≤100)(hsm:(cF ps).length≤400){js:List Nat}:aQ V 2 (DB V.w.params fr cD C I l acc ep ps fn js) F (λO=>True) (λO=>[]):=by
 subst hfn
 intro A s hA hs hf
 refine aR G hf (ad (GX V.w.params s.heap.objs.size s.toks fr cD C I l acc (dh ps) ep) (aC V) (aB V)) hA hs (ax rfl λs1 hs1 hf1=>⟨rfl,?_⟩)
 let fm:Nat→List Nat:=λm=>cF (ps.take m)
 have main:=bv (V:=V) (S:=Nat×Nat) (code:=rd V.w.params fr cD C I acc 0) (L:=2) (W:=[C,I,l,acc]) ps.length 0
  (λm σ=>oH V.w.params C I l acc (uv (m==0) σ.1 (.ref (ps.getD (m-1) (0,[])).1) ((fm m).length==0) σ.2 (fM V.w.params (fE (fm m)))) (aj l m) (dh ps) ep (aK V.w.params (fm m)) (fm m).length) (λO O=>F)
  (λσ=>oH V.w.params C I l acc (uv (ps.length==0) σ.1 (.ref (ps.getD (ps.length-1) (0,[])).1) ((cF ps).length==0) σ.2 (fM V.w.params (fE (cF ps)))) (ba ps.length) (dh ps) ep (aK V.w.params (cF ps)) (cF ps).length) (λO O=>True) ?_ ?_ ps.length 0 (0,0) A s1 (Nat.zero_add _) trivial hA (Nat.zero_le _) hs1.at' hf1
 ·refine codeAny_mono main ?_
  rintro r s'' ⟨hr,σ,_,hE,_⟩
  have E:=hs1.trans hE (λb hb=> .inl hb)
  exact⟨a7 _ _ (λk=>if k=0 then σ.1 else σ.2),hr,aW (H:=DB V.w.params fr cD C I l acc ep ps _ js) E _ rfl rfl (λO hp=>nomatch hp),trivial,λO h=>nomatch h⟩
 ·intro m σ A s R hm _ hA _ hs hF k
  have hg:ps[m]?=some ps[m]:=List.getElem?_eq_getElem hm
  have hgd:ps.getD m (0,[])=ps[m]:=by rw[List.getD_eq_getElem?_getD,hg];rfl
  have hx:(dh ps)[m]?=some (.ref ps[m].1):=by simp[dh,hm]
  have hmem:ps[m]∈ps:=List.getElem_mem hm
  have hT:=hs.thaw hF (R:=[l9 V.w.params ps[m]]) (λp hp=>by rw[List.mem_singleton.mp hp];exact hps _ hmem) (by simp)
  have hfm:fm (m+1)=fm m++ps[m].2:=by
   show cF (ps.take (m+1))=_
   rw[List.take_add_one,hg]
   show(ps.take m++[ps[m]]).flatMap (·.2)=(ps.take m).flatMap (·.2)++ps[m].2
   rw[List.flatMap_append]
   simp
  have hle:(fm (m+1)).length≤400:=by
   refine Nat.le_trans ?_ hsm
   have:cF ps=fm (m+1)++cF (ps.drop (m+1)):=by
    show _=cF (ps.take (m+1))++_
    unfold cF
    rw[←List.flatMap_append,List.take_append_drop]
   rw[this,List.length_append]
   exact Nat.le_add_right _ _
  have hle':(aK V.w.params (fm m)).length+ps[m].2.length≤900:=by
   rw[cu,←List.length_append,←hfm];lia
  have fin:∀(κ κ':Nat) (s':Shared),am V ((oH V.w.params C I l acc (uv (m==0) σ.1 (.ref (ps.getD (m-1) (0,[])).1) ((fm m).length==0) σ.2 (fM V.w.params (fE (fm m)))) (aj l m) (dh ps) ep (aK V.w.params (fm m)) (fm m).length++[l9 V.w.params ps[m]]).map (·.1)) s
    (oH V.w.params C I l acc (uv false κ (.ref ps[m].1) ((fm (m+1)).length==0) κ' (fM V.w.params (fE (fm (m+1))))) (aj l (m+1)) (dh ps) ep (aK V.w.params (fm m)++aK V.w.params ps[m].2) ((fm m).length+ps[m].2.length)++[l9 V.w.params ps[m]]) s'→codeAny (model V.prog V.w) A (rd V.w.params fr cD C I acc 0) R s':=by
   intro κ κ' s' hE
   have E:=hE.freeze hT
   rw[show aK V.w.params (fm m)++aK V.w.params ps[m].2=aK V.w.params (fm (m+1)) by rw[hfm,aK,aK,aK,List.map_append],show(fm m).length+ps[m].2.length=(fm (m+1)).length by rw[hfm,List.length_append],←hgd] at E
   exact k (κ,κ') s' trivial E (hF.after E rfl)
  have hlast:fM V.w.params (fE (fm (m+1)))=if ps[m].2.length=0 then fM V.w.params (fE (fm m)) else fM V.w.params (ps[m].2.getD (ps[m].2.length-1) 0):=by
   rw[hfm]
   split
   ·rename_i h0
    rw[List.length_eq_zero_iff.mp h0,List.append_nil]
   ·rename_i h0
    congr 1
    unfold fE
    rw[List.length_append,List.getD_eq_getElem?_getD,List.getElem?_append_right (by lia),List.getD_eq_getElem?_getD]
    congr 2
    lia
  have hmul:((fm (m+1)).length==0)=(((fm m).length==0)&&(ps[m].2.length==0)):=by
   rw[hfm,List.length_append]
   cases h1:(fm m).length<;>cases h2:ps[m].2.length<;>simp
  have hfli:∀(I' kp:Nat) (fn fn':Bool) (js:List Nat),fn=((fm m).length==0)→fn'=((fm (m+1)).length==0)→ai V 1 (uD V.w.params fr cD C I' ps[m].1 acc kp fn σ.2 (fM V.w.params (fE (fm m))) (aK V.w.params ps[m].2) ps[m].2.length (aK V.w.params (fm m)) (fm m).length fn' (fM V.w.params (fE (fm (m+1)))) ps[m].2.length js) (λO=>True):=
   λI' kp fn fn' js h1 h2=>zj G (by rw[h1,h2,hmul]) hlast rfl hle'
  cases hm0:(m==0) with
  |true=>
   have hmz:m=0:=by simpa using hm0
   have h0:((fm m).length==0)=true:=by subst hmz;rfl
   rw[hm0] at hT fin
   refine aR G Fz.nil (bb (AM V.w.params (aC V) s.heap.objs.size s.toks fr cD C I l acc σ.1 (.ref (ps.getD (m-1) (0,[])).1) σ.2 (fM V.w.params (fE (fm m))) m (dh ps) ep (aK V.w.params (fm m)) (fm m).length ps[m].1 (aK V.w.params ps[m].2) ps[m].2.length (fM V.w.params (fE (fm (m+1)))) ps[m].2.length) true ((fm (m+1)).length==0) (aB V)) hA hT ?_
   exact ac (aJ (L:=0) hx) rfl rfl rfl λρ O O=>ac (l:=1) (hfli _ _ _ _ _ h0.symm rfl) rfl rfl rfl λρ1 O O=>ax rfl λs' hs' O=>⟨rfl,fin _ _ s' hs'⟩
  |false=>
   rw[hm0] at hT fin
   cases hb:((fm (m+1)).length==0) with
   |true=>
    have h0:((fm m).length==0)=true:=by
     rw[hmul] at hb;exact(Bool.and_eq_true_iff.mp hb).1
    rw[hb] at fin
    rw[h0] at hT fin
    refine aR G Fz.nil (a6 (GV V.w.params (aC V) s.heap.objs.size s.toks fr cD C I l acc σ.1 (.ref (ps.getD (m-1) (0,[])).1) σ.2 (fM V.w.params (fE (fm m))) m (dh ps) ep (aK V.w.params (fm m)) (fm m).length ps[m].1 (aK V.w.params ps[m].2) ps[m].2.length (fM V.w.params (fE (fm (m+1)))) ps[m].2.length) (aB V)) hA hT ?_
    exact ac (aJ (L:=0) hx) rfl rfl rfl λρ O O=>ac (l:=1) (hfli _ _ _ _ _ h0.symm hb.symm) rfl rfl rfl λρ1 O O=>ax rfl λs' hs' O=>⟨rfl,fin _ _ s' hs'⟩
   |false=>
    rw[hb] at fin
    refine aR G Fz.nil (bb (AM V.w.params (aC V) s.heap.objs.size s.toks fr cD C I l acc σ.1 (.ref (ps.getD (m-1) (0,[])).1) σ.2 (fM V.w.params (fE (fm m))) m (dh ps) ep (aK V.w.params (fm m)) (fm m).length ps[m].1 (aK V.w.params ps[m].2) ps[m].2.length (fM V.w.params (fE (fm (m+1)))) ps[m].2.length) false ((fm m).length==0) (aB V)) hA hT ?_
    exact ac (aJ (L:=0) hx) rfl rfl rfl λρ O O=>ac (l:=1) (hfli _ _ _ _ _ rfl hb.symm) rfl rfl rfl λρ1 O O=>ax rfl λs' hs' O=>⟨rfl,fin _ _ s' hs'⟩
 ·intro σ A s R _ hA hs hF k
  have e:fm ps.length=cF ps:=by show cF (ps.take ps.length)=_;rw[List.take_length]
  rw[e] at hs hF
  refine aR G hF (a6 (GW V.w.params (aC V) s.heap.objs.size s.toks fr cD C I l acc (uv (ps.length==0) σ.1 (.ref (ps.getD (ps.length-1) (0,[])).1) ((cF ps).length==0) σ.2 (fM V.w.params (fE (cF ps)))) ps.length (dh ps) ep (aK V.w.params (cF ps)) (cF ps).length) (aB V)) hA hs ?_
  exact ac (bq (L:=0) (by simp[dh])) rfl rfl rfl λρ O O=>an rfl λs' hs' hf'=>k s' hs' hf'
set_option tactic.hygienic true
noncomputable def lN(e:Expr):Prop:=E7 λelt g0 target iter ifs scope pos=>e= .ListComp elt [g0,⟨target,iter,ifs,0⟩] scope pos
theorem oz{e:Expr}(h:e= .ListComp (bx e) [gk e 0,⟨(gk e 1).target,(gk e 1).iter,(gk e 1).ifs,0⟩] (Ds e) e.pos):lN e:=⟨_,_,_,_,_,_,_,h⟩
noncomputable def xk:Expr→Nat→Expr
 | .ListComp _ gs _ _,k=>match gs[k]? with
  |some g=>g.target
  |none=> .Constant .none 0 ⟨0,0,0,0⟩
 |e,_=>e
noncomputable def oX:Expr→Nat→List Expr
 | .ListComp _ gs _ _,k=>match gs[k]? with
  |some g=>g.ifs
  |none=>[]
 |_,_=>[]
theorem oC{prog:Program}{w:World}{A:Around}{R:Result→Shared→Prop}{s:Shared}{e:Expr}{it acc:Value}{env:Env}(he:lN e)
  (turn:wpAny (model prog w) A (pyNext it) (λr s₁=>match r with
   |none=>R (.ok .next) s₁
   |some v=>wpAny (model prog w) A (letOwnedTupleGo (xk e 1) it v) (λO s₂=>wpAny (model prog w) A (gN (xk e 1) env v (oX e 1) (bx e) acc) (λf s₃=>f= .done .next∧codeAny (model prog w) A (.compLoop e 1 it acc env) R s₃) No s₂) No s₁) No s):
  codeAny (model prog w) A (.compLoop e 1 it acc env) R s:=by
 obtain⟨elt,g0,target,iter,ifs,scope,pos,rfl⟩:=he
 refine codeAny_of_tree ?_
 show wpAny _ A ((compTurn (.ListComp elt [g0,⟨target,iter,ifs,0⟩] scope pos) 1 it acc env).onRaise (λx=>do noteFrame x env;theTreesLotGoes x)) _ _ s
 refine wpAny_noted ?_
 have ht:compTurn (.ListComp elt [g0,⟨target,iter,ifs,0⟩] scope pos) 1 it acc env=(do
   standAt iter.pos
   match←pyNext it with
   |none=>pure (.done .next)
   |some v=>
    letOwnedTupleGo target it v
    assign target env v
    let mut ok:=true
    for c in ifs do
     if ok then ok ←PySem.isTrue c env (eval c env)
    if ok then
     (do let _ ←call (.builtin "list.append") [acc,←eval elt env])
    again (.compLoop (.ListComp elt [g0,⟨target,iter,ifs,0⟩] scope pos) 1 it acc env)):=by rfl
 rw[ht]
 refine wpAny_bind (wpAny_standAt (wpAny_bind (wpAny_mono turn (λr s₁ h₁=> ?_) λO O h'=>h'.elim)))
 cases r with
 |none=>exact wpAny_pure h₁
 |some v=>
  refine wpAny_bind (wpAny_mono h₁ (λO s₂ h₂=> ?_) λO O h'=>h'.elim)
  have h3:wpAny (model prog w) A (assign target env v>>=λO=>
    (forIn ifs true λc r=>if r=true then do let ok ←PySem.isTrue c env (eval c env);pure (ForInStep.yield ok) else pure (ForInStep.yield r))>>=λok=>
    (if ok=true then eval elt env>>=λx=>call (.builtin "list.append") [acc,x]>>=λO=>(pure (.done .next):Sem PySem.Fin) else pure (.done .next)))
    (λf s₃=>f= .done .next∧codeAny (model prog w) A (.compLoop (.ListComp elt [g0,⟨target,iter,ifs,0⟩] scope pos) 1 it acc env) R s₃) No s₂:=by
   rw[ey,j0,gr];exact h₂
  intro Γ p hΓ
  have z:=h3 Γ p hΓ
  rw[Sem.wp_bind'] at z⊢
  refine Sem.wp_mono _ Γ _ (λO p' s' h'=> ?_) (λO O O x=>x.elim) _ _ z
  rw[Sem.wp_bind'] at h'⊢
  refine Sem.wp_mono _ Γ _ (λok p'' s'' h''=> ?_) (λO O O x=>x.elim) _ _ h'
  cases ok with
  |false=>exact⟨rfl,h''.2⟩
  |true=>
   simp only[if_true,bind_assoc] at h''⊢
   rw[Sem.wp_bind'] at h''⊢
   refine Sem.wp_mono _ Γ _ (λx p3 s3 h3=> ?_) (λO O O x=>x.elim) _ _ h''
   rw[Sem.wp_bind'] at h3⊢
   refine Sem.wp_mono _ Γ _ (λy p4 s4 h4=> ?_) (λO O O x=>x.elim) _ _ h3
   exact⟨rfl,h4.2⟩
theorem oB{V:Gw}(G:au V){S:Type}{code:Code}{tgt:Expr}{body:Value→Sem PySem.Fin}{Zz it l ep L n0:Nat}{vs:List Value}{WR:List Addr}{F:KL}
  (hstep:∀(A:Around) s (R:Result→Shared→Prop),wpAny (model V.prog V.w) A (pyNext (.ref Zz)) (λr s₁=>match r with
   |none=>R (.ok .next) s₁
   |some v=>wpAny (model V.prog V.w) A (letOwnedTupleGo tgt (.ref Zz) v) (λO s₂=>wpAny (model V.prog V.w) A (body v) (λf s₃=>f= .done .next∧codeAny (model V.prog V.w) A code R s₃) No s₂) No s₁) No s→codeAny (model V.prog V.w) A code R s)
  (ht:eN tgt=true) (hL:1≤L) (RK:Nat→S→KL) (gT:Nat→S→Prop) (hRW:∀m σ,(RK m σ).map (·.1)=WR)
  (turn:∀m σ x Tt pu A s (Q:Shared→Prop),vs[m]?=some x→gT m σ→Bd L A→n0≤s.heap.objs.size→At V (RK m σ++[(Tt,al [.int m pu,x])]) s→Fz V F (RK m σ++[(Tt,al [.int m pu,x])]) s→
   (∀σ' s',gT (m+1) σ'→am V ((RK m σ++[(Tt,al [.int m pu,x])]).map (·.1)) s (RK (m+1) σ') s'→Q s')→
   wpAny (model V.prog V.w) A (body (.ref Tt)) (λf s'=>f= .done .next∧Q s') No s):
  ∀σ A s,gT 0 σ→Bd L A→n0≤s.heap.objs.size→At V (eH Zz it l .none .none 0 vs ep++RK 0 σ) s→Fz V F (eH Zz it l .none .none 0 vs ep++RK 0 σ) s→
   codeAny (model V.prog V.w) A code (LP V ([Zz,it,l]++WR) s (λσ'=>gP Zz it l .none (fc vs vs.length) vs.length vs ep++RK vs.length σ') (λO=>F) (gT vs.length)) s:=by
 intro σ A s hI hA hn hs hF
 refine bv (L:=L) vs.length n0 (λm σ=>eH Zz it l .none (fc vs m) m vs ep++RK m σ) (λO O=>F) (λσ=>gP Zz it l .none (fc vs vs.length) vs.length vs ep++RK vs.length σ) gT ?_ ?_ vs.length 0 σ A s (by lia) hI hA hn hs hF
 ·intro m σ A s R hm hI hA hn hs hF k
  have hx:vs[m]?=some vs[m]:=List.getElem?_eq_getElem hm
  refine hstep A s R (iU G (hA.weak hL) ht hs hF hx λTt pu s1 hTt hE1 hF1=> ?_)
  have hs2:=hE1.at'.perm List.perm_append_comm
  have hF2:=hF1.perm List.perm_append_comm
  refine turn m σ vs[m] Tt pu A s1 _ hx hI hA (Nat.le_trans hn hE1.grow) hs2.less hF2.less λσ' s2 hI' hE=> ?_
  obtain⟨E3,F3⟩:=iN hs2 hF2 hE (λp hp=> .inl (by
   have h1:p.1∈(RK (m+1) σ').map (·.1):=List.mem_map_of_mem hp
   rw[hRW] at h1
   rw[List.map_append,hRW]
   exact List.mem_append_left _ h1))
  have E4:=E3.perm List.perm_append_comm
  have F4:=F3.perm List.perm_append_comm
  have hold:vs[m]=fc vs (m+1):=by show _=vs.getD m .none;rw[List.getD_eq_getElem?_getD,hx];rfl
  rw[hold] at E4 F4
  refine k σ' s2 hI' ⟨E4.at',λb o hb hbw=>E4.pres b o (hE1.pres b o hb λhm=>hbw ?_) (λhm=> ?_),Nat.le_trans hE1.grow E4.grow⟩ F4
  ·rw[List.map_append,hRW] at hm;exact hm
  ·rw[List.map_append,List.map_append,hRW] at hm
   rcases List.mem_append.mp hm with hm|hm
   ·rcases List.mem_append.mp hm with hm|hm
    ·exact hbw (List.mem_append_right _ hm)
    ·have e:=List.mem_singleton.mp hm
     exact absurd (Heap.lt_size hb) (Nat.not_lt.mpr (by rw[e];exact hTt))
   ·exact hbw (List.mem_append_left _ hm)
 ·intro σ A s R hI hA hs hF k
  refine hstep A s R (iV G (hA.weak hL) hs hF (by simp) λs' hE hF'=>k s' ?_ hF')
  have e:(eH Zz it l .none (fc vs vs.length) vs.length vs ep++RK vs.length σ).map (·.1)=[Zz,it,l]++WR:=by rw[List.map_append,hRW];rfl
  rw[←e];exact hE
set_option tactic.hygienic false
noncomputable def uY:Array Nat:=#[108,101,118,101,108]
noncomputable def nD(P:Params):Expr:=jF (aA (aU P 213)) 0
noncomputable def rK(P:Params)(fr av:Addr):Env:=f6 (aU P 213) 213 fr [(nm ci,av)]
noncomputable def mD(P:Params)(fr av C:Addr):Env:=compEnvC (aT (nD P)) [(nm ci,av)] C (rK P fr av)
noncomputable def xm(P:Params)(fr av C I acc:Addr)(k:Nat):Code:= .compLoop (nD P) k (.ref I) (.ref acc) (mD P fr av C)
noncomputable def rq(P:Params)(fr av C I acc:Addr)(k:Nat):Code:= .compStart (nD P) k (.ref I) (.ref acc) (mD P fr av C)
noncomputable def xt(kd kl:Nat)(vd vl:Value):aF:=[(nV,kd,vd),(uY,kl,vl)]
noncomputable def kz(first:Bool)(kd kl:Nat)(vd vl:Value):aF:=match first with
 |true=>[]
 |false=>xt kd kl vd vl
noncomputable def EV(P:Params)(b1 b2:Bool)(n t fr av C acc Tt kp:Nat)(p:Int)(pt:Nat)(first:Bool)(kd kl:Nat)(vd vl:Value)(m pu q:Nat)(vs:List Value)(e2:Nat)(out:List Value)(eq:Nat):bu:=
 bf P b1 b2 (gN (xk (nD P) 1) (mD P fr av C) (.ref Tt) (oX (nD P) 1) (bx (nD P)) (.ref acc)) ([(C,bn P ([(bo,kp,.int p pt)]++kz first kd kl vd vl)),(acc,aa out eq)]++[(Tt,al [.int m pu,.ref q])]++[(q,aa vs e2)]) n t
 (.hook [3,3,3,0,3,5,5,0,5,5,5,3,5,5,5,0,5,5,5,3,5,5,5,0,5,5,5,3,5,5,7,1,1,1,1,1,1,4,4] 3 (jC q vs e2 (.int p pt) true [3]) λρ=> .hook [1] 0 (a5 acc out eq (.int m pu) [1]) λρ2=>
  .fin [] (.ok .next) [0,1,3] ([(C,bn P ([(bo,kp,.int p pt)]++xt (ao first kd t) (ao first kl (t+1)) (.int m pu) (.ref q))),(acc,aa (out++[.int m pu]) (eq+1))]++[(q,aa vs e2)]))
noncomputable def EW(P:Params)(b1 b2:Bool)(n t fr av C acc Tt kp:Nat)(p:Int)(pt:Nat)(first:Bool)(kd kl:Nat)(vd vl:Value)(m pu q:Nat)(vs:List Value)(e2:Nat)(out:List Value)(eq:Nat):bu:=
 bf P b1 b2 (gN (xk (nD P) 1) (mD P fr av C) (.ref Tt) (oX (nD P) 1) (bx (nD P)) (.ref acc)) ([(C,bn P ([(bo,kp,.int p pt)]++kz first kd kl vd vl)),(acc,aa out eq)]++[(Tt,al [.int m pu,.ref q])]++[(q,aa vs e2)]) n t
 (.hook [3,3,3,0,3,5,5,0,5,5,5,3,5,5,5,0,5,5,5,3,5,5,5,0,5,5,5,3,5,5,7,1,1,1,1,1,1,4,4] 3 (jC q vs e2 (.int p pt) false [3]) λρ=>
  .fin [] (.ok .next) [0,1,3] ([(C,bn P ([(bo,kp,.int p pt)]++xt (ao first kd t) (ao first kl (t+1)) (.int m pu) (.ref q))),(acc,aa out eq)]++[(q,aa vs e2)]))
noncomputable def rb(P:Params)(C acc kp:Nat)(p:Int)(pt:Nat)(T:aF)(out:List Value)(eq:Nat):KL:=[(C,bn P ([(bo,kp,.int p pt)]++T)),(acc,aa out eq)]
theorem He(P n t fr av C acc Tt kp p pt kd kl vd vl m pu q vs e2 out eq):Qk 300 λr=>co λfirst b1 b2=>r (EV P b1 b2 n t fr av C acc Tt kp p pt first kd kl vd vl m pu q vs e2 out eq):=by unfold Qk;kernel_rfl!
theorem Hf(P n t fr av C acc Tt kp p pt kd kl vd vl m pu q vs e2 out eq):Qk 300 λr=>co λfirst b1 b2=>r (EW P b1 b2 n t fr av C acc Tt kp p pt first kd kl vd vl m pu q vs e2 out eq):=by unfold Qk;kernel_rfl!
theorem Hg(P:Params)(n t fr av C Zz it lv acc kp:Nat)(p:Int)(pt:Nat)(kd kl:Nat)(vd vl:Value)(ls:List Value)(el:Nat)(out:List Value)(eq:Nat):Qk 200 λr=>co λfirst b1 b2=>r ( ap P b1 b2 (rq P fr av C Zz acc 1) (eH Zz it lv .none .none 0 ls el++rb P C acc kp p pt (kz first kd kl vd vl) out eq) n t
 (.again (match b1 with|true=>[]|false=>[1,1,0,1,1]) (xm P fr av C Zz acc 1) [0,1,2,3,4] (eH Zz it lv .none .none 0 ls el++rb P C acc kp p pt (kz first kd kl vd vl) out eq))):=by unfold Qk;kernel_rfl!
noncomputable def xP(P:Params)(fr av C Zz it lv acc kp:Nat)(p:Int)(pt:Nat)(first:Bool)(kd kl:Nat)(vd vl:Value)(ls:List Value)(el:Nat)(out:List Value)(eq:Nat)(m:Nat)(vl':Value)(ds:br→List Value)(k:Nat)(js:List Nat):aD:=
 ⟨rq P fr av C Zz acc 1,js,eH Zz it lv .none .none 0 ls el++rb P C acc kp p pt (kz first kd kl vd vl) out eq,λO=> .ok .next,
  λρ=>(gP Zz it lv .none vl' (m+1) ls el++rb P C acc kp p pt (xt (ρ 2) (ρ 3) (.int m (ρ 4)) vl') (out++ds ρ) (eq+k)).map (·.2),λO=>[]⟩
noncomputable def xq(first:Bool)(kp:Nat)(p:Int)(pt kd kl:Nat)(vd vl:Value):aF:=match first with
 |true=>[]
 |false=>[(bo,kp,.int p pt)]++xt kd kl vd vl
noncomputable def qW(P:Params)(C I acc av lv:Nat)(T:aF)(i b:Nat)(out:List Value)(eq:Nat)(ls:List Value)(el:Nat):KL:=
 [(C,bn P T),(I,fW i b 1),(acc,aa out eq),(av,cm (.ref lv)),(lv,aa ls el)]
noncomputable def EU(P:Params)(b1 b2:Bool)(n t fr av C I acc lv:Nat)(first:Bool)(kp:Nat)(p:Int)(pt kd kl:Nat)(vd:Int)(vdt:Nat)(vl i b:Nat)(out:List Value)(eq:Nat)(ls:List Value)(el m vl':Nat)(ds:br→List Value)(k:Nat):bu:=
 ap P b1 b2 (xm P fr av C I acc 0) (qW P C I acc av lv (xq first kp p pt kd kl (.int vd vdt) (.ref vl)) i (b+1) out eq ls el) n t
 (.hook [2] 0 (dC I i b [1]) λρ0=> .hook [1,1,0,0,4,0] 0 (jJ lv ls el [4]) λρ=> .hook [7,7,0,7,7,7,7,0,7,7] 0 (xP P fr av C (ρ 3) (ρ 2) lv acc (ao first kp (ρ0 1)) i (ρ0 2) first kd kl (.int vd vdt) (.ref vl) ls el out eq m (.ref vl') ds k [6,5,4,0,2]) λρ1=>
  .again [] (xm P fr av C I acc 0) [0,1,2,3,4] (qW P C I acc av lv (xq false (ao first kp (ρ0 1)) i (ρ0 2) (ρ1 2) (ρ1 3) (.int m (ρ1 4)) (.ref vl')) (i+1) b (out++ds ρ1) (eq+k) ls el))
theorem Hb(P b1 n t fr av C I acc lv kp p pt kd kl vd vdt vl i b out eq ls el m vl' ds k):Qk 300 λr=>ay λfirst b2=>r (EU P b1 b2 n t fr av C I acc lv first kp p pt kd kl vd vdt vl i b out eq ls el m vl' ds k):=by unfold Qk;kernel_rfl!
theorem Hc(P:Params)(b1:Bool)(n t fr av C I acc lv:Nat)(T:aF)(i:Nat)(out:List Value)(eq:Nat)(ls:List Value)(el:Nat):Qk 200 λr=>fT λb2=>r ( ap P b1 b2 (xm P fr av C I acc 0) (qW P C I acc av lv T i 0 out eq ls el) n t
 (.hook [2] 0 (i5 I i [1]) λρ=> .fin [7] (.ok .next) [0,1,2,3,4] (qW P C I acc av lv T i 0 out eq ls el))):=by unfold Qk;kernel_rfl!
theorem Hd(P:Params)(n t fr av C I acc lv:Nat)(b:Nat)(ls:List Value)(el:Nat):Qk 200 λr=>ay λb1 b2=>r ( ap P b1 b2 (rq P fr av C I acc 0) (qW P C I acc av lv [] 0 b [] 0 ls el) n t
 (.again (match b1 with|true=>[]|false=>[2,2,0,2,2]) (xm P fr av C I acc 0) [0,1,2,3,4] (qW P C I acc av lv [] 0 b [] 0 ls el))):=by unfold Qk;kernel_rfl!
theorem tV(P):lN (nD P):=oz (by kernel_rfl!)
theorem v4(P):eN (xk (nD P) 1)=true:=by kernel_rfl!
noncomputable def kv(lvs:List dU)(p:Nat)(d:Nat):Bool:=match lvs[d]? with
 |some q=>decide ((p:Int)∈q.ns)
 |none=>false
noncomputable def ki(lvs:List dU)(p:Nat):List Nat:=(List.range lvs.length).filter (kv lvs p)
noncomputable def kH(lvs:List dU)(m:Nat):Nat:=match lvs[m]? with
 |some q=>q.a
 |none=>0
theorem pw{lvs:List dU}{m:Nat}(h:m<lvs.length):(dT lvs)[m]?=some (.ref (kH lvs m)):=by
 simp[dT,kH,h]
theorem pv(lvs:List dU):(dT lvs).length=lvs.length:=by simp[dT]
theorem zl{V:Gw}(G:au V){fr av C Zz it lv acc kp p pt kd kl el eq m k:Nat}{first:Bool}{vd vl vl':Value}{lvs:List dU}{out:List Value}{F:KL}(hlv:∀q∈lvs,aI q.vs q.ns∧q.k∈F)(hne:lvs≠[])(hm:m=lvs.length-1)(hvl:vl'= .ref (kH lvs (lvs.length-1)))(hk:k=(ki lvs p).length)
  (hsm:out.length+lvs.length≤900) {js:List Nat}:aQ V 2 (xP V.w.params fr av C Zz it lv acc kp p pt first kd kl vd vl (dT lvs) el out eq m vl' (λρ=>bF (ki lvs p) (λi=>ρ (i+5))) k js) F (λO=>True) (λO=>[]):=by
 subst hm hvl hk
 intro A s hA hs hf
 refine aR G hf (bb (Hg V.w.params s.heap.objs.size s.toks fr av C Zz it lv acc kp p pt kd kl vd vl (dT lvs) el out eq) first (aC V) (aB V)) hA hs (ax rfl λs1 hs1 hf1=>⟨rfl,?_⟩)
 have h0:0<lvs.length:=List.length_pos_iff.mpr hne
 let vm:Nat→Nat→Value:=λm pu=>if m=0 then vd else .int (m-1:Nat) pu
 let wm:Nat→Value:=λm=>if m=0 then vl else .ref (kH lvs (m-1))
 have main:=oB (V:=V) G (S:=(Nat×Nat×Nat)×List (Nat×Nat)) (code:=xm V.w.params fr av C Zz acc 1) (tgt:=xk (nD V.w.params) 1) (body:=λv=>gN (xk (nD V.w.params) 1) (mD V.w.params fr av C) v (oX (nD V.w.params) 1) (bx (nD V.w.params)) (.ref acc))
  (Zz:=Zz) (it:=it) (l:=lv) (ep:=el) (L:=2) (n0:=0) (vs:=dT lvs) (WR:=[C,acc]) (F:=F) (λA s R h=>oC (tV _) h) (v4 _) (by decide)
  (λm σ=>rb V.w.params C acc kp p pt (kz (first&&(m==0)) σ.1.1 σ.1.2.1 (vm m σ.1.2.2) (wm m)) (out++dr σ.2) (eq+σ.2.length))
  (λm σ=>σ.2.map (·.1)=(List.range m).filter (kv lvs p)) (λO O=>rfl) ?_ ((kd,kl,0),[]) A s1 rfl hA (Nat.zero_le _) ?_ ?_
 ·refine codeAny_mono main ?_
  rintro r s'' ⟨hr,σ,hI,hE,_⟩
  have E:=hs1.trans hE (λb hb=> .inl hb)
  rw[pv] at E hI
  have hI:σ.2.map (·.1)=ki lvs p:=hI
  have hl:σ.2.length=(ki lvs p).length:=by rw[←hI,List.length_map]
  rw[lI,hI,hl] at E
  have e1:(first&&(lvs.length==0))=false:=by
   have:(lvs.length==0)=false:=by simp only[beq_eq_false_iff_ne];lia
   rw[this,Bool.and_false]
  have e2:vm lvs.length σ.1.2.2= .int (lvs.length-1:Nat) σ.1.2.2:=if_neg (by lia)
  have e3:wm lvs.length= .ref (kH lvs (lvs.length-1)):=if_neg (by lia)
  have e4:fc (dT lvs) lvs.length= .ref (kH lvs (lvs.length-1)):=by
   obtain⟨n,hn⟩:∃n,lvs.length=n+1:=⟨lvs.length-1,by lia⟩
   rw[hn]
   show(dT lvs).getD n .none=_
   rw[List.getD_eq_getElem?_getD,pw (by lia)]
   rfl
  have e5:lvs.length=(lvs.length-1)+1:=by lia
  rw[e1,e2,e3,e4] at E
  have E2:am V ([Zz,it,lv]++[C,acc]) s (gP Zz it lv .none (.ref (kH lvs (lvs.length-1))) (lvs.length-1+1) (dT lvs) el++rb V.w.params C acc kp p pt (xt σ.1.1 σ.1.2.1 (.int (lvs.length-1:Nat) σ.1.2.2) (.ref (kH lvs (lvs.length-1)))) (out++bF (ki lvs p) λi=>(σ.2.getD i (0,0)).2) (eq+(ki lvs p).length)) s'':=by
   rw[←e5];exact E
  exact⟨a7 _ _ (λk=>match k with|0=>σ.1.1|1=>σ.1.2.1|2=>σ.1.2.2|k+3=>(σ.2.getD k (0,0)).2),hr,aW (H:=xP V.w.params fr av C Zz it lv acc kp p pt first kd kl vd vl (dT lvs) el out eq (lvs.length-1) (.ref (kH lvs (lvs.length-1))) (λρ=>bF (ki lvs p) (λi=>ρ (i+5))) (ki lvs p).length js) E2 _ rfl rfl (λO hp=>nomatch hp),trivial,λO h=>nomatch h⟩
 ·intro m σ x Tt pu A s Q hx hI hA _ hs hF k
  have hm:m<lvs.length:=by
   rw[←pv lvs]
   exact(List.getElem?_eq_some_iff.mp hx).1
  have hq:lvs[m]?=some lvs[m]:=List.getElem?_eq_getElem hm
  have hla:kH lvs m=lvs[m].a:=by unfold kH;rw[hq]
  have hx':x= .ref lvs[m].a:=by
   rw[pw hm,hla] at hx
   exact(Option.some.inj hx).symm
  subst hx'
  obtain⟨hiv,hmem⟩:=hlv lvs[m] (List.getElem_mem hm)
  have hT:=hs.thaw hF (R:=[lvs[m].k]) (λp hp=>by rw[List.mem_singleton.mp hp];exact hmem) (by simp)
  have hl:σ.2.length≤m:=by
   rw[←List.length_map (f:=(·.1)),hI]
   exact Nat.le_trans (List.length_filter_le _ _) (by rw[List.length_range];exact Nat.le_refl _)
  have hin:kv lvs p m=decide ((p:Int)∈lvs[m].ns):=by unfold kv;rw[hq]
  have hrg:(List.range (m+1)).filter (kv lvs p)=(List.range m).filter (kv lvs p)++(if kv lvs p m then [m] else []):=by
   rw[List.range_succ,List.filter_append]
   congr 1
   simp only[List.filter_cons,List.filter_nil]
  have e1:(first&&(m+1==0))=false:=by cases first<;>rfl
  have fin:∀(κ κ':Nat) (st:List (Nat×Nat)) (o:List Value) (ec:Nat) (s':Shared),st.map (·.1)=(List.range (m+1)).filter (kv lvs p)→o=out++dr st→ec=eq+st.length→
    am V ((rb V.w.params C acc kp p pt (kz (first&&(m==0)) σ.1.1 σ.1.2.1 (vm m σ.1.2.2) (wm m)) (out++dr σ.2) (eq+σ.2.length)++[(Tt,al [.int m pu,.ref lvs[m].a])]++[lvs[m].k]).map (·.1)) s
     (rb V.w.params C acc kp p pt (xt κ κ' (.int m pu) (.ref lvs[m].a)) o ec++[lvs[m].k]) s'→Q s':=by
   intro κ κ' st o ec s' h1 h2 h3 hE
   subst h2 h3
   have E:=hE.freeze hT
   refine k ((κ,κ',pu),st) s' h1 ?_
   show am V _ s (rb V.w.params C acc kp p pt (kz (first&&(m+1==0)) κ κ' (.int m pu) (.ref (kH lvs m))) _ _) s'
   rw[e1,hla]
   exact E
  cases hb:kv lvs p m with
  |true=>
   refine aq G Fz.nil (bb (He V.w.params s.heap.objs.size s.toks fr av C acc Tt kp p pt σ.1.1 σ.1.2.1 (vm m σ.1.2.2) (wm m) m pu lvs[m].a lvs[m].vs lvs[m].e (out++dr σ.2) (eq+σ.2.length)) (first&&(m==0)) (aC V) (aB V)) hA hT ?_
   refine ae (fG (L:=0) hiv (by rw[←hin,hb])) rfl rfl rfl λρ' O O=>ae (aM (L:=0) (by show _≤1000;simp[dr];lia)) rfl rfl rfl λρ2 O O=>aO rfl λs' hs'=>⟨rfl,?_⟩
   exact fin _ _ (σ.2++[(m,pu)]) _ _ s' (by rw[List.map_append,hI,hrg,hb];rfl) (by simp[dr]) (by simp[Nat.add_assoc]) hs'
  |false=>
   refine aq G Fz.nil (bb (Hf V.w.params s.heap.objs.size s.toks fr av C acc Tt kp p pt σ.1.1 σ.1.2.1 (vm m σ.1.2.2) (wm m) m pu lvs[m].a lvs[m].vs lvs[m].e (out++dr σ.2) (eq+σ.2.length)) (first&&(m==0)) (aC V) (aB V)) hA hT ?_
   refine ae (fG (L:=0) hiv (by rw[←hin,hb])) rfl rfl rfl λρ' O O=>aO rfl λs' hs'=>⟨rfl,?_⟩
   exact fin _ _ σ.2 _ _ s' (by rw[hI,hrg,hb];simp) rfl rfl hs'
 ·have e1:(first&&(0==0))=first:=by cases first<;>rfl
  show At V (eH Zz it lv .none .none 0 (dT lvs) el++rb V.w.params C acc kp p pt (kz (first&&(0==0)) kd kl vd vl) (out++[]) eq) s1
  rw[e1,List.append_nil]
  exact hs1.at'
 ·have e1:(first&&(0==0))=first:=by cases first<;>rfl
  show Fz V F (eH Zz it lv .none .none 0 (dT lvs) el++rb V.w.params C acc kp p pt (kz (first&&(0==0)) kd kl vd vl) (out++[]) eq) s1
  rw[e1,List.append_nil]
  exact hf1
noncomputable def kj(lvs:List dU)(n:Nat):List Nat:=(List.range n).flatMap (ki lvs)
theorem nf(lvs:List dU)(n:Nat):kj lvs (n+1)=kj lvs n++ki lvs n:=by
 unfold kj
 rw[List.range_succ,List.flatMap_append]
 simp
theorem v7(lvs:List dU)(p:Nat):(ki lvs p).length≤lvs.length:=Nat.le_trans (List.length_filter_le _ _) (by rw[List.length_range];exact Nat.le_refl _)
theorem pO(lvs:List dU):∀n,(kj lvs n).length≤n*lvs.length
 |0=>by simp[kj]
 |n+1=>by
  have h1:=pO lvs n
  have h2:=v7 lvs n
  rw[nf,List.length_append,Nat.succ_mul];lia
noncomputable def Ig(P:Params)(fr av C I acc lv el n:Nat)(lvs:List dU)(js:List Nat):aD:=
 ⟨rq P fr av C I acc 0,js,qW P C I acc av lv [] 0 n [] 0 (dT lvs) el,λO=> .ok .next,
  λρ=>(qW P C I acc av lv (xq (n==0) (ρ 2) (n-1:Nat) (ρ 3) (ρ 4) (ρ 5) (.int (lvs.length-1:Nat) (ρ 6)) (.ref (kH lvs (lvs.length-1)))) n 0 (bF (kj lvs n) (λi=>ρ (i+7))) (kj lvs n).length (dT lvs) el).map (·.2),λO=>[]⟩
theorem sZ(a b:List (Nat×Nat)):dr (a++b)=dr a++dr b:=by simp[dr]
theorem vh(ns:List Nat)(τ:Nat→Nat):bF ns τ=dr ((List.range ns.length).map λi=>(ns.getD i 0,τ i)):=by simp[bF,dr]
theorem Cf{V:Gw}(G:au V){fr av C I acc lv el n:Nat}{lvs:List dU}{F:KL}(hlv:∀q∈lvs,aI q.vs q.ns∧q.k∈F)(hne:lvs≠[])(hn:n≤20)(hl:lvs.length≤20){js:List Nat}:
  aQ V 3 (Ig V.w.params fr av C I acc lv el n lvs js) F (λO=>True) (λO=>[]):=by
 intro A s hA hs hf
 refine aR G hf (ad (Hd V.w.params s.heap.objs.size s.toks fr av C I acc lv n (dT lvs) el) (aC V) (aB V)) hA hs (ax rfl λs1 hs1 hf1=>⟨rfl,?_⟩)
 have main:=bv (V:=V) (S:=(Nat×Nat×Nat×Nat×Nat)×List (Nat×Nat)) (code:=xm V.w.params fr av C I acc 0) (L:=3) (W:=[C,I,acc,av,lv]) n 0
  (λm σ=>qW V.w.params C I acc av lv (xq (m==0) σ.1.1 (m-1:Nat) σ.1.2.1 σ.1.2.2.1 σ.1.2.2.2.1 (.int (lvs.length-1:Nat) σ.1.2.2.2.2) (.ref (kH lvs (lvs.length-1)))) m (n-m) (dr σ.2) σ.2.length (dT lvs) el) (λO O=>F)
  (λσ=>qW V.w.params C I acc av lv (xq (n==0) σ.1.1 (n-1:Nat) σ.1.2.1 σ.1.2.2.1 σ.1.2.2.2.1 (.int (lvs.length-1:Nat) σ.1.2.2.2.2) (.ref (kH lvs (lvs.length-1)))) n 0 (dr σ.2) σ.2.length (dT lvs) el)
  (λm σ=>σ.2.map (·.1)=kj lvs m) ?_ ?_ n 0 ((0,0,0,0,0),[]) A s1 (Nat.zero_add _) rfl hA (Nat.zero_le _) hs1.at' hf1
 ·refine codeAny_mono main ?_
  rintro r s'' ⟨hr,σ,hI,hE,_⟩
  have E:=hs1.trans hE (λb hb=> .inl hb)
  have hl:σ.2.length=(kj lvs n).length:=by rw[←hI,List.length_map]
  rw[lI,hI,hl] at E
  exact⟨a7 _ _ (λk=>match k with|0=>σ.1.1|1=>σ.1.2.1|2=>σ.1.2.2.1|3=>σ.1.2.2.2.1|4=>σ.1.2.2.2.2|k+5=>(σ.2.getD k (0,0)).2),hr,aW (H:=Ig V.w.params fr av C I acc lv el n lvs js) E _ rfl rfl (λO hp=>nomatch hp),trivial,λO h=>nomatch h⟩
 ·intro m σ A s R hm hI hA _ hs hF k
  have hb:n-m=(n-(m+1))+1:=CQ hm
  have hlen:σ.2.length≤400:=by
   rw[←List.length_map (f:=(·.1)),hI]
   have h1:=pO lvs m
   have h2:m*lvs.length≤20*20:=Nat.mul_le_mul (by lia) hl
   lia
  rw[hb] at hs hF
  refine aR G hF (ad (Hb V.w.params (aC V) s.heap.objs.size s.toks fr av C I acc lv σ.1.1 (m-1:Nat) σ.1.2.1 σ.1.2.2.1 σ.1.2.2.2.1 (lvs.length-1:Nat) σ.1.2.2.2.2 (kH lvs (lvs.length-1)) m (n-(m+1)) (dr σ.2) σ.2.length (dT lvs) el (lvs.length-1) (kH lvs (lvs.length-1)) (λρ=>bF (ki lvs m) (λi=>ρ (i+5))) (ki lvs m).length) (m==0) (aB V)) hA hs ?_
  refine ac (l:=0) dg rfl rfl rfl λρ0 O O=>ac (ik (L:=0)) rfl rfl rfl λρ O O=>aV (l:=2) (zl G hlv hne rfl rfl rfl (by simp[dr];lia)) rfl rfl rfl λρ1 O O=>ax rfl λs' hs' hf'=>⟨rfl,?_⟩
  have e1:dr σ.2++bF (ki lvs m) (λi=>ρ1 (i+5))=dr (σ.2++(List.range (ki lvs m).length).map λi=>((ki lvs m).getD i 0,ρ1 (i+5))):=by rw[sZ,vh]
  have e2:σ.2.length+(ki lvs m).length=(σ.2++(List.range (ki lvs m).length).map λi=>((ki lvs m).getD i 0,ρ1 (i+5))).length:=by simp
  have hs':=hs'
  have hf':=hf'
  rw[e1,e2] at hs' hf'
  refine k ((ao (m==0) σ.1.1 (ρ0 1),ρ0 2,ρ1 2,ρ1 3,ρ1 4),_) s' ?_ hs' hf'
  rw[List.map_append,hI,nf,List.map_map]
  congr 1
  refine List.ext_getElem? λi=> ?_
  by_cases h:i<(ki lvs m).length
  ·simp[h,List.getD_eq_getElem?_getD]
  ·simp[h]
 ·intro σ A s R hI hA hs hF k
  rw[Nat.sub_self] at hs hF
  refine aR G hF (a6 (Hc V.w.params (aC V) s.heap.objs.size s.toks fr av C I acc lv (xq (n==0) σ.1.1 (n-1:Nat) σ.1.2.1 σ.1.2.2.1 σ.1.2.2.2.1 (.int (lvs.length-1:Nat) σ.1.2.2.2.2) (.ref (kH lvs (lvs.length-1)))) n (dr σ.2) σ.2.length (dT lvs) el) (aB V)) hA hs ?_
  exact ac (ii (L:=0)) rfl rfl rfl λρ O O=>an rfl λs' hs' hf'=>k s' hs' hf'
noncomputable def x3:Array Nat:=#[112,97,105,114,115]
noncomputable def nS:Array Nat:=#[108,97,116,101,114]
noncomputable def uZ:Array Nat:=#[100,101,112,116,104,115]
noncomputable def Ju(P:Params):List Stmt:=eQ (aA (aU P 213)) 2
noncomputable def Ae(P:Params)(fr av I:Addr):Code:=d7 (aA (aU P 213)) 2 (.ref I) (rK P fr av)
noncomputable def ue(P:Params)(fr av I:Addr):Code:=d7 (Ju P) 0 (.ref I) (rK P fr av)
noncomputable def Ic(P:Params)(k0 k1 k2 l dl:Nat)(pr:Int)(pt:Nat)(T:aF):Obj:=cY P ([(gh,k0,.ref l),(uZ,k1,.ref dl),(x3,k2,.int pr pt)]++T)
noncomputable def me(P:Params)(fr I l dl:Addr)(k0 k1 k2:Nat)(pr:Int)(pt:Nat)(k3 j jt:Nat)(T:aF)(i b:Nat)(ls:List Value)(el:Nat)(dvs:List Value)(ed:Nat):KL:=
 [(fr,Ic P k0 k1 k2 l dl pr pt ([(nS,k3,.int j jt)]++T)),(I,fW i b 1),(l,aa ls el),(dl,aa dvs ed)]
noncomputable def uE(P:Params)(x y:WS)(β:Bool)(js:List Nat):aD:=iw (.call (.ref 141) ⟨[.ref x.self,.ref y.self],[]⟩) js (x.K P++y.K P) λO=> .bool β
noncomputable def Ev(P:Params)(b1 b2:Bool)(n t fr av I l dl k0 k1 k2:Nat)(pr:Int)(pt k3 j jt:Nat)(first:Bool)(k4:Nat)(va:Int)(vat i b:Nat)(ls:List Value)(el:Nat)(dvs:List Value)(ed:Nat)(x y:WS):bu:=
 ap P b1 b2 (ue P fr av I) (me P fr I l dl k0 k1 k2 pr pt k3 j jt (bk first bT k4 (.int va vat)) i (b+1) ls el dvs ed++x.K P++y.K P) n t
 (.hook [2] 0 (dC I i b [1]) λρ0=> .hook [1,1,1,1,3,3,3] 0 (bS l ls el i (ρ0 2) (.ref x.self) [2]) λρ1=> .hook [5,0,0,0,5,0,0,0,5,0,0,0,0,5,6,1,1,3,3,3] 0 (bS l ls el j jt (.ref y.self) [2]) λρ2=> .hook [0] 0 (uE P x y true [4,5,6,7,8,9,10,11]) λρ3=>
  .again [1,0,1,1] (ue P fr av I) [0,1,2,3,4,5,6,7,8,9,10,11] (me P fr I l dl k0 k1 k2 (pr+1) (ρ3 1+1) k3 j jt [(bT,ao first k4 (ρ0 1),.int i (ρ0 2))] (i+1) b ls el dvs ed++x.K P++y.K P))
noncomputable def Eu(P:Params)(b1 b2:Bool)(n t fr av I l dl k0 k1 k2:Nat)(pr:Int)(pt k3 j jt:Nat)(first:Bool)(k4:Nat)(va:Int)(vat i b:Nat)(ls:List Value)(el:Nat)(dvs:List Value)(ed:Nat)(x y:WS)(di dit dj djt:Nat):bu:=
 ap P b1 b2 (ue P fr av I) (me P fr I l dl k0 k1 k2 pr pt k3 j jt (bk first bT k4 (.int va vat)) i (b+1) ls el dvs ed++x.K P++y.K P) n t
 (.hook [2] 0 (dC I i b [1]) λρ0=> .hook [1,1,1,1,3,3,3] 0 (bS l ls el i (ρ0 2) (.ref x.self) [2]) λρ1=> .hook [5,0,0,0,5,0,0,0,5,0,0,0,0,5,6,1,1,3,3,3] 0 (bS l ls el j jt (.ref y.self) [2]) λρ2=> .hook [0] 0 (uE P x y false [4,5,6,7,8,9,10,11]) λρ3=>
  .hook [1,1,4,4,4] 0 (bS dl dvs ed i (ρ0 2) (.int di dit) [3]) λρ4=> .hook [1,1,4,4,4] 0 (bS dl dvs ed j jt (.int dj djt) [3]) λρ5=> .hook [0] 0 {pV di ((dj:Int)+1) dit (ρ5 1+1) true with js:=[]} λρ6=>
  .again [1,0,1,1] (ue P fr av I) [0,1,2,3,4,5,6,7,8,9,10,11] (me P fr I l dl k0 k1 k2 (pr+1) (ρ6 1+1) k3 j jt [(bT,ao first k4 (ρ0 1),.int i (ρ0 2))] (i+1) b ls el dvs ed++x.K P++y.K P))
noncomputable def Ew(P:Params)(b1 b2:Bool)(n t fr av I l dl k0 k1 k2:Nat)(pr:Int)(pt k3 j jt:Nat)(first:Bool)(k4:Nat)(va:Int)(vat i b:Nat)(ls:List Value)(el:Nat)(dvs:List Value)(ed:Nat)(x y:WS)(di dit dj djt:Nat):bu:=
 ap P b1 b2 (ue P fr av I) (me P fr I l dl k0 k1 k2 pr pt k3 j jt (bk first bT k4 (.int va vat)) i (b+1) ls el dvs ed++x.K P++y.K P) n t
 (.hook [2] 0 (dC I i b [1]) λρ0=> .hook [1,1,1,1,3,3,3] 0 (bS l ls el i (ρ0 2) (.ref x.self) [2]) λρ1=> .hook [5,0,0,0,5,0,0,0,5,0,0,0,0,5,6,1,1,3,3,3] 0 (bS l ls el j jt (.ref y.self) [2]) λρ2=> .hook [0] 0 (uE P x y false [4,5,6,7,8,9,10,11]) λρ3=>
  .hook [1,1,4,4,4] 0 (bS dl dvs ed i (ρ0 2) (.int di dit) [3]) λρ4=> .hook [1,1,4,4,4] 0 (bS dl dvs ed j jt (.int dj djt) [3]) λρ5=> .hook [0] 0 {pV di ((dj:Int)+1) dit (ρ5 1+1) false with js:=[]} λρ6=>
  .again [] (ue P fr av I) [0,1,2,3,4,5,6,7,8,9,10,11] (me P fr I l dl k0 k1 k2 pr pt k3 j jt [(bT,ao first k4 (ρ0 1),.int i (ρ0 2))] (i+1) b ls el dvs ed++x.K P++y.K P))
theorem Gb(P b1 n t fr av I l dl k0 k1 k2 pr pt k3 j jt k4 va vat i b ls el dvs ed x y):Qk 300 λr=>ay λfirst b2=>r (Ev P b1 b2 n t fr av I l dl k0 k1 k2 pr pt k3 j jt first k4 va vat i b ls el dvs ed x y):=by unfold Qk;kernel_rfl!
theorem Ga(P b1 n t fr av I l dl k0 k1 k2 pr pt k3 j jt k4 va vat i b ls el dvs ed x y di dit dj djt):Qk 300 λr=>ay λfirst b2=>r (Eu P b1 b2 n t fr av I l dl k0 k1 k2 pr pt k3 j jt first k4 va vat i b ls el dvs ed x y di dit dj djt):=by unfold Qk;kernel_rfl!
theorem Gc(P b1 n t fr av I l dl k0 k1 k2 pr pt k3 j jt k4 va vat i b ls el dvs ed x y di dit dj djt):Qk 300 λr=>ay λfirst b2=>r (Ew P b1 b2 n t fr av I l dl k0 k1 k2 pr pt k3 j jt first k4 va vat i b ls el dvs ed x y di dit dj djt):=by unfold Qk;kernel_rfl!
theorem Gd(P:Params)(b1:Bool)(n t fr av I l dl k0 k1 k2:Nat)(pr:Int)(pt k3 j jt:Nat)(T:aF)(i:Nat)(ls:List Value)(el:Nat)(dvs:List Value)(ed:Nat):Qk 200 λr=>fT λb2=>r ( ap P b1 b2 (ue P fr av I) (me P fr I l dl k0 k1 k2 pr pt k3 j jt T i 0 ls el dvs ed) n t
 (.hook [2] 0 (i5 I i [1]) λρ=> .fin [6] (.ok .next) [0,1,2,3] (me P fr I l dl k0 k1 k2 pr pt k3 j jt T i 0 ls el dvs ed))):=by unfold Qk;kernel_rfl!
noncomputable def CT(P:Params)(fr av I l dl k0 k1 k2:Nat)(pr:Int)(pt k3 j jt:Nat)(first:Bool)(k4:Nat)(va:Int)(vat:Nat)(ls:List Value)(el:Nat)(dvs:List Value)(ed:Nat)(c:Int)(first':Bool)(va':Int)(js:List Nat):aD:=
 ⟨ue P fr av I,js,me P fr I l dl k0 k1 k2 pr pt k3 j jt (bk first bT k4 (.int va vat)) 0 j ls el dvs ed,λO=> .ok .next,
  λρ=>(me P fr I l dl k0 k1 k2 (pr+c) (ρ 2) k3 j jt (bk first' bT (ρ 3) (.int va' (ρ 4))) j 0 ls el dvs ed).map (·.2),λO=>[]⟩
noncomputable def wv(j k3 jt k4 vat:Nat):aF:=match j with
 |0=>[]
 |1=>[(nS,k3,.int 0 jt)]
 |j+2=>[(nS,k3,.int (j+1:Nat) jt),(bT,k4,.int j vat)]
noncomputable def wi(P:Params)(fr I l dl:Addr)(k0 k1 k2:Nat)(pr:Int)(pt:Nat)(T:aF)(i b:Nat)(ls:List Value)(el:Nat)(dvs:List Value)(ed:Nat):KL:=
 [(fr,Ic P k0 k1 k2 l dl pr pt T),(I,fW i b 1),(l,aa ls el),(dl,aa dvs ed)]
noncomputable def Et(P:Params)(b1 b2:Bool)(n t fr av I l dl k0 k1 k2:Nat)(pr:Int)(pt k3 jt k4 vat j b:Nat)(ls:List Value)(el:Nat)(dvs:List Value)(ed:Nat)(c:Int):bu:=
 ap P b1 b2 (Ae P fr av I) (wi P fr I l dl k0 k1 k2 pr pt (wv j k3 jt k4 vat) j (b+1) ls el dvs ed) n t
 (.hook [2] 0 (dC I j b [1]) λρ0=> .hook [1,1,0,0,1,0,0,5,5,0,5,5,5,5,0,5,5,5,5,6] 2 (CT P fr av (ρ0 0+1) l dl k0 k1 k2 pr pt (ao (j==0) k3 (ρ0 1)) j (ρ0 2) (Nat.ble j 1) k4 (j-2:Nat) vat ls el dvs ed c (j==0) (j-1:Nat) [0,5,2,3]) λρ1=>
  .again [] (Ae P fr av I) [0,1,2,3] (wi P fr I l dl k0 k1 k2 (pr+c) (ρ1 2) (wv (j+1) (ao (j==0) k3 (ρ0 1)) (ρ0 2) (ρ1 3) (ρ1 4)) (j+1) b ls el dvs ed))
theorem FY(P b1 n t fr av I l dl k0 k1 k2 pr pt k3 jt k4 vat b ls el dvs ed c):Qk 300 λr=>([0,1,2,3,4,5]:List (Nat)).map λp=>fT λb2=>r (Et P b1 b2 n t fr av I l dl k0 k1 k2 pr pt k3 jt k4 vat p b ls el dvs ed c):=by unfold Qk;kernel_rfl!
theorem FZ(P:Params)(b1:Bool)(n t fr av I l dl k0 k1 k2:Nat)(pr:Int)(pt:Nat)(T:aF)(j:Nat)(ls:List Value)(el:Nat)(dvs:List Value)(ed:Nat):Qk 200 λr=>fT λb2=>r ( ap P b1 b2 (Ae P fr av I) (wi P fr I l dl k0 k1 k2 pr pt T j 0 ls el dvs ed) n t
 (.hook [2] 0 (i5 I j [1]) λρ=> .fin [6] (.ok .next) [0,1,2,3] (wi P fr I l dl k0 k1 k2 pr pt T j 0 ls el dvs ed))):=by unfold Qk;kernel_rfl!
noncomputable def Dj(P:Params)(fr av I l dl k0 k1 k2 pt:Nat)(ls:List Value)(el:Nat)(dvs:List Value)(ed:Nat)(c:Int)(T:br→aF)(js:List Nat):aD:=
 ⟨Ae P fr av I,js,wi P fr I l dl k0 k1 k2 0 pt [] 0 6 ls el dvs ed,λO=> .ok .next,λρ=>(wi P fr I l dl k0 k1 k2 c (ρ 2) (T ρ) 6 0 ls el dvs ed).map (·.2),λO=>[]⟩
noncomputable def Ie(P:Params)(fr av C I acc lv el n:Nat)(ls:List Value)(a':Int)(q:Nat)(ds:br→List Value)(k:Nat)(js:List Nat):aD:=
 ⟨rq P fr av C I acc 0,js,qW P C I acc av lv [] 0 n [] 0 ls el,λO=> .ok .next,
  λρ=>(qW P C I acc av lv (xq false (ρ 2) (n-1:Nat) (ρ 3) (ρ 4) (ρ 5) (.int a' (ρ 6)) (.ref q)) n 0 (ds ρ) k ls el).map (·.2),λO=>[]⟩
theorem FW(P:Params)(n t l lv:Nat)(ls:List Value)(el:Nat)(lvs:List Value)(elv:Nat):Qk 100 λr=>ay λb1 b2=>r (bK P b1 b2 213 [.ref l,.ref lv] [(l,aa ls el),(lv,aa lvs elv)] n t [0,3,3,4,4] n [(nm ci,n+1)] [2,3,0,1] [(n,cY P [(gh,t,.ref l)]),(n+1,cm (.ref lv)),(l,aa ls el),(lv,aa lvs elv)]):=by unfold Qk;kernel_rfl!
theorem FX(P:Params)(n n' t t' l lv:Nat)(wf:Nat→WS)(el:Nat)(lvs:List Value)(elv:Nat)(a':Int)(q:Nat)(ds:br→List Value)(k:Nat)(c:Int)(T:br→aF):Qk 400 λr=>ay λb1 b2=>r ( ap P b1 b2 (cc P 213 n [(nm ci,n+1)]) [(n,cY P [(gh,t,.ref l)]),(n+1,cm (.ref lv)),(l,aa (ag ((List.range 6).map wf)) el),(lv,aa lvs elv)] n' t'
 (.hook [0,0,0,0,1,0,3,0,3,3,0,0,5,5,0,5,5,5,5,0,5,5,5,5,6] 4 (Ie P n (n+1) (n'+3) (n'+1) (n'+2) lv elv 6 lvs a' q ds k [7,5,6,1,3]) λρ=> .hook [1,1,8,8,8,8,8,8,8,8,8,1,1,0,0,0,0,1,0,3,0,3,3,0,0,9,9,0,9,9,9,9,0,9,9,9,9,10] 2 (Dj P n (n+1) (ρ 0+1) l (n'+2) t (ρ 1) (ρ 1+2) (ρ 1+1) (ag ((List.range 6).map wf)) el (ds ρ) k c T [0,9,2,6]) λρ1=>
  .fin [1] (.ok (.ret (.int c (ρ1 2)))) [2,3] [(l,aa (ag ((List.range 6).map wf)) el),(lv,aa lvs elv)])):=by unfold Qk;kernel_rfl!
theorem Cs(P):d4 P 213=true:=by kernel_rfl!
noncomputable def xe(wf:Nat→WS)(ds:List Nat)(i j:Nat):Bool:=ky (wf i) (wf j)||decide (ds.getD i 0=ds.getD j 0+1)
noncomputable def i9(wf:Nat→WS)(ds:List Nat)(j m:Nat):Int:=(((List.range m).filter λi=>xe wf ds i j).length:Nat)
theorem jQ(wf:Nat→WS)(ds:List Nat)(j m:Nat):i9 wf ds j (m+1)=i9 wf ds j m+if xe wf ds m j then 1 else 0:=by
 unfold i9
 rw[List.range_succ,List.filter_append,List.length_append]
 simp only[List.filter_cons,List.filter_nil]
 cases xe wf ds m j<;>simp
noncomputable def oF(wf:Nat→WS)(ds:List Nat):Nat→Int
 |0=>0
 |j+1=>oF wf ds j+i9 wf ds j j
theorem iG(wf:Nat→WS){i:Nat}(h:i<6):(ag ((List.range 6).map wf))[((i:Nat):Int).toNat]?=some (.ref (wf i).self):=by
 rw[Int.toNat_natCast]
 simp[ag,h]
theorem B5{V:Gw}(G:au V){fr av I l dl k0 k1 k2 pt k3 j jt k4 vat el ed:Nat}{pr va va' c:Int}{first first':Bool}{wf:Nat→WS}{ds:List Nat}{τ:Nat→Nat}{F:KL}(hL:cg ((List.range 6).map wf))(hFw:∀p∈cy V.w.params ((List.range 6).map wf),p∈F)(hds:ds.length=6)(hj:j<6)
  (hc:c=i9 wf ds j j) (hf':first'=(first&&(j==0))) (hva:va'=if j=0 then va else(j-1:Nat)) {js:List Nat}:
  aQ V 4 (CT V.w.params fr av I l dl k0 k1 k2 pr pt k3 j jt first k4 va vat (ag ((List.range 6).map wf)) el (bF ds τ) ed c first' va' js) F (λO=>True) (λO=>[]):=by
 subst hc hf' hva
 intro A s hA hs hf
 let vm:Nat→Int:=λm=>if m=0 then va else(m-1:Nat)
 have main:=bv (V:=V) (S:=Nat×Nat×Nat) (code:=ue V.w.params fr av I) (L:=4) (W:=[fr,I,l,dl]) j 0
  (λm σ=>me V.w.params fr I l dl k0 k1 k2 (pr+i9 wf ds j m) σ.1 k3 j jt (bk (first&&(m==0)) bT σ.2.1 (.int (vm m) σ.2.2)) m (j-m) (ag ((List.range 6).map wf)) el (bF ds τ) ed) (λO O=>F)
  (λσ=>me V.w.params fr I l dl k0 k1 k2 (pr+i9 wf ds j j) σ.1 k3 j jt (bk (first&&(j==0)) bT σ.2.1 (.int (vm j) σ.2.2)) j 0 (ag ((List.range 6).map wf)) el (bF ds τ) ed) (λO O=>True) ?_ ?_ j 0 (pt,k4,vat) A s (Nat.zero_add _) trivial hA (Nat.zero_le _) ?_ ?_
 ·refine codeAny_mono main ?_
  rintro r s'' ⟨hr,σ,_,hE,_⟩
  exact⟨a7 _ _ (λk=>match k with|0=>σ.1|1=>σ.2.1|_=>σ.2.2),hr,aW (H:=CT V.w.params fr av I l dl k0 k1 k2 pr pt k3 j jt first k4 va vat (ag ((List.range 6).map wf)) el (bF ds τ) ed (i9 wf ds j j) (first&&(j==0)) (vm j) js) hE _ rfl rfl (λO hp=>nomatch hp),trivial,λO h=>nomatch h⟩
 ·intro m σ A s R hm _ hA _ hs hF k
  have hb:j-m=(j-(m+1))+1:=CQ hm
  rw[hb] at hs hF
  have hmx:wf m∈(List.range 6).map wf:=List.mem_map_of_mem (List.mem_range.mpr (by lia))
  have hjx:wf j∈(List.range 6).map wf:=List.mem_map_of_mem (List.mem_range.mpr hj)
  have hself:(wf m).self≠(wf j).self:=by
   intro e
   have hn:=hL.nodup
   have:∀n,∀(f:Nat→WS),(((List.range n).map f).flatMap cG).Nodup→∀a b,a<b→b<n→(f a).self≠(f b).self:=by
    intro n f hn a b hab hbn he
    have hs:=List.take_append_drop b (List.range n)
    rw[←hs,List.map_append,List.flatMap_append,List.nodup_append] at hn
    refine hn.2.2 (f a).self (List.mem_flatMap.mpr ⟨f a,List.mem_map_of_mem ?_,by simp[cG]⟩) (f b).self (List.mem_flatMap.mpr ⟨f b,List.mem_map_of_mem ?_,by simp[cG]⟩) he
    ·rw[List.take_range];exact List.mem_range.mpr (by lia)
    ·rw[List.mem_drop_iff_getElem]
     exact⟨0,by simp;lia,by simp⟩
   exact this 6 wf hn m j hm hj e
  have hpair:=hL.pair hmx hjx hself
  have hT:=hs.thaw hF (R:=(wf m).K V.w.params++(wf j).K V.w.params) (λp hp=>by
   rcases List.mem_append.mp hp with hp|hp
   ·exact hFw p (fk hmx p hp)
   ·exact hFw p (fk hjx p hp)) (by rw[List.map_append,WS.K_fst,WS.K_fst];exact hpair)
  have hd1:(bF ds τ)[((m:Nat):Int).toNat]?=some (.int (ds.getD m 0:Nat) (τ m)):=by rw[Int.toNat_natCast];exact jS _ _ (by lia)
  have hd2:(bF ds τ)[((j:Nat):Int).toNat]?=some (.int (ds.getD j 0:Nat) (τ j)):=by rw[Int.toNat_natCast];exact jS _ _ (by lia)
  have hsw:aw (ag ((List.range 6).map wf)).length:=by show _≤1000;simp[ag]
  have hsd:aw (bF ds τ).length:=by show _≤1000;rw[fj,hds];decide
  have fin:∀(pr':Int) (pt' κ vt:Nat) (s':Shared),pr'=pr+i9 wf ds j (m+1)→
    am V ((me V.w.params fr I l dl k0 k1 k2 (pr+i9 wf ds j m) σ.1 k3 j jt (bk (first&&(m==0)) bT σ.2.1 (.int (vm m) σ.2.2)) m (j-(m+1)+1) (ag ((List.range 6).map wf)) el (bF ds τ) ed++((wf m).K V.w.params++(wf j).K V.w.params)).map (·.1)) s
     (me V.w.params fr I l dl k0 k1 k2 pr' pt' k3 j jt [(bT,κ,.int m vt)] (m+1) (j-(m+1)) (ag ((List.range 6).map wf)) el (bF ds τ) ed++((wf m).K V.w.params++(wf j).K V.w.params)) s'→codeAny (model V.prog V.w) A (ue V.w.params fr av I) R s':=by
   intro pr' pt' κ vt s' h1 hE
   subst h1
   have E:=hE.freeze hT
   have e1:(first&&(m+1==0))=false:=by cases first<;>rfl
   have F2:=hF.after E rfl
   refine k (pt',κ,vt) s' trivial ?_ ?_
   ·show am V _ s (me V.w.params fr I l dl k0 k1 k2 (pr+i9 wf ds j (m+1)) pt' k3 j jt (bk (first&&(m+1==0)) bT κ (.int m vt)) _ _ _ _ _ _) s'
    rw[e1]
    exact E
   ·show Fz V F (me V.w.params fr I l dl k0 k1 k2 (pr+i9 wf ds j (m+1)) pt' k3 j jt (bk (first&&(m+1==0)) bT κ (.int m vt)) _ _ _ _ _ _) s'
    rw[e1]
    exact F2
  rw[←List.append_assoc] at fin hT
  have heq:∀β:Bool,β=ky (wf m) (wf j)→∀js,ai V 3 (uE V.w.params (wf m) (wf j) β js) (λO=>True):=λβ hβ js=>by subst hβ;exact tN G
  cases he:ky (wf m) (wf j) with
  |true=>
   refine aR G Fz.nil (ad (Gb V.w.params (aC V) s.heap.objs.size s.toks fr av I l dl k0 k1 k2 (pr+i9 wf ds j m) σ.1 k3 j jt σ.2.1 (vm m) σ.2.2 m (j-(m+1)) (ag ((List.range 6).map wf)) el (bF ds τ) ed (wf m) (wf j)) (first&&(m==0)) (aB V)) hA hT ?_
   refine ac (l:=0) dg rfl rfl rfl λρ0 O O=>ac (bG (L:=0) (by lia) (iG wf (by lia)) hsw) rfl rfl rfl λρ1 O O=>ac (bG (L:=0) (by lia) (iG wf hj) hsw) rfl rfl rfl λρ2 O O=>ac (l:=3) (heq true he.symm _) rfl rfl rfl λρ3 O O=>ax rfl λs' hs' O=>⟨rfl,?_⟩
   refine fin _ _ _ _ s' ?_ hs'
   rw[jQ,xe,he];simp[Int.add_assoc]
  |false=>
   by_cases hd:ds.getD m 0=ds.getD j 0+1
   ·refine aR G Fz.nil (ad (Ga V.w.params (aC V) s.heap.objs.size s.toks fr av I l dl k0 k1 k2 (pr+i9 wf ds j m) σ.1 k3 j jt σ.2.1 (vm m) σ.2.2 m (j-(m+1)) (ag ((List.range 6).map wf)) el (bF ds τ) ed (wf m) (wf j) (ds.getD m 0) (τ m) (ds.getD j 0) (τ j)) (first&&(m==0)) (aB V)) hA hT ?_
    refine ac (l:=0) dg rfl rfl rfl λρ0 O O=>ac (bG (L:=0) (by lia) (iG wf (by lia)) hsw) rfl rfl rfl λρ1 O O=>ac (bG (L:=0) (by lia) (iG wf hj) hsw) rfl rfl rfl λρ2 O O=>ac (l:=3) (heq false he.symm _) rfl rfl rfl λρ3 O O=>
     ac (bG (L:=0) (by lia) hd1 hsd) rfl rfl rfl λρ4 O O=>ac (bG (L:=0) (by lia) hd2 hsd) rfl rfl rfl λρ5 O O=>ac (l:=0) (ff G true ⟨λO=>by lia,λO=>rfl⟩) rfl rfl rfl λρ6 O O=>ax rfl λs' hs' O=>⟨rfl,?_⟩
    refine fin _ _ _ _ s' ?_ hs'
    rw[jQ,xe,he,decide_eq_true hd];simp[Int.add_assoc]
   ·refine aR G Fz.nil (ad (Gc V.w.params (aC V) s.heap.objs.size s.toks fr av I l dl k0 k1 k2 (pr+i9 wf ds j m) σ.1 k3 j jt σ.2.1 (vm m) σ.2.2 m (j-(m+1)) (ag ((List.range 6).map wf)) el (bF ds τ) ed (wf m) (wf j) (ds.getD m 0) (τ m) (ds.getD j 0) (τ j)) (first&&(m==0)) (aB V)) hA hT ?_
    refine ac (l:=0) dg rfl rfl rfl λρ0 O O=>ac (bG (L:=0) (by lia) (iG wf (by lia)) hsw) rfl rfl rfl λρ1 O O=>ac (bG (L:=0) (by lia) (iG wf hj) hsw) rfl rfl rfl λρ2 O O=>ac (l:=3) (heq false he.symm _) rfl rfl rfl λρ3 O O=>
     ac (bG (L:=0) (by lia) hd1 hsd) rfl rfl rfl λρ4 O O=>ac (bG (L:=0) (by lia) hd2 hsd) rfl rfl rfl λρ5 O O=>ac (l:=0) (ff G false ⟨(λh=>nomatch h),λh=>by lia⟩) rfl rfl rfl λρ6 O O=>ax rfl λs' hs' O=>⟨rfl,?_⟩
    refine fin _ _ _ _ s' ?_ hs'
    rw[jQ,xe,he,decide_eq_false hd];simp
 ·intro σ A s R _ hA hs hF k
  rw[Nat.sub_self] at hs hF
  refine aR G hF (a6 (Gd V.w.params (aC V) s.heap.objs.size s.toks fr av I l dl k0 k1 k2 (pr+i9 wf ds j j) σ.1 k3 j jt (bk (first&&(j==0)) bT σ.2.1 (.int (vm j) σ.2.2)) j (ag ((List.range 6).map wf)) el (bF ds τ) ed) (aB V)) hA hs ?_
  exact ac (ii (L:=0)) rfl rfl rfl λρ O O=>an rfl λs' hs' hf'=>k s' hs' hf'
 ·have e1:(first&&(0==0))=first:=by cases first<;>rfl
  have e2:pr+i9 wf ds j 0=pr:=by simp[i9]
  show At V (me V.w.params fr I l dl k0 k1 k2 (pr+i9 wf ds j 0) pt k3 j jt (bk (first&&(0==0)) bT k4 (.int va vat)) 0 (j-0) _ _ _ _) s
  rw[e1,e2,Nat.sub_zero]
  exact hs
 ·have e1:(first&&(0==0))=first:=by cases first<;>rfl
  have e2:pr+i9 wf ds j 0=pr:=by simp[i9]
  show Fz V F (me V.w.params fr I l dl k0 k1 k2 (pr+i9 wf ds j 0) pt k3 j jt (bk (first&&(0==0)) bT k4 (.int va vat)) 0 (j-0) _ _ _ _) s
  rw[e1,e2,Nat.sub_zero]
  exact hf
theorem B4{V:Gw}(G:au V){fr av I l dl k0 k1 k2 pt el ed:Nat}{wf:Nat→WS}{ds:List Nat}{τ:Nat→Nat}{F:KL}(hL:cg ((List.range 6).map wf))(hFw:∀p∈cy V.w.params ((List.range 6).map wf),p∈F)(hds:ds.length=6){js:List Nat}:
  aQ V 5 (Dj V.w.params fr av I l dl k0 k1 k2 pt (ag ((List.range 6).map wf)) el (bF ds τ) ed (oF wf ds 6) (λρ=>wv 6 (ρ 3) (ρ 4) (ρ 5) (ρ 6)) js) F (λO=>True) (λO=>[]):=by
 intro A s hA hs hf
 have main:=bv (V:=V) (S:=Nat×Nat×Nat×Nat×Nat) (code:=Ae V.w.params fr av I) (L:=5) (W:=[fr,I,l,dl]) 6 0
  (λm σ=>wi V.w.params fr I l dl k0 k1 k2 (oF wf ds m) σ.1 (wv m σ.2.1 σ.2.2.1 σ.2.2.2.1 σ.2.2.2.2) m (6-m) (ag ((List.range 6).map wf)) el (bF ds τ) ed) (λO O=>F)
  (λσ=>wi V.w.params fr I l dl k0 k1 k2 (oF wf ds 6) σ.1 (wv 6 σ.2.1 σ.2.2.1 σ.2.2.2.1 σ.2.2.2.2) 6 0 (ag ((List.range 6).map wf)) el (bF ds τ) ed) (λO O=>True) ?_ ?_ 6 0 (pt,0,0,0,0) A s rfl trivial hA (Nat.zero_le _) hs hf
 ·refine codeAny_mono main ?_
  rintro r s'' ⟨hr,σ,_,hE,_⟩
  exact⟨a7 _ _ (λk=>match k with|0=>σ.1|1=>σ.2.1|2=>σ.2.2.1|3=>σ.2.2.2.1|_=>σ.2.2.2.2),hr,aW (H:=Dj V.w.params fr av I l dl k0 k1 k2 pt (ag ((List.range 6).map wf)) el (bF ds τ) ed (oF wf ds 6) (λρ=>wv 6 (ρ 3) (ρ 4) (ρ 5) (ρ 6)) js) hE _ rfl rfl (λO hp=>nomatch hp),trivial,λO h=>nomatch h⟩
 ·intro m σ A s R hm _ hA _ hs hF k
  have hb:6-m=(6-(m+1))+1:=CQ hm
  rw[hb] at hs hF
  have hmem:m∈[0,1,2,3,4,5]:=by
   simp only[List.mem_cons,List.not_mem_nil,or_false];lia
  have hpi:∀(I' κ jt:Nat) (js:List Nat),aQ V 4 (CT V.w.params fr av I' l dl k0 k1 k2 (oF wf ds m) σ.1 κ m jt (Nat.ble m 1) σ.2.2.2.1 (m-2:Nat) σ.2.2.2.2 (ag ((List.range 6).map wf)) el (bF ds τ) ed (i9 wf ds m m) (m==0) (m-1:Nat) js) F (λO=>True) (λO=>[]):=by
   intro I' κ jt js
   refine B5 G hL hFw hds hm rfl ?_ ?_
   ·cases m with
    |zero=>rfl
    |succ m=>cases m<;>rfl
   ·split
    ·rename_i h;subst h;rfl
    ·rfl
  refine aR G hF (a6 (List.map_inj_left.mp (FY V.w.params (aC V) s.heap.objs.size s.toks fr av I l dl k0 k1 k2 (oF wf ds m) σ.1 σ.2.1 σ.2.2.1 σ.2.2.2.1 σ.2.2.2.2 (6-(m+1)) (ag ((List.range 6).map wf)) el (bF ds τ) ed (i9 wf ds m m)) m hmem) (aB V)) hA hs ?_
  exact ac (l:=0) dg rfl rfl rfl λρ0 O O=>aV (l:=4) (hpi _ _ _ _) rfl rfl rfl λρ1 O O=>ax rfl λs' hs' hf'=>⟨rfl,k (ρ1 2,ao (m==0) σ.2.1 (ρ0 1),ρ0 2,ρ1 3,ρ1 4) s' trivial hs' hf'⟩
 ·intro σ A s R _ hA hs hF k
  refine aR G hF (a6 (FZ V.w.params (aC V) s.heap.objs.size s.toks fr av I l dl k0 k1 k2 (oF wf ds 6) σ.1 (wv 6 σ.2.1 σ.2.2.1 σ.2.2.2.1 σ.2.2.2.2) 6 (ag ((List.range 6).map wf)) el (bF ds τ) ed) (aB V)) hA hs ?_
  exact ac (ii (L:=0)) rfl rfl rfl λρ O O=>an rfl λs' hs' hf'=>k s' hs' hf'
noncomputable def nW(P:Params)(l lv:Nat)(wf:Nat→WS)(el:Nat)(lvs:List dU)(elv:Nat)(c:Int)(js:List Nat):aD:=
 ⟨.call (.ref 213) ⟨[.ref l,.ref lv],[]⟩,js,[(l,aa (ag ((List.range 6).map wf)) el),(lv,aa (dT lvs) elv)],λρ=> .ok (.ret (.int c (ρ 2))),λO=>[aa (ag ((List.range 6).map wf)) el,aa (dT lvs) elv],λO=>[]⟩
theorem tK{V:Gw}(G:au V){l lv el elv:Nat}{wf:Nat→WS}{lvs:List dU}{F:KL}(hL:cg ((List.range 6).map wf))(hFw:∀p∈cy V.w.params ((List.range 6).map wf),p∈F)(hlv:∀q∈lvs,aI q.vs q.ns∧q.k∈F)(hne:lvs≠[])(hl:lvs.length≤20)(hds:(kj lvs 6).length=6){js:List Nat}:
  aQ V 6 (nW V.w.params l lv wf el lvs elv (oF wf (kj lvs 6) 6) js) F (λO=>True) (λO=>[]):=by
 intro A s hA hs hf
 refine ga G hA (Cs _) hf hs (ad (FW V.w.params s.heap.objs.size s.toks l lv (ag ((List.range 6).map wf)) el (dT lvs) elv) (aC V) (aB V)) (aS rfl) λs1 hs1 hf1=> ?_
 let T:br→aF:=λρ=>wv 6 (ρ 3) (ρ 4) (ρ 5) (ρ 6)
 have hd:∀(fr av C I acc:Nat) (js:List Nat),aQ V 3 (Ie V.w.params fr av C I acc lv elv 6 (dT lvs) (lvs.length-1:Nat) (kH lvs (lvs.length-1)) (λρ=>bF (kj lvs 6) (λi=>ρ (i+7))) (kj lvs 6).length js) F (λO=>True) (λO=>[]):=
  λfr av C I acc js=>Cf G hlv hne (by decide) hl
 refine aR G hf1 (ad (FX V.w.params s.heap.objs.size s1.heap.objs.size s.toks s1.toks l lv wf el (dT lvs) elv (lvs.length-1:Nat) (kH lvs (lvs.length-1)) (λρ=>bF (kj lvs 6) (λi=>ρ (i+7))) (kj lvs 6).length (oF wf (kj lvs 6) 6) T) (aC V) (aB V)) hA hs1.at' ?_
 refine aV (l:=3) (hd _ _ _ _ _ _) rfl rfl rfl λρ O O=>aV (l:=5) (B4 G hL hFw hds) rfl rfl rfl λρ1 O O=>an rfl λs2 hs2 O=> ?_
 have E:=hs1.trans hs2 (λq hq=>by
  have hq:q∈[s.heap.objs.size,s.heap.objs.size+1,l,lv]:=hq
  simp only[gV,List.not_mem_nil,or_false] at hq
  rcases hq with rfl|rfl|rfl|rfl
  ·exact .inr (Nat.le_refl _)
  ·exact .inr (Nat.le_succ _)
  ·exact .inl (.head _)
  ·exact .inl (.tail _ (.head _)))
 exact⟨a7 s2.heap.objs.size s2.toks (λO=>ρ1 2),rfl,aW (H:=nW V.w.params l lv wf el lvs elv (oF wf (kj lvs 6) 6) js) E _ rfl rfl (λO hp=>nomatch hp),trivial,λO h=>nomatch h⟩
noncomputable def Bu:Array Nat:=#[112,97,116,104]
noncomputable def yc:Array Nat:=#[97,98,111,118,101]
noncomputable def yb:Array Nat:=#[98,101,108,111,119]
noncomputable def uW:Array Nat:=#[112,97,114,101,110,116]
noncomputable def nv(P:Params):List Stmt:=eQ (aA (aU P 218)) 1
noncomputable def g8(P:Params)(fr:Addr):Env:=f6 (aU P 218) 218 fr []
noncomputable def wn(P:Params):Expr:=gC (Aa (nv P) 0)
noncomputable def wl(P:Params):Expr:=gt (Aa (nv P) 0)
noncomputable def DD(P:Params):Expr:=Di [km (aA (aU P 218)) 2]
noncomputable def wY(P:Params)(fr C:Addr):Env:=compEnvC (aT (wn P)) [] C (g8 P fr)
noncomputable def wX(P:Params)(fr C:Addr):Env:=compEnvC (aT (wl P)) [] C (g8 P fr)
noncomputable def wW(P:Params)(fr C:Addr):Env:=compEnvC (aT (DD P)) [] C (g8 P fr)
noncomputable def xl(P:Params)(fr C I acc:Addr):Code:= .compLoop (wn P) 0 (.ref I) (.ref acc) (wY P fr C)
noncomputable def AZ(P:Params)(fr C I acc:Addr):Code:= .compStart (wn P) 0 (.ref I) (.ref acc) (wY P fr C)
noncomputable def Ai(P:Params)(fr C I acc:Addr):Code:= .compLoop (wl P) 0 (.ref I) (.ref acc) (wX P fr C)
noncomputable def AY(P:Params)(fr C I acc:Addr):Code:= .compStart (wl P) 0 (.ref I) (.ref acc) (wX P fr C)
noncomputable def Ah(P:Params)(fr C I acc:Addr):Code:= .compLoop (DD P) 0 (.ref I) (.ref acc) (wW P fr C)
noncomputable def AX(P:Params)(fr C I acc:Addr):Code:= .compStart (DD P) 0 (.ref I) (.ref acc) (wW P fr C)
noncomputable def EM(P:Params)(b1 b2:Bool)(n t:Nat)(fr C I l acc:Nat)(first:Bool)(κ:Nat)(v0:Value)(j:Nat)(vs:List Value)(ep:Nat)(x:Int)(u:Nat)(out:List Value)(eq:Nat):bu:=
 ap P b1 b2 (xl P fr C I acc) (eZ P C I l acc (bk first ak κ v0) (aj l j) vs ep out eq) n t
 (.hook [2] 0 (a8 I l j vs ep (.int x u) [1,2]) λρ=> .hook [1,1,1,0] 0 {pV (Z.modQ x 2) 0 (ρ 1+2) (ρ 1+3) true with js:=[]} λρ1=> .hook [1,0] 0 (a5 acc out eq (.int (x-1) (ρ1 1+1)) [3]) λρ2=>
 .again [] (xl P fr C I acc) [0,1,2,3] (eZ P C I l acc [(ak,ao first κ (ρ 1),.int x u)] (aj l (j+1)) vs ep (out++[.int (x-1) (ρ1 1+1)]) (eq+1)))
noncomputable def EN(P:Params)(b1 b2:Bool)(n t:Nat)(fr C I l acc:Nat)(first:Bool)(κ:Nat)(v0:Value)(j:Nat)(vs:List Value)(ep:Nat)(x:Int)(u:Nat)(out:List Value)(eq:Nat):bu:=
 ap P b1 b2 (xl P fr C I acc) (eZ P C I l acc (bk first ak κ v0) (aj l j) vs ep out eq) n t
 (.hook [2] 0 (a8 I l j vs ep (.int x u) [1,2]) λρ=> .hook [1,1,1,0] 0 {pV (Z.modQ x 2) 0 (ρ 1+2) (ρ 1+3) false with js:=[]} λρ1=>
 .again [] (xl P fr C I acc) [0,1,2,3] (eZ P C I l acc [(ak,ao first κ (ρ 1),.int x u)] (aj l (j+1)) vs ep out eq))
theorem GR(P b1 n t fr C I l acc κ v0 j vs ep x u out eq):Qk 300 λr=>ay λfirst b2=>r (EM P b1 b2 n t fr C I l acc first κ v0 j vs ep x u out eq):=by unfold Qk;kernel_rfl!
theorem GS(P b1 n t fr C I l acc κ v0 j vs ep x u out eq):Qk 300 λr=>ay λfirst b2=>r (EN P b1 b2 n t fr C I l acc first κ v0 j vs ep x u out eq):=by unfold Qk;kernel_rfl!
theorem GT(P:Params)(b1:Bool)(n t:Nat)(fr C I l acc:Nat)(T:aF)(j:Nat)(vs:List Value)(ep:Nat)(out:List Value)(eq:Nat):Qk 200 λr=>fT λb2=>r ( ap P b1 b2 (xl P fr C I acc) (eZ P C I l acc T (aj l j) vs ep out eq) n t
 (.hook [2] 0 (cn I l j vs ep [1,2]) λρ=> .fin [6] (.ok .next) [0,1,2,3] (eZ P C I l acc T (ba j) vs ep out eq))):=by unfold Qk;kernel_rfl!
theorem GU(P:Params)(n t:Nat)(fr C I l acc:Nat)(vs:List Value)(ep:Nat):Qk 200 λr=>ay λb1 b2=>r ( ap P b1 b2 (AZ P fr C I acc) (eZ P C I l acc [] (aj l 0) vs ep [] 0) n t
 (.again (match b1 with|true=>[]|false=>[2,2,0,2,2]) (xl P fr C I acc) [0,1,2,3] (eZ P C I l acc [] (aj l 0) vs ep [] 0))):=by unfold Qk;kernel_rfl!
noncomputable def DL(a b:Nat)(x y:Value):aF:=[(Bu,a,x),(ak,b,y)]
noncomputable def jh(first:Bool)(a b:Nat)(x y:Value):aF:=match first with
 |true=>[]
 |false=>DL a b x y
noncomputable def EL(P:Params)(b1 b2:Bool)(n t:Nat)(fr C I l acc:Nat)(first:Bool)(ka kb:Nat)(pa0:Nat)(n0:Int)(u0:Nat)(j:Nat)(vs:List Value)(ep:Nat)(q pa:Nat)(x:Int)(u:Nat)(out:List Value)(eq:Nat):bu:=
 ap P b1 b2 (Ai P fr C I acc) (eZ P C I l acc (jh first ka kb (.ref pa0) (.int n0 u0)) (aj l j) vs ep out eq++[(q,al [.ref pa,.int x u])]) n t
 (.hook [2] 0 (a8 I l j vs ep (.ref q) [1,2]) λρ=> .hook [2,5,5,5,0,5,6,6,0,6,6,6,5,6,6,6,0,6,6,6,5,6,6,6,0,6,6,6,5,6,6,8,1,1,1,1,1] 3 (a5 acc out eq (.int x u) [3]) λρ2=>
 .again [] (Ai P fr C I acc) [0,1,2,3,4] (eZ P C I l acc (DL (ao first ka (ρ 1)) (ao first kb (ρ 1+1)) (.ref pa) (.int x u)) (aj l (j+1)) vs ep (out++[.int x u]) (eq+1)++[(q,al [.ref pa,.int x u])]))
theorem GO(P b1 n t fr C I l acc ka kb pa0 n0 u0 j vs ep q pa x u out eq):Qk 300 λr=>ay λfirst b2=>r (EL P b1 b2 n t fr C I l acc first ka kb pa0 n0 u0 j vs ep q pa x u out eq):=by unfold Qk;kernel_rfl!
theorem GP(P:Params)(b1:Bool)(n t:Nat)(fr C I l acc:Nat)(T:aF)(j:Nat)(vs:List Value)(ep:Nat)(out:List Value)(eq:Nat):Qk 200 λr=>fT λb2=>r ( ap P b1 b2 (Ai P fr C I acc) (eZ P C I l acc T (aj l j) vs ep out eq) n t
 (.hook [2] 0 (cn I l j vs ep [1,2]) λρ=> .fin [6] (.ok .next) [0,1,2,3] (eZ P C I l acc T (ba j) vs ep out eq))):=by unfold Qk;kernel_rfl!
theorem GQ(P:Params)(n t:Nat)(fr C I l acc:Nat)(vs:List Value)(ep:Nat):Qk 200 λr=>ay λb1 b2=>r ( ap P b1 b2 (AY P fr C I acc) (eZ P C I l acc [] (aj l 0) vs ep [] 0) n t
 (.again (match b1 with|true=>[]|false=>[2,2,0,2,2]) (Ai P fr C I acc) [0,1,2,3] (eZ P C I l acc [] (aj l 0) vs ep [] 0))):=by unfold Qk;kernel_rfl!
noncomputable def C5(P:Params)(fr I:Addr):Code:=d7 (aA (aU P 218)) 1 (.ref I) (g8 P fr)
noncomputable def ug(P:Params)(fr I:Addr):Code:=d7 (nv P) 2 (.ref I) (g8 P fr)
noncomputable def cZ(P:Params)(k0 k1 k2 pl ab pg:Nat)(T:aF):Obj:=cY P ([(ie,k0,.ref pl),(yc,k1,.ref ab),(jG,k2,.ref pg)]++T)
noncomputable def oJ(a b:Nat)(xs ys:List Value)(js:List Nat):aD:=⟨.call (.builtin "tuple.__add__") ⟨[.ref a,.ref b],[]⟩,js,[(a,al xs),(b,al ys)],λρ=> .ok (.ret (.ref (ρ 2))),λO=>[al xs,al ys],λρ=>[(ρ 2,al (xs++ys))]⟩
noncomputable def oK(a b:Nat)(ys:List Value)(js:List Nat):aD:=⟨.call (.builtin "tuple.__add__") ⟨[.ref a,.ref b],[]⟩,js,[(a,al []),(b,al ys)],λρ=> .ok (.ret (.ref b)),λO=>[al [],al ys],λρ=>[]⟩
noncomputable def jb(k3 k4 k5:Nat)(l:Nat)(p:Int)(pt bl:Nat):aF:=[(ly,k3,.ref l),(uW,k4,.int p pt),(yb,k5,.ref bl)]
noncomputable def kh(P:Params)(fr I l ab bl:Nat)(fo:Obj)(io:Obj)(vs:List Value)(ep:Nat)(avs:List Value)(ea:Nat)(bvs:List Value)(eb:Nat):KL:=
 [(fr,fo),(I,io),(l,aa vs ep),(ab,aa avs ea),(bl,aa bvs eb)]
noncomputable def EF(P:Params)(b1 b2:Bool)(n t fr I l ab bl pl pg k0 k1 k2 k3 k4 k5:Nat)(p:Int)(pt:Nat)(first:Bool)(k6:Nat)(v0:Int)(u0:Nat)(j:Nat)(vs:List Value)(ep:Nat)(avs:List Value)(ea:Nat)(bvs:List Value)(eb:Nat)(x:Int)(u:Nat):bu:=
 ap P b1 b2 (ug P fr I) (kh P fr I l ab bl (cZ P k0 k1 k2 pl ab pg (jb k3 k4 k5 l p pt bl++bk first ak k6 (.int v0 u0))) (aj l j) vs ep avs ea bvs eb) n t
 (.hook [2] 0 (a8 I l j vs ep (.int x u) [1,2]) λρ=> .hook [1,1,1,0] 0 {pV (Z.modQ x 2) 0 (ρ 1+2) (ρ 1+3) true with js:=[]} λρ1=>
 .again [1,0,1,1] (ug P fr I) [0,1,2,3,4] (kh P fr I l ab bl (cZ P k0 k1 k2 pl ab pg (jb k3 k4 k5 l (p+1) (ρ1 1+1) bl++[(ak,ao first k6 (ρ 1),.int x u)])) (aj l (j+1)) vs ep avs ea bvs eb))
noncomputable def EH(P:Params)(b1 b2:Bool)(n t fr I l ab bl pl pg k0 k1 k2 k3 k4 k5:Nat)(p:Nat)(pt:Nat)(first:Bool)(k6:Nat)(v0:Int)(u0:Nat)(j:Nat)(vs:List Value)(ep:Nat)(avs:List Value)(ea:Nat)(bvs:List Value)(eb:Nat)(x:Int)(u q pa:Nat)(num:Int)(nt:Nat)(xs:List Value):bu:=
 ap P b1 b2 (ug P fr I) (kh P fr I l ab bl (cZ P k0 k1 k2 pl ab pg (jb k3 k4 k5 l p pt bl++bk first ak k6 (.int v0 u0))) (aj l j) vs ep avs ea bvs eb++[(q,al [.ref pa,.int num nt]),(pa,al xs)]) n t
 (.hook [2] 0 (a8 I l j vs ep (.int x u) [1,2]) λρ=> .hook [1,1,1,0] 0 {pV (Z.modQ x 2) 0 (ρ 1+2) (ρ 1+3) false with js:=[]} λρ1=> .hook [1,5,5,5,5,1,1,4,4,4] 0 (bS ab avs ea p pt (.ref q) [3]) λρ2=>
  .hook [6,6,6,0,6,6,0,0,0,1] 0 (jf bl bvs eb [4]) λρ3=> .hook [7,8,7] 1 (oJ pa (ρ3 0) xs [.int bvs.length (ρ3 2)] [6,7]) λρ4=> .hook [1] 1 (a5 bl bvs eb (.ref (ρ4 0)) [4]) λρ5=>
 .again [] (ug P fr I) [0,1,2,3,4,5,6,9,8] (kh P fr I l ab bl (cZ P k0 k1 k2 pl ab pg (jb k3 k4 k5 l p pt bl++[(ak,ao first k6 (ρ 1),.int x u)])) (aj l (j+1)) vs ep avs ea (bvs++[.ref (ρ4 0)]) (eb+1)++[(q,al [.ref pa,.int num nt]),(pa,al xs)]++[(ρ4 0,al [.ref (ρ4 2),.int x u]),(ρ4 2,al (xs++[.int bvs.length (ρ3 2)]))]))
noncomputable def EG(P:Params)(b1 b2:Bool)(n t fr I l ab bl pl pg k0 k1 k2 k3 k4 k5:Nat)(p:Nat)(pt:Nat)(first:Bool)(k6:Nat)(v0:Int)(u0:Nat)(j:Nat)(vs:List Value)(ep:Nat)(avs:List Value)(ea:Nat)(bvs:List Value)(eb:Nat)(x:Int)(u q pa:Nat)(num:Int)(nt:Nat):bu:=
 ap P b1 b2 (ug P fr I) (kh P fr I l ab bl (cZ P k0 k1 k2 pl ab pg (jb k3 k4 k5 l p pt bl++bk first ak k6 (.int v0 u0))) (aj l j) vs ep avs ea bvs eb++[(q,al [.ref pa,.int num nt]),(pa,al [])]) n t
 (.hook [2] 0 (a8 I l j vs ep (.int x u) [1,2]) λρ=> .hook [1,1,1,0] 0 {pV (Z.modQ x 2) 0 (ρ 1+2) (ρ 1+3) false with js:=[]} λρ1=> .hook [1,5,5,5,5,1,1,4,4,4] 0 (bS ab avs ea p pt (.ref q) [3]) λρ2=>
  .hook [6,6,6,0,6,6,0,0,0,1] 0 (jf bl bvs eb [4]) λρ3=> .hook [7,8,7] 1 (oK pa (ρ3 0) [.int bvs.length (ρ3 2)] [6,7]) λρ4=> .hook [1] 1 (a5 bl bvs eb (.ref (ρ4 0)) [4]) λρ5=>
 .again [] (ug P fr I) [0,1,2,3,4,5,6,8,7] (kh P fr I l ab bl (cZ P k0 k1 k2 pl ab pg (jb k3 k4 k5 l p pt bl++[(ak,ao first k6 (ρ 1),.int x u)])) (aj l (j+1)) vs ep avs ea (bvs++[.ref (ρ4 0)]) (eb+1)++[(q,al [.ref pa,.int num nt]),(pa,al [])]++[(ρ4 0,al [.ref (ρ3 0),.int x u]),(ρ3 0,al [.int bvs.length (ρ3 2)])]))
theorem GG(P b1 n t fr I l ab bl pl pg k0 k1 k2 k3 k4 k5 p pt k6 v0 u0 j vs ep avs ea bvs eb x u):Qk 300 λr=>ay λfirst b2=>r (EF P b1 b2 n t fr I l ab bl pl pg k0 k1 k2 k3 k4 k5 p pt first k6 v0 u0 j vs ep avs ea bvs eb x u):=by unfold Qk;kernel_rfl!
theorem GI(P b1 n t fr I l ab bl pl pg k0 k1 k2 k3 k4 k5 p pt k6 v0 u0 j vs ep avs ea bvs eb x u q pa num nt xs):Qk 300 λr=>ay λfirst b2=>r (EH P b1 b2 n t fr I l ab bl pl pg k0 k1 k2 k3 k4 k5 p pt first k6 v0 u0 j vs ep avs ea bvs eb x u q pa num nt xs):=by unfold Qk;kernel_rfl!
theorem GH(P b1 n t fr I l ab bl pl pg k0 k1 k2 k3 k4 k5 p pt k6 v0 u0 j vs ep avs ea bvs eb x u q pa num nt):Qk 300 λr=>ay λfirst b2=>r (EG P b1 b2 n t fr I l ab bl pl pg k0 k1 k2 k3 k4 k5 p pt first k6 v0 u0 j vs ep avs ea bvs eb x u q pa num nt):=by unfold Qk;kernel_rfl!
theorem GF(P:Params)(b1:Bool)(n t fr I l ab bl:Nat)(fo:Obj)(j:Nat)(vs:List Value)(ep:Nat)(avs:List Value)(ea:Nat)(bvs:List Value)(eb:Nat):Qk 200 λr=>fT λb2=>r ( ap P b1 b2 (ug P fr I) (kh P fr I l ab bl fo (aj l j) vs ep avs ea bvs eb) n t
 (.hook [2] 0 (cn I l j vs ep [1,2]) λρ=> .fin [7] (.ok .next) [0,1,2,3,4] (kh P fr I l ab bl fo (ba j) vs ep avs ea bvs eb))):=by unfold Qk;kernel_rfl!
theorem tF{V:Gw}{a b:Nat}{xs ys:List Value}{js:List Nat}{L:Nat}(hx:xs≠[])(hy:ys≠[])(hs:aw (xs.length+ys.length)):ai V L (oJ a b xs ys js) (λO=>True):=by
 refine cR (H:=oJ a b xs ys js) rfl F.slot_tuple_add (λs hs=>a9 hs (.head _) rfl) F.entry_tuple_add (F.args_tuple_add_2 _ _) (AutoSeq1.tuple___add___tuple_tuple_2 a ⟨xs⟩ 0 b ⟨ys⟩ 0 (by simpa using hx) (by simpa using hy) hs.fits) λA s ha hs=> ?_
 refine⟨hs.get (a,al xs) (.head _),hs.get (b,al ys) (.tail _ (.head _)),?_⟩
 have E:=hs.ends.push (o:=al (xs++ys)) rfl
 have e:(⟨xs⟩:Array Value)++⟨ys⟩=⟨xs++ys⟩:=by simp
 rw[e]
 exact⟨a7 _ _ (λO=>s.heap.objs.size),rfl,aW (H:=oJ a b xs ys js) E (λO=>s.heap.objs.size) rfl rfl (λp hp=>by rw[List.mem_singleton.mp hp];exact Nat.le_refl _),trivial⟩
theorem tG{V:Gw}{a b:Nat}{ys:List Value}{js:List Nat}{L:Nat}:ai V L (oK a b ys js) (λO=>True):=by
 refine cR (H:=oK a b ys js) rfl F.slot_tuple_add (λs hs=>a9 hs (.head _) rfl) F.entry_tuple_add (F.args_tuple_add_2 _ _) (AutoSeq1.tuple___add___tuple_tuple_0 a ⟨[]⟩ 0 b ⟨ys⟩ 0 rfl) λA s ha hs=> ?_
 refine⟨hs.get (a,al []) (.head _),hs.get (b,al ys) (.tail _ (.head _)),?_⟩
 exact⟨a7 _ _ (λO=>0),rfl,aW (H:=oK a b ys js) hs.ends (λO=>0) rfl rfl (λp hp=>nomatch hp),trivial⟩
structure bt where
 pt:Nat
 pa:Nat
 path:List (Int×Nat)
 num:Int
 nt:Nat
noncomputable def aL(l:List (Int×Nat)):List Value:=l.map λp=> .int p.1 p.2
noncomputable def bt.k(e:bt):KL:=[(e.pt,al [.ref e.pa,.int e.num e.nt]),(e.pa,al (aL e.path))]
noncomputable def bj(es:List bt):List Value:=es.map λe=> .ref e.pt
noncomputable def dO(es:List bt):KL:=es.flatMap bt.k
abbrev PE:=List Int×Int
noncomputable def bt.p(e:bt):PE:=(e.path.map (·.1),e.num)
theorem bw(l:List (Int×Nat)):(aL l).length=l.length:=by simp[aL]
theorem jw{l:List (Int×Nat)}{m:Nat}(h:m<l.length):(aL l)[m]?=some (.int (l.getD m (0,0)).1 (l.getD m (0,0)).2):=by
 simp[aL,h]
theorem pD(a b:List (Int×Nat)):aL (a++b)=aL a++aL b:=by simp[aL]
noncomputable def cW(ns:List Int)(τ:Nat→Nat):List Value:=(List.range ns.length).map λi=> .int (ns.getD i 0) (τ i)
theorem lO(ps:List (Int×Nat)):aL ps=cW (ps.map (·.1)) (λi=>(ps.getD i (0,0)).2):=Do ps (0,0) (·.1) λx p=>Value.int x p.2
noncomputable def cx(x:Int):Bool:=decide (x.fmod 2=0)
noncomputable def iA(qs:List (Int×Nat)):List Int:=(qs.filter λq=>cx q.1).map λq=>q.1-1
theorem dF{α:Type}{l:List α}{m:Nat}{d:α}(h:m<l.length):l.take (m+1)=l.take m++[l.getD m d]:=by
 rw[List.take_add_one,List.getElem?_eq_getElem h,List.getD_eq_getElem?_getD,List.getElem?_eq_getElem h];rfl
noncomputable def CY(P:Params)(fr C I l acc:Nat)(qs:List (Int×Nat))(ep:Nat)(e:Bool)(js:List Nat):aD:=
 ⟨AZ P fr C I acc,js,eZ P C I l acc [] (aj l 0) (aL qs) ep [] 0,λO=> .ok .next,
  λρ=>[bn P (bk e ak (ρ 2) (.int (qs.getD (qs.length-1) (0,0)).1 (qs.getD (qs.length-1) (0,0)).2)),ba qs.length,aa (aL qs) ep,aa (cW (iA qs) (λi=>ρ (i+3))) (iA qs).length],λO=>[]⟩
theorem wP{V:Gw}(G:au V){fr C I l acc ep:Nat}{qs:List (Int×Nat)}{e:Bool}(he:e=(qs.length==0))(hsm:qs.length≤500){js:List Nat}:ai V 1 (CY V.w.params fr C I l acc qs ep e js) (λO=>True):=by
 subst he
 intro A s hA hs
 refine bc G (ad (GU V.w.params s.heap.objs.size s.toks fr C I l acc (aL qs) ep) (aC V) (aB V)) hA hs (aE rfl λs1 hs1=>⟨rfl,?_⟩)
 have main:=bv (V:=V) (S:=Nat×List (Int×Nat)) (code:=xl V.w.params fr C I acc) (L:=1) (W:=[C,I,l,acc]) qs.length 0
  (λm σ=>eZ V.w.params C I l acc (bk (m==0) ak σ.1 (.int (qs.getD (m-1) (0,0)).1 (qs.getD (m-1) (0,0)).2)) (aj l m) (aL qs) ep (aL σ.2) σ.2.length) (λO O=>[])
  (λσ=>eZ V.w.params C I l acc (bk (qs.length==0) ak σ.1 (.int (qs.getD (qs.length-1) (0,0)).1 (qs.getD (qs.length-1) (0,0)).2)) (ba qs.length) (aL qs) ep (aL σ.2) σ.2.length) (λm σ=>σ.2.map (·.1)=iA (qs.take m)) ?_ ?_ qs.length 0 (0,[]) A s1 (Nat.zero_add _) rfl hA (Nat.zero_le _) hs1.at' Fz.nil
 ·refine codeAny_mono main ?_
  rintro r s'' ⟨hr,σ,hI,hE,_⟩
  have E:=hs1.trans hE (λb hb=> .inl hb)
  rw[List.take_length] at hI
  have hl:σ.2.length=(iA qs).length:=by rw[←hI,List.length_map]
  rw[lO σ.2,hI,hl] at E
  exact⟨a7 _ _ (λk=>match k with|0=>σ.1|k+1=>(σ.2.getD k (0,0)).2),hr,aW (H:=CY V.w.params fr C I l acc qs ep (qs.length==0) js) E _ rfl rfl (λO hp=>nomatch hp),trivial⟩
 ·intro m σ A s R hm hI hA _ hs _ k
  have hget:=jw hm
  have htk:qs.take (m+1)=qs.take m++[qs.getD m (0,0)]:=dF hm
  have hlen:σ.2.length≤m:=by
   rw[←List.length_map (f:=(·.1)),hI,iA,List.length_map]
   exact Nat.le_trans (List.length_filter_le _ _) (by rw[List.length_take];lia)
  have e2:(qs.getD m (0,0)).1.fmod 2=Z.modQ (qs.getD m (0,0)).1 2:=by rw[←Z.modQ_eq]
  cases hb:cx (qs.getD m (0,0)).1 with
  |true=>
   have hb':(qs.getD m (0,0)).1.fmod 2=0:=of_decide_eq_true hb
   refine bc G (ad (GR V.w.params (aC V) s.heap.objs.size s.toks fr C I l acc σ.1 (.int (qs.getD (m-1) (0,0)).1 (qs.getD (m-1) (0,0)).2) m (aL qs) ep (qs.getD m (0,0)).1 (qs.getD m (0,0)).2 (aL σ.2) σ.2.length) (m==0) (aB V)) hA hs ?_
   refine ae (aJ (L:=0) hget) rfl rfl rfl λρ O O=>ae (l:=0) (ff G true ⟨λO=>e2▸hb',λO=>rfl⟩) rfl rfl rfl λρ1 O O=>ae (aM (L:=0) (by show _≤1000;rw[bw];lia)) rfl rfl rfl λρ2 O O=>aE rfl λs' hs'=>⟨rfl,?_⟩
   refine k (ao (m==0) σ.1 (ρ 1),σ.2++[((qs.getD m (0,0)).1-1,ρ1 1+1)]) s' ?_ ?_ Fz.nil
   ·rw[List.map_append,hI,htk,iA,iA,List.filter_append,List.filter_cons_of_pos (by exact hb),List.map_append];rfl
   ·rw[show aL (σ.2++[((qs.getD m (0,0)).1-1,ρ1 1+1)])=aL σ.2++[.int ((qs.getD m (0,0)).1-1) (ρ1 1+1)] by simp[aL],List.length_append]
    exact hs'
  |false=>
   have hb': ¬(qs.getD m (0,0)).1.fmod 2=0:=of_decide_eq_false hb
   refine bc G (ad (GS V.w.params (aC V) s.heap.objs.size s.toks fr C I l acc σ.1 (.int (qs.getD (m-1) (0,0)).1 (qs.getD (m-1) (0,0)).2) m (aL qs) ep (qs.getD m (0,0)).1 (qs.getD m (0,0)).2 (aL σ.2) σ.2.length) (m==0) (aB V)) hA hs ?_
   refine ae (aJ (L:=0) hget) rfl rfl rfl λρ O O=>ae (l:=0) (ff G false ⟨(λh=>nomatch h),λh=>absurd (e2.trans h) hb'⟩) rfl rfl rfl λρ1 O O=>aE rfl λs' hs'=>⟨rfl,?_⟩
   refine k (ao (m==0) σ.1 (ρ 1),σ.2) s' ?_ hs' Fz.nil
   rw[hI,htk,iA,iA,List.filter_append,List.filter_cons_of_neg (by rw[hb];exact Bool.false_ne_true)]
   simp
 ·intro σ A s R _ hA hs _ k
  refine bc G (a6 (GT V.w.params (aC V) s.heap.objs.size s.toks fr C I l acc (bk (qs.length==0) ak σ.1 (.int (qs.getD (qs.length-1) (0,0)).1 (qs.getD (qs.length-1) (0,0)).2)) qs.length (aL qs) ep (aL σ.2) σ.2.length) (aB V)) hA hs ?_
  exact ae (bq (L:=0) (by rw[List.getElem?_eq_none (by rw[bw];exact Nat.le_refl _)])) rfl rfl rfl λρ O O=>aO rfl λs' hs'=>k s' hs' Fz.nil
noncomputable def ce:bt:=⟨0,0,[],0,0⟩
noncomputable def CX(P:Params)(fr C I l acc:Nat)(es:List bt)(ep:Nat)(e:Bool)(js:List Nat):aD:=
 ⟨AY P fr C I acc,js,eZ P C I l acc [] (aj l 0) (bj es) ep [] 0,λO=> .ok .next,
  λρ=>[bn P (jh e (ρ 2) (ρ 3) (.ref (es.getD (es.length-1) ce).pa) (.int (es.getD (es.length-1) ce).num (es.getD (es.length-1) ce).nt)),ba es.length,aa (bj es) ep,aa (aL (es.map λe:bt=>(e.num,e.nt))) es.length],λO=>[]⟩
theorem d8(es:List bt):(bj es).length=es.length:=by simp[bj]
theorem lZ{es:List bt}{m:Nat}(h:m<es.length):(bj es)[m]?=some (.ref (es.getD m ce).pt):=by simp[bj,h]
theorem bV{α:Type}{l:List α}{m:Nat}{d:α}(h:m<l.length):l.getD m d∈l:=by
 rw[List.getD_eq_getElem?_getD,List.getElem?_eq_getElem h];exact List.getElem_mem h
theorem wO{V:Gw}(G:au V){fr C I l acc ep:Nat}{es:List bt}{e:Bool}(he:e=(es.length==0)){F:KL}(hes:∀p∈dO es,p∈F)(hsm:es.length≤500){js:List Nat}:aQ V 1 (CX V.w.params fr C I l acc es ep e js) F (λO=>True) (λO=>[]):=by
 subst he
 intro A s hA hs hf
 refine aR G hf (ad (GQ V.w.params s.heap.objs.size s.toks fr C I l acc (bj es) ep) (aC V) (aB V)) hA hs (ax rfl λs1 hs1 hf1=>⟨rfl,?_⟩)
 have main:=bv (V:=V) (S:=Nat×Nat) (code:=Ai V.w.params fr C I acc) (L:=1) (W:=[C,I,l,acc]) es.length 0
  (λm σ=>eZ V.w.params C I l acc (jh (m==0) σ.1 σ.2 (.ref (es.getD (m-1) ce).pa) (.int (es.getD (m-1) ce).num (es.getD (m-1) ce).nt)) (aj l m) (bj es) ep (aL ((es.take m).map λe:bt=>(e.num,e.nt))) m) (λO O=>F)
  (λσ=>eZ V.w.params C I l acc (jh (es.length==0) σ.1 σ.2 (.ref (es.getD (es.length-1) ce).pa) (.int (es.getD (es.length-1) ce).num (es.getD (es.length-1) ce).nt)) (ba es.length) (bj es) ep (aL (es.map λe:bt=>(e.num,e.nt))) es.length) (λm σ=>True) ?_ ?_ es.length 0 (0,0) A s1 (Nat.zero_add _) trivial hA (Nat.zero_le _) hs1.at' hf1
 ·refine codeAny_mono main ?_
  rintro r s'' ⟨hr,σ,_,hE,_⟩
  have E:=hs1.trans hE (λb hb=> .inl hb)
  exact⟨a7 _ _ (λk=>if k=0 then σ.1 else σ.2),hr,aW (H:=CX V.w.params fr C I l acc es ep (es.length==0) js) E _ rfl rfl (λO hp=>nomatch hp),trivial,λO h=>nomatch h⟩
 ·intro m σ A s R hm _ hA _ hs hF k
  have hmem:es.getD m ce∈es:=bV hm
  have hT:=hs.thaw hF (R:=[((es.getD m ce).pt,al [.ref (es.getD m ce).pa,.int (es.getD m ce).num (es.getD m ce).nt])]) (λp hp=>by
   rw[List.mem_singleton.mp hp]
   exact hes _ (List.mem_flatMap.mpr ⟨_,hmem,.head _⟩)) (by simp)
  have htk:aL ((es.take (m+1)).map λe:bt=>(e.num,e.nt))=aL ((es.take m).map λe:bt=>(e.num,e.nt))++[.int (es.getD m ce).num (es.getD m ce).nt]:=by
   rw[dF hm (d:=ce),List.map_append,pD];rfl
  refine aR G Fz.nil (ad (GO V.w.params (aC V) s.heap.objs.size s.toks fr C I l acc σ.1 σ.2 (es.getD (m-1) ce).pa (es.getD (m-1) ce).num (es.getD (m-1) ce).nt m (bj es) ep (es.getD m ce).pt (es.getD m ce).pa (es.getD m ce).num (es.getD m ce).nt (aL ((es.take m).map λe:bt=>(e.num,e.nt))) m) (m==0) (aB V)) hA hT ?_
  refine ac (aJ (L:=0) (lZ hm)) rfl rfl rfl λρ O O=>ac (aM (L:=0) (by show _≤1000;rw[bw,List.length_map,List.length_take];lia)) rfl rfl rfl λρ2 O O=>ax rfl λs' hs' O=>⟨rfl,?_⟩
  have E:=hs'.freeze hT
  rw[←htk] at E
  exact k (ao (m==0) σ.1 (ρ 1),ao (m==0) σ.2 (ρ 1+1)) s' trivial E (hF.after E rfl)
 ·intro σ A s R _ hA hs hF k
  rw[List.take_length] at hs hF
  refine aR G hF (a6 (GP V.w.params (aC V) s.heap.objs.size s.toks fr C I l acc (jh (es.length==0) σ.1 σ.2 (.ref (es.getD (es.length-1) ce).pa) (.int (es.getD (es.length-1) ce).num (es.getD (es.length-1) ce).nt)) es.length (bj es) ep (aL (es.map λe:bt=>(e.num,e.nt))) es.length) (aB V)) hA hs ?_
  exact ac (bq (L:=0) (by rw[List.getElem?_eq_none (by rw[d8];exact Nat.le_refl _)])) rfl rfl rfl λρ O O=>an rfl λs' hs' hf'=>k s' hs' hf'
noncomputable def re(above:List PE)(st:List PE×Int)(x:Int):List PE×Int:=if cx x then(st.1,st.2+1) else(st.1++[((above.getD st.2.toNat ([],0)).1++[(st.1.length:Int)],x)],st.2)
noncomputable def j9(above:List PE)(ns:List Int):List PE×Int:=ns.foldl (re above) ([],-1)
noncomputable def iZ(L:List PE)(τ:Nat→Nat):List bt:=(List.range L.length).map λi=>⟨τ (64*i),τ (64*i+1),(List.range (L.getD i ([],0)).1.length).map (λj=>((L.getD i ([],0)).1.getD j 0,τ (64*i+3+j))),(L.getD i ([],0)).2,τ (64*i+2)⟩
noncomputable def gf(es:List bt)(k:Nat):Nat:=match k%64 with
 |0=>(es.getD (k/64) ce).pt
 |1=>(es.getD (k/64) ce).pa
 |2=>(es.getD (k/64) ce).nt
 |r+3=>((es.getD (k/64) ce).path.getD r (0,0)).2
theorem su{es:List bt}{L:List PE}(h:es.map bt.p=L)(hl:∀e∈es,e.path.length≤60){τ:Nat→Nat}(hτ:∀k,τ k=gf es k):iZ L τ=es:=by
 subst h
 unfold iZ
 refine List.ext_getElem? λi=> ?_
 by_cases h:i<es.length
 ·have hd:es.getD i ce=es[i]:=by rw[List.getD_eq_getElem?_getD,List.getElem?_eq_getElem h];rfl
  have hL:(es.map bt.p).getD i ([],0)=es[i].p:=by rw[List.getD_eq_getElem?_getD,List.getElem?_map,List.getElem?_eq_getElem h];rfl
  have hp:=hl es[i] (List.getElem_mem h)
  have t0:τ (64*i)=es[i].pt:=by rw[hτ,gf,Nat.mul_mod_right,show 64*i/64=i from Nat.mul_div_cancel_left i (by decide),hd]
  have t1:τ (64*i+1)=es[i].pa:=by rw[hτ,gf,show(64*i+1)%64=1 from Nat.mul_add_mod 64 i 1,show(64*i+1)/64=i from Nat.mul_add_div (by decide) i 1,hd]
  have t2:τ (64*i+2)=es[i].nt:=by rw[hτ,gf,show(64*i+2)%64=2 from Nat.mul_add_mod 64 i 2,show(64*i+2)/64=i from Nat.mul_add_div (by decide) i 2,hd]
  have t3:∀j,j<es[i].path.length→τ (64*i+3+j)=(es[i].path.getD j (0,0)).2:=λj hj=>by
   rw[hτ,gf,show(64*i+3+j)%64=j+3 by lia,show(64*i+3+j)/64=i by lia,hd]
  rw[List.getElem?_map,List.getElem?_range (by simpa using h),List.getElem?_eq_getElem h]
  simp only[Option.map_some,hL,t0,t1,t2]
  congr 1
  have hpath:((List.range es[i].p.1.length).map λj=>(es[i].p.1.getD j 0,τ (64*i+3+j)))=es[i].path:=by
   refine List.ext_getElem? λj=> ?_
   by_cases hj:j<es[i].path.length
   ·rw[List.getElem?_map,List.getElem?_range (by simpa[bt.p] using hj),List.getElem?_eq_getElem hj]
    simp only[Option.map_some,t3 j hj]
    simp[bt.p,List.getD_eq_getElem?_getD,hj]
   ·simp[bt.p,hj]
  rw[hpath]
  rfl
 ·simp[h]
theorem fi{V:Gw}{K K' Tm F:KL}{s s':Shared}(h:At V K s)(hF:Fz V F K s)(hT:∀p∈Tm,p∈F)(hn:(Tm.map (·.1)).Nodup)
  (hE:am V ((K++Tm).map (·.1)) s (K'++Tm) s') (hw:∀p∈K',p.1∈K.map (·.1)∨s.heap.objs.size≤p.1):am V (K.map (·.1)) s K' s'∧Fz V F K' s':=by
 have:=gm (R:=[]) (by rw[List.append_nil];exact h) (by rw[List.append_nil];exact hF) hT hn hE hw
 rw[List.append_nil,List.append_nil] at this
 exact this
structure Jx where
 pt:Nat
 k6:Nat
 es:List bt
noncomputable def Dy(P:Params)(fr I l ab bl pl pg k0 k1 k2 k3 k4 k5 pt:Nat)(first:Bool)(k6:Nat)(v0:Int)(u0:Nat)(qs:List (Int×Nat))(ep:Nat)(avs:List Value)(ea:Nat)(L:List PE)(p':Int)(first':Bool)(v':Int)(u':Nat)(js:List Nat):aD:=
 ⟨ug P fr I,js,kh P fr I l ab bl (cZ P k0 k1 k2 pl ab pg (jb k3 k4 k5 l (-1) pt bl++bk first ak k6 (.int v0 u0))) (aj l 0) (aL qs) ep avs ea [] 0,λO=> .ok .next,
  λρ=>(kh P fr I l ab bl (cZ P k0 k1 k2 pl ab pg (jb k3 k4 k5 l p' (ρ 2) bl++bk first' ak (ρ 3) (.int v' u'))) (ba qs.length) (aL qs) ep avs ea (bj (iZ L (λi=>ρ (i+4)))) L.length).map (·.2),λO=>[]⟩
theorem Cc{V:Gw}(G:au V){fr I l ab bl pl pg k0 k1 k2 k3 k4 k5 pt k6 u0 u' ep ea:Nat}{v0 v' p':Int}{first first':Bool}{qs:List (Int×Nat)}{es:List bt}{L:List PE}{F:KL}(hes:∀p∈dO es,p∈F)(hne:∀e∈es,e.pt≠e.pa∧e.path.length≤50)
  (hL:j9 (es.map bt.p) (qs.map (·.1))=(L,p')) (hok:∀m,m<qs.length→cx (qs.getD m (0,0)).1=false→0≤(j9 (es.map bt.p) ((qs.map (·.1)).take m)).2∧(j9 (es.map bt.p) ((qs.map (·.1)).take m)).2.toNat<es.length)
  (hf':first'=(first&&(qs.length==0))) (hv':v'=if qs.length=0 then v0 else(qs.getD (qs.length-1) (0,0)).1) (hu':u'=if qs.length=0 then u0 else(qs.getD (qs.length-1) (0,0)).2) (hsm:qs.length≤500) (hse:es.length≤500) {js:List Nat}:
  aQ V 1 (Dy V.w.params fr I l ab bl pl pg k0 k1 k2 k3 k4 k5 pt first k6 v0 u0 qs ep (bj es) ea L p' first' v' u' js) F (λρ=>(∀e∈iZ L (λi=>ρ (i+4)),e.pt≠e.pa∧e.path.length≤51)∧((dO (iZ L (λi=>ρ (i+4)))).map (·.1)).Nodup) (λρ=>dO (iZ L (λi=>ρ (i+4)))):=by
 subst hf' hv' hu'
 intro A s hA hs hf
 let vm:Nat→Int:=λm=>if m=0 then v0 else(qs.getD (m-1) (0,0)).1
 let um:Nat→Nat:=λm=>if m=0 then u0 else(qs.getD (m-1) (0,0)).2
 let bm:Nat→List PE×Int:=λm=>j9 (es.map bt.p) ((qs.map (·.1)).take m)
 have hbs:∀m,m<qs.length→bm (m+1)=re (es.map bt.p) (bm m) (qs.getD m (0,0)).1:=λm hm=>by
  show j9 _ ((qs.map (·.1)).take (m+1))=_
  rw[←List.map_take,dF hm (d:=(0,0)),List.map_append,j9,List.foldl_append,←j9,List.map_take]
  rfl
 have main:=bv (V:=V) (S:=Jx) (code:=ug V.w.params fr I) (L:=1) (W:=[fr,I,l,ab,bl]) qs.length s.heap.objs.size
  (λm σ=>kh V.w.params fr I l ab bl (cZ V.w.params k0 k1 k2 pl ab pg (jb k3 k4 k5 l (bm m).2 σ.pt bl++bk (first&&(m==0)) ak σ.k6 (.int (vm m) (um m)))) (aj l m) (aL qs) ep (bj es) ea (bj σ.es) σ.es.length) (λm σ=>F++dO σ.es)
  (λσ=>kh V.w.params fr I l ab bl (cZ V.w.params k0 k1 k2 pl ab pg (jb k3 k4 k5 l (bm qs.length).2 σ.pt bl++bk (first&&(qs.length==0)) ak σ.k6 (.int (vm qs.length) (um qs.length)))) (ba qs.length) (aL qs) ep (bj es) ea (bj σ.es) σ.es.length)
  (λm σ=>A4 (σ.es.map bt.p=(bm m).1) (∀e∈σ.es,s.heap.objs.size≤e.pt∧s.heap.objs.size≤e.pa∧e.pt≠e.pa∧e.path.length≤51) (σ.es.length≤m) (((dO σ.es).map (·.1)).Nodup)) ?_ ?_ qs.length 0 ⟨pt,k6,[]⟩ A s (Nat.zero_add _) ⟨rfl,(λO h=>nomatch h),Nat.zero_le _,List.nodup_nil⟩ hA (Nat.le_refl _) ?_ ?_
 ·refine codeAny_mono main ?_
  rintro r s'' ⟨hr,⟨pt',k6',es'⟩,⟨h1,h2,_,h4⟩,hE,hF⟩
  try dsimp only at h1 h2 h4 hE hF
  have hbl:bm qs.length=(L,p'):=by
   show j9 _ ((qs.map (·.1)).take qs.length)=_
   rw[←hL,List.take_of_length_le (by simp)]
  rw[hbl] at h1
  have h1:es'.map bt.p=L:=h1
  have hlen:es'.length=L.length:=by rw[←h1];simp
  let f:Nat→Nat:=λk=>match k with
   |0=>pt'|1=>k6'|k+2=>gf es' k
  have hab:iZ L (λi=>gf es' i)=es':=su h1 (λe he=>Nat.le_trans (h2 e he).2.2.2 (by decide)) λO=>rfl
  have E:=hE
  rw[hbl,hlen] at E
  rw[←hab] at E
  refine⟨a7 s''.heap.objs.size s''.toks f,hr,aW (H:=Dy V.w.params fr I l ab bl pl pg k0 k1 k2 k3 k4 k5 pt first k6 v0 u0 qs ep (bj es) ea L p' (first&&(qs.length==0)) (vm qs.length) (um qs.length) js) E f rfl rfl (λO hp=>nomatch hp),?_,λp hp=> ?_⟩
  ·show(∀e∈iZ L (λi=>gf es' i),_)∧((dO (iZ L (λi=>gf es' i))).map (·.1)).Nodup
   rw[hab]
   exact⟨λe he=>(h2 e he).2.2,h4⟩
  ·have hp':p∈dO (iZ L (λi=>gf es' i)):=hp
   rw[hab] at hp'
   refine⟨(hF p (List.mem_append_right _ hp')).1,?_,λh=>nomatch h⟩
   obtain⟨e,he,hpe⟩:=List.mem_flatMap.mp hp'
   have hpe:p∈[(e.pt,al [.ref e.pa,.int e.num e.nt]),(e.pa,al (aL e.path))]:=hpe
   simp only[gV,List.not_mem_nil,or_false] at hpe
   rcases hpe with rfl|rfl
   ·exact(h2 e he).1
   ·exact(h2 e he).2.1
 ·rintro m ⟨pt',k6',es'⟩ A s1 R hm ⟨h1,h2,h3,h4⟩ hA hn hs hF k
  try dsimp only at h1 h2 h3 h4 hs hF
  have hget:=jw hm
  have e2:(qs.getD m (0,0)).1.fmod 2=Z.modQ (qs.getD m (0,0)).1 2:=by rw[←Z.modQ_eq]
  have e1:(first&&(m+1==0))=false:=by cases first<;>rfl
  have hstep:=hbs m hm
  cases hb:cx (qs.getD m (0,0)).1 with
  |true=>
   have hb':(qs.getD m (0,0)).1.fmod 2=0:=of_decide_eq_true hb
   have hst:bm (m+1)=((bm m).1,(bm m).2+1):=by rw[hstep,re,if_pos hb]
   refine aR G hF (ad (GG V.w.params (aC V) s1.heap.objs.size s1.toks fr I l ab bl pl pg k0 k1 k2 k3 k4 k5 (bm m).2 pt' k6' (vm m) (um m) m (aL qs) ep (bj es) ea (bj es') es'.length (qs.getD m (0,0)).1 (qs.getD m (0,0)).2) (first&&(m==0)) (aB V)) hA hs ?_
   refine ac (aJ (L:=0) hget) rfl rfl rfl λρ O O=>ac (l:=0) (ff G true ⟨λO=>e2▸hb',λO=>rfl⟩) rfl rfl rfl λρ1 O O=>ax rfl λs' hs' hf'=>⟨rfl,?_⟩
   refine k ⟨ρ1 1+1,ao (first&&(m==0)) k6' (ρ 1),es'⟩ s' ⟨by rw[hst];exact h1,h2,Nat.le_succ_of_le h3,h4⟩ ?_ ?_
   ·show am V _ s1 (kh V.w.params fr I l ab bl (cZ V.w.params k0 k1 k2 pl ab pg (jb k3 k4 k5 l (bm (m+1)).2 _ bl++bk (first&&(m+1==0)) ak _ _)) _ _ _ _ _ _ _) s'
    rw[e1,hst]
    exact hs'
   ·show Fz V _ (kh V.w.params fr I l ab bl (cZ V.w.params k0 k1 k2 pl ab pg (jb k3 k4 k5 l (bm (m+1)).2 _ bl++bk (first&&(m+1==0)) ak _ _)) _ _ _ _ _ _ _) s'
    rw[e1,hst]
    exact hf'
  |false=>
   have hb': ¬(qs.getD m (0,0)).1.fmod 2=0:=of_decide_eq_false hb
   obtain⟨hp0,hp1⟩:=hok m hm hb
   have hp0:0≤(bm m).2:=hp0
   have hp1:(bm m).2.toNat<es.length:=hp1
   obtain⟨pn,hpn⟩:∃pn:Nat,(bm m).2=pn:=⟨(bm m).2.toNat,(Int.toNat_of_nonneg hp0).symm⟩
   have hpl:pn<es.length:=by rw[hpn] at hp1;exact hp1
   have hmem:es.getD pn ce∈es:=bV hpl
   generalize he:es.getD pn ce=q at hmem
   obtain⟨hq1,hq2⟩:=hne q hmem
   have hTm:∀p∈q.k,p∈F++dO es':=λp hp=>List.mem_append_left _ (hes p (List.mem_flatMap.mpr ⟨q,hmem,hp⟩))
   have hTn:(q.k.map (·.1)).Nodup:=by simp[bt.k,hq1]
   have hT:=hs.thaw hF (R:=q.k) hTm hTn
   have hst:bm (m+1)=((bm m).1++[(q.p.1++[((bm m).1.length:Int)],(qs.getD m (0,0)).1)],(bm m).2):=by
    rw[hstep,re,if_neg (by rw[hb];exact Bool.false_ne_true),hpn]
    have:(es.map bt.p).getD ((pn:Int)).toNat ([],0)=q.p:=by
     rw[Int.toNat_natCast,List.getD_eq_getElem?_getD,List.getElem?_map,List.getElem?_eq_getElem hpl]
     rw[←he,List.getD_eq_getElem?_getD,List.getElem?_eq_getElem hpl]
     rfl
    rw[this]
   have hbl:(bm m).1.length=es'.length:=by rw[←h1];simp
   have hgp:(bj es)[((pn:Nat):Int).toNat]?=some (.ref q.pt):=by rw[Int.toNat_natCast,lZ hpl,he]
   have hsa:aw (bj es).length:=by show _≤1000;rw[d8];lia
   have hsb:aw (bj es').length:=by show _≤1000;rw[d8];lia
   have fin:∀(κ:Nat) (e':bt) (s':Shared),e'.p=(q.p.1++[((bm m).1.length:Int)],(qs.getD m (0,0)).1)→e'.path.length≤51→s1.heap.objs.size≤e'.pt→s1.heap.objs.size≤e'.pa→
     am V ((kh V.w.params fr I l ab bl (cZ V.w.params k0 k1 k2 pl ab pg (jb k3 k4 k5 l (bm m).2 pt' bl++bk (first&&(m==0)) ak k6' (.int (vm m) (um m)))) (aj l m) (aL qs) ep (bj es) ea (bj es') es'.length++q.k).map (·.1)) s1
      (kh V.w.params fr I l ab bl (cZ V.w.params k0 k1 k2 pl ab pg (jb k3 k4 k5 l (bm m).2 pt' bl++[(ak,κ,.int (qs.getD m (0,0)).1 (qs.getD m (0,0)).2)])) (aj l (m+1)) (aL qs) ep (bj es) ea (bj es'++[.ref e'.pt]) (es'.length+1)++q.k++e'.k) s'→codeAny (model V.prog V.w) A (ug V.w.params fr I) R s':=by
    intro κ e' s' hp hpl' hq hq' hE
    have hE2:=hE.perm (K':=(kh V.w.params fr I l ab bl (cZ V.w.params k0 k1 k2 pl ab pg (jb k3 k4 k5 l (bm m).2 pt' bl++[(ak,κ,.int (qs.getD m (0,0)).1 (qs.getD m (0,0)).2)])) (aj l (m+1)) (aL qs) ep (bj es) ea (bj es'++[.ref e'.pt]) (es'.length+1)++e'.k)++q.k) (by
     rw[List.append_assoc,List.append_assoc]
     exact List.Perm.append_left _ List.perm_append_comm)
    obtain⟨E3,F3⟩:=fi hs hF hTm hTn hE2 (λp hp=>by
     rcases List.mem_append.mp hp with hp|hp
     ·exact .inl (List.mem_map_of_mem (f:=(·.1)) hp)
     ·have hp:p∈[(e'.pt,al [.ref e'.pa,.int e'.num e'.nt]),(e'.pa,al (aL e'.path))]:=hp
      simp only[gV,List.not_mem_nil,or_false] at hp
      rcases hp with rfl|rfl
      ·exact .inr hq
      ·exact .inr hq')
    have F4:=Fz.take E3.at' F3
    have hne':e'.pt≠e'.pa:=by
     have:=hE2.at'.nodup
     rw[List.map_append,List.nodup_append] at this
     have:=this.1
     rw[List.map_append,List.nodup_append] at this
     have:=this.2.1
     simpa[bt.k] using this
    have ea:bj (es'++[e'])=bj es'++[.ref e'.pt]:=by simp[bj]
    have ek:F++dO (es'++[e'])=F++dO es'++e'.k:=by simp[dO]
    refine k ⟨pt',κ,es'++[e']⟩ s' ⟨?_,?_,?_,?_⟩ ?_ ?_
    ·rw[hst,List.map_append,h1]
     show _++[e'.p]=_
     rw[hp]
    ·intro e he
     rcases List.mem_append.mp he with he|he
     ·exact h2 e he
     ·rw[List.mem_singleton.mp he];exact⟨Nat.le_trans hn hq,Nat.le_trans hn hq',hne',hpl'⟩
    ·simp;lia
    ·have e3:dO (es'++[e'])=dO es'++e'.k:=by simp[dO]
     show((dO (es'++[e'])).map (·.1)).Nodup
     rw[e3,List.map_append,List.nodup_append]
     refine⟨h4,by simp[bt.k,hne'],λa ha b hb e=> ?_⟩
     obtain⟨p,hp,rfl⟩:=List.mem_map.mp ha
     have hlt:=Heap.lt_size (hF p (List.mem_append_right _ hp)).1
     have hb':b=e'.pt∨b=e'.pa:=by simpa[bt.k] using hb
     rw[e] at hlt
     rcases hb' with rfl|rfl
     ·exact absurd hlt (Nat.not_lt.mpr hq)
     ·exact absurd hlt (Nat.not_lt.mpr hq')
    ·show am V _ s1 (kh V.w.params fr I l ab bl (cZ V.w.params k0 k1 k2 pl ab pg (jb k3 k4 k5 l (bm (m+1)).2 pt' bl++bk (first&&(m+1==0)) ak κ (.int (qs.getD m (0,0)).1 (qs.getD m (0,0)).2))) _ _ _ _ _ (bj (es'++[e'])) (es'++[e']).length) s'
     rw[e1,hst,ea,List.length_append]
     exact E3.keep
    ·show Fz V (F++dO (es'++[e'])) (kh V.w.params fr I l ab bl (cZ V.w.params k0 k1 k2 pl ab pg (jb k3 k4 k5 l (bm (m+1)).2 pt' bl++bk (first&&(m+1==0)) ak κ (.int (qs.getD m (0,0)).1 (qs.getD m (0,0)).2))) _ _ _ _ _ (bj (es'++[e'])) (es'++[e']).length) s'
     rw[e1,hst,ea,ek,List.length_append]
     exact F4
   rw[hpn] at hT fin
   by_cases hpe:q.path=[]
   ·have hqk:q.k=[(q.pt,al [.ref q.pa,.int q.num q.nt]),(q.pa,al [])]:=by unfold bt.k;rw[hpe];rfl
    rw[hqk] at hT fin
    refine aR G Fz.nil (ad (GH V.w.params (aC V) s1.heap.objs.size s1.toks fr I l ab bl pl pg k0 k1 k2 k3 k4 k5 pn pt' k6' (vm m) (um m) m (aL qs) ep (bj es) ea (bj es') es'.length (qs.getD m (0,0)).1 (qs.getD m (0,0)).2 q.pt q.pa q.num q.nt) (first&&(m==0)) (aB V)) hA hT ?_
    refine ac (aJ (L:=0) hget) rfl rfl rfl λρ O O=>ac (l:=0) (ff G false ⟨(λh=>nomatch h),λh=>absurd (e2.trans h) hb'⟩) rfl rfl rfl λρ1 O O=>ac (bG (L:=0) (by lia) hgp hsa) rfl rfl rfl λρ2 O O=>ac (gj (L:=0) hsb) rfl rfl rfl λρ3 O hρ3=>
     ac (tG (L:=0)) rfl rfl rfl λρ4 O hρ4=>ac (aM (L:=0) hsb) rfl rfl rfl λρ5 O O=>ax rfl λs' hs' O=>⟨rfl,?_⟩
    refine fin (ao (first&&(m==0)) k6' (ρ 1)) ⟨ρ4 0,ρ3 0,[((((bj es').length:Nat):Int),ρ3 2)],(qs.getD m (0,0)).1,(qs.getD m (0,0)).2⟩ s' ?_ (by simp) hρ4 hρ3 hs'
    simp[bt.p,hpe,hbl,d8]
   ·refine aR G Fz.nil (ad (GI V.w.params (aC V) s1.heap.objs.size s1.toks fr I l ab bl pl pg k0 k1 k2 k3 k4 k5 pn pt' k6' (vm m) (um m) m (aL qs) ep (bj es) ea (bj es') es'.length (qs.getD m (0,0)).1 (qs.getD m (0,0)).2 q.pt q.pa q.num q.nt (aL q.path)) (first&&(m==0)) (aB V)) hA hT ?_
    refine ac (aJ (L:=0) hget) rfl rfl rfl λρ O O=>ac (l:=0) (ff G false ⟨(λh=>nomatch h),λh=>absurd (e2.trans h) hb'⟩) rfl rfl rfl λρ1 O O=>ac (bG (L:=0) (by lia) hgp hsa) rfl rfl rfl λρ2 O O=>ac (gj (L:=0) hsb) rfl rfl rfl λρ3 O hρ3=>
     bh (l:=0) (tF (L:=0) (by simpa[aL] using hpe) (by simp) (by show _≤1000;rw[bw];simp;lia)).hookF rfl rfl rfl λρ4 O hρ4 hnew O=>ac (aM (L:=0) hsb) rfl rfl rfl λρ5 O O=>ax rfl λs' hs' O=>⟨rfl,?_⟩
    refine fin (ao (first&&(m==0)) k6' (ρ 1)) ⟨ρ4 0,ρ4 2,q.path++[((((bj es').length:Nat):Int),ρ3 2)],(qs.getD m (0,0)).1,(qs.getD m (0,0)).2⟩ s' ?_ (by simp;lia) hρ4 (hnew (ρ4 2,_) (.head _)) ?_
    ·simp[bt.p,hbl,d8]
    ·have:=hs'
     rw[show aL q.path++[Value.int ((bj es').length:Nat) (ρ3 2)]=aL (q.path++[((((bj es').length:Nat):Int),ρ3 2)]) by rw[pD];rfl] at this
     exact this
 ·rintro⟨pt',k6',es'⟩ A s1 R _ hA hs hF k
  refine aR G hF (a6 (GF V.w.params (aC V) s1.heap.objs.size s1.toks fr I l ab bl (cZ V.w.params k0 k1 k2 pl ab pg (jb k3 k4 k5 l (bm qs.length).2 pt' bl++bk (first&&(qs.length==0)) ak k6' (.int (vm qs.length) (um qs.length)))) qs.length (aL qs) ep (bj es) ea (bj es') es'.length) (aB V)) hA hs ?_
  exact ac (bq (L:=0) (by rw[List.getElem?_eq_none (by rw[bw];exact Nat.le_refl _)])) rfl rfl rfl λρ O O=>an rfl λs' hs' hf'=>k s' hs' hf'
 ·have e1:(first&&(0==0))=first:=by cases first<;>rfl
  show At V (kh V.w.params fr I l ab bl (cZ V.w.params k0 k1 k2 pl ab pg (jb k3 k4 k5 l (-1) pt bl++bk (first&&(0==0)) ak k6 (.int v0 u0))) (aj l 0) (aL qs) ep (bj es) ea [] 0) s
  rw[e1]
  exact hs
 ·have e1:(first&&(0==0))=first:=by cases first<;>rfl
  show Fz V (F++[]) (kh V.w.params fr I l ab bl (cZ V.w.params k0 k1 k2 pl ab pg (jb k3 k4 k5 l (-1) pt bl++bk (first&&(0==0)) ak k6 (.int v0 u0))) (aj l 0) (aL qs) ep (bj es) ea [] 0) s
  rw[e1,List.append_nil]
  exact hf
noncomputable def HF(sts:List Stmt)(k:Nat):Expr:=match sts[k]? with
 |some (.For t _ _ _ _)=>t
 |_=> .Constant .none 0 ⟨0,0,0,0⟩
noncomputable def CP(P:Params):Expr:=HF (aA (aU P 218)) 1
noncomputable def eY(P:Params)(fr I L pg:Nat)(fo io:Obj)(Ls:List Value)(eL:Nat)(pgv:List Value)(epg:Nat):KL:=[(fr,fo),(I,io),(L,aa Ls eL),(pg,aa pgv epg)]
noncomputable def qY(first:Bool)(k3 k4 k5 k6 l:Nat)(p:Int)(pt bl:Nat)(v:Int)(u:Nat):aF:=match first with
 |true=>[]
 |false=>jb k3 k4 k5 l p pt bl++[(ak,k6,.int v u)]
noncomputable def jl(first:Bool)(k3 k4 k5 k6 l:Nat)(p:Int)(pt bl:Nat)(v:Int)(u:Nat):aF:=match first with
 |true=>[(ly,k3,.ref l)]
 |false=>jb k3 k4 k5 l p pt bl++[(ak,k6,.int v u)]
noncomputable def IL(P:Params)(b1 b2:Bool)(n t fr I L pg:Nat)(io:Obj)(Ls:List Value)(eL:Nat)(pgv:List Value)(epg pl ab k0 k1 k2:Nat)(first:Bool)(k3 k4 k5 k6 lp:Nat)(p:Int)(pt bl:Nat)(v:Int)(u l:Nat):bu:=
 bf P b1 b2 (lV (CP P) (g8 P fr) (.ref l)) (eY P fr I L pg (cZ P k0 k1 k2 pl ab pg (qY first k3 k4 k5 k6 lp p pt bl v u)) io Ls eL pgv epg) n t (.fin [1,1] (.ok .next) [0,1,2,3] (eY P fr I L pg (cZ P k0 k1 k2 pl ab pg (jl first (ao first k3 t) k4 k5 k6 l p pt bl v u)) io Ls eL pgv epg))
noncomputable def EJ(P:Params)(b1 b2:Bool)(n t fr I L pg:Nat)(io:Obj)(Ls:List Value)(eL:Nat)(pgv:List Value)(epg pl ab k0 k1 k2:Nat)(first:Bool)(k3 k4 k5 k6 l:Nat)(p:Int)(pt bl:Nat)(v:Int)(u:Nat)(qs:List (Int×Nat))(ep:Nat):bu:=
 bf P b1 b2 (fg (wn P) (g8 P fr)) (eY P fr I L pg (cZ P k0 k1 k2 pl ab pg (jl first k3 k4 k5 k6 l p pt bl v u)) io Ls eL pgv epg++[(l,aa (aL qs) ep)]) n t
  (.hook [1,5,5,0,5,6] 3 (CY P fr (n+2) n l (n+1) qs ep false [7,5,4,6]) λρ=> .fin [8,8,8] (.ok (.ret (.ref (n+1)))) [0,1,2,3,6,4] (eY P fr I L pg (cZ P k0 k1 k2 pl ab pg (jl first k3 k4 k5 k6 l p pt bl v u)) io Ls eL pgv epg++[(n+1,aa (cW (iA qs) (λi=>ρ (i+3))) (iA qs).length)]++[(l,aa (aL qs) ep)]))
theorem GK(P n t fr I L pg io Ls eL pgv epg pl ab k0 k1 k2 k3 k4 k5 k6 l p pt bl v u qs ep):Qk 200 λr=>co λfirst b1 b2=>r (EJ P b1 b2 n t fr I L pg io Ls eL pgv epg pl ab k0 k1 k2 first k3 k4 k5 k6 l p pt bl v u qs ep):=by unfold Qk;kernel_rfl!
noncomputable def BZ(P:Params)(b1 b2:Bool)(n t fr I L pg:Nat)(io:Obj)(Ls:List Value)(eL:Nat)(pgv:List Value)(epg pl ab k0 k1 k2:Nat)(first:Bool)(k3 k4 k5 k6 l:Nat)(p:Int)(pt bl:Nat)(v:Int)(u:Nat)(qs:List (Int×Nat))(ep:Nat):bu:=
 bf P b1 b2 (fg (wn P) (g8 P fr)) (eY P fr I L pg (cZ P k0 k1 k2 pl ab pg (jl first k3 k4 k5 k6 l p pt bl v u)) io Ls eL pgv epg++[(l,aa (aL qs) ep)]) n t
  (.hook [1,5,5,0,5,6] 3 (CY P fr (n+2) n l (n+1) qs ep true [7,5,4,6]) λρ=> .fin [8] (.ok (.ret (.ref (n+1)))) [0,1,2,3,6,4] (eY P fr I L pg (cZ P k0 k1 k2 pl ab pg (jl first k3 k4 k5 k6 l p pt bl v u)) io Ls eL pgv epg++[(n+1,aa (cW (iA qs) (λi=>ρ (i+3))) (iA qs).length)]++[(l,aa (aL qs) ep)]))
theorem Co(P n t fr I L pg io Ls eL pgv epg pl ab k0 k1 k2 k3 k4 k5 k6 l p pt bl v u qs ep):Qk 200 λr=>co λfirst b1 b2=>r (BZ P b1 b2 n t fr I L pg io Ls eL pgv epg pl ab k0 k1 k2 first k3 k4 k5 k6 l p pt bl v u qs ep):=by unfold Qk;kernel_rfl!
noncomputable def EI(P:Params)(b1 b2:Bool)(n t fr I L pg:Nat)(io:Obj)(Ls:List Value)(eL:Nat)(pgv:List Value)(epg pl ab k0 k1 k2:Nat)(first:Bool)(k3 k4 k5 k6 l:Nat)(p:Int)(pt bl:Nat)(v:Int)(u a1:Nat)(o1:Obj)(es:List bt)(ea:Nat):bu:=
 bf P b1 b2 (fg (wl P) (g8 P fr)) (eY P fr I L pg (cZ P k0 k1 k2 pl ab pg (jl first k3 k4 k5 k6 l p pt bl v u)) io Ls eL pgv epg++[(a1,o1)]++[(ab,aa (bj es) ea)]) n t
  (.hook [1,6,6,0,6,7] 3 (CX P fr (n+2) n ab (n+1) es ea false [8,6,5,7]) λρ=> .fin [9,9,9,9,9,9] (.ok (.ret (.ref (n+1)))) [0,1,2,3,4,7,5] (eY P fr I L pg (cZ P k0 k1 k2 pl ab pg (jl first k3 k4 k5 k6 l p pt bl v u)) io Ls eL pgv epg++[(a1,o1),(n+1,aa (aL (es.map λe:bt=>(e.num,e.nt))) es.length)]++[(ab,aa (bj es) ea)]))
theorem GJ(P n t fr I L pg io Ls eL pgv epg pl ab k0 k1 k2 k3 k4 k5 k6 l p pt bl v u a1 o1 es ea):Qk 200 λr=>co λfirst b1 b2=>r (EI P b1 b2 n t fr I L pg io Ls eL pgv epg pl ab k0 k1 k2 first k3 k4 k5 k6 l p pt bl v u a1 o1 es ea):=by unfold Qk;kernel_rfl!
noncomputable def BY(P:Params)(b1 b2:Bool)(n t fr I L pg:Nat)(io:Obj)(Ls:List Value)(eL:Nat)(pgv:List Value)(epg pl ab k0 k1 k2:Nat)(first:Bool)(k3 k4 k5 k6 l:Nat)(p:Int)(pt bl:Nat)(v:Int)(u a1:Nat)(o1:Obj)(es:List bt)(ea:Nat):bu:=
 bf P b1 b2 (fg (wl P) (g8 P fr)) (eY P fr I L pg (cZ P k0 k1 k2 pl ab pg (jl first k3 k4 k5 k6 l p pt bl v u)) io Ls eL pgv epg++[(a1,o1)]++[(ab,aa (bj es) ea)]) n t
  (.hook [1,6,6,0,6,7] 3 (CX P fr (n+2) n ab (n+1) es ea true [8,6,5,7]) λρ=> .fin [9,9] (.ok (.ret (.ref (n+1)))) [0,1,2,3,4,7,5] (eY P fr I L pg (cZ P k0 k1 k2 pl ab pg (jl first k3 k4 k5 k6 l p pt bl v u)) io Ls eL pgv epg++[(a1,o1),(n+1,aa (aL (es.map λe:bt=>(e.num,e.nt))) es.length)]++[(ab,aa (bj es) ea)]))
theorem Cn(P n t fr I L pg io Ls eL pgv epg pl ab k0 k1 k2 k3 k4 k5 k6 l p pt bl v u a1 o1 es ea):Qk 200 λr=>co λfirst b1 b2=>r (BY P b1 b2 n t fr I L pg io Ls eL pgv epg pl ab k0 k1 k2 first k3 k4 k5 k6 l p pt bl v u a1 o1 es ea):=by unfold Qk;kernel_rfl!
noncomputable def lB(l b:Nat)(vs ws:List Value)(ep eq:Nat)(js:List Nat):aD:=⟨.call (.builtin "list.__iadd__") ⟨[.ref l,.ref b],[]⟩,js,[(l,aa vs ep),(b,aa ws eq)],λρ=> .ok (.ret (.ref l)),λρ=>[aa (vs++ws) (ρ 2),aa ws eq],λO=>[]⟩
noncomputable def IK(P:Params)(b1 b2:Bool)(n t fr I L pg:Nat)(io:Obj)(Ls:List Value)(eL:Nat)(pgv:List Value)(epg pl ab k0 k1 k2:Nat)(first:Bool)(k3 k4 k5 k6 l:Nat)(p:Int)(pt bl:Nat)(v:Int)(u:Nat)(qs:List (Int×Nat))(ep:Nat)(avs:List Value)(ea:Nat)(Lp:List PE)(p':Int)(v':Int)(u':Nat):bu:=
 bf P b1 b2 (gQ ((nv P).drop 1) (g8 P fr)) (eY P fr I L pg (cZ P k0 k1 k2 pl ab pg (jl first k3 k4 k5 k6 l p pt bl v u)) io Ls eL pgv epg++[(l,aa (aL qs) ep),(ab,aa avs ea)]) n t
  (.hook [0,8,8,8,0,8,9,9,0,9,9,9,8,9,9,9,0,9,9,9,8,9,9,9,0,9,9,9,8,9,9,11,1,1,1,1,1,5,5,0,5,12] 6 (Dy P fr (n+5) l ab n pl pg k0 k1 k2 k3 (ao first k4 (t+2)) (ao first k5 (t+3)) (t+1) first k6 v u qs ep avs ea Lp p' false v' u' [0,11,4,5,6]) λρ=> .hook [1,1,4,4,7] 0 (lB pg n pgv (bj (iZ Lp (λi=>ρ (i+4)))) epg Lp.length [3,6]) λρ1=>
  .fin [1,1,1,1,1] (.ok .next) [0,1,2,3,6,4,5] (eY P fr I L pg (cZ P k0 k1 k2 pl n pg (jb k3 (ao first k4 (t+2)) (ao first k5 (t+3)) l p' (ρ 2) n++[(ak,ρ 3,.int v' u')])) io Ls eL (pgv++bj (iZ Lp (λi=>ρ (i+4)))) (ρ1 2)++[(n,aa (bj (iZ Lp (λi=>ρ (i+4)))) Lp.length)]++[(l,aa (aL qs) ep),(ab,aa avs ea)]))
theorem Jc(P n t fr I L pg io Ls eL pgv epg pl ab k0 k1 k2 k3 k4 k5 k6 l p pt bl v u qs ep avs ea Lp p' v' u'):Qk 400 λr=>co λfirst b1 b2=>r (IK P b1 b2 n t fr I L pg io Ls eL pgv epg pl ab k0 k1 k2 first k3 k4 k5 k6 l p pt bl v u qs ep avs ea Lp p' v' u'):=by unfold Qk;kernel_rfl!
theorem GE(P:Params)(n t fr I L pg:Nat)(fo:Obj)(j:Nat)(Ls:List Value)(eL:Nat)(pgv:List Value)(epg l:Nat):Qk 100 λr=>ay λb1 b2=>r ( bf P b1 b2 (ia (.ref I)) (eY P fr I L pg fo (aj L j) Ls eL pgv epg) n t (.hook [2] 0 (a8 I L j Ls eL (.ref l) [1,2]) λρ=> .fin [] (.ok (.ret (.ref l))) [0,1,2,3] (eY P fr I L pg fo (aj L (j+1)) Ls eL pgv epg))):=by unfold Qk;kernel_rfl!
theorem GD(P:Params)(n t fr I L pg:Nat)(fo:Obj)(j:Nat)(Ls:List Value)(eL:Nat)(pgv:List Value)(epg:Nat):Qk 100 λr=>ay λb1 b2=>r ( bf P b1 b2 (ia (.ref I)) (eY P fr I L pg fo (aj L j) Ls eL pgv epg) n t (.hook [2] 0 (cn I L j Ls eL [1,2]) λρ=> .fin [6] (.ok .next) [0,1,2,3] (eY P fr I L pg fo (ba j) Ls eL pgv epg))):=by unfold Qk;kernel_rfl!
theorem Jd(P n t fr I L pg io Ls eL pgv epg pl ab k0 k1 k2 k3 k4 k5 k6 lp p pt bl v u l):Qk 100 λr=>co λfirst b1 b2=>r (IL P b1 b2 n t fr I L pg io Ls eL pgv epg pl ab k0 k1 k2 first k3 k4 k5 k6 lp p pt bl v u l):=by unfold Qk;kernel_rfl!
theorem sk(P fr I):C5 P fr I= .forLoop (CP P) (.ref I) (nv P) [] (g8 P fr):=by kernel_rfl!
noncomputable def r8:Expr→Bool
 | .Name _ _=>true
 |_=>false
theorem sz(P):r8 (CP P)=true:=by kernel_rfl!
noncomputable def wK:Stmt→Pos
 | .If _ _ _ p=>p
 |_=>⟨0,0,0,0⟩
noncomputable def Ay:Stmt→List Stmt
 | .If _ b _ _=>b
 |_=>[]
noncomputable def si:Expr→Pos
 | .Compare _ _ _ p=>p
 |_=>⟨0,0,0,0⟩
theorem zQ(P):nv P= .If (.Compare (wn P) [.NotEq] [wl P] (si (Aa (nv P) 0))) (Ay (km (nv P) 0)) [] (wK (km (nv P) 0))::(nv P).drop 1:=by kernel_rfl!
theorem ox(f:Array Value→Array Value)(vs ws:List Value)(ep:Nat)(h:f ⟨vs⟩=⟨ws⟩):∃e,Obj.mapSeq f (aa vs ep)=aa ws e:=
 ⟨if(f ⟨vs⟩).size==(⟨vs⟩:Array Value).size then ep else ep+1,by
  show Obj.mk _ _ (.seq (f ⟨vs⟩) (if(f ⟨vs⟩).size==(⟨vs⟩:Array Value).size then ep else ep+1)) _=_
  rw[h];rfl⟩
theorem tM{V:Gw}{l b ep eq:Nat}{vs ws:List Value}{js:List Nat}{L:Nat}(h1:aw vs.length)(h2:aw ws.length):ai V L (lB l b vs ws ep eq js) (λO=>True):=by
 have h1':vs.length≤1000:=h1
 have h2':ws.length≤1000:=h2
 refine cR (H:=lB l b vs ws ep eq js) rfl F.slot_list_iadd (λs hs=>a9 hs (.head _) rfl) F.entry_list_iadd (F.args_list_iadd_2 _ _) (AutoSeq1.list___iadd___list_list_0 l ⟨vs⟩ ep b ⟨ws⟩ eq ?_ ?_ ?_) λA s ha hs=> ?_
 ·have:Builtin.List.listTooLong ((⟨vs⟩:Array Value).size+(⟨ws⟩:Array Value).size)=false:=by
   show decide (vs.length+ws.length>sizeLine)=false
   rw[sizeLine_eq];exact decide_eq_false (by lia)
  rw[this,Bool.and_false];exact Bool.false_ne_true
 ·exact h1.fits
 ·show vs.length+ws.length≤sizeLine+1
  rw[sizeLine_eq];lia
 ·refine⟨hs.get (l,aa vs ep) (.head _),hs.get (b,aa ws eq) (.tail _ (.head _)),?_⟩
  obtain⟨e',he⟩:=ox (λx=>x++(⟨ws⟩:Array Value)) vs (vs++ws) ep (by simp)
  have E:=hs.ends.upd (j:=0) (p:=(l,aa vs ep)) (f:=Obj.mapSeq λx=>x++(⟨ws⟩:Array Value)) Wr.self rfl (by rw[he];rfl)
  have e:d3 [(l,aa vs ep),(b,aa ws eq)] 0 (Obj.mapSeq λx=>x++(⟨ws⟩:Array Value))=[(l,aa (vs++ws) e'),(b,aa ws eq)]:=by
   show [(l,Obj.mapSeq (λx=>x++(⟨ws⟩:Array Value)) (aa vs ep)),_]=_
   rw[he]
  have E2:am V [l,b] s (d3 [(l,aa vs ep),(b,aa ws eq)] 0 (Obj.mapSeq λx=>x++(⟨ws⟩:Array Value))) {s with heap:=s.heap.update l (Obj.mapSeq λx=>x++(⟨ws⟩:Array Value))}:=E
  rw[e] at E2
  exact⟨a7 _ _ (λO=>e'),rfl,aW (H:=lB l b vs ws ep eq js) E2 (λO=>e') rfl rfl (λO hp=>nomatch hp),trivial⟩
structure ez where
 a:Nat
 qs:List (Int×Nat)
 e:Nat
noncomputable def ez.k(q:ez):Addr×Obj:=(q.a,aa (aL q.qs) q.e)
noncomputable def gU(ps:List ez):List Value:=ps.map λq=> .ref q.a
noncomputable def oG:ez:=⟨0,[],0⟩
theorem u7{ps:List ez}{m:Nat}(h:m<ps.length):(gU ps)[m]?=some (.ref (ps.getD m oG).a):=by simp[gU,h]
noncomputable def ez.ns(q:ez):List Int:=q.qs.map (·.1)
noncomputable def q8(st:List PE×List PE)(ns:List Int):List PE×List PE:=(st.1++(j9 st.2 ns).1,(j9 st.2 ns).1)
noncomputable def fZ(P:List (List Int)):List PE×List PE:=P.foldl q8 ([],[([],-1)])
structure xu where
 k3:Nat
 k4:Nat
 k5:Nat
 k6:Nat
 lp:Nat
 p:Int
 pt:Nat
 v:Int
 u:Nat
 ab:Nat
 ea:Nat
 epg:Nat
 es:List bt
 pgs:List bt
structure kC(N:List (List Int)):Prop where
 chk:∀m,m<N.length→((N.getD m []).filter cx).map (·-1)=(fZ (N.take m)).2.map (·.2)
 par:∀m,m<N.length→∀i,i<(N.getD m []).length→cx ((N.getD m []).getD i 0)=false→0≤(j9 (fZ (N.take m)).2 ((N.getD m []).take i)).2∧(j9 (fZ (N.take m)).2 ((N.getD m []).take i)).2.toNat<(fZ (N.take m)).2.length
 len:∀m,m≤N.length→(fZ (N.take m)).2.length≤400∧(fZ (N.take m)).1.length≤400∧∀q∈(fZ (N.take m)).2,q.1.length≤50
 first:N.getD 0 []≠[]
theorem zE(qs:List (Int×Nat)):iA qs=((qs.map (·.1)).filter cx).map (·-1):=by
 unfold iA
 rw[List.filter_map,List.map_map]
 rfl
theorem k9(ns:List Int)(τ:Nat→Nat):cW ns τ=aL ((List.range ns.length).map λi=>(ns.getD i 0,τ i)):=by simp[cW,aL]
theorem vi{prog:Program}{w:World}{A:Around}{tgt:Expr}{it v:Value}{Q:Unit→Shared→Prop}{E:Value→Shared→Prop}{s:Shared}(h:r8 tgt=true)(hQ:Q () s):wpAny (model prog w) A (letOwnedTupleGo tgt it v) Q E s:=by
 cases tgt<;>try exact CZ h
 exact wpAny_pure hQ
theorem oh{prog:Program}{w:World}{A:Around}{tgt:Expr}{env:Env}{v:Value}{body:List Stmt}{R:PySem.Fin→Shared→Prop}{s:Shared}
  (h:wpAny (model prog w) A (assign tgt env v) (λO s1=>wpAny (model prog w) A (execs body env) (λf s2=>R (.done f) s2) No s1) No s):wpAny (model prog w) A (hV tgt env v body) R No s:=by
 unfold hV
 rw[←ey,←iS]
 exact wpAny_bind (wpAny_mono h (λO s1 h1=>wpAny_bind (wpAny_mono h1 (λf s2 h2=>wpAny_pure h2) λO O x=>x)) λO O x=>x)
noncomputable def Du(P:Params)(fr I L pg pl k0 k1 k2 m:Nat)(ps:List ez)(eL:Nat)(σ:xu):KL:=
 eY P fr I L pg (cZ P k0 k1 k2 pl σ.ab pg (qY (m==0) σ.k3 σ.k4 σ.k5 σ.k6 σ.lp σ.p σ.pt σ.ab σ.v σ.u)) (aj L m) (gU ps) eL (bj σ.pgs) σ.epg
noncomputable def xu.f(σ:xu):KL:=dO σ.pgs++dO σ.es++[(σ.ab,aa (bj σ.es) σ.ea)]
theorem gD{V:Gw}(G:au V){A:Around}{Q:Value→Shared→Prop}{E:Value→Shared→Prop}{L f:Nat}{s:Shared}{x:Expr}{env:Env}{K F:KL}{scr:fC}(hF:Fz V F K s)
  (e:(bf V.w.params (aC V) (aB V) (fg x env) K s.heap.objs.size s.toks scr).run f=(bf V.w.params (aC V) (aB V) (fg x env) K s.heap.objs.size s.toks scr).exp) (hA:Bd L A) (h:At V K s)
  (hS:dB V (DO Q) E L (K.map (·.1)) s F scr):wpAny (model V.prog V.w) A (eval x env) Q E s:=by
 refine cC ?_
 rw[gr]
 exact aq G hF e hA h hS
theorem Fz.app{V:Gw}{F F' K:KL}{s:Shared}(h:Fz V F K s)(h':Fz V F' K s):Fz V (F++F') K s:=λp hp=>(List.mem_append.mp hp).elim (h p) (h' p)
theorem Fz.only{V:Gw}{F F' K:KL}{s:Shared}(h:Fz V F K s)(hm:∀p∈F',p∈F):Fz V F' K s:=λp hp=>h p (hm p hp)
theorem og{V:Gw}{es:List bt}{F K:KL}{s:Shared}{l:Nat}{vs:List Value}{ep:Nat}(hF:Fz V F K s)(hes:∀p∈dO es,p∈F)(hl:s.heap.get? l=some (aa vs ep)):∀p∈dO es,p.1≠l:=λp hp e=>by
 have h1:=(hF p (hes p hp)).1
 rw[e,hl] at h1
 obtain⟨e',he',hpe⟩:=List.mem_flatMap.mp hp
 have hpe:p∈[(e'.pt,al [.ref e'.pa,.int e'.num e'.nt]),(e'.pa,al (aL e'.path))]:=hpe
 simp only[gV,List.not_mem_nil,or_false] at hpe
 rcases hpe with rfl|rfl
 ·injection h1 with h1;have:=congrArg Obj.cls h1;simp[aa,al] at this
 ·injection h1 with h1;have:=congrArg Obj.cls h1;simp[aa,al] at this
theorem Fz.cons{V:Gw}{F K R:KL}{s:Shared}(h:Fz V F K s)(hne:∀p∈F,p.1∉R.map (·.1)):Fz V F (K++R) s:=λp hp=>⟨(h p hp).1,λhm=>by
 rw[List.map_append] at hm
 rcases List.mem_append.mp hm with hm|hm
 ·exact(h p hp).2.1 hm
 ·exact hne p hp hm,(h p hp).2.2⟩
section
variable {V:Gw} {fr I L pg pl ab k0 k1 k2 k3 k4 k5 k6 l pt bl u eL epg:Nat} {p v:Int} {io:Obj} {Ls pgv:List Value} {first:Bool} {F:KL} {A:Around} {s:Shared} {Q:Value→Shared→Prop}
theorem Jp(G:au V)(hA:Bd 2 A){qs:List (Int×Nat)}{ep:Nat}(hq:(l,aa (aL qs) ep)∈F)(hsq:qs.length≤400)
  (hs:At V (eY V.w.params fr I L pg (cZ V.w.params k0 k1 k2 pl ab pg (jl first k3 k4 k5 k6 l p pt bl v u)) io Ls eL pgv epg) s) (hF:Fz V F (eY V.w.params fr I L pg (cZ V.w.params k0 k1 k2 pl ab pg (jl first k3 k4 k5 k6 l p pt bl v u)) io Ls eL pgv epg) s)
  (hQ:∀τ s',am V [fr,I,L,pg] s (eY V.w.params fr I L pg (cZ V.w.params k0 k1 k2 pl ab pg (jl first k3 k4 k5 k6 l p pt bl v u)) io Ls eL pgv epg++[(s.heap.objs.size+1,aa (cW (iA qs) τ) (iA qs).length)]) s'→
   Fz V F (eY V.w.params fr I L pg (cZ V.w.params k0 k1 k2 pl ab pg (jl first k3 k4 k5 k6 l p pt bl v u)) io Ls eL pgv epg++[(s.heap.objs.size+1,aa (cW (iA qs) τ) (iA qs).length)]) s'→Q (.ref (s.heap.objs.size+1)) s'):
  wpAny (model V.prog V.w) A (eval (wn V.w.params) (g8 V.w.params fr)) Q No s:=by
 have hTm:∀p∈[(l,aa (aL qs) ep)],p∈F:=λp hp=>by rw[List.mem_singleton.mp hp];exact hq
 have hT:=hs.thaw hF hTm (by simp)
 have fin:∀τ s',am V ((eY V.w.params fr I L pg (cZ V.w.params k0 k1 k2 pl ab pg (jl first k3 k4 k5 k6 l p pt bl v u)) io Ls eL pgv epg++[(l,aa (aL qs) ep)]).map (·.1)) s
   ((eY V.w.params fr I L pg (cZ V.w.params k0 k1 k2 pl ab pg (jl first k3 k4 k5 k6 l p pt bl v u)) io Ls eL pgv epg++[(s.heap.objs.size+1,aa (cW (iA qs) τ) (iA qs).length)])++[(l,aa (aL qs) ep)]) s'→Q (.ref (s.heap.objs.size+1)) s':=λτ s' hE=>by
  obtain⟨E3,F3⟩:=fi hs hF hTm (by simp) hE (λp hp=>by
   rcases List.mem_append.mp hp with hp|hp
   ·exact .inl (List.mem_map_of_mem (f:=(·.1)) hp)
   ·rw[List.mem_singleton.mp hp];exact .inr (Nat.le_succ _))
  exact hQ τ s' E3 F3
 by_cases h0:qs.length=0
 ·refine gD G Fz.nil (bb (Co V.w.params s.heap.objs.size s.toks fr I L pg io Ls eL pgv epg pl ab k0 k1 k2 k3 k4 k5 k6 l p pt bl v u qs ep) first (aC V) (aB V)) hA hT ?_
  exact ac (l:=1) (wP G (by rw[h0];rfl) (by lia)) rfl rfl rfl λρ O O=>an rfl λs' hs' O=>fin _ s' hs'
 ·refine gD G Fz.nil (bb (GK V.w.params s.heap.objs.size s.toks fr I L pg io Ls eL pgv epg pl ab k0 k1 k2 k3 k4 k5 k6 l p pt bl v u qs ep) first (aC V) (aB V)) hA hT ?_
  exact ac (l:=1) (wP G (by symm;simp only[beq_eq_false_iff_ne];exact h0) (by lia)) rfl rfl rfl λρ O O=>an rfl λs' hs' O=>fin _ s' hs'
theorem Jo(G:au V)(hA:Bd 2 A){es:List bt}{ea a1:Nat}{o1:Obj}(hab:(ab,aa (bj es) ea)∈F)(hes:∀p∈dO es,p∈F)(hse:es.length≤400)
  (hs:At V (eY V.w.params fr I L pg (cZ V.w.params k0 k1 k2 pl ab pg (jl first k3 k4 k5 k6 l p pt bl v u)) io Ls eL pgv epg++[(a1,o1)]) s) (hF:Fz V F (eY V.w.params fr I L pg (cZ V.w.params k0 k1 k2 pl ab pg (jl first k3 k4 k5 k6 l p pt bl v u)) io Ls eL pgv epg++[(a1,o1)]) s)
  (hQ:∀s',am V [fr,I,L,pg,a1] s (eY V.w.params fr I L pg (cZ V.w.params k0 k1 k2 pl ab pg (jl first k3 k4 k5 k6 l p pt bl v u)) io Ls eL pgv epg++[(a1,o1),(s.heap.objs.size+1,aa (aL (es.map λe:bt=>(e.num,e.nt))) es.length)]) s'→
   Fz V F (eY V.w.params fr I L pg (cZ V.w.params k0 k1 k2 pl ab pg (jl first k3 k4 k5 k6 l p pt bl v u)) io Ls eL pgv epg++[(a1,o1),(s.heap.objs.size+1,aa (aL (es.map λe:bt=>(e.num,e.nt))) es.length)]) s'→Q (.ref (s.heap.objs.size+1)) s'):
  wpAny (model V.prog V.w) A (eval (wl V.w.params) (g8 V.w.params fr)) Q No s:=by
 have hTm:∀p∈[(ab,aa (bj es) ea)],p∈F:=λp hp=>by rw[List.mem_singleton.mp hp];exact hab
 have hT:=hs.thaw hF hTm (by simp)
 have hne:=og hF hes (hF _ hab).1
 have hFe:Fz V (dO es) (eY V.w.params fr I L pg (cZ V.w.params k0 k1 k2 pl ab pg (jl first k3 k4 k5 k6 l p pt bl v u)) io Ls eL pgv epg++[(a1,o1)]++[(ab,aa (bj es) ea)]) s:=
  (hF.only hes).cons λp hp hm=>hne p hp (List.mem_singleton.mp hm)
 have fin:∀s',am V ((eY V.w.params fr I L pg (cZ V.w.params k0 k1 k2 pl ab pg (jl first k3 k4 k5 k6 l p pt bl v u)) io Ls eL pgv epg++[(a1,o1)]++[(ab,aa (bj es) ea)]).map (·.1)) s
   ((eY V.w.params fr I L pg (cZ V.w.params k0 k1 k2 pl ab pg (jl first k3 k4 k5 k6 l p pt bl v u)) io Ls eL pgv epg++[(a1,o1),(s.heap.objs.size+1,aa (aL (es.map λe:bt=>(e.num,e.nt))) es.length)])++[(ab,aa (bj es) ea)]) s'→Q (.ref (s.heap.objs.size+1)) s':=λs' hE=>by
  obtain⟨E3,F3⟩:=fi hs hF hTm (by simp) hE (λp hp=>by
   rcases List.mem_append.mp hp with hp|hp
   ·exact .inl (List.mem_map_of_mem (f:=(·.1)) (List.mem_append_left _ hp))
   ·simp only[gV,List.not_mem_nil,or_false] at hp
    rcases hp with rfl|rfl
    ·exact .inl (List.mem_map_of_mem (f:=(·.1)) (a:=(a1,o1)) (List.mem_append_right _ (.head _)))
    ·exact .inr (Nat.le_succ _))
  exact hQ s' E3 F3
 by_cases h0:es.length=0
 ·refine gD G hFe (bb (Cn V.w.params s.heap.objs.size s.toks fr I L pg io Ls eL pgv epg pl ab k0 k1 k2 k3 k4 k5 k6 l p pt bl v u a1 o1 es ea) first (aC V) (aB V)) hA hT ?_
  exact aV (l:=1) (wO G (by rw[h0];rfl) (λO h=>h) (by lia)) rfl rfl rfl λρ O O=>an rfl λs' hs' O=>fin s' hs'
 ·refine gD G hFe (bb (GJ V.w.params s.heap.objs.size s.toks fr I L pg io Ls eL pgv epg pl ab k0 k1 k2 k3 k4 k5 k6 l p pt bl v u a1 o1 es ea) first (aC V) (aB V)) hA hT ?_
  exact aV (l:=1) (wO G (by symm;simp only[beq_eq_false_iff_ne];exact h0) (λO h=>h) (by lia)) rfl rfl rfl λρ O O=>an rfl λs' hs' O=>fin s' hs'
end
theorem qJ{V:Gw}{A:Around}{env:Env}{Q:Flow→Shared→Prop}{E:Value→Shared→Prop}{s:Shared}(P:Params)(h:wpAny (model V.prog V.w) A (execs (.If (.Compare (wn P) [.NotEq] [wl P] (si (Aa (nv P) 0))) (Ay (km (nv P) 0)) [] (wK (km (nv P) 0))::(nv P).drop 1) env) Q E s):
  wpAny (model V.prog V.w) A (execs (nv P) env) Q E s:=Eq.mpr (congrArg (λb=>wpAny (model V.prog V.w) A (execs b env) Q E s) (zQ P)) h
theorem vT{V:Gw}(G:au V){fr I L pg pl k0 k1 k2 eL:Nat}{ps:List ez}{F:KL}(hps:∀q∈ps,q.k∈F)(hok:kC (ps.map ez.ns))(hsm:ps.length≤100)(hsq:∀q∈ps,q.qs.length≤400)(n0:Nat)(σ0:xu)(hσ0:σ0.es.map bt.p=[([],-1)]∧σ0.pgs=[]∧(∀e∈σ0.es,e.pt≠e.pa)∧∀q∈ps,q.a≠σ0.ab)(hpa:∀q∈ps,q.a<n0):
  ∀A s,Bd 3 A→n0≤s.heap.objs.size→At V (Du V.w.params fr I L pg pl k0 k1 k2 0 ps eL σ0) s→Fz V (F++σ0.f) (Du V.w.params fr I L pg pl k0 k1 k2 0 ps eL σ0) s→
   codeAny (model V.prog V.w) A (C5 V.w.params fr I) (λr s'=>r= .ok .next∧∃σ:xu,(σ.pgs.map bt.p=(fZ (ps.map ez.ns)).1∧(∀e∈σ.pgs,n0≤e.pt∧n0≤e.pa∧e.path.length≤60)∧((dO σ.pgs).map (·.1)).Nodup)∧
    am V [fr,I,L,pg] s (eY V.w.params fr I L pg (cZ V.w.params k0 k1 k2 pl σ.ab pg (qY (ps.length==0) σ.k3 σ.k4 σ.k5 σ.k6 σ.lp σ.p σ.pt σ.ab σ.v σ.u)) (ba ps.length) (gU ps) eL (bj σ.pgs) σ.epg) s'∧
    Fz V (F++σ.f) (eY V.w.params fr I L pg (cZ V.w.params k0 k1 k2 pl σ.ab pg (qY (ps.length==0) σ.k3 σ.k4 σ.k5 σ.k6 σ.lp σ.p σ.pt σ.ab σ.v σ.u)) (ba ps.length) (gU ps) eL (bj σ.pgs) σ.epg) s') s:=by
 intro A s hA hn hs hF
 let Nm:Nat→List PE×List PE:=λm=>fZ ((ps.map ez.ns).take m)
 have hNl:(ps.map ez.ns).length=ps.length:=by simp
 have main:=bv (V:=V) (S:=xu) (code:=C5 V.w.params fr I) (L:=3) (W:=[fr,I,L,pg]) ps.length n0
  (λm σ=>Du V.w.params fr I L pg pl k0 k1 k2 m ps eL σ) (λm σ=>F++σ.f)
  (λσ=>eY V.w.params fr I L pg (cZ V.w.params k0 k1 k2 pl σ.ab pg (qY (ps.length==0) σ.k3 σ.k4 σ.k5 σ.k6 σ.lp σ.p σ.pt σ.ab σ.v σ.u)) (ba ps.length) (gU ps) eL (bj σ.pgs) σ.epg)
  (λm σ=>A6 (σ.pgs.map bt.p=(Nm m).1) (σ.es.map bt.p=(Nm m).2) (∀e∈σ.pgs,n0≤e.pt∧n0≤e.pa∧e.path.length≤60) (((dO σ.pgs).map (·.1)).Nodup) (∀e∈σ.es,e.pt≠e.pa) (∀q∈ps,q.a≠σ.ab)) ?_ ?_ ps.length 0 σ0 A s (Nat.zero_add _) ?_ hA hn hs hF
 ·refine codeAny_mono main ?_
  rintro r s'' ⟨hr,σ,⟨h1,_,h3,h4,_,_⟩,hE,hF'⟩
  refine⟨hr,σ,⟨?_,h3,h4⟩,hE,hF'⟩
  rw[h1]
  show(fZ ((ps.map ez.ns).take ps.length)).1=_
  rw[List.take_of_length_le (by simp)]
 ·intro m σ A s R hm hI hA hn hs hF k
  obtain⟨h1,h2,h3,h4,h5,h6⟩:=hI
  have hmem:ps.getD m oG∈ps:=bV hm
  have hgd:(ps.map ez.ns).getD m []=(ps.getD m oG).ns:=by
   rw[List.getD_eq_getElem?_getD,List.getElem?_map,List.getD_eq_getElem?_getD,List.getElem?_eq_getElem hm];rfl
  have hpn:(gU ps)[m]?=some (.ref (ps.getD m oG).a):=u7 hm
  have hchk:=hok.chk m (by rw[hNl];exact hm)
  have hpar:=hok.par m (by rw[hNl];exact hm)
  have hlen:=hok.len m (by rw[hNl];lia)
  have hlen':=hok.len (m+1) (by rw[hNl];lia)
  have hfst:m=0→(ps.getD m oG).qs≠[]:=λh0 h=>hok.first (by rw[←h0,hgd,ez.ns,h];rfl)
  rw[hgd] at hchk hpar
  generalize hq:ps.getD m oG=q at*
  have hqF:q.k∈F++σ.f:=List.mem_append_left _ (hps q hmem)
  have hesF:∀p∈dO σ.es,p∈F++σ.f:=λp hp=>List.mem_append_right _ (List.mem_append_left _ (List.mem_append_right _ hp))
  have habF:(σ.ab,aa (bj σ.es) σ.ea)∈F++σ.f:=List.mem_append_right _ (List.mem_append_right _ (.head _))
  have hse:σ.es.length≤400:=by rw[←List.length_map (f:=bt.p),h2];exact hlen.1
  have hsp:σ.pgs.length≤400:=by rw[←List.length_map (f:=bt.p),h1];exact hlen.2.1
  have hsqq:=hsq q hmem
  have hev:iA q.qs=σ.es.map (·.num):=by
   rw[zE]
   have:(q.ns.filter cx).map (·-1)=(Nm m).2.map (·.2):=hchk
   rw[ez.ns] at this
   rw[this,←h2,List.map_map];rfl
  have hpath:∀e∈σ.es,e.pt≠e.pa∧e.path.length≤50:=λe he=>⟨h5 e he,by
   have:=hlen.2.2 e.p (by show e.p∈(Nm m).2;rw[←h2];exact List.mem_map_of_mem he)
   simpa[bt.p] using this⟩
  have hla:q.a≠σ.ab:=h6 q hmem
  have hNs:Nm (m+1)=q8 (Nm m) q.ns:=by
   show fZ ((ps.map ez.ns).take (m+1))=_
   rw[dF (by rw[hNl];exact hm) (d:=[]),hgd,fZ,List.foldl_append,←fZ]
   rfl
  rw[sk]
  refine dL (dM (aq G hF (ad (GE V.w.params s.heap.objs.size s.toks fr I L pg (cZ V.w.params k0 k1 k2 pl σ.ab pg (qY (m==0) σ.k3 σ.k4 σ.k5 σ.k6 σ.lp σ.p σ.pt σ.ab σ.v σ.u)) m (gU ps) eL (bj σ.pgs) σ.epg q.a) (aC V) (aB V)) hA hs ?_))
  refine ac (aJ (L:=0) hpn) rfl rfl rfl λρ O O=>an rfl λs1 hs1 hf1=> ?_
  show wpAny _ _ (letOwnedTupleGo (CP V.w.params) (.ref I) (.ref q.a)) _ _ s1
  refine vi (sz _) (oh (j5 (aq G hf1 (bb (Jd V.w.params s1.heap.objs.size s1.toks fr I L pg (aj L (m+1)) (gU ps) eL (bj σ.pgs) σ.epg pl σ.ab k0 k1 k2 σ.k3 σ.k4 σ.k5 σ.k6 σ.lp σ.p σ.pt σ.ab σ.v σ.u q.a) (m==0) (aC V) (aB V)) hA hs1.at' (an rfl λs2 hs2 hf2=> ?_))))
  refine qJ V.w.params (wpAny_execs_cons (wpAny_If (wpAny_isTrue_Compare1 (Jp G (hA.weak (by decide)) hqF hsqq hs2.at' hf2 λτ s3 E3 F3=> ?_))))
  refine Jo G (hA.weak (by decide)) habF hesF hse E3.at' F3 λs4 E4 F4=> ?_
  have hu:A.units<cLine:=hA.line
  have g1:=E4.at'.get (s2.heap.objs.size+1,aa (cW (iA q.qs) τ) (iA q.qs).length) (List.mem_append_right _ (.head _))
  have g2:=E4.at'.get (s3.heap.objs.size+1,aa (aL (σ.es.map λe:bt=>(e.num,e.nt))) σ.es.length) (List.mem_append_right _ (.tail _ (.head _)))
  have hsz:(⟨cW (iA q.qs) τ⟩:Array Value).size=(⟨aL (σ.es.map λe:bt=>(e.num,e.nt))⟩:Array Value).size:=by simp[cW,aL,hev]
  show wpAny _ _ (richCompare .NotEq (.ref (s2.heap.objs.size+1)) (.ref (s3.heap.objs.size+1))) _ _ s4
  refine RcNeAt.lists (e:=λO=>true) ⟨_,g1,rfl,_,rfl⟩ ⟨_,g2,rfl,_,rfl⟩ hsz hu (λj j1 j2=> ?_) _ _ _ _ ?_
  ·have hj:j<σ.es.length:=by simpa[aL] using j2
   have x1:(⟨cW (iA q.qs) τ⟩:Array Value)[j]= .int σ.es[j].num (τ j):=by
    show(cW (iA q.qs) τ)[j]=_
    simp only[cW,List.getElem_map,List.getElem_range,hev,List.getD_eq_getElem?_getD,List.getElem?_map,List.getElem?_eq_getElem hj]
    rfl
   have x2:(⟨aL (σ.es.map λe:bt=>(e.num,e.nt))⟩:Array Value)[j]= .int σ.es[j].num σ.es[j].nt:=by
    show(aL (σ.es.map λe:bt=>(e.num,e.nt)))[j]=_
    simp[aL]
   rw[x1,x2]
   have:=EqAt.int_int (A:=A.in1) (s:=s4) σ.es[j].num (τ j) σ.es[j].num σ.es[j].nt
   simpa using this
  have hall:(!(List.range (⟨cW (iA q.qs) τ⟩:Array Value).size).all λO=>true)=false:=by simp
  rw[hall]
  refine wpAny_truthy_bool ?_
  show wpAny _ _ (execs [] _) _ _ s4
  refine wpAny_execs_nil ?_
  show wpAny _ _ (execs ((nv V.w.params).drop 1) _) _ _ s4
  have hs5:=E4.at'.less
  have hf5:=F4.less
  have hTm:∀p∈[q.k,(σ.ab,aa (bj σ.es) σ.ea)],p∈F++σ.f:=λp hp=>by
   simp only[gV,List.not_mem_nil,or_false] at hp
   rcases hp with rfl|rfl
   ·exact hqF
   ·exact habF
  have hTn:(([q.k,(σ.ab,aa (bj σ.es) σ.ea)]:KL).map (·.1)).Nodup:=by simp[ez.k,hla]
  have hT:=hs5.thaw hf5 hTm hTn
  have hne1:=og hf5 hesF (hf5 _ hqF).1
  have hne2:=og hf5 hesF (hf5 _ habF).1
  have hFe:Fz V (dO σ.es) (eY V.w.params fr I L pg (cZ V.w.params k0 k1 k2 pl σ.ab pg (jl (m==0) (ao (m==0) σ.k3 s1.toks) σ.k4 σ.k5 σ.k6 q.a σ.p σ.pt σ.ab σ.v σ.u)) (aj L (m+1)) (gU ps) eL (bj σ.pgs) σ.epg++[q.k,(σ.ab,aa (bj σ.es) σ.ea)]) s4:=
   (hf5.only hesF).cons λp hp hm=>by
    have hm:p.1=q.a∨p.1=σ.ab:=by simpa[ez.k] using hm
    rcases hm with hm|hm
    ·exact hne1 p hp hm
    ·exact hne2 p hp hm
  have hpar':∀i,i<q.qs.length→cx (q.qs.getD i (0,0)).1=false→0≤(j9 (σ.es.map bt.p) ((q.qs.map (·.1)).take i)).2∧(j9 (σ.es.map bt.p) ((q.qs.map (·.1)).take i)).2.toNat<σ.es.length:=λi hi hb=>by
   have hd:q.ns.getD i 0=(q.qs.getD i (0,0)).1:=by
    rw[ez.ns,List.getD_eq_getElem?_getD,List.getElem?_map,List.getD_eq_getElem?_getD,List.getElem?_eq_getElem hi];rfl
   have:=hpar i (by simpa[ez.ns] using hi) (by rw[hd];exact hb)
   rw[h2]
   have e:σ.es.length=(Nm m).2.length:=by rw[←h2,List.length_map]
   rw[e]
   exact this
  generalize hL:j9 (σ.es.map bt.p) (q.qs.map (·.1))=LP
  obtain⟨LL,p'⟩:=LP
  have hNs1:(Nm (m+1)).2=LL:=by rw[hNs,q8,←h2];show(j9 (σ.es.map bt.p) q.ns).1=_;rw[ez.ns,hL]
  have hNs0:(Nm (m+1)).1=(Nm m).1++LL:=by rw[hNs,q8,←h2];show _++(j9 (σ.es.map bt.p) q.ns).1=_;rw[ez.ns,hL]
  have hLl:LL.length≤400:=by rw[←hNs1];exact hlen'.1
  have hgn:=Cc (V:=V) G (fr:=fr) (I:=s4.heap.objs.size+5) (l:=q.a) (ab:=σ.ab) (bl:=s4.heap.objs.size) (pl:=pl) (pg:=pg) (k0:=k0) (k1:=k1) (k2:=k2) (k3:=ao (m==0) σ.k3 s1.toks) (k4:=ao (m==0) σ.k4 (s4.toks+2)) (k5:=ao (m==0) σ.k5 (s4.toks+3)) (pt:=s4.toks+1) (k6:=σ.k6) (u0:=σ.u) (ep:=q.e) (ea:=σ.ea) (v0:=σ.v) (first:=m==0) (F:=dO σ.es) (js:=[0,11,4,5,6])
   (λO h=>h) hpath hL hpar' (first':=false) (by
    cases hm0:(m==0) with
    |false=>rfl
    |true=>
     have h0:=hfst (by simpa using hm0)
     symm
     rw[Bool.true_and,beq_eq_false_iff_ne]
     exactλh=>h0 (List.length_eq_zero_iff.mp h)) rfl rfl (by lia) (by lia)
  refine eh (aq (L:=3) G hFe (bb (Jc V.w.params s4.heap.objs.size s4.toks fr I L pg (aj L (m+1)) (gU ps) eL (bj σ.pgs) σ.epg pl σ.ab k0 k1 k2 (ao (m==0) σ.k3 s1.toks) σ.k4 σ.k5 σ.k6 q.a σ.p σ.pt σ.ab σ.v σ.u q.qs q.e (bj σ.es) σ.ea LL p' (if q.qs.length=0 then σ.v else(q.qs.getD (q.qs.length-1) (0,0)).1) (if q.qs.length=0 then σ.u else(q.qs.getD (q.qs.length-1) (0,0)).2)) (m==0) (aC V) (aB V)) hA hT ?_)
  refine bh (l:=1) hgn rfl rfl rfl λρ6 hP O O hX=>ac (tM (L:=0) (by show _≤1000;rw[d8];lia) (by show _≤1000;rw[d8];simp[iZ];lia)) rfl rfl rfl λρ7 O O=>an rfl λs6 hs6 hf6=>⟨rfl,?_⟩
  generalize hvq:(if q.qs.length=0 then σ.v else(q.qs.getD (q.qs.length-1) (0,0)).1)=vq at hs6 hf6
  generalize huq:(if q.qs.length=0 then σ.u else(q.qs.getD (q.qs.length-1) (0,0)).2)=uq at hs6 hf6
  have hP':(∀e∈iZ LL (λi=>ρ6 (i+4)),e.pt≠e.pa∧e.path.length≤51)∧((dO (iZ LL (λi=>ρ6 (i+4)))).map (·.1)).Nodup:=hP
  have hX':∀p∈dO (iZ LL (λi=>ρ6 (i+4))),s4.heap.objs.size≤p.1:=hX
  have hf6':Fz V (dO (iZ LL (λi=>ρ6 (i+4)))) (eY V.w.params fr I L pg (cZ V.w.params k0 k1 k2 pl s4.heap.objs.size pg (jb (ao (m==0) σ.k3 s1.toks) (ao (m==0) σ.k4 (s4.toks+2)) (ao (m==0) σ.k5 (s4.toks+3)) q.a p' (ρ6 2) s4.heap.objs.size++[(ak,ρ6 3,.int vq uq)])) (aj L (m+1)) (gU ps) eL (bj σ.pgs++bj (iZ LL (λi=>ρ6 (i+4)))) (ρ7 2)++[(s4.heap.objs.size,aa (bj (iZ LL (λi=>ρ6 (i+4)))) LL.length)]++[q.k,(σ.ab,aa (bj σ.es) σ.ea)]) s6:=
   hf6.only λp hp=>List.mem_append_right _ hp
  have hlenN:(iZ LL (λi=>ρ6 (i+4))).length=LL.length:=by simp[iZ]
  have hpN:(iZ LL (λi=>ρ6 (i+4))).map bt.p=LL:=by
   unfold iZ
   refine List.ext_getElem? λi=> ?_
   by_cases h:i<LL.length
   ·rw[List.getElem?_map,List.getElem?_map,List.getElem?_range h,List.getElem?_eq_getElem h]
    simp only[Option.map_some,bt.p]
    have hd:LL.getD i ([],0)=LL[i]:=by rw[List.getD_eq_getElem?_getD,List.getElem?_eq_getElem h];rfl
    rw[hd,List.map_map]
    congr 1
    refine Prod.ext ?_ rfl
    refine List.ext_getElem? λj=> ?_
    by_cases hj:j<LL[i].1.length
    ·simp[hj,List.getD_eq_getElem?_getD]
    ·simp[hj]
   ·simp[h]
  generalize iZ LL (λi=>ρ6 (i+4))=NN at hP' hX' hf6' hs6 hlenN hpN
  obtain⟨E6,F6⟩:=fi hs5 hf5 hTm hTn hs6 (λp hp=>by
   rcases List.mem_append.mp hp with hp|hp
   ·exact .inl (List.mem_map_of_mem (f:=(·.1)) hp)
   ·rw[List.mem_singleton.mp hp];exact .inr (Nat.le_refl _))
  have F7:Fz V ((F++(dO σ.pgs++dO NN)++dO NN)++[(s4.heap.objs.size,aa (bj NN) LL.length)]) (eY V.w.params fr I L pg (cZ V.w.params k0 k1 k2 pl s4.heap.objs.size pg (jb (ao (m==0) σ.k3 s1.toks) (ao (m==0) σ.k4 (s4.toks+2)) (ao (m==0) σ.k5 (s4.toks+3)) q.a p' (ρ6 2) s4.heap.objs.size++[(ak,ρ6 3,.int vq uq)])) (aj L (m+1)) (gU ps) eL (bj σ.pgs++bj NN) (ρ7 2)) s6:=by
   refine Fz.take E6.at' (Fz.app (Fz.app (F6.only λp hp=>List.mem_append_left _ hp) (Fz.app (F6.only λp hp=>List.mem_append_right _ (List.mem_append_left _ (List.mem_append_left _ hp))) hf6'.less)) hf6'.less)
  have hmono:s.heap.objs.size≤s4.heap.objs.size:=Nat.le_trans hs1.grow (Nat.le_trans hs2.grow (Nat.le_trans E3.grow E4.grow))
  have eV:bj (σ.pgs++NN)=bj σ.pgs++bj NN:=by simp[bj]
  have eK:dO (σ.pgs++NN)=dO σ.pgs++dO NN:=by simp[dO]
  have hNNk:∀e∈NN,s4.heap.objs.size≤e.pt∧s4.heap.objs.size≤e.pa:=λe he=>
   ⟨hX' (e.pt,_) (List.mem_flatMap.mpr ⟨e,he,.head _⟩),hX' (e.pa,_) (List.mem_flatMap.mpr ⟨e,he,.tail _ (.head _)⟩)⟩
  refine k ⟨ao (m==0) σ.k3 s1.toks,ao (m==0) σ.k4 (s4.toks+2),ao (m==0) σ.k5 (s4.toks+3),ρ6 3,q.a,p',ρ6 2,vq,uq,s4.heap.objs.size,LL.length,ρ7 2,NN,σ.pgs++NN⟩ s6 ⟨?_,?_,?_,?_,?_,?_⟩ ?_ ?_
  ·rw[hNs0,List.map_append,h1,hpN]
  ·rw[hNs1,hpN]
  ·intro e he
   rcases List.mem_append.mp he with he|he
   ·exact h3 e he
   ·exact⟨Nat.le_trans hn (Nat.le_trans hmono (hNNk e he).1),Nat.le_trans hn (Nat.le_trans hmono (hNNk e he).2),Nat.le_trans (hP'.1 e he).2 (by decide)⟩
  ·show((dO (σ.pgs++NN)).map (·.1)).Nodup
   rw[eK,List.map_append,List.nodup_append]
   refine⟨h4,hP'.2,λa ha b hb e=> ?_⟩
   obtain⟨p1,hp1,rfl⟩:=List.mem_map.mp ha
   obtain⟨p2,hp2,rfl⟩:=List.mem_map.mp hb
   have hlt:=Heap.lt_size (F4 p1 (List.mem_append_right _ (List.mem_append_left _ (List.mem_append_left _ hp1)))).1
   rw[e] at hlt
   exact absurd hlt (Nat.not_lt.mpr (hX' p2 hp2))
  ·exactλe he=>(hP'.1 e he).1
  ·intro q' hq' e
   have h1':=hpa q' hq'
   have e:q'.a=s4.heap.objs.size:=e
   rw[e] at h1'
   exact absurd (Nat.le_trans hn hmono) (Nat.not_le.mpr h1')
  ·have e1:((m+1)==0)=false:=rfl
   show am V [fr,I,L,pg] s (eY V.w.params fr I L pg (cZ V.w.params k0 k1 k2 pl s4.heap.objs.size pg (qY ((m+1)==0) _ _ _ _ _ _ _ _ _ _)) (aj L (m+1)) (gU ps) eL (bj (σ.pgs++NN)) (ρ7 2)) s6
   rw[e1,eV]
   have EA:am V [fr,I,L,pg] s _ s2:=hs1.trans hs2 (λb hb=> .inl hb)
   have EB:am V [fr,I,L,pg] s2 _ s4:=E3.trans E4 (λa ha=>by
    have ha:a∈[fr,I,L,pg,s2.heap.objs.size+1]:=ha
    simp only[gV,List.not_mem_nil,or_false] at ha
    rcases ha with rfl|rfl|rfl|rfl|rfl
    ·exact .inl (.head _)
    ·exact .inl (.tail _ (.head _))
    ·exact .inl (.tail _ (.tail _ (.head _)))
    ·exact .inl (.tail _ (.tail _ (.tail _ (.head _))))
    ·exact .inr (Nat.le_succ _))
   exact((EA.trans' EB.keep).trans' E6).keep
  ·have e1:((m+1)==0)=false:=rfl
   show Fz V (F++(dO (σ.pgs++NN)++dO NN++[(s4.heap.objs.size,aa (bj NN) LL.length)])) (eY V.w.params fr I L pg (cZ V.w.params k0 k1 k2 pl s4.heap.objs.size pg (qY ((m+1)==0) _ _ _ _ _ _ _ _ _ _)) (aj L (m+1)) (gU ps) eL (bj (σ.pgs++NN)) (ρ7 2)) s6
   rw[e1,eV,eK]
   simp only[List.append_assoc] at F7⊢
   exact F7
 ·intro σ A s R hI hA hs hF k
  rw[sk]
  refine dL (dM (aq G hF (ad (GD V.w.params s.heap.objs.size s.toks fr I L pg (cZ V.w.params k0 k1 k2 pl σ.ab pg (qY (ps.length==0) σ.k3 σ.k4 σ.k5 σ.k6 σ.lp σ.p σ.pt σ.ab σ.v σ.u)) ps.length (gU ps) eL (bj σ.pgs) σ.epg) (aC V) (aB V)) hA hs ?_))
  exact ac (bq (L:=0) (by simp[gU])) rfl rfl rfl λρ O O=>an rfl λs' hs' hf'=>k s' hs' hf'
 ·refine⟨?_,hσ0.1,?_,?_,hσ0.2.2.1,hσ0.2.2.2⟩
  ·rw[hσ0.2.1];rfl
  ·rw[hσ0.2.1];exactλO h=>nomatch h
  ·rw[hσ0.2.1];exact List.nodup_nil
noncomputable def gZ:List Int→List Int→Bool
 |[],[]=>false
 |[],_::_=>true
 |_::_,[]=>false
 |a::x,b::y=>if a=b then gZ x y else decide (a<b)
theorem mZ:∀(xs ys:List Int),(xs.zip ys).all (λp=>p.1==p.2)=true→gZ xs ys=decide (xs.length<ys.length)
 |[],[],_=>rfl
 |[],_::_,_=>by simp[gZ]
 |_::_,[],_=>by simp[gZ]
 |a::x,b::y,h=>by
  rw[List.zip_cons_cons,List.all_cons,Bool.and_eq_true] at h
  have hab:a=b:=by simpa using h.1
  rw[gZ,if_pos hab,mZ x y h.2]
  simp
theorem qk{prog:Program}{w:World}{A:Around}{E:Value→Shared→Prop}{s:Shared}{a b:Int}{t u:Tok}{Q:Value→Shared→Prop}(h:Q (.bool (decide (a<b))) s):wpAny (model prog w) A (richCompare .Lt (.int a t) (.int b u)) Q E s:=wpAny_lt_int h
theorem qe(l b:Addr)(xs ys:List (Int×Nat)):
  Meets (Builtin.«tuple.__lt__» ⟨[.ref l,.ref b],[]⟩)
   (λA R s=>s.heap.get? l=some (al (aL xs))∧s.heap.get? b=some (al (aL ys))∧R (.ok (.ret (.bool (gZ (xs.map (·.1)) (ys.map (·.1)))))) s):=
 .of_wp λprog w A R s h=>by
  obtain⟨hp,g,d,tk,os⟩:=s;obtain⟨hl,hb,h⟩:=h
  have f2:=AutoSeq1.sub_tuple_tuple
  have hl':hp.get? l=some {cls:= .type "tuple",dict:=none,data:= .seq ⟨aL xs⟩ 0,slots:=#[]}:=hl
  have hb':hp.get? b=some {cls:= .type "tuple",dict:=none,data:= .seq ⟨aL ys⟩ 0,slots:=#[]}:=hb
  wp_walk using wpAny_loadPart' hl',wpAny_loadPart' hb',wpAny_forIn_list _ (λrest b s'=>b.1=none∧s'=⟨hp,g,d,tk,os⟩∧∃xs' ys',rest=(aL xs').zip (aL ys')∧((xs'.map (·.1)).zip (ys'.map (·.1))=[]→(xs'.length<ys'.length↔xs.length<ys.length))∧gZ (xs.map (·.1)) (ys.map (·.1))=gZ (xs'.map (·.1)) (ys'.map (·.1))∧xs.length+ys'.length=ys.length+xs'.length) _
  case turn=>
   rintro⟨y,x⟩ rest b s' ⟨hb0,rfl,xs',ys',hz,h1,h2,h3⟩
   cases xs' with
   |nil=>simp[aL] at hz
   |cons p xr=>
    cases ys' with
    |nil=>simp[aL] at hz
    |cons q yr=>
     simp only[aL,List.map_cons,List.zip_cons_cons,List.cons.injEq,Prod.mk.injEq] at hz
     obtain⟨⟨rfl,rfl⟩,rfl⟩:=hz
     refine wpAny_bind (EqAt.int_int p.1 p.2 q.1 q.2 prog w _ _ ?_)
     by_cases hpq:p.1=q.1
     ·rw[show(p.1==q.1)=true by simpa using hpq]
      wp_walk
      refine⟨rfl,rfl,xr,yr,rfl,?_,?_,?_⟩
      ·intro _
       simp only[List.length_cons] at h3
       lia
      ·rw[h2,List.map_cons,List.map_cons,gZ,if_pos hpq]
      ·simp only[List.length_cons] at h3;lia
     ·rw[show(p.1==q.1)=false by simpa using hpq]
      wp_walk using qk
      refine⟨_,rfl,?_⟩
      rw[h2,List.map_cons,List.map_cons,gZ,if_neg hpq] at h
      exact h
  case fin=>
   rintro⟨b1,b2⟩ s' ⟨hb0,rfl,xs',ys',hz,h1,h2,h3⟩
   simp only at hb0
   subst hb0
   wp_walk
   refine⟨_,rfl,?_⟩
   have hz':(xs'.map (·.1)).zip (ys'.map (·.1))=[]:=by
    cases xs' with
    |nil=>rfl
    |cons _ _=>cases ys' with
     |nil=>rfl
     |cons _ _=>simp[aL] at hz
   have e:gZ (xs.map (·.1)) (ys.map (·.1))=decide (xs.length<ys.length):=by
    rw[h2,mZ _ _ (by rw[hz'];rfl),List.length_map,List.length_map]
    exact decide_eq_decide.mpr (h1 hz')
   rw[e] at h
   have e2:Builtin.Tuple.tupleCompareSizes CmpOp.Lt (⟨aL xs⟩:Array Value).size (⟨aL ys⟩:Array Value).size= .bool (decide (xs.length<ys.length)):=by
    show Value.bool (decide ((aL xs).length<(aL ys).length))=_
    rw[bw,bw]
   rw[e2]
   exact h
  case h=>
   exact⟨rfl,rfl,xs,ys,rfl,λO=>Iff.rfl,rfl,by lia⟩
noncomputable def nC{α:Type}(lt:Nat→Nat→Bool):KasT α→α
 | .ret a=>a
 | .ask i j k=>nC lt (k (lt i j))
noncomputable def xp{α:Type}(n:Nat):KasT α→Bool
 | .ret _=>true
 | .ask i j k=>Nat.blt i n&&(Nat.blt j n&&(!Nat.beq i j&&(xp n (k true)&&xp n (k false))))
theorem r4{α:Type}{cmp:Nat→Nat→(Bool→Shared→Prop)→Shared→Prop}{lt:Nat→Nat→Bool}{n:Nat}{s:Shared}(h:∀i j,i<n→j<n→i≠j→∀C:Bool→Shared→Prop,C (lt i j) s→cmp i j C s):
  ∀(T:KasT α),xp n T=true→∀Q:α→Shared→Prop,Q (nC lt T) s→T.kasWp cmp Q s
 | .ret a,_,Q,hQ=>hQ
 | .ask i j k,hb,Q,hQ=>by
  unfold xp at hb
  simp only[Bool.and_eq_true,Bool.not_eq_true'] at hb
  obtain⟨h1,h2,h3,h4,h5⟩:=hb
  refine h i j (Nat.le_of_ble_eq_true h1) (Nat.le_of_ble_eq_true h2) (λe=>by rw[e,Nat.beq_refl] at h3;cases h3) _ ?_
  refine r4 h (k (lt i j)) ?_ Q hQ
  cases lt i j<;>assumption
theorem mN:xp 6 (kas_sort 6)=true:=by decide+kernel
noncomputable def jc(lt:Nat→Nat→Bool):List Nat:=(nC lt (kas_sort 6)).toList
section
variable {prog:Program} {w:World} {A:Around} {E:Value→Shared→Prop} {s:Shared} {vs:List Value} {κ:SortKind} {lt:Nat→Nat→Bool}
theorem kD{n a:Nat}{P:PySem.Fin→Shared→Prop}(ho:s.heap.get? a=some (seqObj "list" vs.toArray n))(h6:vs.length=6)
  (hkind:∀h':Heap,(∀b o,b≠a→s.heap.get? b=some o→h'.get? b=some o)→∀Q:SortKind→Shared→Prop,Q κ {s with heap:=h'}→wpAny (model prog w) A (keyKind' vs.toArray) Q (λO O=>False) {s with heap:=h'})
  (hcmp:∀h':Heap,(∀b o,b≠a→s.heap.get? b=some o→h'.get? b=some o)→∀i j,i<6→j<6→i≠j→∀C:Bool→Shared→Prop,C (lt i j) {s with heap:=h'}→kas_ask prog w A κ vs i j C {s with heap:=h'})
  (h:∀h' e,(∀b o,b≠a→s.heap.get? b=some o→h'.get? b=some o)→h'.get? a=some (aa ((jc lt).map λi=>vs.getD i Value.none) e)→P (.done (.ret .none)) {s with heap:=h'}):
  wpAny (model prog w) A (Builtin.«list.sort» ⟨[.ref a],[]⟩) P E s:=by
 have ha:a<s.heap.objs.size:=Heap.lt_size ho
 have s1:=Heap.SameBut.update s.heap a (Obj.mapSeq λO=>(#[]:Array Value))
 obtain⟨e1,ho1⟩:∃e1,(s.heap.update a (Obj.mapSeq λO=>(#[]:Array Value))).get? a=some (seqObj "list" #[] e1):=⟨_,get?_update_seq ho λO=>#[]⟩
 let H3:=((s.heap.update a (Obj.mapSeq λO=>(#[]:Array Value))).push (seqObj "tuple" vs.toArray 0)).push (seqObj "list" #[] 0)
 have k3:∀b o,b≠a→s.heap.get? b=some o→H3.get? b=some o:=λb o hb e=>Heap.get?_push_of_some _ (Heap.get?_push_of_some _ ((s1.2 b hb).trans e))
 have o3:H3.get? a=some (seqObj "list" #[] e1):=Heap.get?_push_of_some _ (Heap.get?_push_of_some _ ho1)
 rw[list_sort_plain]
 refine wpAny_bind (listItems_at ho rfl ?_)
 refine wpAny_bind (listUpdate_at ho rfl ?_ (by rw[List.size_toArray,sizeLine_eq];lia) (Nat.zero_le _))
 refine wpAny_bind (seqEpoch_at ho1 rfl ?_)
 refine wpAny_bind (wpAny_newTuple ?_ (by show vs.length≤_;rw[sizeLine_eq];lia))
 refine wpAny_bind (wpAny_newList ?_ (Nat.zero_le _))
 refine wpAny_holding ?_
 show wpAny (model prog w) A _ P E {s with heap:=H3}
 dsimp only
 have hn2: ¬vs.toArray.size<2:=by rw[List.size_toArray];lia
 rw[if_neg hn2,if_neg hn2]
 refine wpAny_bind (wpAny_mono (hkind H3 k3 (λκ' s'=>κ'=κ∧s'={s with heap:=H3}) ⟨rfl,rfl⟩) (λκ' s0 hk=> ?_) λO O x=>x.elim)
 obtain⟨rfl,rfl⟩:=hk
 have hrun:(kas_sort vs.length).kasWp (kas_ask prog w A κ' vs) (λp s'=>p=nC lt (kas_sort 6)∧s'={s with heap:=H3}) {s with heap:=H3}:=by
  rw[h6]
  exact r4 (hcmp H3 k3) _ mN _ ⟨rfl,rfl⟩
 refine wpAny_bind (wpAny_mono (kat_run (Q:=λst' s'=>∃p:Array Nat,p.size=vs.length∧arrOf st'=p.map (kas_item (vs.toArray.zip vs.toArray))∧failedOf st'=none∧(p=nC lt (kas_sort 6)∧s'={s with heap:=H3}))
  rfl (by lia) (by lia) (λp' st' s' a1 a2 a3 a4=>⟨p',a1,a2,a3,a4⟩) hrun) ?_ λO O e=>e)
 rintro⟨⟨⟩,st'⟩ s' ⟨p,hp,har,hf,rfl,rfl⟩
 dsimp only
 have hout:=kat_snds rfl har
 have hsz:(List.toArray ((nC lt (kas_sort 6)).toList.map λi=>vs.getD i Value.none)).size=vs.length:=by rw[List.size_toArray,List.length_map,Array.length_toList,hp]
 rw[hout]
 have s2:=Heap.SameBut.update H3 a (Obj.mapSeq λO=>List.toArray ((nC lt (kas_sort 6)).toList.map λi=>vs.getD i Value.none))
 obtain⟨c2,hc2⟩:∃c2,(H3.update a (Obj.mapSeq λO=>List.toArray ((nC lt (kas_sort 6)).toList.map λi=>vs.getD i Value.none))).get? a=some (seqObj "list" (List.toArray ((nC lt (kas_sort 6)).toList.map λi=>vs.getD i Value.none)) c2):=⟨_,get?_update_seq o3 λO=>List.toArray ((nC lt (kas_sort 6)).toList.map λi=>vs.getD i Value.none)⟩
 refine wpAny_bind (seqEpoch_at (s:={s with heap:=H3}) o3 rfl ?_)
 refine wpAny_bind (listUpdate_at (s:={s with heap:=H3}) o3 rfl ?_ (Nat.zero_le _) (Nat.le_trans (Nat.le_of_eq hsz) (by rw[sizeLine_eq];lia)))
 rw[hf]
 simp only[bne_self_eq_false,Bool.false_eq_true,if_false]
 exact wpAny_pure (h _ c2 (λb o hb e=>(s2.2 b hb).trans (k3 b o hb e)) hc2)
theorem oo{l:Nat}{Q:PySem.Fin→Shared→Prop}(hl:s.heap.IsList l vs.toArray)(h6:vs.length=6)
  (hkind:∀h':Heap,(∀b o,s.heap.get? b=some o→h'.get? b=some o)→∀Q:SortKind→Shared→Prop,Q κ {s with heap:=h'}→wpAny (model prog w) A.in1 (keyKind' vs.toArray) Q (λO O=>False) {s with heap:=h'})
  (hcmp:∀h':Heap,(∀b o,s.heap.get? b=some o→h'.get? b=some o)→∀i j,i<6→j<6→i≠j→∀C:Bool→Shared→Prop,C (lt i j) {s with heap:=h'}→kas_ask prog w A.in1 κ vs i j C {s with heap:=h'})
  (h:∀h' e,(∀b o,s.heap.get? b=some o→h'.get? b=some o)→h'.get? (s.heap.objs.size+1)=some (aa ((jc lt).map λi=>vs.getD i Value.none) e)→Q (.done (.ret (.ref (s.heap.objs.size+1)))) {s with heap:=h'}):
  wpAny (model prog w) A (Builtin.«sorted» ⟨[.ref l],[]⟩) Q E s:=by
 unfold Builtin.«sorted»
 refine wpAny_bind (m:=checkCount "sorted" 1 1 _) (wpAny_pure ?_)
 refine wpAny_bind (collect_list hl ?_ (by rw[sizeLine_eq];lia))
 refine wpAny_bind (wpAny_newList ?_ (by rw[sizeLine_eq];lia))
 have hsz:((s.heap.push (seqObj "list" #[] 0)).update s.heap.objs.size (Obj.mapSeq (·++vs.toArray))).objs.size=s.heap.objs.size+1:=by
  rw[Heap.size_update,size_push']
 have hoL:(((s.heap.push (seqObj "list" #[] 0)).update s.heap.objs.size (Obj.mapSeq (·++vs.toArray))).push (seqObj "list" vs.toArray 0)).get? (s.heap.objs.size+1)=some (seqObj "list" vs.toArray 0):=by
  rw[←hsz];exact Heap.get?_push_size _ rfl
 have keep:∀b o,s.heap.get? b=some o→(((s.heap.push (seqObj "list" #[] 0)).update s.heap.objs.size (Obj.mapSeq (·++vs.toArray))).push (seqObj "list" vs.toArray 0)).get? b=some o:=λb o q=>by
  have hlt:b<s.heap.objs.size:=Heap.lt_size q
  rw[Heap.get?_push_ne _ _ _ (by rw[hsz];exact Nat.ne_of_lt (Nat.lt_succ_of_lt hlt)),Heap.get?_update_ne _ _ _ _ (Nat.ne_of_lt hlt),Heap.get?_push_ne _ _ _ (Nat.ne_of_lt hlt)]
  exact q
 have hneq:∀b o,s.heap.get? b=some o→b≠s.heap.objs.size+1:=λb o e=>Nat.ne_of_lt (Nat.lt_succ_of_lt (Heap.lt_size e))
 show wpAny _ _ _ _ _ {s with heap:=((s.heap.push (seqObj "list" #[] 0)).update s.heap.objs.size (Obj.mapSeq (·++vs.toArray))).push (seqObj "list" vs.toArray 0)}
 rw[hsz]
 refine wpAny_bind (wpAny_holding (wpAny_call_entry slot_list_sort ⟨_,hoL,rfl⟩ entry_list_sort ?body (args_list_sort _)))
 case body=>
  refine kD (lt:=lt) (κ:=κ) (s:={s with heap:=((s.heap.push (seqObj "list" #[] 0)).update s.heap.objs.size (Obj.mapSeq (·++vs.toArray))).push (seqObj "list" vs.toArray 0)}) hoL h6
   (λh' hk=>hkind h' λb o e=>hk b o (hneq b o e) (keep b o e)) (λh' hk=>hcmp h' λb o e=>hk b o (hneq b o e) (keep b o e)) λh' e hk hD=> ?_
  exact⟨_,rfl,wpAny_pure (h h' e (λb o q=>hk b o (hneq b o q) (keep b o q)) hD)⟩
end
noncomputable def zU{α:Type}(p:α→Bool):KasT α→Bool
 | .ret a=>p a
 | .ask _ _ k=>zU p (k true)&&zU p (k false)
theorem nY{α:Type}{p:α→Bool}{lt:Nat→Nat→Bool}:∀(T:KasT α),zU p T=true→p (nC lt T)=true
 | .ret a,h=>h
 | .ask i j k,h=>by
  unfold zU at h
  rw[Bool.and_eq_true] at h
  unfold nC
  refine nY _ ?_
  cases lt i j
  ·exact h.2
  ·exact h.1
theorem lF(lt:Nat→Nat→Bool):∀i∈jc lt,i<6:=by
 have h:zU (λa:Array Nat=>a.toList.all λi=>Nat.blt i 6) (kas_sort 6)=true:=by decide+kernel
 have:=nY (lt:=lt) _ h
 rw[List.all_eq_true] at this
 exactλi hi=>Nat.le_of_ble_eq_true (this i hi)
noncomputable def uJ(es:List bt)(i j:Nat):Bool:=gZ (es.getD i ce).p.1 (es.getD j ce).p.1
noncomputable def iD(es:List bt):List bt:=(jc (uJ es)).map λi=>es.getD i ce
theorem sF{es:List bt}(h6:es.length=6):((jc (uJ es)).map λi=>(bj es).getD i Value.none)=bj (iD es):=by
 rw[iD,bj,bj,List.map_map]
 refine List.map_congr_left λi hi=> ?_
 have:=lF _ i hi
 have hi':i<es.length:=by lia
 simp[List.getD_eq_getElem?_getD,hi']
noncomputable def kM(l:Nat)(es:List bt)(ep:Nat)(js:List Nat):aD:=⟨.call (.builtin "sorted") ⟨[.ref l],[]⟩,js,[(l,aa (bj es) ep)],λρ=> .ok (.ret (.ref (ρ 2))),λO=>[aa (bj es) ep],λρ=>[(ρ 2,aa (bj (iD es)) (ρ 3))]⟩
theorem dE:∀(l:List (Int×Nat)),aI (aL l) (l.map (·.1))
 |[]=> .nil
 |_::l=> .cons (dE l)
theorem jX{h:Heap}:∀(es:List bt),(∀e∈es,h.get? e.pt=some (al [.ref e.pa,.int e.num e.nt]))→KatTups h (bj es) (es.map λe=> .ref e.pa)
 |[],_=> .nil
 |e::es,hg=> .cons (hg e (.head _)) rfl rfl rfl (jX es λe' he=>hg e' (.tail _ he))
theorem kZ{α β:Type}{f:α→β}{l:List α}{d:α}{i j:Nat}(hn:(l.map f).Nodup)(hi:i<l.length)(hj:j<l.length)(h:f (l.getD i d)=f (l.getD j d)):i=j:=by
 rw[List.getD_eq_getElem?_getD,List.getElem?_eq_getElem hi,List.getD_eq_getElem?_getD,List.getElem?_eq_getElem hj] at h
 have hp:=List.pairwise_iff_getElem.mp hn
 rcases Nat.lt_trichotomy i j with h'|h'|h'
 ·exact absurd (by rw[List.getElem_map,List.getElem_map];simpa using h) (hp i j (by simpa using hi) (by simpa using hj) h')
 ·exact h'
 ·exact absurd (by rw[List.getElem_map,List.getElem_map];simpa using h.symm) (hp j i (by simpa using hj) (by simpa using hi) h')
theorem qB{V:Gw}{l ep:Nat}{es:List bt}{js:List Nat}{Fl:KL}(h6:es.length=6)(hF:∀p∈dO es,p∈Fl)(hn:(es.map bt.pa).Nodup)(hd:(es.map λe=>e.p.1).Nodup):aQ V 3 (kM l es ep js) Fl (λO=>True) (λO=>[]):=by
 intro A s hA hs hf
 have ho:s.heap.get? l=some (aa (bj es) ep):=hs.get (l,aa (bj es) ep) (.head _)
 have hu:A.units<cLine:=hA.line
 have g1:∀(h':Heap),(∀b o,s.heap.get? b=some o→h'.get? b=some o)→∀e∈es,h'.get? e.pt=some (al [.ref e.pa,.int e.num e.nt])∧h'.get? e.pa=some (al (aL e.path)):=λh' hk e he=>
  ⟨hk _ _ (hf (e.pt,_) (hF _ (List.mem_flatMap.mpr ⟨e,he,.head _⟩))).1,hk _ _ (hf (e.pa,_) (hF _ (List.mem_flatMap.mpr ⟨e,he,.tail _ (.head _)⟩))).1⟩
 have hlen:(bj es).length=6:=by rw[d8,h6]
 have hw:wpAny (model V.prog V.w) A.in1 (Builtin.«sorted» ⟨[.ref l],[]⟩) (λfin s'=>match fin with| .done f=>(mG V (kM l es ep js) (λO=>True) (λO=>[]) s) (.ok f) s'| .again c'=>c'.quiet=true∧codeAny (model V.prog V.w) A c' (mG V (kM l es ep js) (λO=>True) (λO=>[]) s) s') (λe s'=>(mG V (kM l es ep js) (λO=>True) (λO=>[]) s) (.error e) s') s:=by
  refine oo (vs:=bj es) (κ:=tuples' (Value.type "tuple" !=Value.type "tuple")) (lt:=uJ es) ⟨_,ho,rfl,_,rfl⟩ hlen (λh' hk Q hQ=> ?_) (λh' hk i j hi hj hij C hC=> ?_) (λh' e hk hD=> ?_)
  ·refine kat_kind (s:={s with heap:=h'}) (jX es λe he=>(g1 h' hk e he).1) (by rw[List.length_map,h6];decide) (λv hv=> ?_) (by decide) hQ
   obtain⟨e,he,rfl⟩:=List.mem_map.mp hv
   exact(Looks.ld (g1 h' hk e he).2).andThen .now
  ·have hi':i<es.length:=by lia
   have hj':j<es.length:=by lia
   have ei:(bj es).getD i Value.none= .ref (es.getD i ce).pt:=by simp[bj,List.getD_eq_getElem?_getD,hi']
   have ej:(bj es).getD j Value.none= .ref (es.getD j ce).pt:=by simp[bj,List.getD_eq_getElem?_getD,hj']
   have mi:es.getD i ce∈es:=bV hi'
   have mj:es.getD j ce∈es:=bV hj'
   have hpa:(es.getD i ce).pa≠(es.getD j ce).pa:=λh=>hij (kZ hn hi' hj' h)
   have hpd:(es.getD i ce).path.map (·.1)≠(es.getD j ce).path.map (·.1):=λh=>hij (kZ (f:=λe:bt=>e.p.1) hd hi' hj' h)
   unfold kas_ask
   rw[ei,ej]
   refine kat_lt (s:={s with heap:=h'}) (g1 h' hk _ mi).1 rfl (g1 h' hk _ mj).1 rfl (kat_cons ?_)
   have hrc:=lG (A:=A.in1.in1) (s:={s with heap:=h'}) (g1 h' hk _ mi).2 (g1 h' hk _ mj).2 (dE _) (dE _) hA.in1.in1.line
   rw[decide_eq_false hpd] at hrc
   refine EqAt.of_refs hpa hrc _ _ _ _ (kat_no (b:=false) (i:=0) (kat_one _ _ ?_))
   refine richCompare_meets_room (op:= .Lt) ⟨_,(g1 h' hk _ mi).2,rfl⟩ ⟨_,(g1 h' hk _ mj).2,rfl⟩ F.slot_tuple_lt F.entry_tuple_lt (F.args_tuple_lt_2 _ _) (qe _ _ _ _) ⟨(g1 h' hk _ mi).2,(g1 h' hk _ mj).2,?_⟩ hA.in1.in1.line
   exact⟨(λx=>nomatch x),hC⟩
  ·rw[sF h6] at hD
   have hsz:s.heap.objs.size+1<h'.objs.size:=Heap.lt_size hD
   have E:am V [l] s ([(l,aa (bj es) ep)]++[(s.heap.objs.size+1,aa (bj (iD es)) e)]) {s with heap:=h'}:=by
    refine⟨⟨⟨λb o hb ht=>hk b o (hs.base.old b o hb ht),Nat.le_trans hs.base.size (Nat.le_of_lt (Nat.lt_trans (Nat.lt_succ_self _) hsz)),hs.base.gens,hs.base.drawn,hs.base.os⟩,?_,?_,?_⟩,λb o hb O=>hk b o hb,Nat.le_of_lt (Nat.lt_trans (Nat.lt_succ_self _) hsz)⟩
    ·intro p hp
     simp only[List.cons_append,List.nil_append,gV,List.not_mem_nil,or_false] at hp
     rcases hp with rfl|rfl
     ·exact hk _ _ ho
     ·exact hD
    ·have hlt:l<s.heap.objs.size:=Heap.lt_size ho
     have:l≠s.heap.objs.size+1:=λh=>by rw[h] at hlt;exact absurd hlt (Nat.not_lt.mpr (Nat.le_succ _))
     simpa using this
    ·intro p hp
     simp only[List.cons_append,List.nil_append,gV,List.not_mem_nil,or_false] at hp
     rcases hp with rfl|rfl
     ·exact hs.ok (l,aa (bj es) ep) (.head _)
     ·left;exact Nat.le_succ_of_le hs.base.size
   exact⟨a7 _ _ (λk=>if k=0 then s.heap.objs.size+1 else e),rfl,aW (H:=kM l es ep js) E _ rfl rfl (λp hp=>by rw[List.mem_singleton.mp hp];exact Nat.le_succ _),trivial,λO h=>nomatch h⟩
 exact codeAny_call_builtin (by decide+kernel) entry_sorted (wpAny_of_eq (a:=()) (by kernel_rfl) hw)
noncomputable def mz(l:Addr)(vs:List Value)(js:List Nat):aD:=iw (.call (.builtin "len") ⟨[.ref l],[]⟩) js [(l,al vs)] λρ=> .int vs.length (ρ 2)
noncomputable def EK(P:Params)(b1 b2:Bool)(n t:Nat)(fr C I l acc:Nat)(first:Bool)(ka kb:Nat)(pa0:Nat)(n0:Int)(u0:Nat)(j:Nat)(vs:List Value)(ep:Nat)(q pa:Nat)(x:Int)(u:Nat)(xs:List Value)(out:List Value)(eq:Nat):bu:=
 ap P b1 b2 (Ah P fr C I acc) (eZ P C I l acc (jh first ka kb (.ref pa0) (.int n0 u0)) (aj l j) vs ep out eq++[(q,al [.ref pa,.int x u]),(pa,al xs)]) n t
 (.hook [2] 0 (a8 I l j vs ep (.ref q) [1,2]) λρ=> .hook [2,5,5,5,0,5,7,7,0,7,7,7,5,7,7,7,0,7,7,7,5,7,7,7,0,7,7,7,5,7,7,9,1,1,1,1,0,0,1] 3 (mz pa xs [5]) λρ1=> .hook [0,1] 1 (a5 acc out eq (.ref (ρ1 0)) [3]) λρ2=>
 .again [] (Ah P fr C I acc) [0,1,2,3,9,4,5] (eZ P C I l acc (DL (ao first ka (ρ 1)) (ao first kb (ρ 1+1)) (.ref pa) (.int x u)) (aj l (j+1)) vs ep (out++[.ref (ρ1 0)]) (eq+1)++[(ρ1 0,al [.int ((xs.length:Int)-1) (ρ1 1+1),.int x u])]++[(q,al [.ref pa,.int x u]),(pa,al xs)]))
theorem GL(P b1 n t fr C I l acc ka kb pa0 n0 u0 j vs ep q pa x u xs out eq):Qk 300 λr=>ay λfirst b2=>r (EK P b1 b2 n t fr C I l acc first ka kb pa0 n0 u0 j vs ep q pa x u xs out eq):=by unfold Qk;kernel_rfl!
theorem GM(P:Params)(b1:Bool)(n t:Nat)(fr C I l acc:Nat)(T:aF)(j:Nat)(vs:List Value)(ep:Nat)(out:List Value)(eq:Nat):Qk 200 λr=>fT λb2=>r ( ap P b1 b2 (Ah P fr C I acc) (eZ P C I l acc T (aj l j) vs ep out eq) n t
 (.hook [2] 0 (cn I l j vs ep [1,2]) λρ=> .fin [6] (.ok .next) [0,1,2,3] (eZ P C I l acc T (ba j) vs ep out eq))):=by unfold Qk;kernel_rfl!
theorem GN(P:Params)(n t:Nat)(fr C I l acc:Nat)(vs:List Value)(ep:Nat):Qk 200 λr=>ay λb1 b2=>r ( ap P b1 b2 (AX P fr C I acc) (eZ P C I l acc [] (aj l 0) vs ep [] 0) n t
 (.again (match b1 with|true=>[]|false=>[2,2,0,2,2]) (Ah P fr C I acc) [0,1,2,3] (eZ P C I l acc [] (aj l 0) vs ep [] 0))):=by unfold Qk;kernel_rfl!
theorem vQ{V:Gw}{l:Nat}{vs:List Value}{js:List Nat}{L:Nat}(hz:aw vs.length):ai V L (mz l vs js) (λO=>True):=by
 intro A s hA hs
 have ho:s.heap.get? l=some (al vs):=hs.get (l,al vs) (.head _)
 have hT:s.TypeIs (.ref l) "tuple":=⟨_,ho,rfl⟩
 have hz':vs.length≤1000:=hz
 have hw:wpAny (model V.prog V.w) A.in1 (Builtin.«len» ⟨[.ref l],[]⟩) (λfin s'=>match fin with| .done f=>bO V (mz l vs js) (λO=>True) s (.ok f) s'| .again c'=>c'.quiet=true∧codeAny (model V.prog V.w) A c' (bO V (mz l vs js) (λO=>True) s) s') (λe s'=>bO V (mz l vs js) (λO=>True) s (.error e) s') s:=by
  unfold Builtin.«len»
  refine wpAny_bind (m:=oneArg "len" _) (wpAny_pure ?_)
  refine wpAny_bind (m:=callSpecial? (.ref l) (Str.ofString "__len__")) (wpAny_callSpecial?_slot (name:=Str.ofString "__len__") hT F.slot_tuple_len
   (call_meets F.slot_tuple_len hT F.entry_tuple_len (F.args_tuple_len_1 _) (AutoSeq1.tuple___len___tuple_0 l ⟨vs⟩ 0) ⟨ho,?_⟩))
  show wpAny _ _ _ _ _ {s with toks:=s.toks+1}
  refine wpAny_bind (wpAny_holding (wpAny_pure ?_))
  refine wpAny_bind (wpAny_letGo ?_)
  show wpAny _ _ (if((⟨vs⟩:Array Value).size:Int)<0 then _ else _) _ _ _
  rw[if_neg (by lia)]
  show wpAny _ _ (if((⟨vs⟩:Array Value).size:Int)≥2^63 then _ else _) _ _ _
  rw[if_neg (by simp;lia)]
  exact wpAny_bind (wpAny_mkInt (wpAny_pure ⟨a7 _ _ (λO=>s.toks+1),rfl,cM (hs.ends.tok (s.toks+1+1)) (λO=>s.toks+1),trivial⟩))
 exact codeAny_call_builtin (by decide+kernel) entry_len (wpAny_of_eq (a:=()) (by kernel_rfl) hw)
structure ll where
 pt:Nat
 d:Int
 k:Int
 du:Nat
 ku:Nat
noncomputable def ll.o(e:ll):Obj:=al [.int e.d e.du,.int e.k e.ku]
noncomputable def ll.p(e:ll):Int×Int:=(e.d,e.k)
noncomputable def qU(es:List ll):KL:=es.map λe=>(e.pt,e.o)
noncomputable def ja(es:List ll):List Value:=es.map λe=> .ref e.pt
noncomputable def kg(D:List (Int×Int))(τ:Nat→Nat):List ll:=(List.range D.length).map λi=>⟨τ (3*i),(D.getD i (0,0)).1,(D.getD i (0,0)).2,τ (3*i+1),τ (3*i+2)⟩
noncomputable def z7(pgs:List ll)(k:Nat):Nat:=if k%3=0 then(pgs.getD (k/3) ⟨0,0,0,0,0⟩).pt else if k%3=1 then(pgs.getD (k/3) ⟨0,0,0,0,0⟩).du else(pgs.getD (k/3) ⟨0,0,0,0,0⟩).ku
theorem yv{D:List (Int×Int)}{pgs:List ll}(h:pgs.map ll.p=D){τ:Nat→Nat}(hτ:∀k,τ k=z7 pgs k):kg D τ=pgs:=by
 subst h
 apply List.ext_getElem
 ·simp[kg]
 ·intro i h1 h2
  have d1:(3*i+1)/3=i:=Nat.mul_add_div (by decide) i 1
  have d2:(3*i+2)/3=i:=Nat.mul_add_div (by decide) i 2
  simp[kg,hτ,z7,ll.p,d1,d2,List.getD_eq_getElem?_getD,h2]
noncomputable def qT(es:List bt):List (Int×Int):=es.map λe=>((e.path.length:Int)-1,e.num)
noncomputable def Dz(P:Params)(fr C I l acc:Nat)(es:List bt)(ep:Nat)(e:Bool)(js:List Nat):aD:=
 ⟨AX P fr C I acc,js,eZ P C I l acc [] (aj l 0) (bj es) ep [] 0,λO=> .ok .next,
  λρ=>[bn P (jh e (ρ 2) (ρ 3) (.ref (es.getD (es.length-1) ce).pa) (.int (es.getD (es.length-1) ce).num (es.getD (es.length-1) ce).nt)),ba es.length,aa (bj es) ep,aa (ja (kg (qT es) (λi=>ρ (i+4)))) es.length],λO=>[]⟩
theorem Cd{V:Gw}(G:au V){fr C I l acc ep:Nat}{es:List bt}{e:Bool}(he:e=(es.length==0)){F:KL}(hes:∀p∈dO es,p∈F)(hne:∀e∈es,e.pt≠e.pa∧e.path.length≤60)(hsm:es.length≤500){js:List Nat}:aQ V 2 (Dz V.w.params fr C I l acc es ep e js) F (λO=>True) (λρ=>qU (kg (qT es) (λi=>ρ (i+4)))):=by
 subst he
 intro A s hA hs hf
 refine aR G hf (ad (GN V.w.params s.heap.objs.size s.toks fr C I l acc (bj es) ep) (aC V) (aB V)) hA hs (ax rfl λs1 hs1 hf1=>⟨rfl,?_⟩)
 have main:=bv (V:=V) (S:=Nat×Nat×List ll) (code:=Ah V.w.params fr C I acc) (L:=2) (W:=[C,I,l,acc]) es.length s.heap.objs.size
  (λm σ=>eZ V.w.params C I l acc (jh (m==0) σ.1 σ.2.1 (.ref (es.getD (m-1) ce).pa) (.int (es.getD (m-1) ce).num (es.getD (m-1) ce).nt)) (aj l m) (bj es) ep (ja σ.2.2) m) (λO σ=>F++qU σ.2.2)
  (λσ=>eZ V.w.params C I l acc (jh (es.length==0) σ.1 σ.2.1 (.ref (es.getD (es.length-1) ce).pa) (.int (es.getD (es.length-1) ce).num (es.getD (es.length-1) ce).nt)) (ba es.length) (bj es) ep (ja σ.2.2) es.length) (λm σ=>σ.2.2.map ll.p=qT (es.take m)∧∀e∈σ.2.2,s.heap.objs.size≤e.pt) ?_ ?_ es.length 0 (0,0,[]) A s1 (Nat.zero_add _) ⟨rfl,λO h=>nomatch h⟩ hA hs1.grow hs1.at' (by show Fz V (F++[]) _ s1;rw[List.append_nil];exact hf1)
 ·refine codeAny_mono main ?_
  rintro r s'' ⟨hr,⟨ka,kb,os⟩,⟨hI,hI2⟩,hE,hF⟩
  have E:=hs1.trans hE (λb hb=> .inl hb)
  rw[List.take_length] at hI
  try dsimp only at hI hI2 E hF
  have hb:kg (qT es) (λi=>z7 os i)=os:=yv hI λO=>rfl
  rw[←hb] at E
  refine⟨a7 _ _ (λk=>match k with|0=>ka|1=>kb|k+2=>z7 os k),hr,aW (H:=Dz V.w.params fr C I l acc es ep (es.length==0) js) E _ rfl rfl (λO hp=>nomatch hp),trivial,λp hp=> ?_⟩
  have hp':p∈qU (kg (qT es) (λi=>z7 os i)):=hp
  rw[hb] at hp'
  refine⟨(hF p (List.mem_append_right _ hp')).1,?_,λh=>nomatch h⟩
  obtain⟨e,he,rfl⟩:=List.mem_map.mp hp'
  exact hI2 e he
 ·rintro m ⟨ka,kb,os⟩ A s R hm ⟨hI,hI2⟩ hA hn hs hF k
  try dsimp only at hI hI2 hs hF
  have hmem:es.getD m ce∈es:=bV hm
  have hget:=lZ hm
  have htk:qT (es.take (m+1))=qT (es.take m)++[(((es.getD m ce).path.length:Int)-1,(es.getD m ce).num)]:=by
   rw[dF hm (d:=ce),qT,List.map_append];rfl
  generalize hq:es.getD m ce=q at hmem hget htk
  obtain⟨hq1,hq2⟩:=hne q hmem
  have hTm:∀p∈q.k,p∈F++qU os:=λp hp=>List.mem_append_left _ (hes p (List.mem_flatMap.mpr ⟨q,hmem,hp⟩))
  have hTn:(q.k.map (·.1)).Nodup:=by simp[bt.k,hq1]
  have hT:=hs.thaw hF (R:=q.k) hTm hTn
  have hol:os.length=m:=by
   have:=congrArg List.length hI
   simpa[qT,Nat.min_eq_left (Nat.le_of_lt hm)] using this
  refine aR G Fz.nil (ad (GL V.w.params (aC V) s.heap.objs.size s.toks fr C I l acc ka kb (es.getD (m-1) ce).pa (es.getD (m-1) ce).num (es.getD (m-1) ce).nt m (bj es) ep q.pt q.pa q.num q.nt (aL q.path) (ja os) m) (m==0) (aB V)) hA hT ?_
  refine ac (aJ (L:=0) hget) rfl rfl rfl λρ O hρ=>ac (vQ (L:=0) (by show _≤1000;rw[bw];lia)) rfl rfl rfl λρ1 O hρ1=>ac (aM (L:=0) (by show _≤1000;simp only[ja,List.length_map];lia)) rfl rfl rfl λρ2 O O=>ax rfl λs' hs' O=>⟨rfl,?_⟩
  have hρ1':s.heap.objs.size≤ρ1 0:=hρ1
  obtain⟨E3,F3⟩:=fi hs hF hTm hTn hs' (λp hp=>by
   rcases List.mem_append.mp hp with hp|hp
   ·exact .inl (List.mem_map_of_mem (f:=(·.1)) hp)
   ·rw[List.mem_singleton.mp hp];exact .inr hρ1')
  have F4:=Fz.take E3.at' F3
  let e':ll:=⟨ρ1 0,(q.path.length:Int)-1,q.num,ρ1 1+1,q.nt⟩
  have ea:ja (os++[e'])=ja os++[.ref (ρ1 0)]:=by simp[ja,e']
  have ek:F++qU (os++[e'])=F++qU os++[(ρ1 0,al [.int (((aL q.path).length:Int)-1) (ρ1 1+1),.int q.num q.nt])]:=by simp[qU,e',ll.o,bw]
  refine k (ao (m==0) ka (ρ 1),ao (m==0) kb (ρ 1+1),os++[e']) s' ⟨?_,?_⟩ ?_ ?_
  ·rw[htk,List.map_append,hI];rfl
  ·intro e he
   rcases List.mem_append.mp he with he|he
   ·exact hI2 e he
   ·rw[List.mem_singleton.mp he];exact Nat.le_trans hn hρ1'
  ·show am V _ s (eZ V.w.params C I l acc (jh (m+1==0) _ _ (.ref (es.getD m ce).pa) (.int (es.getD m ce).num (es.getD m ce).nt)) (aj l (m+1)) (bj es) ep (ja (os++[e'])) (m+1)) s'
   rw[ea,hq]
   exact E3.keep
  ·show Fz V (F++qU (os++[e'])) (eZ V.w.params C I l acc (jh (m+1==0) _ _ (.ref (es.getD m ce).pa) (.int (es.getD m ce).num (es.getD m ce).nt)) (aj l (m+1)) (bj es) ep (ja (os++[e'])) (m+1)) s'
   rw[ea,ek,hq]
   exact F4
 ·rintro⟨ka,kb,os⟩ A s R ⟨hI,hI2⟩ hA hs hF k
  refine aR G hF (a6 (GM V.w.params (aC V) s.heap.objs.size s.toks fr C I l acc (jh (es.length==0) ka kb (.ref (es.getD (es.length-1) ce).pa) (.int (es.getD (es.length-1) ce).num (es.getD (es.length-1) ce).nt)) es.length (bj es) ep (ja os) es.length) (aB V)) hA hs ?_
  exact ac (bq (L:=0) (by rw[List.getElem?_eq_none (by rw[d8];exact Nat.le_refl _)])) rfl rfl rfl λρ O O=>an rfl λs' hs' hf'=>k s' hs' hf'
noncomputable def q7(f:Nat→Nat):List Value:=(List.range 7).map λi=> .ref (f i)
noncomputable def Dx(P:Params)(fr I L pg pl k0 k1 k2 ab:Nat)(Ls:List Value)(R:KL)(PG:br→List bt)(T:br→aF)(js:List Nat):aD:=
 ⟨C5 P fr I,js,eY P fr I L pg (cZ P k0 k1 k2 pl ab pg []) (aj L 0) Ls 0 [] 0++R,λO=> .ok .next,
  λρ=>[cZ P k0 k1 k2 pl (ρ 2) pg (T ρ),ba 7,aa Ls 0,aa (bj (PG ρ)) (ρ 3)]++R.map (·.2),λO=>[]⟩
theorem Ge(P:Params)(b1:Bool)(n t:Nat)(pl:Addr)(f:Nat→Nat)(e:Nat):Qk 100 λr=>fT λb2=>r (bK P b1 b2 218 [.ref pl] [(pl,aa (q7 f) e)] n t [0,2,2] n [] [1,0] [(n,cY P [(ie,t,.ref pl)]),(pl,aa (q7 f) e)]):=by unfold Qk;kernel_rfl!
theorem Gf(P:Params)(n n' t t0:Nat)(pl:Nat)(f:Nat→Nat)(e:Nat)(qs:List (Int×Nat))(e0:Nat)(PG:br→List bt)(T:br→aF):Qk 600 λr=>ay λb1 b2=>r ( ap P b1 b2 (cc P 218 n []) [(n,cY P [(ie,t0,.ref pl)]),(pl,aa (q7 f) e),(f 0,aa (aL qs) e0)] n' t
 (.hook [0,8,8,8,0,8,9,9,0,9,9,9,8,9,9,9,0,9,9,9,8,9,9,9,0,9,9,9,8,9,9,11,1,1,1,1,1,2,2,2,0,2,2,12,3,12] 9 (jH (n'+8) (f 0) [.int 0 (t+4)] (aL qs) 0 e0 [11,2]) λρ=>
  .hook [1,2,2,2,0,2,15,15,15,15,15,2,14,16,14,0,14,16,14,16,17,17,0,17,18] 5 (Dx P n (ρ 0+4) (ρ 0+3) n' pl t0 (t+2) (t+3) (n'+3) (.ref (ρ 2)::((q7 f).drop 1)) [(n'+3,aa [.ref (n'+2)] 0),(n'+2,al [.ref (n'+1),.int (-1) (t+1)]),(n'+1,al []),(ρ 2,aa ([.int 0 (t+4)]++aL qs) 0)] PG T [0,17,16,3,6,5,4,12]) λρ1=>
  .hook [0,0,1] 0 (kM n' (PG ρ1) (ρ1 3) [3]) λρ2=>
  .hook [19,19,0,19,20] 3 (Dz P n (ρ2 0+2) (ρ2 0) (ρ2 2) (ρ2 0+1) (iD (PG ρ1)) (ρ2 3) false [21,19,18,20]) λρ3=>
  .fin [22,22,22,22,22,22] (.ok (.ret (.ref (ρ2 0+1)))) [1,20,2] [(pl,aa (q7 f) e),(ρ2 0+1,aa (ja (kg (qT (iD (PG ρ1))) (λi=>ρ3 (i+4)))) (iD (PG ρ1)).length),(f 0,aa (aL qs) e0)])):=by unfold Qk;kernel_rfl!
theorem Cr(P):d4 P 218=true:=by kernel_rfl!
theorem sG(lt:Nat→Nat→Bool):(jc lt).length=6:=by
 have h:zU (λa:Array Nat=>Nat.beq a.toList.length 6) (kas_sort 6)=true:=by decide+kernel
 exact Nat.eq_of_beq_eq_true (nY (lt:=lt) _ h)
noncomputable def lk(L:List PE):List (Int×Int):=(jc λi j=>gZ (L.getD i ([],0)).1 (L.getD j ([],0)).1).map λi=>(((L.getD i ([],0)).1.length:Int)-1,(L.getD i ([],0)).2)
theorem cq{α β:Type}{f:α→β}{l:List α}{d:α}{e:β}{i:Nat}(h:i<l.length):(l.map f).getD i e=f (l.getD i d):=by
 simp[List.getD_eq_getElem?_getD,h]
theorem iT{α:Type}{lt lt':Nat→Nat→Bool}{n:Nat}(h:∀i j,i<n→j<n→lt i j=lt' i j):∀(T:KasT α),xp n T=true→nC lt T=nC lt' T
 | .ret a,_=>rfl
 | .ask i j k,hb=>by
  unfold xp at hb
  simp only[Bool.and_eq_true,Bool.not_eq_true'] at hb
  obtain⟨h1,h2,h3,h4,h5⟩:=hb
  unfold nC
  rw[h i j (Nat.le_of_ble_eq_true h1) (Nat.le_of_ble_eq_true h2)]
  cases lt' i j
  ·exact iT h _ h5
  ·exact iT h _ h4
theorem on{lt lt':Nat→Nat→Bool}(h:∀i j,i<6→j<6→lt i j=lt' i j):jc lt=jc lt':=by
 unfold jc
 rw[iT h _ mN]
theorem mX{es:List bt}{L:List PE}(h:es.map bt.p=L)(h6:es.length=6):qT (iD es)=lk L:=by
 subst h
 unfold qT iD lk
 rw[List.map_map]
 have e:jc (uJ es)=jc λi j=>gZ ((es.map bt.p).getD i ([],0)).1 ((es.map bt.p).getD j ([],0)).1:=on λi j hi hj=>by
  rw[cq (d:=ce) (by lia),cq (d:=ce) (by lia)];rfl
 rw[←e]
 refine List.map_congr_left λi hi=> ?_
 have:=lF _ i hi
 rw[cq (d:=ce) (by lia)]
 simp[bt.p]
noncomputable def zI(a b:Nat):Int:=(a:Int)-b
theorem ww(x:Int):x=zI x.toNat (-x).toNat:=(Int.toNat_sub_toNat_neg x).symm
noncomputable def g7(LL:List PE)(ρ:br):List bt:=iZ LL (λi=>ρ (i+15))
noncomputable def Ac(ρ:br):aF:=qY false (ρ 4) (ρ 5) (ρ 6) (ρ 7) (ρ 8) (zI (ρ 9) (ρ 10)) (ρ 11) (ρ 2) (zI (ρ 12) (ρ 13)) (ρ 14)
theorem Cb{V:Gw}(G:au V){fr I L pg pl k0 k1 k2 ab tu em l0 t e:Nat}{q0:ez}{ps:List ez}{F:KL}{LL:List PE}{js:List Nat}(h7:ps.length=6)
  (hps:∀q∈ps,q.k∈F) (hok:kC ((0::q0.ns)::ps.map ez.ns)) (hsq:∀q∈ps,q.qs.length≤400) (hsq0:q0.qs.length≤399) (hLL:(fZ ((0::q0.ns)::ps.map ez.ns)).1=LL):
  aQ V 3 (Dx V.w.params fr I L pg pl k0 k1 k2 ab (.ref l0::gU ps) [(ab,aa [.ref tu] 0),(tu,al [.ref em,.int (-1) t]),(em,al []),(l0,aa ([.int 0 e]++aL q0.qs) 0)] (g7 LL) Ac js) F
   (λρ=>(g7 LL ρ).map bt.p=LL∧(∀e∈g7 LL ρ,e.pt≠e.pa∧e.path.length≤60)∧((dO (g7 LL ρ)).map (·.1)).Nodup) (λρ=>dO (g7 LL ρ)):=by
 intro A s hA hs hf
 let l0E:ez:=⟨l0,(0,e)::q0.qs,0⟩
 let σ0:xu:=⟨0,0,0,0,0,0,0,0,0,ab,0,0,[⟨tu,em,[],-1,t⟩],[]⟩
 have hs':At V (eY V.w.params fr I L pg (cZ V.w.params k0 k1 k2 pl ab pg []) (aj L 0) (.ref l0::gU ps) 0 [] 0++[(ab,aa [.ref tu] 0),(tu,al [.ref em,.int (-1) t]),(em,al []),(l0,aa ([.int 0 e]++aL q0.qs) 0)]) s:=hs
 have hf':Fz V F (eY V.w.params fr I L pg (cZ V.w.params k0 k1 k2 pl ab pg []) (aj L 0) (.ref l0::gU ps) 0 [] 0++[(ab,aa [.ref tu] 0),(tu,al [.ref em,.int (-1) t]),(em,al []),(l0,aa ([.int 0 e]++aL q0.qs) 0)]) s:=hf
 have f2:=Fz.take hs' hf'
 have hnd:=hs'.nodup
 rw[List.map_append,List.nodup_append] at hnd
 have hR:[ab,tu,em,l0].Nodup:=hnd.2.1
 have hR':(ab≠tu∧ab≠em∧ab≠l0)∧(tu≠em∧tu≠l0)∧em≠l0:=by simpa using hR
 have hsz:∀p∈F++[(ab,aa [.ref tu] 0),(tu,al [.ref em,.int (-1) t]),(em,al []),(l0,aa ([.int 0 e]++aL q0.qs) 0)],p.1<s.heap.objs.size:=λp hp=>Heap.lt_size (f2 p hp).1
 have main:=vT G (fr:=fr) (I:=I) (L:=L) (pg:=pg) (pl:=pl) (k0:=k0) (k1:=k1) (k2:=k2) (eL:=0) (ps:=l0E::ps) (F:=F++[(l0,aa ([.int 0 e]++aL q0.qs) 0)])
  (λq hq=>by
   rcases e6 hq with rfl|hq
   ·exact List.mem_append_right _ (.head _)
   ·exact List.mem_append_left _ (hps q hq))
  hok (by rw[List.length_cons,h7];decide) (λq hq=>by
   rcases e6 hq with rfl|hq
   ·show q0.qs.length+1≤400;lia
   ·exact hsq q hq) s.heap.objs.size σ0 ⟨rfl,rfl,λq hq=>by rw[List.mem_singleton.mp hq];exact hR'.2.1.1,λq hq=>by
    rcases e6 hq with rfl|hq
    ·exactλh=>hR'.1.2.2 h.symm
    ·intro h
     refine(hf' _ (hps q hq)).2.1 ?_
     rw[List.map_append]
     exact List.mem_append_right _ (by rw[show(q.k).1=ab from h];exact .head _)⟩
  (λq hq=>by
   rcases e6 hq with rfl|hq
   ·exact hsz _ (List.mem_append_right _ (.tail _ (.tail _ (.tail _ (.head _)))))
   ·exact hsz _ (List.mem_append_left _ (hps q hq))) A s hA (Nat.le_refl _) hs'.less (f2.only λp hp=>by
    rcases List.mem_append.mp hp with hp|hp
    ·rcases List.mem_append.mp hp with hp|hp
     ·exact List.mem_append_left _ hp
     ·rw[List.mem_singleton.mp hp];exact List.mem_append_right _ (.tail _ (.tail _ (.tail _ (.head _))))
    ·refine List.mem_append_right _ ?_
     have hp:p∈[(tu,al [.ref em,.int (-1) t]),(em,al []),(ab,aa [.ref tu] 0)]:=hp
     simp only[gV,List.not_mem_nil,or_false] at hp
     rcases hp with rfl|rfl|rfl
     ·exact .tail _ (.head _)
     ·exact .tail _ (.tail _ (.head _))
     ·exact .head _)
 refine codeAny_mono main ?_
 rintro r s' ⟨hr,σ,⟨h1,h2,h3⟩,hE,hF⟩
 have h1:σ.pgs.map bt.p=LL:=h1.trans hLL
 let f:Nat→Nat:=λk=>match k with
  |0=>σ.ab|1=>σ.epg|2=>σ.k3|3=>σ.k4|4=>σ.k5|5=>σ.k6|6=>σ.lp|7=>σ.p.toNat|8=>(-σ.p).toNat|9=>σ.pt|10=>σ.v.toNat|11=>(-σ.v).toNat|12=>σ.u|k+13=>gf σ.pgs k
 have hpg:g7 LL (a7 s'.heap.objs.size s'.toks f)=σ.pgs:=su h1 (λe he=>(h2 e he).2.2) λO=>rfl
 have hT:Ac (a7 s'.heap.objs.size s'.toks f)=qY false σ.k3 σ.k4 σ.k5 σ.k6 σ.lp σ.p σ.pt σ.ab σ.v σ.u:=by
  show qY false σ.k3 σ.k4 σ.k5 σ.k6 σ.lp (zI σ.p.toNat (-σ.p).toNat) σ.pt σ.ab (zI σ.v.toNat (-σ.v).toNat) σ.u=_
  rw[←ww,←ww]
 have h0:((l0E::ps).length==0)=false:=rfl
 rw[h0,List.length_cons,h7] at hE
 have E2:=hE.more (K:=eY V.w.params fr I L pg (cZ V.w.params k0 k1 k2 pl ab pg []) (aj L 0) (.ref l0::gU ps) 0 [] 0) hs' rfl
 refine⟨a7 s'.heap.objs.size s'.toks f,hr,aW (H:=Dx V.w.params fr I L pg pl k0 k1 k2 ab (.ref l0::gU ps) [(ab,aa [.ref tu] 0),(tu,al [.ref em,.int (-1) t]),(em,al []),(l0,aa ([.int 0 e]++aL q0.qs) 0)] (g7 LL) Ac js) E2 f rfl ?_ (λO hp=>nomatch hp),⟨?_,?_,?_⟩,λp hp=> ?_⟩
 ·show _=List.zip _ ([cZ V.w.params k0 k1 k2 pl σ.ab pg (Ac (a7 s'.heap.objs.size s'.toks f)),ba 7,aa (.ref l0::gU ps) 0,aa (bj (g7 LL (a7 s'.heap.objs.size s'.toks f))) σ.epg]++_)++[]
  rw[hpg,hT]
  rfl
 ·rw[hpg];exact h1
 ·rw[hpg]
  intro e he
  refine⟨λh=> ?_,(h2 e he).2.2⟩
  have:=h3
  rw[dO,List.map_flatMap] at this
  have hsub:=List.pairwise_flatMap.mp this
  have:=hsub.1 e he
  simp[bt.k,h] at this
 ·rw[hpg];exact h3
 ·have hp:p∈dO (g7 LL (a7 s'.heap.objs.size s'.toks f)):=hp
  rw[hpg] at hp
  refine⟨(hF p (List.mem_append_right _ (List.mem_append_left _ (List.mem_append_left _ hp)))).1,?_,λh=>nomatch h⟩
  obtain⟨e,he,hpe⟩:=List.mem_flatMap.mp hp
  have hpe:p∈[(e.pt,al [.ref e.pa,.int e.num e.nt]),(e.pa,al (aL e.path))]:=hpe
  simp only[gV,List.not_mem_nil,or_false] at hpe
  rcases hpe with rfl|rfl
  ·exact(h2 e he).1
  ·exact(h2 e he).2.1
theorem mW:∀{es:List bt},((dO es).map (·.1)).Nodup→(es.map bt.pa).Nodup
 |[],_=>List.nodup_nil
 |e::es,h=>by
  have h:(e.pt::e.pa::(dO es).map (·.1)).Nodup:=h
  rw[List.nodup_cons,List.nodup_cons] at h
  rw[List.map_cons,List.nodup_cons]
  refine⟨λhm=>h.2.1 ?_,mW h.2.2⟩
  obtain⟨q,hq,he⟩:=List.mem_map.mp hm
  exact List.mem_map.mpr ⟨(q.pa,al (aL q.path)),List.mem_flatMap.mpr ⟨q,hq,.tail _ (.head _)⟩,he⟩
theorem sE{es:List bt}(h6:es.length=6):∀e∈iD es,e∈es:=λe he=>by
 obtain⟨i,hi,rfl⟩:=List.mem_map.mp he
 exact bV (by have:=lF _ i hi;lia)
theorem jP(es:List bt):(iD es).length=6:=by rw[iD,List.length_map,sG]
noncomputable def wF(pl:Nat)(vs:List Value)(e:Nat)(D:List (Int×Int))(js:List Nat):aD:=
 ⟨.call (.ref 218) ⟨[.ref pl],[]⟩,js,[(pl,aa vs e)],λρ=> .ok (.ret (.ref (ρ 2))),λO=>[aa vs e],λρ=>[(ρ 2,aa (ja (kg D (λi=>ρ (i+3)))) 6)]⟩
theorem fe{α:Type}{n:Nat}{l:List α}(h:l.length=n+1):∃a t,l=a::t∧t.length=n:=by
 cases l with
 |nil=>cases h
 |cons a t=>exact⟨a,t,rfl,Nat.succ.inj h⟩
theorem D2{q0:ez}{ps:List ez}(h7:ps.length=6):gU (q0::ps)=q7 λi=>((q0::ps).getD i oG).a:=by
 obtain⟨_,t,rfl,y1⟩:=fe h7
 obtain⟨_,t,rfl,y2⟩:=fe y1
 obtain⟨_,t,rfl,y3⟩:=fe y2
 obtain⟨_,t,rfl,y4⟩:=fe y3
 obtain⟨_,t,rfl,y5⟩:=fe y4
 obtain⟨_,t,rfl,y6⟩:=fe y5
 cases t with
 |nil=>rfl
 |cons=>cases y6
theorem vM{V:Gw}(G:au V){pl e:Nat}{q0:ez}{ps:List ez}{F:KL}{LL:List PE}{js:List Nat}(h7:ps.length=6)
  (hps:∀q∈q0::ps,q.k∈F) (hnd:∀q∈ps,q.a≠q0.a) (hok:kC ((0::q0.ns)::ps.map ez.ns)) (hsq:∀q∈q0::ps,q.qs.length≤399) (hLL:(fZ ((0::q0.ns)::ps.map ez.ns)).1=LL) (h6:LL.length=6) (hdn:(LL.map (·.1)).Nodup):
  aQ V 4 (wF pl (gU (q0::ps)) e (lk LL) js) F (λO=>True) (λρ=>qU (kg (lk LL) (λi=>ρ (i+3)))):=by
 intro A s hA hs hf
 have hvs:gU (q0::ps)=q7 λi=>((q0::ps).getD i oG).a:=D2 h7
 have htl:gU ps=(q7 λi=>((q0::ps).getD i oG).a).drop 1:=by rw[←hvs];rfl
 have hs0:At V [(pl,aa (q7 λi=>((q0::ps).getD i oG).a) e)] s:=by rw[←hvs];exact hs
 have hf0:Fz V F [(pl,aa (q7 λi=>((q0::ps).getD i oG).a) e)] s:=by rw[←hvs];exact hf
 refine ga G hA (Cr _) hf0 hs0 (a6 (Ge V.w.params (aC V) s.heap.objs.size s.toks pl (λi=>((q0::ps).getD i oG).a) e) (aB V)) (aS rfl) λs1 hs1 hf1=> ?_
 have hTm:∀p∈[q0.k],p∈F:=λp hp=>by rw[List.mem_singleton.mp hp];exact hps _ (.head _)
 have hT:=hs1.at'.thaw hf1 (R:=[q0.k]) hTm (by simp)
 have hF1:∀p∈ps.map ez.k,p∈F:=λp hp=>by
  obtain⟨q,hq,rfl⟩:=List.mem_map.mp hp
  exact hps q (.tail _ hq)
 have hfT:=(hf1.only hF1).cons (R:=[q0.k]) λp hp hm=>by
  obtain⟨q,hq,rfl⟩:=List.mem_map.mp hp
  exact hnd q hq (by simpa[ez.k] using hm)
 refine aR G hfT (ad (Gf V.w.params s.heap.objs.size s1.heap.objs.size s1.toks s.toks pl (λi=>((q0::ps).getD i oG).a) e q0.qs q0.e (g7 LL) Ac) (aC V) (aB V)) hA hT ?_
 have hq0:=hsq q0 (.head _)
 refine ac (jy (L:=0) (by show _≤1000;rw[bw];simp;lia)) rfl rfl rfl λρ O O=> ?_
 have hgo:=Cb (V:=V) G (fr:=s.heap.objs.size) (I:=ρ 0+4) (L:=ρ 0+3) (pg:=s1.heap.objs.size) (pl:=pl) (k0:=s.toks) (k1:=s1.toks+2) (k2:=s1.toks+3) (ab:=s1.heap.objs.size+3) (tu:=s1.heap.objs.size+2) (em:=s1.heap.objs.size+1) (l0:=ρ 2) (t:=s1.toks+1) (e:=s1.toks+4) (q0:=q0) (ps:=ps) (F:=ps.map ez.k) (LL:=LL) (js:=[0,17,16,3,6,5,4,12]) h7 (λq hq=>List.mem_map_of_mem hq) hok (λq hq=>Nat.le_trans (hsq q (.tail _ hq)) (by decide)) hq0 hLL
 rw[htl] at hgo
 refine bh (l:=3) hgo rfl rfl rfl λρ1 hP O O hX=> ?_
 obtain⟨hp1,hp2,hp3⟩:=hP
 have hl6:(g7 LL ρ1).length=6:=by
  have:=congrArg List.length hp1
  rw[List.length_map] at this
  exact this.trans h6
 have hdn':((g7 LL ρ1).map λe=>e.p.1).Nodup:=by
  have:=congrArg (List.map (·.1)) hp1
  rw[List.map_map] at this
  rw[←this] at hdn;exact hdn
 refine aV (l:=3) (qB hl6 (λp hp=>List.mem_append_right _ hp) (mW hp3) hdn') rfl rfl rfl λρ2 O hρ2=> ?_
 have hmem:=sE hl6
 have hes:∀p∈dO (iD (g7 LL ρ1)),p∈ps.map ez.k++dO (g7 LL ρ1):=λp hp=>by
  obtain⟨e,he,hp⟩:=List.mem_flatMap.mp hp
  exact List.mem_append_right _ (List.mem_flatMap.mpr ⟨e,hmem e he,hp⟩)
 refine bh (l:=2) (Cd G (by rw[jP];rfl) hes (λe he=>hp2 e (hmem e he)) (by rw[jP];decide)) rfl rfl rfl λρ3 O O O hX3=>an rfl λs2 hs2 hf2=> ?_
 rw[jP,mX hp1 hl6] at hs2 hf2
 rw[mX hp1 hl6] at hX3
 obtain⟨E3,F3⟩:=fi hs1.at' hf1 hTm (by simp) (K':=[(pl,aa (q7 λi=>((q0::ps).getD i oG).a) e),(ρ2 0+1,aa (ja (kg (lk LL) λi=>ρ3 (i+4))) 6)]) hs2 (λp hp=>by
  simp only[gV,List.not_mem_nil,or_false] at hp
  rcases hp with rfl|rfl
  ·exact .inl (.tail _ (.head _))
  ·exact .inr (Nat.le_succ_of_le hρ2))
 have hE:=hs1.trans E3 (λa ha=>by
  have ha:a∈[s.heap.objs.size,pl]:=ha
  simp only[gV,List.not_mem_nil,or_false] at ha
  rcases ha with rfl|rfl
  ·exact .inr (Nat.le_refl _)
  ·exact .inl (.head _))
 rw[←hvs] at hE
 have hg:=hs1.grow
 refine⟨a7 s2.heap.objs.size s2.toks (λk=>match k with|0=>ρ2 0+1|k+1=>ρ3 (k+4)),rfl,aW (H:=wF pl (gU (q0::ps)) e (lk LL) js) hE _ rfl rfl (λp hp=> ?_),trivial,λp hp=> ?_⟩
 ·rw[List.mem_singleton.mp hp]
  show s.heap.objs.size≤ρ2 0+1
  lia
 ·have hp:p∈qU (kg (lk LL) (λi=>ρ3 (i+4))):=hp
  obtain⟨h8,h9,_⟩:=hf2 p (List.mem_append_right _ hp)
  refine⟨h8,Nat.le_trans hg (hX3 p hp),λhm=>h9 ?_⟩
  have hm:p.1∈[ρ2 0+1]:=hm
  rw[List.mem_singleton.mp hm]
  exact .tail _ (.head _)
noncomputable def mw(l sl:Addr)(vs:List Value)(ep:Nat)(a b c:Value)(ws:List Value)(js:List Nat):aD:=⟨.call (.builtin "list.__getitem__") ⟨[.ref l,.ref sl],[]⟩,js,[(l,aa vs ep),(sl,bD a b c)],λρ=> .ok (.ret (.ref (ρ 2))),λO=>[aa vs ep,bD a b c],λρ=>[(ρ 2,aa ws 0)]⟩
theorem vN{V:Gw}{l sl ep:Nat}{vs ws:List Value}{a b c:Value}{lo hi st:Option Int}(pa:IsPart a lo)(pb:IsPart b hi)(pc:IsPart c st){js:List Nat}{L:Nat}(hw:slicePick ⟨vs⟩ lo hi st=⟨ws⟩)(hst:(rawPart st==rawInt 0)=false)(h0:st≠some 0)(hs:aw vs.length):ai V L (mw l sl vs ep a b c ws js) (λO=>True):=by
 refine cV (H:=mw l sl vs ep a b c ws js) rfl slot_list_getitem (λs hs=>a9 hs (.head _) rfl) entry_list_getitem (args_list_getitem _ _) λA s ha hs'=> ?_
 have ho:s.heap.get? l=some (aa vs ep):=hs'.get (l,aa vs ep) (.head _)
 have hos:s.heap.get? sl=some (bD a b c):=hs'.get (sl,bD a b c) (.tail _ (.head _))
 have hTs:s.TypeIs (.ref sl) "slice":=⟨_,hos,rfl⟩
 show wpAny _ _ (Builtin.List.listSubscript? (.ref sl)>>=_) _ _ s
 refine wpAny_bind ?_
 unfold Builtin.List.listSubscript?
 refine wpAny_bind (wpAny_specialOf hTs slice_no_index ?_)
 refine pY rfl ?_
 refine wpAny_pure ?_
 show wpAny _ _ (typeOf (.ref sl)>>=_) _ _ s
 refine wpAny_bind (wpAny_typeOf hTs ?_)
 rw[if_neg (by decide)]
 rw[listSliceParts_eq]
 have hstep: ¬((rawPart st==rawInt 0)=true):=by rw[hst];exact Bool.false_ne_true
 refine wpAny_bind (wpAny_bind (wpAny_field hos rfl (x:=c) rfl (wpAny_bind (wpAny_listPart pc ?_))))
 rw[if_neg hstep]
 refine wpAny_bind (wpAny_field hos rfl (x:=a) rfl (wpAny_bind (wpAny_listPart pa ?_)))
 refine wpAny_bind (wpAny_field hos rfl (x:=b) rfl (wpAny_bind (wpAny_listPart pb (wpAny_pure ?_))))
 refine wpAny_bind (m:=Builtin.List.listItems (.ref l)) ?_
 unfold Builtin.List.listItems
 refine wpAny_bind (wpAny_seqItems ho rfl (wpAny_pure ?_))
 refine wpAny_bind (wpAny_of_eq (sliceIndices_raw lo hi st (⟨vs⟩:Array Value).size (by simpa using h0)) ?_)
 have E:=hs'.ends.push (o:=aa ws 0) rfl
 have fin:bO V (mw l sl vs ep a b c ws js) (λO=>True) s (.ok (.ret (.ref s.heap.objs.size))) {s with heap:=s.heap.push {cls:= .type "list",data:= .seq (slicePick ⟨vs⟩ lo hi st)}}:=by
  rw[hw]
  exact⟨a7 _ _ (λO=>s.heap.objs.size),rfl,aW (H:=mw l sl vs ep a b c ws js) E (λO=>s.heap.objs.size) rfl rfl (λp hp=>by rw[List.mem_singleton.mp hp];exact Nat.le_refl _),trivial⟩
 exact wpAny_bind (wpAny_newObj_type (wpAny_pure fin) (Nat.le_trans (slicePick_size_le ⟨vs⟩ lo hi st) hs.fits))
noncomputable def kO:Array Nat:=#[99,101,108,108]
noncomputable def C3(P:Params):Expr:=jF (aA (aU P 223)) 0
noncomputable def Aj(P:Params)(fr cD C I acc:Addr):Code:= .compLoop (C3 P) 0 (.ref I) (.ref acc) (compEnvC (aT (C3 P)) [] C (fb P fr cD))
noncomputable def A1(P:Params)(fr cD C I acc:Addr):Code:= .compStart (C3 P) 0 (.ref I) (.ref acc) (compEnvC (aT (C3 P)) [] C (fb P fr cD))
noncomputable def ES(P:Params)(b1 b2:Bool)(n t fr cD C I acc a:Nat)(first:Bool)(κ:Nat)(v:Value)(j:Nat)(ls:List Value)(ep:Nat)(out:List Value)(eq:Nat)(x:Int)(u:Nat):bu:=
 ap P b1 b2 (Aj P fr cD C I acc) (fL P C I a acc (bk first kO κ v) (aj a j) ls ep out eq) n t
 (.hook [2] 0 (a8 I a j ls ep (.int x u) [1,2]) λρ=> .hook [1,1,0,0,1,0,0,0] 0 {rk 10 6 1000000 (ρ 1+1) (ρ 1+2) with js:=[]} λρ1=> .hook [0] 0 (a5 acc out eq (.int (Z.modQ x 1000000) (ρ1 1)) [3]) λρ2=>
  .again [] (Aj P fr cD C I acc) [0,1,2,3] (fL P C I a acc [(kO,ao first κ (ρ 1),.int x u)] (aj a (j+1)) ls ep (out++[.int (Z.modQ x 1000000) (ρ1 1)]) (eq+1)))
theorem G4(P b1 n t fr cD C I acc a κ v j ls ep out eq x u):Qk 400 λr=>ay λfirst b2=>r (ES P b1 b2 n t fr cD C I acc a first κ v j ls ep out eq x u):=by unfold Qk;kernel_rfl!
theorem G5(P:Params)(b1:Bool)(n t fr cD C I acc a:Nat)(T:aF)(j:Nat)(ls:List Value)(ep:Nat)(out:List Value)(eq:Nat):Qk 200 λr=>fT λb2=>r ( ap P b1 b2 (Aj P fr cD C I acc) (fL P C I a acc T (aj a j) ls ep out eq) n t
 (.hook [2] 0 (cn I a j ls ep [1,2]) λρ=> .fin [6] (.ok .next) [0,1,2,3] (fL P C I a acc T (ba j) ls ep out eq))):=by unfold Qk;kernel_rfl!
theorem G6(P:Params)(n t fr cD C I acc a:Nat)(ls:List Value)(ep:Nat):Qk 200 λr=>ay λb1 b2=>r ( ap P b1 b2 (A1 P fr cD C I acc) (fL P C I a acc [] (aj a 0) ls ep [] 0) n t
 (.again (match b1 with|true=>[]|false=>[2,2,0,2,2]) (Aj P fr cD C I acc) [0,1,2,3] (fL P C I a acc [] (aj a 0) ls ep [] 0))):=by unfold Qk;kernel_rfl!
noncomputable def Bs:Array Nat:=#[115,101,101,100]
noncomputable def uK(first:Bool)(ka kb:Nat)(va vb:Value):aF:=match first with
 |true=>[]
 |false=>[(bo,ka,va),(Bs,kb,vb)]
noncomputable def up(P:Params):Expr:=jF (aA (aU P 223)) 1
noncomputable def oV(P:Params)(fr cD C:Addr):Env:=compEnvC (aT (up P)) [(nm nU,cD)] C (fb P fr cD)
noncomputable def Jr(P:Params)(fr cD C I acc:Addr):Code:= .compLoop (up P) 0 (.ref I) (.ref acc) (oV P fr cD C)
noncomputable def AU(P:Params)(fr cD C I acc:Addr):Code:= .compStart (up P) 0 (.ref I) (.ref acc) (oV P fr cD C)
noncomputable def Ez(P:Params)(b1 b2:Bool)(n t fr cD C acc dl Tt:Nat)(first:Bool)(ka kb:Nat)(va vb:Value)(m pu:Nat)(x:Int)(u:Nat)(out:List Value)(eq:Nat)(ds:List Value)(ed:Nat)(ws:List Value)(z:Int):bu:=
 bf P b1 b2 (gN (bd (up P)) (oV P fr cD C) (.ref Tt) (gB (up P)) (bx (up P)) (.ref acc)) ([(C,bn P (uK first ka kb va vb)),(acc,aa out eq),(cD,cm (.ref dl)),(dl,aa ds ed)]++[(Tt,al [.int m pu,.int x u])]) n t
 (.hook [5,5,5,0,5,6,6,0,6,6,6,5,6,6,6,0,6,6,6,5,6,6,6,0,6,6,6,5,6,6,8,1,1,1,1,1,0,0,3,1,4,4,4] 4 (mw dl (n+3) ds ed (.int m pu) .none (.int 6 (t+2)) ws [3,8]) λρ=> .hook [] 0 (xE (ρ 2) ws 0 z [9]) λρ1=> .hook [0] 0 (a5 acc out eq (.int (x+z) (ρ1 1)) [1]) λρ2=>
  .fin [] (.ok .next) [0,1,2,3,4] ([(C,bn P (uK false (ao first ka t) (ao first kb (t+1)) (.int m pu) (.int x u))),(acc,aa (out++[.int (x+z) (ρ1 1)]) (eq+1)),(cD,cm (.ref dl)),(dl,aa ds ed)]++[(Tt,al [.int m pu,.int x u])]))
theorem Gn(P n t fr cD C acc dl Tt ka kb va vb m pu x u out eq ds ed ws z):Qk 300 λr=>co λfirst b1 b2=>r (Ez P b1 b2 n t fr cD C acc dl Tt first ka kb va vb m pu x u out eq ds ed ws z):=by unfold Qk;kernel_rfl!
theorem Go(P:Params)(n t fr cD C Zz it l acc:Nat)(vs:List Value)(ep:Nat)(dl:Nat)(ds:List Value)(ed:Nat):Qk 200 λr=>ay λb1 b2=>r ( ap P b1 b2 (AU P fr cD C Zz acc) (eH Zz it l .none .none 0 vs ep++[(C,bn P []),(acc,aa [] 0),(cD,cm (.ref dl)),(dl,aa ds ed)]) n t
 (.again (match b1 with|true=>[]|false=>[1,1,0,1,1]) (Jr P fr cD C Zz acc) [0,1,2,3,4,5,6] (eH Zz it l .none .none 0 vs ep++[(C,bn P []),(acc,aa [] 0),(cD,cm (.ref dl)),(dl,aa ds ed)]))):=by unfold Qk;kernel_rfl!
theorem tU(P):iJ (up P):=iQ (by kernel_rfl!)
theorem v3(P):eN (bd (up P))=true:=by kernel_rfl!
noncomputable def m6(x:Int):Int:=x.fmod 1000000
noncomputable def C4(P:Params)(fr cD C I acc a ep:Nat)(qs:List (Int×Nat))(e:Bool)(js:List Nat):aD:=
 ⟨A1 P fr cD C I acc,js,fL P C I a acc [] (aj a 0) (aL qs) ep [] 0,λO=> .ok .next,
  λρ=>[bn P (bk e kO (ρ 2) (.int (qs.getD (qs.length-1) (0,0)).1 (qs.getD (qs.length-1) (0,0)).2)),ba qs.length,aa (aL qs) ep,aa (cW (qs.map λq=>m6 q.1) (λi=>ρ (i+3))) qs.length],λO=>[]⟩
theorem wQ{V:Gw}(G:au V){fr cD C I acc a ep:Nat}{qs:List (Int×Nat)}{e:Bool}(he:e=(qs.length==0))(hsm:qs.length≤500){js:List Nat}:ai V 1 (C4 V.w.params fr cD C I acc a ep qs e js) (λO=>True):=by
 subst he
 intro A s hA hs
 refine bc G (ad (G6 V.w.params s.heap.objs.size s.toks fr cD C I acc a (aL qs) ep) (aC V) (aB V)) hA hs (aE rfl λs1 hs1=>⟨rfl,?_⟩)
 have main:=bv (V:=V) (S:=Nat×List (Int×Nat)) (code:=Aj V.w.params fr cD C I acc) (L:=1) (W:=[C,I,a,acc]) qs.length 0
  (λm σ=>fL V.w.params C I a acc (bk (m==0) kO σ.1 (.int (qs.getD (m-1) (0,0)).1 (qs.getD (m-1) (0,0)).2)) (aj a m) (aL qs) ep (aL σ.2) m) (λO O=>[])
  (λσ=>fL V.w.params C I a acc (bk (qs.length==0) kO σ.1 (.int (qs.getD (qs.length-1) (0,0)).1 (qs.getD (qs.length-1) (0,0)).2)) (ba qs.length) (aL qs) ep (aL σ.2) qs.length) (λm σ=>σ.2.map (·.1)=(qs.take m).map λq=>m6 q.1) ?_ ?_ qs.length 0 (0,[]) A s1 (Nat.zero_add _) rfl hA (Nat.zero_le _) hs1.at' Fz.nil
 ·refine codeAny_mono main ?_
  rintro r s'' ⟨hr,σ,hI,hE,_⟩
  have E:=hs1.trans hE (λb hb=> .inl hb)
  rw[List.take_length] at hI
  rw[lO σ.2,hI] at E
  exact⟨a7 _ _ (λk=>match k with|0=>σ.1|k+1=>(σ.2.getD k (0,0)).2),hr,aW (H:=C4 V.w.params fr cD C I acc a ep qs (qs.length==0) js) E _ rfl rfl (λO hp=>nomatch hp),trivial⟩
 ·intro m σ A s R hm hI hA _ hs _ k
  have hget:=jw hm
  have htk:qs.take (m+1)=qs.take m++[qs.getD m (0,0)]:=dF hm
  have hlen:σ.2.length=m:=by
   rw[←List.length_map (f:=(·.1)),hI,List.length_map,List.length_take];lia
  have e2:m6 (qs.getD m (0,0)).1=Z.modQ (qs.getD m (0,0)).1 1000000:=by rw[m6,←Z.modQ_eq]
  refine bc G (ad (G4 V.w.params (aC V) s.heap.objs.size s.toks fr cD C I acc a σ.1 (.int (qs.getD (m-1) (0,0)).1 (qs.getD (m-1) (0,0)).2) m (aL qs) ep (aL σ.2) m (qs.getD m (0,0)).1 (qs.getD m (0,0)).2) (m==0) (aB V)) hA hs ?_
  refine ae (aJ (L:=0) hget) rfl rfl rfl λρ O O=>ae (jL (L:=0) (by decide) (by decide) (by decide) (by decide) (by decide) (by decide)) rfl rfl rfl λρ1 O O=>ae (aM (L:=0) (by show _≤1000;rw[bw];lia)) rfl rfl rfl λρ2 O O=>aE rfl λs' hs'=>⟨rfl,?_⟩
  refine k (ao (m==0) σ.1 (ρ 1),σ.2++[(m6 (qs.getD m (0,0)).1,ρ1 1)]) s' ?_ ?_ Fz.nil
  ·rw[List.map_append,hI,htk,List.map_append];rfl
  ·rw[show aL (σ.2++[(m6 (qs.getD m (0,0)).1,ρ1 1)])=aL σ.2++[.int (m6 (qs.getD m (0,0)).1) (ρ1 1)] by simp[aL],e2]
   exact hs'
 ·intro σ A s R _ hA hs _ k
  refine bc G (a6 (G5 V.w.params (aC V) s.heap.objs.size s.toks fr cD C I acc a (bk (qs.length==0) kO σ.1 (.int (qs.getD (qs.length-1) (0,0)).1 (qs.getD (qs.length-1) (0,0)).2)) qs.length (aL qs) ep (aL σ.2) qs.length) (aB V)) hA hs ?_
  exact ae (bq (L:=0) (by rw[List.getElem?_eq_none (by rw[bw];exact Nat.le_refl _)])) rfl rfl rfl λρ O O=>aO rfl λs' hs'=>k s' hs' Fz.nil
noncomputable def uc(qs:List (Int×Nat))(m:Nat):List (Int×Nat):=(sliceRange (sliceBounds (some (m:Int)) none (some 6) (aL qs).length).1 (sliceBounds (some (m:Int)) none (some 6) (aL qs).length).2.1 (sliceBounds (some (m:Int)) none (some 6) (aL qs).length).2.2).filterMap λi=>qs[i]?
theorem rY(qs:List (Int×Nat))(m:Nat):slicePick ⟨aL qs⟩ (some (m:Int)) none (some 6)=⟨aL (uc qs m)⟩:=by
 unfold slicePick uc
 simp only[aL,List.map_filterMap,List.getElem?_toArray,List.getElem?_map,List.size_toArray]
noncomputable def xh(sd qs:List (Int×Nat)):List Int:=(List.range sd.length).map λm=>(sd.getD m (0,0)).1+((uc qs m).map (·.1)).sum
noncomputable def Dn(P:Params)(fr cD C Zz it l acc:Nat)(sd:List (Int×Nat))(ep dl:Nat)(qs:List (Int×Nat))(ed:Nat)(js:List Nat):aD:=
 ⟨AU P fr cD C Zz acc,js,eH Zz it l .none .none 0 (aL sd) ep++[(C,bn P []),(acc,aa [] 0),(cD,cm (.ref dl)),(dl,aa (aL qs) ed)],λO=> .ok .next,
  λρ=>[ge .none it sd.length (fc (aL sd) sd.length),ba sd.length,aa (aL sd) ep,bn P (uK false (ρ 2) (ρ 3) (.int (sd.length-1:Nat) (ρ 4)) (.int (sd.getD (sd.length-1) (0,0)).1 (sd.getD (sd.length-1) (0,0)).2)),aa (cW (xh sd qs) (λi=>ρ (i+5))) sd.length,cm (.ref dl),aa (aL qs) ed],λO=>[]⟩
theorem B6{V:Gw}(G:au V){fr cD C Zz it l acc ep dl ed:Nat}{sd qs:List (Int×Nat)}(hne:sd≠[])(hsm:sd.length≤500)(hsq:qs.length≤500){js:List Nat}:ai V 2 (Dn V.w.params fr cD C Zz it l acc sd ep dl qs ed js) (λO=>True):=by
 intro A s hA hs
 refine bc G (ad (Go V.w.params s.heap.objs.size s.toks fr cD C Zz it l acc (aL sd) ep dl (aL qs) ed) (aC V) (aB V)) hA hs (aE rfl λs1 hs1=>⟨rfl,?_⟩)
 have main:=lb (V:=V) G (S:=(Nat×Nat×Nat)×List (Int×Nat)) (e:=up V.w.params) (env:=oV V.w.params fr cD C) (acc:=acc) (Zz:=Zz) (it:=it) (l:=l) (ep:=ep) (L:=2) (n0:=0) (vs:=aL sd) (WR:=[C,acc,cD,dl]) (F:=[]) (tU _) (v3 _) (by decide)
  (λm σ=>[(C,bn V.w.params (uK (m==0) σ.1.1 σ.1.2.1 (.int (m-1:Nat) σ.1.2.2) (.int (sd.getD (m-1) (0,0)).1 (sd.getD (m-1) (0,0)).2))),(acc,aa (aL σ.2) m),(cD,cm (.ref dl)),(dl,aa (aL qs) ed)])
  (λm σ=>σ.2.map (·.1)=(List.range m).map λm=>(sd.getD m (0,0)).1+((uc qs m).map (·.1)).sum) (λO O=>rfl) ?_ ((0,0,0),[]) A s1 rfl hA (Nat.zero_le _) hs1.at' Fz.nil
 ·refine codeAny_mono main ?_
  rintro r s'' ⟨hr,σ,hI,hE,_⟩
  have E:=hs1.trans hE (λb hb=> .inl hb)
  rw[bw] at E hI
  have hI:σ.2.map (·.1)=xh sd qs:=hI
  rw[lO σ.2,hI] at E
  have h0:(sd.length==0)=false:=by
   rw[beq_eq_false_iff_ne];exactλh=>hne (List.length_eq_zero_iff.mp h)
  rw[h0] at E
  exact⟨a7 _ _ (λk=>match k with|0=>σ.1.1|1=>σ.1.2.1|2=>σ.1.2.2|k+3=>(σ.2.getD k (0,0)).2),hr,aW (H:=Dn V.w.params fr cD C Zz it l acc sd ep dl qs ed js) E _ rfl rfl (λO hp=>nomatch hp),trivial⟩
 ·intro m σ x Tt pu A s Q hx hI hA _ hs hF k
  have hm:m<sd.length:=by
   rw[←bw sd]
   exact(List.getElem?_eq_some_iff.mp hx).1
  rw[jw hm] at hx
  obtain rfl:=Option.some.inj hx
  have hl:σ.2.length=m:=by
   have:=congrArg List.length hI
   simpa using this
  have hsz:(uc qs m).length≤1000:=by
   have h1:=slicePick_size_le (⟨aL qs⟩:Array Value) (some (m:Int)) none (some 6)
   rw[rY] at h1
   simp only[List.size_toArray,bw] at h1
   lia
  refine aq G hF (bb (Gn V.w.params s.heap.objs.size s.toks fr cD C acc dl Tt σ.1.1 σ.1.2.1 (.int (m-1:Nat) σ.1.2.2) (.int (sd.getD (m-1) (0,0)).1 (sd.getD (m-1) (0,0)).2) m pu (sd.getD m (0,0)).1 (sd.getD m (0,0)).2 (aL σ.2) m (aL qs) ed (aL (uc qs m)) ((uc qs m).map (·.1)).sum) (m==0) (aC V) (aB V)) hA hs ?_
  refine ac (l:=0) (vN (.int _ _) .none (.int _ _) (rY qs m) (by decide) (by decide) (by show _≤1000;rw[bw];lia)) rfl rfl rfl λρ O O=>ac (l:=1) (sa G (dE _)) rfl rfl rfl λρ1 O O=>ac (aM (L:=0) (by show _≤1000;rw[bw];lia)) rfl rfl rfl λρ2 O O=>an rfl λs' hs' O=>⟨rfl,?_⟩
  refine k ((ao (m==0) σ.1.1 s.toks,ao (m==0) σ.1.2.1 (s.toks+1),pu),σ.2++[((sd.getD m (0,0)).1+((uc qs m).map (·.1)).sum,ρ1 1)]) s' ?_ ?_
  ·rw[List.map_append,hI,List.range_succ,List.map_append];rfl
  ·have e:aL (σ.2++[((sd.getD m (0,0)).1+((uc qs m).map (·.1)).sum,ρ1 1)])=aL σ.2++[.int ((sd.getD m (0,0)).1+((uc qs m).map (·.1)).sum) (ρ1 1)]:=by simp[aL]
   rw[e]
   exact hs'.keep
theorem mK{M:Model}{Γ:PySem.Ctx}{env:Env}{b:List Stmt}{Q:Flow→Pos→Shared→Prop}{E:Value→Pos→Shared→Prop}:∀(a:List Stmt) (p:Pos) (s:Shared),
  wp M Γ (execs a env) (λf p' s'=>match f with| .next=>wp M Γ (execs b env) Q E p' s'|f=>Q f p' s') E p s→wp M Γ (execs (a++b) env) Q E p s
 |[],p,s,h=>h
 |st::a,p,s,h=>by
  rw[List.cons_append,execs_cons,Sem.wp_bind']
  rw[execs_cons,Sem.wp_bind'] at h
  refine Sem.wp_mono _ Γ _ (λf p' s' h'=> ?_) (λO O O x=>x) _ _ h
  cases f with
  |next=>exact mK a p' s' h'
  |_=>exact h'
theorem iW{M:Model}{A:Around}{env:Env}{a b:List Stmt}{Q:Flow→Shared→Prop}{E:Value→Shared→Prop}{s:Shared}
  (h:wpAny M A (execs a env) (λf s'=>match f with| .next=>wpAny M A (execs b env) Q E s'|f=>Q f s') E s):wpAny M A (execs (a++b) env) Q E s:=λΓ p hΓ=>by
 refine mK a p s (Sem.wp_mono _ Γ _ (λf p' s' h'=> ?_) (λO O O x=>x) _ _ (h Γ p hΓ))
 cases f with
 |next=>exact h' Γ p' hΓ
 |_=>exact h'
noncomputable def bQ:Array Nat:=#[115,99,114,105,112,116]
noncomputable def bW(P:Params):List Stmt:=aA (aU P 223)
noncomputable def fR(a:Addr)(args:List Value)(K:KL)(res:br→Value)(news:br→KL)(js:List Nat):aD:=⟨.call (.ref a) ⟨args,[]⟩,js,K,λρ=> .ok (.ret (res ρ)),λO=>K.map (·.2),news⟩
noncomputable def H4(P:Params)(fr cD C I acc a:Nat)(rv:Value)(RV:List Value)(WV:br→List Value)(js:List Nat):aD:=
 ⟨xS P fr cD C I acc,js,fL P C I a acc [] (aj a 0) RV 6 [] 0,λO=> .ok .next,λρ=>[bn P [(f5,ρ 2,rv)],ba 6,aa RV 6,aa (WV ρ) 6],λO=>[]⟩
noncomputable def uk(t:Nat):List (Int×Nat):=[(1,t),(13,t+1),(20,t+2),(10,t+3),(33,t+4),(41,t+5)]
noncomputable def Ad(P:Params)(t0 l k1 nl k2 pg k3 rw k4 ld k5 lv:Nat):Obj:=cY P [(bQ,t0,.ref l),(bU,k1,.ref nl),(jG,k2,.ref pg),(rx,k3,.ref rw),(gh,k4,.ref ld),(ci,k5,.ref lv)]
noncomputable def Dh(P:Params)(fr cD C acc Zz zt zk i1 i2 l g:Nat)(RV WV:List Value)(za zb:Value)(SV:br→List Value)(js:List Nat):aD:=
 ⟨xR P fr cD C Zz acc,js,bA Zz zt zk i1 i2 l g .none .none .none 0 RV 6 WV 6++[(C,bn P []),(acc,aa [] 0)],λO=> .ok .next,
  λρ=>(fP Zz zt zk i1 i2 l g .none za zb 6 RV 6 WV 6++[(C,bn P (Am (ρ 2) (ρ 3) za zb)),(acc,aa (SV ρ) 6)]).map (·.2),λO=>[]⟩
noncomputable def An(P:Params)(l g:Nat)(LV SV:List Value)(nlv:Nat)(AV:br→List Value)(m:Nat)(js:List Nat):aD:=
 ⟨.call (.ref 196) ⟨[.ref l,.ref g],[]⟩,js,[(l,aa LV nlv),(g,aa SV 6)],λρ=> .ok (.ret (.ref (ρ 3))),λO=>[aa LV nlv,aa SV 6],λρ=>[(ρ 3,aG (ρ 2) (AV ρ) m),(ρ 2,bn P (b6 (ρ 4) (ρ 5) 0))]⟩
noncomputable def HZ(P:Params)(a d:Nat)(AV:List Value)(ea kd td x1 x2:Nat)(BV PcV:br→List Value)(js:List Nat):aD:=
 ⟨.call (.ref 201) ⟨[.ref a],[]⟩,js,[(a,aG d AV ea),(d,bn P (b6 kd td 0)),(62,aP (fy P) x2),(69,aP (eo P) x1)],λρ=> .ok (.ret (.ref (ρ 2))),
  λρ=>[aG d (BV ρ) (ρ 4),bn P (b6 kd (ρ 5) 0),aP (fy P) (ρ 6),aP (eo P) (ρ 7)],λρ=>[(ρ 2,aa (PcV ρ) 7)]⟩
noncomputable def Ia(P:Params)(fr cD C I l acc:Nat)(PcV:List Value)(v1 v2:Value)(FV:List Value)(m:Nat)(js:List Nat):aD:=
 ⟨rp P fr cD C I acc 0,js,oH P C I l acc [] (aj l 0) PcV 7 [] 0,λO=> .ok .next,
  λρ=>(oH P C I l acc (uv false (ρ 2) v1 false (ρ 3) v2) (ba 7) PcV 7 FV m).map (·.2),λO=>[]⟩
noncomputable def pU(P:Params)(t0 l k1 nl k2 pg k3 rw k4 ld k5 lv k6 pc:Nat):Obj:=cY P [(bQ,t0,.ref l),(bU,k1,.ref nl),(jG,k2,.ref pg),(rx,k3,.ref rw),(gh,k4,.ref ld),(ci,k5,.ref lv),(ie,k6,.ref pc)]
noncomputable def Dt(P:Params)(t0 l k1 nl k2 pg k3 rw k4 ld k5 lv fr:Nat)(RV WV LV:List Value)(nlv x1 x2:Nat):KL:=[(fr,Ad P t0 l k1 nl k2 pg k3 rw k4 ld k5 lv),(rw,aa RV 6),(ld,aa WV 6),(lv,aa LV nlv),(62,aP (fy P) x2),(69,aP (eo P) x1)]
theorem IQ(P:Params)(b1:Bool)(n t:Nat)(l:Addr)(vs:List Value)(ep:Nat):Qk 100 λr=>fT λb2=>r (bK P b1 b2 223 [.ref l] [(l,aa vs ep)] n t [0,2,2] n [(nm nU,n+1)] [1,2,0] [(n,cY P [(bQ,t,.ref l)]),(n+1,{cls:= .type "cell",data:= .cell none}),(l,aa vs ep)]):=by unfold Qk;kernel_rfl!
theorem IU(P:Params)(n t fr cD l t0:Nat)(vs:List Value)(ep:Nat)(qs:List (Int×Nat)):Qk 200 λr=>ay λb1 b2=>r ( bf P b1 b2 (gQ ((bW P).take 1) (fb P fr cD)) [(fr,cY P [(bQ,t0,.ref l)]),(cD,{cls:= .type "cell",data:= .cell none}),(l,aa vs ep)] n t
 (.hook [1,3,3,3] 1 (d6 l n vs ep .none (.int 12 t) (aL qs) [2,3]) λρ=> .hook [5,5,0,5,6] 3 (C4 P fr cD (ρ 0+2) (ρ 0) (ρ 0+1) (ρ 2) 0 qs false [7,5,4,6]) λρ1=>
  .fin [8,8,8,2,2] (.ok .next) [0,1,2,6] [(fr,cY P [(bQ,t0,.ref l)]),(cD,cm (.ref (ρ 0+1))),(l,aa vs ep),(ρ 0+1,aa (cW (qs.map λq=>m6 q.1) (λi=>ρ1 (i+3))) qs.length)])):=by unfold Qk;kernel_rfl!
theorem Fu(P:Params)(n t fr cD l t0:Nat)(vs:List Value)(ep:Nat)(qs:List (Int×Nat)):Qk 200 λr=>ay λb1 b2=>r ( bf P b1 b2 (gQ ((bW P).take 1) (fb P fr cD)) [(fr,cY P [(bQ,t0,.ref l)]),(cD,{cls:= .type "cell",data:= .cell none}),(l,aa vs ep)] n t
 (.hook [1,3,3,3] 1 (d6 l n vs ep .none (.int 12 t) (aL qs) [2,3]) λρ=> .hook [5,5,0,5,6] 3 (C4 P fr cD (ρ 0+2) (ρ 0) (ρ 0+1) (ρ 2) 0 qs true [7,5,4,6]) λρ1=>
  .fin [8,2,2] (.ok .next) [0,1,2,6] [(fr,cY P [(bQ,t0,.ref l)]),(cD,cm (.ref (ρ 0+1))),(l,aa vs ep),(ρ 0+1,aa (cW (qs.map λq=>m6 q.1) (λi=>ρ1 (i+3))) qs.length)])):=by unfold Qk;kernel_rfl!
theorem IT(P:Params)(n t fr cD l t0 dl:Nat)(qs:List (Int×Nat))(ed:Nat)(PV RV:br→List Value)(rv:br→Value)(WV LV:br→List Value)(nlv:Nat):Qk 600 λr=>ay λb1 b2=>r ( bf P b1 b2 (gQ (((bW P).take 6).drop 1) (fb P fr cD)) [(fr,cY P [(bQ,t0,.ref l)]),(cD,cm (.ref dl)),(dl,aa (aL qs) ed)] n t
 (.hook [0,0,0] 1 (jJ n (aL (uk t)) 0 [3]) λρ=> .hook [6,6,0,6,6,6,6,0,6,6] 2 (Dn P fr cD (ρ 0+1) (ρ 3) (ρ 2) n (ρ 0) (uk t) 0 dl qs ed [5,4,3,7,6,1,2]) λρ1=>
  .hook [1,1,8,8,8,8,8,8,0,1,0] 0 (fR 179 [.ref (ρ 0)] [(ρ 0,aa (cW (xh (uk t) qs) (λi=>ρ1 (i+5))) 6)] (λρ=> .ref (ρ 2)) (λρ=>[(ρ 2,aa (PV ρ) 6)]) [6]) λρ2=>
  .hook [1,1,0,1,1,0] 0 (fR 184 [.ref (ρ 0),.ref (ρ2 2)] [(ρ 0,aa (cW (xh (uk t) qs) (λi=>ρ1 (i+5))) 6),(ρ2 2,aa (PV ρ2) 6)] (λρ=> .ref (ρ 2)) (λρ=>[(ρ 2,aa (RV ρ) 6)]) [6,8]) λρ3=>
  .hook [1,1,1,10,10,0,10,11] 3 (H4 P fr cD (ρ3 0+2) (ρ3 0) (ρ3 0+1) (ρ3 2) (rv ρ3) (RV ρ3) WV [12,10,9,11]) λρ4=>
  .hook [1,1,13,13,13,0,1,0] 0 (fR 189 [.ref (ρ3 0+1)] [(ρ3 0+1,aa (WV ρ4) 6)] (λρ=> .ref (ρ 2)) (λρ=>[(ρ 2,aa (LV ρ) nlv)]) [11]) λρ5=>
  .fin [1,1] (.ok .next) [0,1,2,6,8,9,11,13] [(fr,Ad P t0 l (ρ1 1) (ρ 0) (ρ2 1) (ρ2 2) (ρ3 1) (ρ3 2) (ρ4 1) (ρ3 0+1) (ρ5 1) (ρ5 2)),(cD,cm (.ref dl)),(dl,aa (aL qs) ed),(ρ 0,aa (cW (xh (uk t) qs) (λi=>ρ1 (i+5))) 6),(ρ2 2,aa (PV ρ2) 6),(ρ3 2,aa (RV ρ3) 6),(ρ3 0+1,aa (WV ρ4) 6),(ρ5 2,aa (LV ρ5) nlv)])):=by unfold Qk;kernel_rfl!
theorem IS(P:Params)(n t fr cD t0 l k1 nl k2 pg k3 rw k4 ld k5 lv:Nat)(RV WV LV:List Value)(nlv x1 x2:Nat)(za zb:Value)(SV AV:br→List Value)(m:Nat)(BV:br→br→List Value)(PcV:br→List Value)(v1:br→Value)(v2:Value)(FV:List Value)(c:Int):Qk 800 λr=>ay λb1 b2=>r ( bf P b1 b2 (gQ (((bW P).take 8).drop 6) (fb P fr cD)) (Dt P t0 l k1 nl k2 pg k3 rw k4 ld k5 lv fr RV WV LV nlv x1 x2) n t
 (.hook [0,0,1,0,0,1,1,0,0,2,2,0,2,7,3,3,0,3,8,11,11,0,11,11,11,11,0,11,11] 7 (Dh P fr cD (n+6) (n+5) (n+4) (n+2) (n+3) n (n+1) rw ld RV WV za zb SV [10,8,9,6,7,1,2,12,11]) λρ=>
  .hook [13,13,13,13,13,13,0] 0 (An P lv (n+5) LV (SV ρ) nlv AV m [3,11]) λρ1=>
  .hook [0] 0 (HZ P (ρ1 3) (ρ1 2) (AV ρ1) m (ρ1 4) (ρ1 5) x1 x2 (BV ρ1) PcV [13,14,4,5]) λρ2=>
  .hook [1,1,0,1,16,16,0,16,17] 3 (Ia P fr cD (ρ2 0+2) (ρ2 0) (ρ2 2) (ρ2 0+1) (PcV ρ2) (v1 ρ2) v2 FV m [18,16,15,17]) λρ3=>
  .hook [19,19,19,19,19,19,0] 0 (fR 208 [.ref (ρ2 0+1)] [(ρ2 0+1,aa FV m)] (λρ=> .int c (ρ 2)) (λO=>[]) [17]) λρ4=>
  .hook [0,1,1,0] 0 (fR 213 [.ref ld,.ref lv] [(ld,aa WV 6),(lv,aa LV nlv)] (λρ=> .int c (ρ 2)) (λO=>[]) [2,3]) λρ5=>
  .hook [] 0 {aN (aY "int.__ne__" c c (ρ4 2) (ρ5 2)) (λO=> .bool false) with js:=[]} λρ6=>
  .fin [] (.ok .next) [0,1,2,3,4,5,15] [(fr,pU P t0 l k1 nl k2 pg k3 rw k4 ld k5 lv (ρ2 1) (ρ2 2)),(rw,aa RV 6),(ld,aa WV 6),(lv,aa LV nlv),(62,aP (fy P) (ρ2 6)),(69,aP (eo P) (ρ2 7)),(ρ2 2,aa (PcV ρ2) 7)])):=by unfold Qk;kernel_rfl!
theorem IP(P:Params)(n t fr cD t0 l k1 nl k2 pg k3 rw k4 ld k5 lv k6 pc:Nat)(PcV:List Value)(OV:br→List Value):Qk 200 λr=>ay λb1 b2=>r ( bf P b1 b2 (fg (z5 ((bW P).drop 8)) (fb P fr cD)) [(fr,pU P t0 l k1 nl k2 pg k3 rw k4 ld k5 lv k6 pc),(pc,aa PcV 7)] n t
 (.hook [0,1,0] 0 (fR 218 [.ref pc] [(pc,aa PcV 7)] (λρ=> .ref (ρ 2)) (λρ=>[(ρ 2,aa (OV ρ) 6)]) [1]) λρ=>
  .fin [] (.ok (.ret (.ref (ρ 2)))) [0,1,2] [(fr,pU P t0 l k1 nl k2 pg k3 rw k4 ld k5 lv k6 pc),(pc,aa PcV 7),(ρ 2,aa (OV ρ) 6)])):=by unfold Qk;kernel_rfl!
theorem IO(P:Params)(n t fr cD t0 l k1 nl k2 pg k3 rw k4 ld k5 lv k6 pc:Nat):Qk 100 λr=>ay λb1 b2=>r ( bf P b1 b2 (fg (zT ((bW P).drop 8)) (fb P fr cD)) [(fr,pU P t0 l k1 nl k2 pg k3 rw k4 ld k5 lv k6 pc)] n t
 (.fin [1] (.ok (.ret (.ref pg))) [0] [(fr,pU P t0 l k1 nl k2 pg k3 rw k4 ld k5 lv k6 pc)])):=by unfold Qk;kernel_rfl!
theorem By(P):rn .Eq ((bW P).drop 8):=pB (by kernel_rfl!) (by kernel_rfl!)
theorem ua(P):bW P=(bW P).take 1++((((bW P).take 6).drop 1)++((((bW P).take 8).drop 6)++(bW P).drop 8)):=by kernel_rfl!
theorem Cq(P):d4 P 223=true:=by kernel_rfl!
noncomputable def w8:Obj:={cls:= .type "cell",data:= .cell none}
theorem Bj{V:Gw}(G:au V){fr cD l t0 ep:Nat}{qs0:List (Int×Nat)}(hsm:qs0.length≤500){F:KL}{A:Around}{s:Shared}(hA:Bd 2 A)
  (hs:At V [(fr,cY V.w.params [(bQ,t0,.ref l)]),(cD,w8),(l,aa (aL qs0) ep)] s) (hF:Fz V F [(fr,cY V.w.params [(bQ,t0,.ref l)]),(cD,w8),(l,aa (aL qs0) ep)] s) {Q:Flow→Shared→Prop} {E:Value→Shared→Prop}
  (hQ:∀dl ed (dq:List (Int×Nat)) s',dq.length≤12→am V [fr,cD,l] s [(fr,cY V.w.params [(bQ,t0,.ref l)]),(cD,cm (.ref dl)),(l,aa (aL qs0) ep),(dl,aa (aL dq) ed)] s'→
   Fz V F [(fr,cY V.w.params [(bQ,t0,.ref l)]),(cD,cm (.ref dl)),(l,aa (aL qs0) ep),(dl,aa (aL dq) ed)] s'→s.heap.objs.size≤dl→Q .next s'):
  wpAny (model V.prog V.w) A (execs ((bW V.w.params).take 1) (fb V.w.params fr cD)) Q E s:=by
 have hsl:slicePick ⟨aL qs0⟩ none (some 12) none=⟨aL (qs0.take 12)⟩:=by
  have h:=mO (vs:=aL qs0) 12
  rw[show(aL qs0).take 12=aL (qs0.take 12) by simp[aL,List.map_take]] at h
  exact h
 have hl12:(qs0.take 12).length≤12:=by rw[List.length_take];lia
 generalize hq:qs0.take 12=qs at hsl hl12
 cases qs with
 |nil=>
  refine eh (aq (L:=2) G hF (ad (Fu V.w.params s.heap.objs.size s.toks fr cD l t0 (aL qs0) ep []) (aC V) (aB V)) hA hs ?_)
  refine ac (l:=0) (fu .none (.int _ _) hsl (by show _≤1000;rw[bw];lia)) rfl rfl rfl λρ O hρ=>ac (l:=1) (wQ G rfl (by simp)) rfl rfl rfl λρ1 O O=>an rfl λs' hs' hf'=> ?_
  exact hQ (ρ 0+1) 0 [] s' (by simp) hs' hf' (Nat.le_succ_of_le hρ)
 |cons q0 qr=>
  refine eh (aq (L:=2) G hF (ad (IU V.w.params s.heap.objs.size s.toks fr cD l t0 (aL qs0) ep (q0::qr)) (aC V) (aB V)) hA hs ?_)
  refine ac (l:=0) (fu .none (.int _ _) hsl (by show _≤1000;rw[bw];lia)) rfl rfl rfl λρ O hρ=>ac (l:=1) (wQ G rfl (Nat.le_trans hl12 (by decide))) rfl rfl rfl λρ1 O O=>an rfl λs' hs' hf'=> ?_
  rw[k9] at hs' hf'
  exact hQ (ρ 0+1) _ _ s' (by simpa using hl12) hs' hf' (Nat.le_succ_of_le hρ)
noncomputable def bp(NS:List Int):nF:=(List.range 6).map λi=>(c8 ((dH NS.sum).map λq=>(q,0)) (NS.getD i 0) ((af (-1) NS).getD i (0,0)).1,uh ((af (-1) NS).getD i (0,0)).2)
noncomputable def Dq(ds:List Nat)(p q:Int):Bool:=decide (ds.getD q.toNat 0<ds.getD p.toNat 0)
noncomputable def bB(ds:List Nat):List (List Int):=je (Dq ds) 6 [0,1,2,3,4,5]
noncomputable def gW(sgs:List Nat)(LV:List (List Int)):List Nat:=uj sgs (([]::LV)++[[]])
structure eR(NS:List Int):Prop where
 kd:∀e∈af (-1) NS,(e.2=7∨e.2=9∨e.2=25)∧e.1≤5
 rr:∀p∈bp NS,p.2∈[40,91,123]∧no 0 p.1∧(bX p.1).b≤5∧p.1.length≤100
 lev:∀tx τ,cg (dN (bZ (bp NS) tx τ))→je (gO (bZ (bp NS) tx τ)) 6 [0,1,2,3,4,5]=bB ((af (-1) NS).map (·.1))
 lvne:bB ((af (-1) NS).map (·.1))≠[]∧(bB ((af (-1) NS).map (·.1))).length≤6
 prs:∀tx τ,cg (dN (bZ (bp NS) tx τ))→∀lvs:List dU,lvs.map (·.ns)=bB ((af (-1) NS).map (·.1))→(kj lvs 6).length=6∧
  oF (bZ (bp NS) tx τ) (kj lvs 6) 6=(iY 0 0 ((fx 7 0 (gW ((bp NS).map (·.2)) (bB ((af (-1) NS).map (·.1))))).flatten.map dx)).1
 word:(gW ((bp NS).map (·.2)) (bB ((af (-1) NS).map (·.1)))).length=12∧∀c∈gW ((bp NS).map (·.2)) (bB ((af (-1) NS).map (·.1))),c∈pX
 flat:(fx 7 0 (gW ((bp NS).map (·.2)) (bB ((af (-1) NS).map (·.1))))).flatten.length=12
 page:∀N,(fx 7 0 (gW ((bp NS).map (·.2)) (bB ((af (-1) NS).map (·.1))))).map (·.map dx)=N→
  (∀n∈N.drop 1,n≠N.getD 0 [])∧kC ((0::N.getD 0 [])::N.drop 1)∧(fZ ((0::N.getD 0 [])::N.drop 1)).1.length=6∧((fZ ((0::N.getD 0 [])::N.drop 1)).1.map (·.1)).Nodup∧lk (fZ ((0::N.getD 0 [])::N.drop 1)).1=(af (-1) NS).map λe=>((e.1:Int),(e.2:Int))
theorem aQ.any{V:Gw}{L:Nat}{H:aD}{F:KL}{P:br→Prop}{X:br→KL}(h:aQ V L H [] P X):aQ V L H F P X:=λA s hA hs O=>h A s hA hs Fz.nil
noncomputable def Dk:kJ:=⟨0,0,0,0,0⟩
noncomputable def pT(NS:List Int)(τ:Nat→Nat)(PG:List kJ):List mh:=(List.range 6).map λi=>((NS.getD i 0,τ i),PG.getD i Dk)
theorem mY{NS:List Int}(h:NS.length=6)(τ:Nat→Nat)(PG:List kJ):et (pT NS τ PG)=cW NS τ:=by
 unfold et pT cW
 rw[h,List.map_map];rfl
theorem sU(NS:List Int)(τ:Nat→Nat){PG:List kJ}(h:PG.length=6):fD (pT NS τ PG)=fX PG:=by
 unfold fD pT fX
 rw[List.map_map]
 refine List.ext_getElem? λi=> ?_
 by_cases hi:i<6
 ·have:i<PG.length:=by lia
  simp[hi,List.getD_eq_getElem?_getD,this]
 ·have: ¬i<PG.length:=by lia
  simp[hi,this]
theorem sR{D:List (Nat×Nat)}{τ:Nat→Nat}{i:Nat}(h:i<D.length):((dm D τ).getD i Dk).d=(D.getD i (0,0)).1∧((dm D τ).getD i Dk).k=(D.getD i (0,0)).2:=by
 unfold dm
 rw[List.getD_eq_getElem?_getD]
 simp[h]
theorem sO{NS:List Int}(h:NS.length=6)(τ τ2 σ:Nat→Nat):dc (i4 NS.sum (pT NS τ (dm (af (-1) NS) τ2))) σ=be (bp NS) σ:=by
 unfold dc be
 have e1:(i4 NS.sum (pT NS τ (dm (af (-1) NS) τ2))).length=6:=by simp[i4,pT]
 have e2:(bp NS).length=6:=by simp[bp]
 rw[e1,e2]
 refine List.map_congr_left λi hi=> ?_
 have hi:i<6:=List.mem_range.mp hi
 have hD:i<(af (-1) NS).length:=by rw[dG,h];exact hi
 obtain⟨d1,d2⟩:=sR (τ:=τ2) hD
 unfold jj
 have:(i4 NS.sum (pT NS τ (dm (af (-1) NS) τ2))).getD i []=(dY (bp NS) i).1++[(dY (bp NS) i).2]:=by
  unfold i4 pT dY bp
  rw[List.map_map]
  simp only[List.getD_eq_getElem?_getD,List.getElem?_map,List.getElem?_range hi,Option.map_some,Option.getD_some,Function.comp]
  rw[List.getD_eq_getElem?_getD] at d1 d2
  rw[List.getD_eq_getElem?_getD] at d1 d2
  simp only[fV,List.getD_eq_getElem?_getD]
  rw[d1,d2]
 rw[this]
noncomputable def kr(Ls:List (List Value))(as:List Addr):List dU:=(Ls.zip as).map λp=>⟨p.2,p.1,p.1.length,p.1.map ml⟩
theorem yy{Ls:List (List Value)}{as:List Addr}(h:Ls.length=as.length):dT (kr Ls as)=bY as:=by
 unfold dT kr bY
 rw[List.map_map]
 have:(λ(q:dU)=>Value.ref q.a)∘(λ(p:List Value×Addr)=>(⟨p.2,p.1,p.1.length,p.1.map ml⟩:dU))=(λa=>Value.ref a)∘Prod.snd:=rfl
 rw[this,←List.map_map,List.map_snd_zip (by lia)]
theorem yx{Ls:List (List Value)}{as:List Addr}(h:Ls.length=as.length):(kr Ls as).map (·.a)=as:=by
 unfold kr
 rw[List.map_map]
 exact List.map_snd_zip (by lia)
theorem vj{Ls:List (List Value)}{as:List Addr}(h:Ls.length=as.length):(kr Ls as).map (·.ns)=Ls.map (·.map ml):=by
 unfold kr
 rw[List.map_map]
 have:(λ(q:dU)=>q.ns)∘(λ(p:List Value×Addr)=>(⟨p.2,p.1,p.1.length,p.1.map ml⟩:dU))=(λl=>l.map ml)∘Prod.fst:=rfl
 rw[this,←List.map_map,List.map_fst_zip (by lia)]
theorem yz(Ls:List (List Value))(as:List Addr):(kr Ls as).map dU.k=g4 Ls as:=by
 unfold kr g4
 rw[List.map_map];rfl
noncomputable def H8(P:Params)(fr cD l t0 k1 nl k2 pg k3 rw k4 ld k5 lv dl:Nat)(dq:List (Int×Nat))(ed:Nat)(NV PV RV WV LV:List Value)(nlv:Nat):KL:=
 [(fr,Ad P t0 l k1 nl k2 pg k3 rw k4 ld k5 lv),(cD,cm (.ref dl)),(dl,aa (aL dq) ed),(nl,aa NV 6),(pg,aa PV 6),(rw,aa RV 6),(ld,aa WV 6),(lv,aa LV nlv)]
theorem Bi{V:Gw}(G:au V)(hp:∀NS:List Int,NS.length=6→eR NS){fr cD l t0 dl ed:Nat}{dq:List (Int×Nat)}(hsm:dq.length≤500){F:KL}{A:Around}{s:Shared}(hA:Bd 7 A)
  (hs:At V [(fr,cY V.w.params [(bQ,t0,.ref l)]),(cD,cm (.ref dl)),(dl,aa (aL dq) ed)] s) (hF:Fz V F [(fr,cY V.w.params [(bQ,t0,.ref l)]),(cD,cm (.ref dl)),(dl,aa (aL dq) ed)] s) {Q:Flow→Shared→Prop} {E:Value→Shared→Prop}
  (hQ:∀k1 nl k2 pg k3 rw k4 ld k5 lv (NV:List Value) (NS:List Int) (τ2 tx τ:Nat→Nat) (lvs:List dU) s',NS.length=6→cg (dN (bZ (bp NS) tx τ))→lvs.map (·.ns)=bB ((af (-1) NS).map (·.1))→(∀q∈lvs,aI q.vs q.ns)→(lvs.map (·.a)).Nodup→
   am V [fr,cD,dl] s (H8 V.w.params fr cD l t0 k1 nl k2 pg k3 rw k4 ld k5 lv dl dq ed NV (fX (dm (af (-1) NS) τ2)) (be (bp NS) tx) (ag (dN (bZ (bp NS) tx τ))) (dT lvs) lvs.length) s'→
   Fz V (F++(jk (dm (af (-1) NS) τ2)++(cy V.w.params (dN (bZ (bp NS) tx τ))++lvs.map dU.k))) (H8 V.w.params fr cD l t0 k1 nl k2 pg k3 rw k4 ld k5 lv dl dq ed NV (fX (dm (af (-1) NS) τ2)) (be (bp NS) tx) (ag (dN (bZ (bp NS) tx τ))) (dT lvs) lvs.length) s'→s.heap.objs.size≤rw∧s.heap.objs.size≤ld∧s.heap.objs.size≤lv→Q .next s'):
  wpAny (model V.prog V.w) A (execs (((bW V.w.params).take 6).drop 1) (fb V.w.params fr cD)) Q E s:=by
 have h6:(xh (uk s.toks) dq).length=6:=rfl
 have hp:=hp _ h6
 generalize hN:xh (uk s.toks) dq=NS at hp h6
 let nl:Nat:=(bB ((af (-1) NS).map (·.1))).length
 refine eh (aq (L:=7) G hF (ad (IT V.w.params s.heap.objs.size s.toks fr cD l t0 dl dq ed (λρ=>fX (dm (af (-1) NS) (λk=>ρ (k+3)))) (λρ=>be (bp NS) (λi=>ρ (i+3))) (λρ=>jj (bp NS) (λi=>ρ (i+3)) 5)
  (λρ=>(List.range 6).map λi=> .ref (ρ (16*i+3))) (λρ=>bY ((List.range nl).map λk=>ρ (k+3))) nl) (aC V) (aB V)) hA hs ?_)
 refine ac (l:=0) ik rfl rfl rfl λρ O O=>ac (l:=2) (B6 G (by simp[uk]) (by simp[uk]) hsm) rfl rfl rfl λρ1 O O=> ?_
 rw[hN]
 have hl6:(cW NS λi=>ρ1 (i+5)).length=6:=by simp[cW,h6]
 have hiv:aI (cW NS λi=>ρ1 (i+5)) NS:=by
  rw[k9]
  have:=dE ((List.range NS.length).map λi=>(NS.getD i 0,(λi=>ρ1 (i+5)) i))
  have e:((List.range NS.length).map λi=>(NS.getD i 0,(λi=>ρ1 (i+5)) i)).map (·.1)=NS:=by
   rw[List.map_map]
   refine List.ext_getElem? λi=> ?_
   by_cases h:i<NS.length
   ·simp[h,List.getD_eq_getElem?_getD]
   ·simp[h]
  rw[e] at this
  exact this
 have c1:∀js,aQ V 2 (fR 179 [.ref (ρ 0)] [(ρ 0,aa (cW NS λi=>ρ1 (i+5)) 6)] (λρ=> .ref (ρ 2)) (λρ=>[(ρ 2,aa (fX (dm (af (-1) NS) (λk=>ρ (k+3)))) 6)]) js) F (λO=>True) (λρ=>jk (dm (af (-1) NS) (λk=>ρ (k+3)))):=λjs=>by
  have:=(tP G (l:=ρ 0) (ep:=6) hiv (by rw[hl6];decide) (js:=js)).any (F:=F)
  unfold n8 at this
  rw[h6] at this
  exact this
 refine bh (l:=2) (c1 _) rfl rfl rfl λρ2 O O O O=> ?_
 have hD6:(af (-1) NS).length=6:=by rw[dG,h6]
 have hPl:(dm (af (-1) NS) (λk=>ρ2 (k+3))).length=6:=by simp[dm,hD6]
 have hmemL:∀e∈pT NS (λi=>ρ1 (i+5)) (dm (af (-1) NS) (λk=>ρ2 (k+3))),e.2∈dm (af (-1) NS) (λk=>ρ2 (k+3)):=λe he=>by
  obtain⟨i,hi,rfl⟩:=List.mem_map.mp he
  exact bV (by rw[hPl];exact List.mem_range.mp hi)
 have hmemP:∀e∈dm (af (-1) NS) (λk=>ρ2 (k+3)),(e.k=7∨e.k=9∨e.k=25)∧e.d≤5:=λe he=>by
  obtain⟨i,hi,rfl⟩:=List.mem_map.mp he
  exact hp.kd _ (bV (List.mem_range.mp hi))
 have c2:∀js,aQ V 4 (fR 184 [.ref (ρ 0),.ref (ρ2 2)] [(ρ 0,aa (cW NS λi=>ρ1 (i+5)) 6),(ρ2 2,aa (fX (dm (af (-1) NS) (λk=>ρ2 (k+3)))) 6)] (λρ=> .ref (ρ 2)) (λρ=>[(ρ 2,aa (be (bp NS) (λi=>ρ (i+3))) 6)]) js) (F++jk (dm (af (-1) NS) (λk=>ρ2 (k+3)))) (λO=>True) (λO=>[]):=λjs=>by
  have:=vL G (l:=ρ 0) (g:=ρ2 2) (ep:=6) (eg:=6) (L:=pT NS (λi=>ρ1 (i+5)) (dm (af (-1) NS) (λk=>ρ2 (k+3)))) (ns:=NS) (by rw[mY h6];exact hiv) (F:=F++jk (dm (af (-1) NS) (λk=>ρ2 (k+3))))
   (λe he=>List.mem_append_right _ (List.mem_map_of_mem (f:=λe:kJ=>(e.pt,e.o)) (hmemL e he))) (λe he=>hmemP _ (hmemL e he)) (by simp[pT]) (by simp[pT]) (js:=js)
  unfold rz at this
  rw[mY h6,sU _ _ hPl] at this
  simp only[sO h6] at this
  exact this
 refine bh (l:=4) (c2 _) rfl rfl rfl λρ3 O h30 hn3 O=> ?_
 rw[List.append_nil]
 have hr6:(bp NS).length=6:=by simp[bp]
 have c3:∀js,aQ V 3 (H4 V.w.params fr cD (ρ3 0+2) (ρ3 0) (ρ3 0+1) (ρ3 2) (jj (bp NS) (λi=>ρ3 (i+3)) 5) (be (bp NS) (λi=>ρ3 (i+3))) (λρ=>(List.range 6).map λi=> .ref (ρ (16*i+3))) js) (F++jk (dm (af (-1) NS) (λk=>ρ2 (k+3))))
   (λρ=>cg (dN (bZ (bp NS) (λi=>ρ3 (i+3)) (λk=>ρ (k+3))))) (λρ=>cy V.w.params (dN (bZ (bp NS) (λi=>ρ3 (i+3)) (λk=>ρ (k+3))))):=λjs=>by
  have:=B9 G (fr:=fr) (cD:=cD) (C:=ρ3 0+2) (I:=ρ3 0) (acc:=ρ3 0+1) (a:=ρ3 2) (ep:=6) (rr:=bp NS) (tx:=λi=>ρ3 (i+3)) (λp h=>⟨(hp.rr p h).1,(hp.rr p h).2.1,(hp.rr p h).2.2.1⟩) (by rw[hr6];decide) (λh=>by rw[h] at hr6;cases hr6) (js:=js) (F:=F++jk (dm (af (-1) NS) (λk=>ρ2 (k+3))))
  unfold Dr at this
  simp only[hr6] at this
  intro A s hA hs hf
  refine codeAny_mono (this A s hA hs hf) ?_
  rintro r s' ⟨ρ,h1,h2,h3,h4⟩
  exact⟨ρ,h1,h2,h3.1,h4⟩
 refine bh (l:=3) (c3 _) rfl rfl rfl λρ4 hL O O O=> ?_
 have hlev:=hp.lev _ _ hL
 have hnl:d0 (bZ (bp NS) (λi=>ρ3 (i+3)) (λk=>ρ4 (k+3)))=nl:=by unfold d0;rw[hlev]
 have c4:∀js,aQ V 6 (fR 189 [.ref (ρ3 0+1)] [(ρ3 0+1,aa ((List.range 6).map λi=> .ref (ρ4 (16*i+3))) 6)] (λρ=> .ref (ρ 2)) (λρ=>[(ρ 2,aa (bY ((List.range nl).map λk=>ρ (k+3))) nl)]) js) (F++jk (dm (af (-1) NS) (λk=>ρ2 (k+3)))++cy V.w.params (dN (bZ (bp NS) (λi=>ρ3 (i+3)) (λk=>ρ4 (k+3)))))
   (λρ=>((List.range nl).map λk=>ρ (k+3)).Nodup) (λρ=>g4 (bJ (gO (bZ (bp NS) (λi=>ρ3 (i+3)) (λk=>ρ4 (k+3)))) 6 (q5 λi=>ρ (i+(nl+3)))) ((List.range nl).map λk=>ρ (k+3))):=λjs=>by
  have:=qE G (l:=ρ3 0+1) (ep:=6) hL (js:=js) (F:=F++jk (dm (af (-1) NS) (λk=>ρ2 (k+3)))++cy V.w.params (dN (bZ (bp NS) (λi=>ρ3 (i+3)) (λk=>ρ4 (k+3))))) (λp hp=>List.mem_append_right _ hp)
  unfold lK lJ at this
  simp only[hnl] at this
  exact this
 refine bh (l:=6) (c4 _) rfl rfl rfl λρ5 hn5 O hn5' O=>an rfl λs' hs' hf'=> ?_
 have hlenL:(bJ (gO (bZ (bp NS) (λi=>ρ3 (i+3)) (λk=>ρ4 (k+3)))) 6 (q5 λi=>ρ5 (i+(nl+3)))).length=((List.range nl).map λk=>ρ5 (k+3)).length:=by
  have:=congrArg List.length (iO (gO (bZ (bp NS) (λi=>ρ3 (i+3)) (λk=>ρ4 (k+3)))) 6 _ _ (gl λi=>ρ5 (i+(nl+3))))
  rw[List.length_map,hlev] at this
  rw[this,List.length_map,List.length_range]
 have hns:=(vj hlenL).trans ((iO _ 6 _ _ (gl λi=>ρ5 (i+(nl+3)))).trans hlev)
 have hR:=yy hlenL
 have hll:(kr (bJ (gO (bZ (bp NS) (λi=>ρ3 (i+3)) (λk=>ρ4 (k+3)))) 6 (q5 λi=>ρ5 (i+(nl+3)))) ((List.range nl).map λk=>ρ5 (k+3))).length=nl:=by
  have:=congrArg List.length hns
  rw[List.length_map] at this
  exact this
 rw[←yz] at hf'
 refine hQ (ρ1 1) (ρ 0) (ρ2 1) (ρ2 2) (ρ3 1) (ρ3 2) (ρ4 1) (ρ3 0+1) (ρ5 1) (ρ5 2) (cW NS λi=>ρ1 (i+5)) NS (λk=>ρ2 (k+3)) (λi=>ρ3 (i+3)) (λk=>ρ4 (k+3)) (kr (bJ (gO (bZ (bp NS) (λi=>ρ3 (i+3)) (λk=>ρ4 (k+3)))) 6 (q5 λi=>ρ5 (i+(nl+3)))) ((List.range nl).map λk=>ρ5 (k+3))) s' h6 hL hns ?_ (by rw[yx hlenL];exact hn5) ?_ ?_ ⟨hn3 _ (.head _),Nat.le_succ_of_le h30,hn5' _ (.head _)⟩
 ·intro q hq
  obtain⟨p,hp',rfl⟩:=List.mem_map.mp hq
  exact qm _ 6 _ _ (gl _) _ (List.of_mem_zip hp').1
 ·rw[hll,hR];exact hs'
 ·rw[hll,hR]
  rw[List.append_assoc,List.append_assoc] at hf'
  exact hf'
theorem ze{V:Gw}{c:Int}{u v:Nat}{L:Nat}:ai V L (aN (aY "int.__ne__" c c u v) λO=> .bool false) (λO=>True):=by
 intro A s hA hs
 have hg:=AutoIntG6.int___ne___int_int_0 c u c v
 refine codeAny_call_builtin F.slot_int_ne.plain F.entry_int_ne (F.slot_int_ne.check _ _ _ _ _ _ _ _ rfl (F.args_int_ne_2 _ _) (hg V.prog V.w A (bO V (aN (aY "int.__ne__" c c u v) λO=> .bool false) (λO=>True) s) s ?_))
 have e:((λx1 x2:Int=>x1 !=x2) c c)=false:=by simp
 rw[e]
 exact⟨a7 s.heap.objs.size s.toks (λO=>0),rfl,oT (s:=s) (s':=s) rfl hs.base _,trivial⟩
theorem ph(W:List Nat)(τ:Nat→Nat):cw (fK W τ)=W:=by
 unfold cw fK
 rw[List.map_map]
 refine List.ext_getElem? λi=> ?_
 by_cases h:i<W.length
 ·simp[h,List.getD_eq_getElem?_getD]
 ·simp[h]
noncomputable def dP(L:List (List Nat))(f:Nat→Nat):List (Addr×List Nat):=(List.range 7).map λi=>(f i,L.getD i [])
theorem iM{L:List (List Nat)}(h:L.length=7)(f:Nat→Nat):cF (dP L f)=L.flatten:=by
 obtain⟨_,t,rfl,y1⟩:=fe h
 obtain⟨_,t,rfl,y2⟩:=fe y1
 obtain⟨_,t,rfl,y3⟩:=fe y2
 obtain⟨_,t,rfl,y4⟩:=fe y3
 obtain⟨_,t,rfl,y5⟩:=fe y4
 obtain⟨_,t,rfl,y6⟩:=fe y5
 obtain⟨_,t,rfl,y7⟩:=fe y6
 cases t with
 |nil=>rfl
 |cons=>cases y7
theorem yg(L:List (List Nat))(f:Nat→Nat):dh (dP L f)=dh (dP [] f):=by
 unfold dh dP
 rw[List.map_map,List.map_map];rfl
theorem mT(L:List (List Nat))(f:Nat→Nat):(dP L f).length=7:=by simp[dP]
theorem yi(L:List (List Nat))(f:Nat→Nat):((dP L f).getD 6 (0,[])).1=f 6:=by
 simp[dP]
theorem yh(P:Params){L:List (List Nat)}(h:L.length=7)(f:Nat→Nat):(dP L f).map (l9 P)=cz P L f:=by
 unfold dP cz
 rw[h,List.map_map];rfl
theorem qL(P:Params)(cs:List Nat):aI (aK P cs) (cs.map dx):=by
 induction cs with
 |nil=>exact .nil
 |cons c cs ih=>exact .cons ih
noncomputable def H7(P:Params)(t0 l k1 nl k2 pg k3 rw k4 ld k5 lv k6 pc fr:Nat)(RV WV LV:List Value)(nlv x1 x2:Nat)(PcV:List Value):KL:=[(fr,pU P t0 l k1 nl k2 pg k3 rw k4 ld k5 lv k6 pc),(rw,aa RV 6),(ld,aa WV 6),(lv,aa LV nlv),(62,aP (fy P) x2),(69,aP (eo P) x1),(pc,aa PcV 7)]
theorem Bh{V:Gw}(G:au V)(hM:fS V){fr cD t0 l k1 nl k2 pg k3 rw k4 ld k5 lv x1 x2:Nat}{NS:List Int}{tx τ:Nat→Nat}{lvs:List dU}(h6:NS.length=6)(hp:eR NS)(hL:cg (dN (bZ (bp NS) tx τ)))(hns:lvs.map (·.ns)=bB ((af (-1) NS).map (·.1)))(hiv:∀q∈lvs,aI q.vs q.ns)(hna:(lvs.map (·.a)).Nodup)
  {F:KL} (hFw:∀p∈cy V.w.params (dN (bZ (bp NS) tx τ)),p∈F) (hFl:∀q∈lvs,q.k∈F) {A:Around} {s:Shared} (hA:Bd 7 A)
  (hs:At V (Dt V.w.params t0 l k1 nl k2 pg k3 rw k4 ld k5 lv fr (be (bp NS) tx) (ag (dN (bZ (bp NS) tx τ))) (dT lvs) lvs.length x1 x2) s)
  (hF:Fz V F (Dt V.w.params t0 l k1 nl k2 pg k3 rw k4 ld k5 lv fr (be (bp NS) tx) (ag (dN (bZ (bp NS) tx τ))) (dT lvs) lvs.length x1 x2) s) {Q:Flow→Shared→Prop} {E:Value→Shared→Prop}
  (hQ:∀k6 pc f x1' x2' s',am V [fr,rw,ld,lv,62,69] s (H7 V.w.params t0 l k1 nl k2 pg k3 rw k4 ld k5 lv k6 pc fr (be (bp NS) tx) (ag (dN (bZ (bp NS) tx τ))) (dT lvs) lvs.length x1' x2' (dh (dP [] f))) s'→
   Fz V (F++cz V.w.params (fx 7 0 (gW ((bp NS).map (·.2)) (bB ((af (-1) NS).map (·.1))))) f) (H7 V.w.params t0 l k1 nl k2 pg k3 rw k4 ld k5 lv k6 pc fr (be (bp NS) tx) (ag (dN (bZ (bp NS) tx τ))) (dT lvs) lvs.length x1' x2' (dh (dP [] f))) s'→
   s.heap.objs.size≤pc→Q .next s'):
  wpAny (model V.prog V.w) A (execs (((bW V.w.params).take 8).drop 6) (fb V.w.params fr cD)) Q E s:=by
 have hW:l7 ((bp NS).map (·.2)) lvs=gW ((bp NS).map (·.2)) (bB ((af (-1) NS).map (·.1))):=congrArg (λL=>uj ((bp NS).map (·.2)) (([]::L)++[[]])) hns
 have hpw:=hp.word
 have hfl:=hp.flat
 have hprs:=hp.prs tx τ hL lvs hns
 have hll:lvs.length=(bB ((af (-1) NS).map (·.1))).length:=by rw[←hns,List.length_map]
 have hl6:lvs.length≤6:=by rw[hll];exact hp.lvne.2
 have hne:lvs≠[]:=λh=>hp.lvne.1 (by rw[←hns,h];rfl)
 generalize hWd:gW ((bp NS).map (·.2)) (bB ((af (-1) NS).map (·.1)))=W at hW hpw hfl hprs hQ
 have hr6:(bp NS).length=6:=by simp[bp]
 have hch:∀c∈(bp NS).map (·.2),c∈[40,91,123]:=λc hc=>by
  obtain⟨p,hp',rfl⟩:=List.mem_map.mp hc
  exact(hp.rr p hp').1
 have hpl:(fx 7 0 W).length=7:=lH _ _ _
 refine eh (aq (L:=7) G hF (ad (IS V.w.params s.heap.objs.size s.toks fr cD t0 l k1 nl k2 pg k3 rw k4 ld k5 lv (be (bp NS) tx) (ag (dN (bZ (bp NS) tx τ))) (dT lvs) lvs.length x1 x2 (jj (bp NS) tx 5) (.ref (bZ (bp NS) tx τ 5).self)
  (λρ=>fY ((bp NS).map (·.2)) (λi=>ρ (i+4))) (λρ=>bg (fK W (λi=>ρ (i+6)))) 12 (λρ1 ρ=>bg ((fK W (λi=>ρ1 (i+6))).drop (ρ 3))) (λρ=>dh (dP [] λi=>ρ (i+8)))
  (λρ=> .ref (ρ 14)) (fM V.w.params (fE (fx 7 0 W).flatten)) (aK V.w.params (fx 7 0 W).flatten) (iY 0 0 ((fx 7 0 W).flatten.map dx)).1) (aC V) (aB V)) hA hs ?_)
 have c1:∀js,aQ V 3 (Dh V.w.params fr cD (s.heap.objs.size+6) (s.heap.objs.size+5) (s.heap.objs.size+4) (s.heap.objs.size+2) (s.heap.objs.size+3) s.heap.objs.size (s.heap.objs.size+1) rw ld (be (bp NS) tx) (ag (dN (bZ (bp NS) tx τ))) (jj (bp NS) tx 5) (.ref (bZ (bp NS) tx τ 5).self) (λρ=>fY ((bp NS).map (·.2)) (λi=>ρ (i+4))) js) F (λO=>True) (λO=>[]):=λjs=>by
  have:=B3 G (fr:=fr) (cD:=cD) (C:=s.heap.objs.size+6) (acc:=s.heap.objs.size+5) (Zz:=s.heap.objs.size+4) (zt:=s.heap.objs.size+2) (zk:=s.heap.objs.size+3) (i1:=s.heap.objs.size) (i2:=s.heap.objs.size+1) (l:=rw) (g:=ld) (ep:=6) (eg:=6) (rr:=bp NS) (tx:=tx) (τ:=τ) hL (by rw[hr6];decide) (λh=>by rw[h] at hr6;cases hr6) (λp h=>(hp.rr p h).2.2.2) (F:=F) hFw (js:=js)
  unfold Dg at this
  simp only[hr6] at this
  have e:((bp NS).map (·.2)).map (λc=>[c])=(bp NS).map λp=>[p.2]:=by rw[List.map_map];rfl
  unfold Dh fY
  simp only[e]
  exact this
 refine aV (l:=3) (c1 _) rfl rfl rfl λρ O O=> ?_
 have c2:∀js,aQ V 6 (An V.w.params lv (s.heap.objs.size+5) (dT lvs) (fY ((bp NS).map (·.2)) (λi=>ρ (i+4))) lvs.length (λρ=>bg (fK W (λi=>ρ (i+6)))) 12 js) F (λO=>True) (λρ=>gv (fK W (λi=>ρ (i+6)))):=λjs=>by
  have:=tH G (l:=lv) (g:=s.heap.objs.size+5) (ep:=lvs.length) (eg:=6) (lvs:=lvs) (F:=F) (λq hq=>⟨hiv q hq,hFl q hq⟩) hna hne (sgs:=(bp NS).map (·.2)) (τ:=λi=>ρ (i+4)) hch (λh=>by have:=congrArg List.length h;rw[List.length_map,hr6] at this;cases this) (by rw[List.length_map,hr6];decide) (by rw[List.length_map,hr6];lia) (by lia) (js:=js)
  unfold nO at this
  rw[hW,hpw.1] at this
  exact this
 refine bh (l:=6) (c2 _) rfl rfl rfl λρ1 O O O O=> ?_
 have c3:∀js,aQ V 6 (HZ V.w.params (ρ1 3) (ρ1 2) (bg (fK W (λi=>ρ1 (i+6)))) 12 (ρ1 4) (ρ1 5) x1 x2 (λρ=>bg ((fK W (λi=>ρ1 (i+6))).drop (ρ 3))) (λρ=>dh (dP [] λi=>ρ (i+8))) js) (F++gv (fK W (λi=>ρ1 (i+6)))) (λO=>True) (λρ=>cz V.w.params (fx 7 0 W) (λi=>ρ (i+8))):=λjs=>by
  have:=qD G hM (a:=ρ1 3) (d:=ρ1 2) (ea:=12) (kd:=ρ1 4) (td:=ρ1 5) (x1:=x1) (x2:=x2) (es:=fK W (λi=>ρ1 (i+6))) (F:=F++gv (fK W (λi=>ρ1 (i+6)))) (λe he=>List.mem_append_right _ (List.mem_map_of_mem (f:=λe:fU=>(e.pt,e.o)) he)) (by rw[ph];exact hpw.2) (by simp[fK,hpw.1]) (js:=js)
  rw[ph] at this
  exact this
 refine bh (l:=6) (c3 _) rfl rfl rfl λρ2 O O hpc O=> ?_
 have c4:∀js,aQ V 2 (Ia V.w.params fr cD (ρ2 0+2) (ρ2 0) (ρ2 2) (ρ2 0+1) (dh (dP [] λi=>ρ2 (i+8))) (.ref (ρ2 14)) (fM V.w.params (fE (fx 7 0 W).flatten)) (aK V.w.params (fx 7 0 W).flatten) 12 js) (F++gv (fK W (λi=>ρ1 (i+6)))++cz V.w.params (fx 7 0 W) (λi=>ρ2 (i+8))) (λO=>True) (λO=>[]):=λjs=>by
  have:=Ce G (fr:=fr) (cD:=cD) (C:=ρ2 0+2) (I:=ρ2 0) (l:=ρ2 2) (acc:=ρ2 0+1) (ep:=7) (ps:=dP (fx 7 0 W) λi=>ρ2 (i+8)) (fn:=false) (by rw[iM hpl,hfl];rfl) (F:=F++gv (fK W (λi=>ρ1 (i+6)))++cz V.w.params (fx 7 0 W) (λi=>ρ2 (i+8)))
   (λq hq=>List.mem_append_right _ (by rw[←yh _ hpl];exact List.mem_map_of_mem hq)) (by rw[mT];decide) (by rw[iM hpl,hfl];decide) (js:=js)
  unfold DB at this
  simp only[iM hpl,hfl,yg (fx 7 0 W),mT,yi] at this
  exact this
 refine aV (l:=2) (c4 _) rfl rfl rfl λρ3 O O=> ?_
 have c5:∀js,ai V 2 (fR 208 [.ref (ρ2 0+1)] [(ρ2 0+1,aa (aK V.w.params (fx 7 0 W).flatten) 12)] (λρ=> .int (iY 0 0 ((fx 7 0 W).flatten.map dx)).1 (ρ 2)) (λO=>[]) js) (λO=>True):=λjs=>vR G (qL _ _)
 refine ac (l:=2) (c5 _) rfl rfl rfl λρ4 O O=> ?_
 have c6:∀js,aQ V 6 (fR 213 [.ref ld,.ref lv] [(ld,aa (ag (dN (bZ (bp NS) tx τ))) 6),(lv,aa (dT lvs) lvs.length)] (λρ=> .int (iY 0 0 ((fx 7 0 W).flatten.map dx)).1 (ρ 2)) (λO=>[]) js) (F++gv (fK W (λi=>ρ1 (i+6)))++cz V.w.params (fx 7 0 W) (λi=>ρ2 (i+8))) (λO=>True) (λO=>[]):=λjs=>by
  have:=tK G (l:=ld) (lv:=lv) (el:=6) (elv:=lvs.length) (wf:=bZ (bp NS) tx τ) (lvs:=lvs) (F:=F++gv (fK W (λi=>ρ1 (i+6)))++cz V.w.params (fx 7 0 W) (λi=>ρ2 (i+8))) hL (λp h=>List.mem_append_left _ (List.mem_append_left _ (hFw p h))) (λq hq=>⟨hiv q hq,List.mem_append_left _ (List.mem_append_left _ (hFl q hq))⟩) hne (by lia) hprs.1 (js:=js)
  unfold nW at this
  rw[hprs.2] at this
  exact this
 refine aV (l:=6) (c6 _) rfl rfl rfl λρ5 O O=> ?_
 refine ac (l:=0) ze rfl rfl rfl λρ6 O O=>an rfl λs' hs' hf'=> ?_
 refine hQ (ρ2 1) (ρ2 2) (λi=>ρ2 (i+8)) (ρ2 7) (ρ2 6) s' hs' (hf'.only λp hp=> ?_) (hpc (ρ2 2,aa (dh (dP [] λi=>ρ2 (i+8))) 7) (.head _))
 rcases List.mem_append.mp hp with hp|hp
 ·exact List.mem_append_left _ (List.mem_append_left _ hp)
 ·exact List.mem_append_right _ hp
theorem oE{prog:Program}{w:World}{A:Around}{Q:Flow→Shared→Prop}{E:Value→Shared→Prop}{s:Shared}{body:List Stmt}{env:Env}{op:CmpOp}(hb:rn op body)
  (h:wpAny (model prog w) A (eval (z5 body) env) (λa s₁=>wpAny (model prog w) A (eval (zT body) env) (λb s₂=>wpAny (model prog w) A (compareOp op a b) (λv s'=>Q (.ret v) s') (λO O=>False) s₂) (λO O=>False) s₁) (λO O=>False) s):
  wpAny (model prog w) A (execs body env) Q E s:=by
 obtain⟨l,r,pos,pos',rfl,h2⟩:=hb
 ·refine wpAny_execs_cons (wpAny_Return_some (wpAny_Compare1 (wpAny_mono h (λa s₁ h₁=>wpAny_mono h₁ (λb s₂ h₂=>wpAny_mono h₂ (λv s' h'=>h') λO O x=>x.elim) λO O x=>x.elim) λO O x=>x.elim) h2))
theorem m0{α:Type}{c:List α}:∀{L:List (List α)},c∈L→c.length≤L.flatten.length
 |[],h=>nomatch h
 |d::L,h=>by
  rw[List.flatten_cons,List.length_append]
  rcases e6 h with rfl|h
  ·lia
  ·have:=m0 h;lia
theorem aI.uniq{l:List Value}{m m':List Int}(h:aI l m)(h':aI l m'):m=m':=by
 induction h generalizing m' with
 |nil=>cases h';rfl
 |cons _ ih=>cases h' with
  |cons h'=>rw[ih h']
noncomputable def e8(P:Params)(cs:List Nat)(a:Addr):ez:=⟨a,cs.map λc=>(dx c,nE P c),cs.length⟩
theorem yo(P:Params)(cs:List Nat):aL (cs.map λc=>(dx c,nE P c))=aK P cs:=by
 unfold aL aK
 rw[List.map_map];rfl
theorem r0(P:Params)(cs:List Nat)(a:Addr):(e8 P cs a).k=l9 P (a,cs):=by
 unfold ez.k e8 l9
 dsimp only
 rw[yo]
theorem jo(P:Params)(cs:List Nat)(a:Addr):(e8 P cs a).ns=cs.map dx:=by
 unfold ez.ns e8
 rw[List.map_map];rfl
theorem u8{prog:Program}{w:World}{A:Around}{E:Value→Shared→Prop}{s:Shared}{Q:Value→Shared→Prop}{a b ea eb:Nat}{OU:List ll}{PG:List kJ}(hu:A.units<cLine)(hu1:A.in1.units<cLine)
  (ha:s.heap.get? a=some (aa (ja OU) ea)) (hb:s.heap.get? b=some (aa (fX PG) eb)) (hO:∀e∈OU,s.heap.get? e.pt=some e.o) (hP:∀e∈PG,s.heap.get? e.pt=some e.o)
  (he:OU.map ll.p=PG.map λe=>((e.d:Int),(e.k:Int))) (hQ:Q (.bool true) s):wpAny (model prog w) A (compareOp .Eq (.ref a) (.ref b)) Q E s:=by
 have hlen:OU.length=PG.length:=by have:=congrArg List.length he;simpa using this
 show wpAny _ _ (richCompare .Eq (.ref a) (.ref b)) _ _ s
 refine RcAt.lists (e:=λO=>true) ⟨_,ha,rfl,_,rfl⟩ ⟨_,hb,rfl,_,rfl⟩ (by simp[ja,fX,hlen]) hu (λj j1 j2=> ?_) _ _ _ _ ?_
 ·have hj1:j<OU.length:=by simpa[ja] using j1
  have hj2:j<PG.length:=by simpa[fX] using j2
  have x1:(⟨ja OU⟩:Array Value)[j]= .ref OU[j].pt:=by
   show(ja OU)[j]=_
   simp[ja]
  have x2:(⟨fX PG⟩:Array Value)[j]= .ref PG[j].pt:=by
   show(fX PG)[j]=_
   simp[fX]
  rw[x1,x2]
  have hO':=hO OU[j] (List.getElem_mem hj1)
  have hP':=hP PG[j] (List.getElem_mem hj2)
  have hv:OU[j].p=((PG[j].d:Int),(PG[j].k:Int)):=by
   have:=congrArg (λl=>l[j]?) he
   simpa[hj1,hj2] using this
  have hd:OU[j].d=PG[j].d:=congrArg Prod.fst hv
  have hk:OU[j].k=PG[j].k:=congrArg Prod.snd hv
  by_cases hpt:OU[j].pt=PG[j].pt
  ·rw[hpt];exact EqAt.same _
  ·have hrc:=lG (A:=A.in1) (s:=s) (l:=[.int OU[j].d OU[j].du,.int OU[j].k OU[j].ku]) (l':=[.int PG[j].d PG[j].du,.int PG[j].k PG[j].ku]) (m:=[OU[j].d,OU[j].k]) (m':=[(PG[j].d:Int),(PG[j].k:Int)]) hO' hP' (.cons (.cons .nil)) (.cons (.cons .nil)) hu1
   rw[hd,hk,decide_eq_true rfl] at hrc
   exact EqAt.of_refs hpt hrc
 ·have:((List.range (⟨ja OU⟩:Array Value).size).all λO=>true)=true:=by simp
  rw[this]
  exact hQ
theorem Bg{V:Gw}(G:au V){fr cD t0 l k1 nl k2 pg k3 rw k4 ld k5 lv k6 pc:Nat}{NS:List Int}{τ2 f:Nat→Nat}(h6:NS.length=6)(hp:eR NS)
  {F:KL} (hFg:(pg,aa (fX (dm (af (-1) NS) τ2)) 6)∈F) (hFp:∀p∈jk (dm (af (-1) NS) τ2),p∈F) (hFx:∀p∈cz V.w.params (fx 7 0 (gW ((bp NS).map (·.2)) (bB ((af (-1) NS).map (·.1))))) f,p∈F) {A:Around} {s:Shared} (hA:Bd 5 A)
  (hs:At V [(fr,pU V.w.params t0 l k1 nl k2 pg k3 rw k4 ld k5 lv k6 pc),(pc,aa (dh (dP [] f)) 7)] s)
  (hF:Fz V F [(fr,pU V.w.params t0 l k1 nl k2 pg k3 rw k4 ld k5 lv k6 pc),(pc,aa (dh (dP [] f)) 7)] s) {Q:Flow→Shared→Prop} {E:Value→Shared→Prop}
  (hQ:∀s',am V [fr,pc] s [(fr,pU V.w.params t0 l k1 nl k2 pg k3 rw k4 ld k5 lv k6 pc)] s'→Q (.ret (.bool true)) s'):
  wpAny (model V.prog V.w) A (execs ((bW V.w.params).drop 8) (fb V.w.params fr cD)) Q E s:=by
 have hpg:=hp.page _ rfl
 have hD6:(af (-1) NS).length=6:=by rw[dG,h6]
 have hpl:(fx 7 0 (gW ((bp NS).map (·.2)) (bB ((af (-1) NS).map (·.1))))).length=7:=lH _ _ _
 have hfl:=hp.flat
 generalize fx 7 0 (gW ((bp NS).map (·.2)) (bB ((af (-1) NS).map (·.1))))=L7 at hpg hpl hFx hfl
 obtain⟨c0,cr,rfl⟩:∃c0 cr,L7=c0::cr:=by cases L7 with
  |nil=>cases hpl
  |cons a b=>exact⟨a,b,rfl⟩
 have hcr:cr.length=6:=by simpa using hpl
 obtain⟨hg1,hg2,hg3,hg4,hg5⟩:=hpg
 let ps:List ez:=(List.range 6).map λi=>e8 V.w.params (cr.getD i []) (f (i+1))
 have hpsl:ps.length=6:=by simp[ps]
 have hpsn:ps.map ez.ns=cr.map (·.map dx):=by
  refine List.ext_getElem? λi=> ?_
  by_cases h:i<6
  ·have h':i<cr.length:=by lia
   simp[ps,h,h',jo,List.getD_eq_getElem?_getD]
  ·have h': ¬i<cr.length:=by lia
   simp[ps,h,h']
 have hk0:(e8 V.w.params c0 (f 0)).k∈F:=by
  rw[r0]
  exact hFx _ (List.mem_map.mpr ⟨0,by simp,rfl⟩)
 have hks:∀q∈ps,q.k∈F:=λq hq=>by
  obtain⟨i,hi,rfl⟩:=List.mem_map.mp hq
  have hi:i<6:=List.mem_range.mp hi
  rw[r0]
  exact hFx _ (List.mem_map.mpr ⟨i+1,List.mem_range.mpr (by rw[hpl];lia),rfl⟩)
 have hpv:gU (e8 V.w.params c0 (f 0)::ps)=dh (dP [] f):=rfl
 have hfl':∀c∈c0::cr,c.length≤12:=λc hc=>by
  have:=m0 hc
  lia
 have hsq:∀q∈e8 V.w.params c0 (f 0)::ps,q.qs.length≤399:=λq hq=>by
  rcases e6 hq with rfl|hq
  ·have:=hfl' c0 (.head _)
   simp only[e8,List.length_map];lia
  ·obtain⟨i,hi,rfl⟩:=List.mem_map.mp hq
   have hi:i<6:=List.mem_range.mp hi
   have:=hfl' (cr.getD i []) (.tail _ (bV (by lia)))
   simp only[e8,List.length_map];lia
 have hnd:∀q∈ps,q.a≠(e8 V.w.params c0 (f 0)).a:=λq hq he=>by
  have e1:=(hF _ (hks q hq)).1
  have e0:=(hF _ hk0).1
  have e1':s.heap.get? q.a=some (aa (aL q.qs) q.e):=e1
  have e0':s.heap.get? (e8 V.w.params c0 (f 0)).a=some (aa (aL (e8 V.w.params c0 (f 0)).qs) (e8 V.w.params c0 (f 0)).e):=e0
  rw[he,e0'] at e1'
  have e2:=congrArg Obj.data (Option.some.inj e1')
  have e3:aL (e8 V.w.params c0 (f 0)).qs=aL q.qs:=by
   simp only[aa,Data.seq.injEq,Array.mk.injEq] at e2
   exact e2.1
  have e4:(e8 V.w.params c0 (f 0)).ns=q.ns:=by
   have h1:=dE (e8 V.w.params c0 (f 0)).qs
   rw[e3] at h1
   exact aI.uniq h1 (dE q.qs)
  refine hg1 q.ns ?_ (e4.symm.trans (jo _ _ _))
  show q.ns∈cr.map (·.map dx)
  rw[←hpsn]
  exact List.mem_map_of_mem hq
 have hok:kC ((0::(e8 V.w.params c0 (f 0)).ns)::ps.map ez.ns):=by rw[hpsn,jo];exact hg2
 have hLL:(fZ ((0::(e8 V.w.params c0 (f 0)).ns)::ps.map ez.ns)).1=(fZ ((0::(((c0::cr).map (·.map dx)).getD 0 []))::((c0::cr).map (·.map dx)).drop 1)).1:=by rw[hpsn,jo];rfl
 generalize hLd:(fZ ((0::(((c0::cr).map (·.map dx)).getD 0 []))::((c0::cr).map (·.map dx)).drop 1)).1=LL at hg3 hg4 hg5 hLL
 refine oE (op:= .Eq) (By _) ?_
 refine gD (L:=5) G hF (ad (IP V.w.params s.heap.objs.size s.toks fr cD t0 l k1 nl k2 pg k3 rw k4 ld k5 lv k6 pc (dh (dP [] f)) (λρ=>ja (kg (lk LL) (λi=>ρ (i+3))))) (aC V) (aB V)) hA hs ?_
 have c1:∀js,aQ V 4 (fR 218 [.ref pc] [(pc,aa (dh (dP [] f)) 7)] (λρ=> .ref (ρ 2)) (λρ=>[(ρ 2,aa (ja (kg (lk LL) (λi=>ρ (i+3)))) 6)]) js) F (λO=>True) (λρ=>qU (kg (lk LL) (λi=>ρ (i+3)))):=λjs=>by
  have:=vM G (pl:=pc) (e:=7) (q0:=e8 V.w.params c0 (f 0)) (ps:=ps) (F:=F) (LL:=LL) (js:=js) hpsl (λq hq=>by
   rcases e6 hq with rfl|hq
   ·exact hk0
   ·exact hks q hq) hnd hok hsq hLL hg3 hg4
  rw[hpv] at this
  exact this
 refine bh (l:=4) (c1 _) rfl rfl rfl λρ O O O O=>an rfl λs1 hs1 hf1=> ?_
 show wpAny _ _ _ _ _ s1
 have hs1':At V ([(fr,pU V.w.params t0 l k1 nl k2 pg k3 rw k4 ld k5 lv k6 pc)]++[(pc,aa (dh (dP [] f)) 7),(ρ 2,aa (ja (kg (lk LL) λi=>ρ (i+3))) 6)]) s1:=hs1.at'
 have hf1':Fz V (F++qU (kg (lk LL) (λi=>ρ (i+3)))) ([(fr,pU V.w.params t0 l k1 nl k2 pg k3 rw k4 ld k5 lv k6 pc)]++[(pc,aa (dh (dP [] f)) 7),(ρ 2,aa (ja (kg (lk LL) λi=>ρ (i+3))) 6)]) s1:=hf1
 refine gD (L:=5) G (Fz.take hs1' hf1') (ad (IO V.w.params s1.heap.objs.size s1.toks fr cD t0 l k1 nl k2 pg k3 rw k4 ld k5 lv k6 pc) (aC V) (aB V)) hA hs1'.less ?_
 refine an rfl λs2 hs2 hf2=> ?_
 show wpAny _ _ _ _ _ s2
 rw[hg5] at hf2
 have hu:A.units<cLine:=hA.line
 refine u8 (A:=A) (PG:=dm (af (-1) NS) τ2) (OU:=kg ((af (-1) NS).map λe=>((e.1:Int),(e.2:Int))) λi=>ρ (i+3)) hu (hA.in1 (L:=4)).line (hf2 _ (List.mem_append_right _ (.tail _ (.head _)))).1 (hf2 _ (List.mem_append_left _ (List.mem_append_left _ hFg))).1
  (λe he=>(hf2 _ (List.mem_append_left _ (List.mem_append_right _ (List.mem_map_of_mem (f:=λe:ll=>(e.pt,e.o)) he)))).1)
  (λe he=>(hf2 _ (List.mem_append_left _ (List.mem_append_left _ (hFp _ (List.mem_map_of_mem (f:=λe:kJ=>(e.pt,e.o)) he))))).1) ?_ ?_
 ·refine List.ext_getElem? λi=> ?_
  by_cases h:i<(af (-1) NS).length
  ·simp[kg,dm,h,ll.p,List.getD_eq_getElem?_getD]
  ·simp[kg,dm,h]
 ·exact hQ s2 (hs1.trans' (K₂:=[(fr,pU V.w.params t0 l k1 nl k2 pg k3 rw k4 ld k5 lv k6 pc)]) (hs2.mono λa ha=>by rw[List.mem_singleton.mp ha];exact .head _))
theorem r1{h:Heap}{p:Addr×Obj}{a:Addr}{q:Pos}{x:Nat}(hp:h.get? p.1=some p.2)(ha:h.get? a=some (aP q x))(hc:p.2.cls≠ .none):p.1≠a:=λe=>by
 rw[e,ha] at hp
 exact hc (by rw[←Option.some.inj hp];rfl)
theorem wa{es:List kJ}:∀p∈jk es,p.2.cls≠ .none:=λp hp=>by
 obtain⟨e,_,rfl⟩:=List.mem_map.mp hp
 exactλh=>nomatch h
theorem wb{lvs:List dU}:∀p∈lvs.map dU.k,p.2.cls≠ .none:=λp hp=>by
 obtain⟨e,_,rfl⟩:=List.mem_map.mp hp
 exactλh=>nomatch h
theorem t5{P:Params}{ws:List WS}:∀p∈cy P ws,p.2.cls≠ .none:=λp hp=>by
 obtain⟨x,_,hx⟩:=List.mem_flatMap.mp hp
 unfold WS.K at hx
 simp only[List.mem_cons,List.not_mem_nil,or_false] at hx
 rcases hx with rfl|rfl|rfl|rfl<;>exactλh=>nomatch h
theorem gc{b n a:Nat}(h1:b<n)(h2:n≤a)(h:b=a):False:=by lia
theorem th{V:Gw}(G:au V)(hM:fS V)(hp:∀NS:List Int,NS.length=6→eR NS){l ep x1 x2:Nat}{qs0:List (Int×Nat)}(hsm:qs0.length≤500){A:Around}{s:Shared}(hA:Bd 8 A)
  (hs:At V [(l,aa (aL qs0) ep),(62,aP (fy V.w.params) x2),(69,aP (eo V.w.params) x1)] s):
  codeAny (model V.prog V.w) A (.call (.ref 223) ⟨[.ref l],[]⟩) (λr s'=>r= .ok (.ret (.bool true))∧f8 V s'∧uM [62,69] s.heap s'.heap∧(∃x,s'.heap.get? 62=some (aP (fy V.w.params) x))∧∃x,s'.heap.get? 69=some (aP (eo V.w.params) x)) s:=by
 have hs':At V ([(l,aa (aL qs0) ep)]++[(62,aP (fy V.w.params) x2),(69,aP (eo V.w.params) x1)]) s:=hs
 have hF0:=Fz.take hs' Fz.nil
 rw[List.nil_append] at hF0
 refine ga G hA (Cq _) hF0 hs'.less (a6 (IQ V.w.params (aC V) s.heap.objs.size s.toks l (aL qs0) ep) (aB V)) (aS rfl) λs1 hs1 hf1=> ?_
 refine codeAny_func ?_
 have hA1:Bd 7 (A.deeper (fb V.w.params s.heap.objs.size (s.heap.objs.size+1))):=hA.deeper _
 show wpAny _ (A.deeper (fb V.w.params s.heap.objs.size (s.heap.objs.size+1))) (execs (bW V.w.params) (fb V.w.params s.heap.objs.size (s.heap.objs.size+1))) _ _ s1
 rw[ua]
 refine iW (Bj G hsm (hA1.weak (by decide)) hs1.at' hf1 λdl ed dq s2 hdq hE2 hF2 hdl=> ?_)
 show wpAny _ _ _ _ _ s2
 have hE2p:=hE2.perm (K':=[(s.heap.objs.size,cY V.w.params [(bQ,s.toks,.ref l)]),(s.heap.objs.size+1,cm (.ref dl)),(dl,aa (aL dq) ed)]++[(l,aa (aL qs0) ep)]) (by
  refine .cons _ (.cons _ ?_)
  exact .swap _ _ _)
 have hF2p:=hF2.perm (K':=[(s.heap.objs.size,cY V.w.params [(bQ,s.toks,.ref l)]),(s.heap.objs.size+1,cm (.ref dl)),(dl,aa (aL dq) ed)]++[(l,aa (aL qs0) ep)]) (by
  refine .cons _ (.cons _ ?_)
  exact .swap _ _ _)
 have hF2t:=Fz.take hE2p.at' hF2p
 refine iW (Bi G hp (Nat.le_trans hdq (by decide)) hA1 hE2p.at'.less hF2t λk1 nl k2 pg k3 rw k4 ld k5 lv NV NS τ2 tx τ lvs s3 h6 hL hns hiv hna hE3 hF3 hfr=> ?_)
 show wpAny _ _ _ _ _ s3
 have hK3:At V ([(s.heap.objs.size,Ad V.w.params s.toks l k1 nl k2 pg k3 rw k4 ld k5 lv),(rw,aa (be (bp NS) tx) 6),(ld,aa (ag (dN (bZ (bp NS) tx τ))) 6),(lv,aa (dT lvs) lvs.length)]++[(pg,aa (fX (dm (af (-1) NS) τ2)) 6)]) s3:=hE3.at'.sel (js:=[0,5,6,7,4]) (by decide)
 have hZ3:Fz V _ ([(s.heap.objs.size,Ad V.w.params s.toks l k1 nl k2 pg k3 rw k4 ld k5 lv),(rw,aa (be (bp NS) tx) 6),(ld,aa (ag (dN (bZ (bp NS) tx τ))) 6),(lv,aa (dT lvs) lvs.length)]++[(pg,aa (fX (dm (af (-1) NS) τ2)) 6)]) s3:=hF3.sel [0,5,6,7,4]
 have hZ4:=Fz.take hK3 hZ3
 have m62:∀p∈[((62:Nat),aP (fy V.w.params) x2),(69,aP (eo V.w.params) x1)],p∈[((62:Nat),aP (fy V.w.params) x2),(69,aP (eo V.w.params) x1)]++[(l,aa (aL qs0) ep)]++(jk (dm (af (-1) NS) τ2)++(cy V.w.params (dN (bZ (bp NS) tx τ))++lvs.map dU.k))++[(pg,aa (fX (dm (af (-1) NS) τ2)) 6)]:=λp hp=>List.mem_append_left _ (List.mem_append_left _ (List.mem_append_left _ hp))
 have hT:=hK3.less.thaw hZ4 m62 (by simp)
 have g62:=(hZ4 _ (m62 (62,aP (fy V.w.params) x2) (.head _))).1
 have g69:=(hZ4 _ (m62 (69,aP (eo V.w.params) x1) (.tail _ (.head _)))).1
 have sub5:∀p∈[(l,aa (aL qs0) ep)]++(jk (dm (af (-1) NS) τ2)++(cy V.w.params (dN (bZ (bp NS) tx τ))++lvs.map dU.k))++[(pg,aa (fX (dm (af (-1) NS) τ2)) 6)],p∈[((62:Nat),aP (fy V.w.params) x2),(69,aP (eo V.w.params) x1)]++[(l,aa (aL qs0) ep)]++(jk (dm (af (-1) NS) τ2)++(cy V.w.params (dN (bZ (bp NS) tx τ))++lvs.map dU.k))++[(pg,aa (fX (dm (af (-1) NS) τ2)) 6)]:=λp hp=>by
  rw[List.append_assoc,List.append_assoc] at hp⊢
  rw[List.append_assoc]
  exact List.mem_append_right _ hp
 have cls5:∀p∈[(l,aa (aL qs0) ep)]++(jk (dm (af (-1) NS) τ2)++(cy V.w.params (dN (bZ (bp NS) tx τ))++lvs.map dU.k))++[(pg,aa (fX (dm (af (-1) NS) τ2)) 6)],p.2.cls≠ .none:=λp hp=>by
  rcases List.mem_append.mp hp with hp|hp
  ·rcases List.mem_append.mp hp with hp|hp
   ·rw[List.mem_singleton.mp hp];exactλh=>nomatch h
   ·rcases List.mem_append.mp hp with hp|hp
    ·exact wa p hp
    ·rcases List.mem_append.mp hp with hp|hp
     ·exact t5 p hp
     ·exact wb p hp
  ·rw[List.mem_singleton.mp hp];exactλh=>nomatch h
 have hZ5:=(hZ4.only sub5).cons (R:=[((62:Nat),aP (fy V.w.params) x2),(69,aP (eo V.w.params) x1)]) λp hp hm=>by
  have hm:p.1∈[62,69]:=hm
  simp only[List.mem_cons,List.not_mem_nil,or_false] at hm
  rcases hm with hm|hm
  ·exact r1 (hZ4 p (sub5 p hp)).1 g62 (cls5 p hp) hm
  ·exact r1 (hZ4 p (sub5 p hp)).1 g69 (cls5 p hp) hm
 refine iW (Bh G hM h6 (hp NS h6) hL hns hiv hna (F:=[(l,aa (aL qs0) ep)]++(jk (dm (af (-1) NS) τ2)++(cy V.w.params (dN (bZ (bp NS) tx τ))++lvs.map dU.k))++[(pg,aa (fX (dm (af (-1) NS) τ2)) 6)])
  (λp hp=>List.mem_append_left _ (List.mem_append_right _ (List.mem_append_right _ (List.mem_append_left _ hp)))) (λq hq=>List.mem_append_left _ (List.mem_append_right _ (List.mem_append_right _ (List.mem_append_right _ (List.mem_map_of_mem hq))))) hA1 hT hZ5 λk6 pc f x1' x2' s4 hE4 hF4 hpc=> ?_)
 show wpAny _ _ _ _ _ s4
 have hK4:At V ([(s.heap.objs.size,pU V.w.params s.toks l k1 nl k2 pg k3 rw k4 ld k5 lv k6 pc),(pc,aa (dh (dP [] f)) 7)]++[(62,aP (fy V.w.params) x2'),(69,aP (eo V.w.params) x1')]) s4:=hE4.at'.sel (js:=[0,6,4,5]) (by decide)
 have hZ6:=hF4.sel [0,6]
 refine Bg G h6 (hp NS h6) (List.mem_append_left _ (List.mem_append_right _ (.head _))) (λp hp=>List.mem_append_left _ (List.mem_append_left _ (List.mem_append_right _ (List.mem_append_left _ hp)))) (λp hp=>List.mem_append_right _ hp) (hA1.weak (by decide)) hK4.less hZ6 λs5 hE5=> ?_
 refine⟨rfl,hE5.at'.base,?_,⟨x2',?_⟩,⟨x1',?_⟩⟩
 ·intro b o e hb
  by_cases hbl:b=l
  ·subst hbl
   obtain⟨h1,h2,_⟩:=hF4 (b,aa (aL qs0) ep) (List.mem_append_left _ (List.mem_append_left _ (List.mem_append_left _ (.head _))))
   have he:=hs.get (b,aa (aL qs0) ep) (.head _)
   rw[e] at he
   refine hE5.pres b o (h1.trans he.symm) λhm=>h2 ?_
   have hm:b∈[s.heap.objs.size,pc]:=hm
   simp only[List.mem_cons,List.not_mem_nil,or_false] at hm
   rcases hm with hm|hm
   ·rw[hm];exact .head _
   ·rw[hm];exact .tail _ (.tail _ (.tail _ (.tail _ (.tail _ (.tail _ (.head _))))))
  ·have hlt:b<s.heap.objs.size:=Heap.lt_size e
   have g1:=hs1.grow
   have g2:=hE2.grow
   have g3:=hE3.grow
   have q1:=hs1.pres b o e (λhm=>by
    have hm:b∈[l]:=hm
    exact hbl (List.mem_singleton.mp hm))
   have q2:=hE2.pres b o q1 (λhm=>by
    simp only[List.mem_cons,List.not_mem_nil,or_false] at hm
    rcases hm with hm|hm|hm
    ·exact gc hlt (Nat.le_refl _) hm
    ·exact gc hlt (Nat.le_succ _) hm
    ·exact hbl hm)
   have q3:=hE3.pres b o q2 (λhm=>by
    simp only[List.mem_cons,List.not_mem_nil,or_false] at hm
    rcases hm with hm|hm|hm
    ·exact gc hlt (Nat.le_refl _) hm
    ·exact gc hlt (Nat.le_succ _) hm
    ·exact gc hlt (Nat.le_trans g1 hdl) hm)
   have q4:=hE4.pres b o q3 (λhm=>by
    simp only[List.mem_cons,List.not_mem_nil,or_false] at hm
    rcases hm with hm|hm|hm|hm|hm|hm
    ·exact gc hlt (Nat.le_refl _) hm
    ·exact gc hlt (Nat.le_trans (Nat.le_trans g1 g2) hfr.1) hm
    ·exact gc hlt (Nat.le_trans (Nat.le_trans g1 g2) hfr.2.1) hm
    ·exact gc hlt (Nat.le_trans (Nat.le_trans g1 g2) hfr.2.2) hm
    ·exact hb (by rw[hm];exact .head _)
    ·exact hb (by rw[hm];exact .tail _ (.head _)))
   refine hE5.pres b o q4 (λhm=>by
    have hm:b∈[s.heap.objs.size,pc]:=hm
    simp only[List.mem_cons,List.not_mem_nil,or_false] at hm
    rcases hm with hm|hm
    ·exact gc hlt (Nat.le_refl _) hm
    ·exact gc hlt (Nat.le_trans (Nat.le_trans (Nat.le_trans g1 g2) g3) hpc) hm)
 ·have nd:[s.heap.objs.size,pc,62,69].Nodup:=hK4.nodup
  refine hE5.pres 62 _ (hK4.get (62,aP (fy V.w.params) x2') (.tail _ (.tail _ (.head _)))) λhm=> ?_
  have hm:62∈[s.heap.objs.size,pc]:=hm
  simp only[List.mem_cons,List.not_mem_nil,or_false] at hm
  simp at nd
  lia
 ·have nd:[s.heap.objs.size,pc,62,69].Nodup:=hK4.nodup
  refine hE5.pres 69 _ (hK4.get (69,aP (eo V.w.params) x1') (.tail _ (.tail _ (.tail _ (.head _))))) λhm=> ?_
  have hm:69∈[s.heap.objs.size,pc]:=hm
  simp only[List.mem_cons,List.not_mem_nil,or_false] at hm
  simp at nd
  lia
set_option tactic.hygienic true
noncomputable def jI:KT→List Nat
 | .nil=>[]
 | .node v l r=>(match v with|some _=>[0]|none=>[])++((jI l).map (λi=>2*i+1)++(jI r).map (λi=>2*i+2))
theorem iP:∀(t:KT) (a:Nat) (o:Obj),t.get a=some o→a∈jI t
 | .nil,a,o,h=>nomatch h
 | .node v l r,a,o,h=>by
  unfold KT.get at h
  unfold jI
  split at h
  ·rename_i h0
   have h0:=Nat.eq_of_beq_eq_true h0
   subst h0
   rw[h]
   exact .head _
  ·rename_i h0
   have h0:=Nat.ne_of_beq_eq_false h0
   split at h
   ·rename_i h1
    have h1:=Nat.eq_of_beq_eq_true h1
    exact List.mem_append_right _ (List.mem_append_left _ (List.mem_map.mpr ⟨a/2,iP l _ o h,by have:=Nat.div_add_mod a 2;rw[h1] at this;exact this⟩))
   ·rename_i h1
    have h1:=Nat.ne_of_beq_eq_false h1
    exact List.mem_append_right _ (List.mem_append_right _ (List.mem_map.mpr ⟨a/2-1,iP r _ o h,by lia⟩))
structure ru(P:Params)(kt:KT):Prop where
 get:(jI (ck P)).map kt.get=(jI (ck P)).map (ck P).get
 e62:kt.get 62=some (tableObj #[])
 e69:kt.get 69=some (tableObj #[])
theorem qq(P):((jI (ck P)).all λa=> !(Nat.beq a 62||Nat.beq a 69||Nat.beq a 224))=true:=by kernel_rfl!
set_option tactic.hygienic false
theorem m7:∀{vs:List Value} {ns:List Int},IntsAre vs ns→∃qs:List (Int×Nat),vs=aL qs∧qs.length=ns.length
 |_,_,.nil=>⟨[],rfl,rfl⟩
 |_,_,.cons n t h=>by
  obtain⟨qs,h1,h2⟩:=m7 h
  exact⟨(n,t)::qs,by rw[h1];rfl,by rw[List.length_cons,List.length_cons,h2]⟩
noncomputable def uC(w:World)(s₁:Shared):Gw:=⟨PySem.Challenge.pw_ti0049_01,w,s₁.heap,[62,69,224],s₁.drawn,s₁.os,AllBare⟩
theorem sf{w:World}{s₁:Shared}{kt:KT}(K:ru w.params kt)(ZH:KT.Holds s₁.heap 1 0 kt)(hl:s₁.heap.NoLimit):au (uC w s₁):=by
 refine⟨rfl,λa o h=> ?_,λs B=> ?_⟩
 ·have hm:=iP _ _ _ h
  have e:kt.get a=(ck w.params).get a:=List.map_inj_left.mp K.get a hm
  refine⟨kt_at ZH (e.trans h),λht=> ?_⟩
  have:=List.all_eq_true.mp (qq w.params) a hm
  have ht:a∈[62,69,224]:=ht
  simp only[List.mem_cons,List.not_mem_nil,or_false] at ht
  rcases ht with rfl|rfl|rfl<;>exact absurd this (by decide)
 ·obtain⟨mc,⟨o,es,ep,ho,r⟩,q⟩:=hl
  exact⟨mc,⟨o,es,ep,B.old _ _ ho (by show cStatics∉[62,69,224];decide),r⟩,q⟩
theorem pq{h:Heap}{a:Addr}{m m':Str→Option Value}(h1:h.Ns a m)(h2:h.Ns a m')(x:Str):m x=m' x:=by
 obtain⟨o,es,ep,ho,hd,_,hf⟩:=h1
 obtain⟨o',es',ep',ho',hd',_,hf'⟩:=h2
 rw[ho] at ho'
 obtain rfl:=Option.some.inj ho'
 rw[hd] at hd'
 injection hd' with e1 e2
 subst e1
 rw[←hf,←hf']
theorem Ch{w:World}{s₁:Shared}{kt:KT}{p:Program}{loose:List Str}{mean:ExcName→Option Value}{mg mb:Str→Option Value}(G:au (uC w s₁))(T:PyProof.Rows.Top p loose mean mg mb s₁.heap):fS (uC w s₁):=by
 refine⟨?_,λx=>Iff.rfl,.head _,.tail _ (.head _)⟩
 obtain⟨bm,ob,h1,h2,h3,h4,h5,h6⟩:=T.bmain
 have h0:s₁.heap.get? 3=some (bC w.params 3):=(G.kt 3 _ (xg w.params)).1
 have e:=pq T.g (hZ h0 (xj w.params)) "__builtins__"
 rw[h1,In,A9] at e
 injection e with e
 injection e with e
 subst e
 exact⟨ob,h3,(by show 4∉[62,69,224];decide),h4,h5,h6⟩
theorem qM:Bd 8 callerA:=by
 refine⟨?_,?_,rfl⟩<;>decide
theorem Be(hp:∀NS:List Int,NS.length=6→eR NS){w:World}{s₁:Shared}{kt:KT}{p:Program}{loose:List Str}{mean:ExcName→Option Value}{mg mb:Str→Option Value}{ns:List Int}{vs:List Value}
  (K:ru w.params kt) (ZH:KT.Holds s₁.heap 1 0 kt) (T:PyProof.Rows.Top p loose mean mg mb s₁.heap) (hg:s₁.gens=#[]) (hl:s₁.heap.get? 224=some {cls:= .type "list",data:= .seq vs.toArray}) (hv:IntsAre vs ns) (hn:ns.length≤63):
  wpAny (model PySem.Challenge.pw_ti0049_01 w) callerA (PySem.call (.ref 223) [.ref 224]) (λv s'=>v= .bool true∧OldK s₁.heap s'.heap∧s'.os=s₁.os∧AllBare s'.gens) (λO O=>False) s₁:=by
 have G:=sf K ZH T.nolimit
 have hM:=Ch (kt:=kt) G T
 obtain⟨qs,rfl,hq⟩:=m7 hv
 have e62:s₁.heap.get? 62=some (tableObj #[]):=kt_at ZH K.e62
 have e69:s₁.heap.get? 69=some (tableObj #[]):=kt_at ZH K.e69
 have t62:=(gG (p:=fy w.params) (x:=0) (dR G (h:=s₁.heap) (λb o h O=>h) (Aq _)) (AA _) (Av _) e62).2
 have t69:=(gG (p:=eo w.params) (x:=0) (dR G (h:=s₁.heap) (λb o h O=>h) (Ap _)) (Az _) (Au _) e69).2
 have hs:At (uC w s₁) [(224,aa (aL qs) 0),(62,aP (fy w.params) 0),(69,aP (eo w.params) 0)] s₁:=by
  refine⟨⟨λb o h O=>h,Nat.le_refl _,(by show AllBare s₁.gens;rw[hg];exact .empty),rfl,rfl⟩,λp hp=> ?_,(by simp),λp hp=> ?_⟩
  ·simp only[List.mem_cons,List.not_mem_nil,or_false] at hp
   rcases hp with rfl|rfl|rfl
   ·exact hl
   ·exact e62
   ·exact e69
  ·right
   simp only[List.mem_cons,List.not_mem_nil,or_false] at hp
   rcases hp with rfl|rfl|rfl
   ·exact .tail _ (.tail _ (.head _))
   ·exact .head _
   ·exact .tail _ (.head _)
 have main:=th G hM hp (qs0:=qs) (by lia) qM hs
 refine wpAny_call (codeAny_mono main ?_)
 rintro r s' ⟨rfl,B,hP,⟨y1,g1⟩,⟨y2,g2⟩⟩
 refine⟨rfl,⟨λb o h=> ?_,λb o h=> ?_⟩,B.os,B.gens⟩
 ·by_cases h1:b=62
  ·subst h1
   rw[e62] at h
   obtain rfl:=Option.some.inj h
   refine .inr (.inl ⟨t62.isCodeTable,rfl,#[],ln (fy w.params).line (fy w.params).col y1,rfl,?_⟩)
   rw[g1,Array.empty_append];rfl
  ·by_cases h2:b=69
   ·subst h2
    rw[e69] at h
    obtain rfl:=Option.some.inj h
    refine .inr (.inl ⟨t69.isCodeTable,rfl,#[],ln (eo w.params).line (eo w.params).col y2,rfl,?_⟩)
    rw[g2,Array.empty_append];rfl
   ·exact .inl (hP b o h (λhm=>by
     simp only[List.mem_cons,List.not_mem_nil,or_false] at hm
     exact hm.elim h1 h2))
 ·by_cases h1:b=62
  ·exact⟨_,h1▸g1⟩
  ·by_cases h2:b=69
   ·exact⟨_,h2▸g2⟩
   ·exact⟨o,hP b o h (λhm=>by
     simp only[List.mem_cons,List.not_mem_nil,or_false] at hm
     exact hm.elim h1 h2)⟩
noncomputable def eu(T:fw)(i:Nat):Nat:=T.countP λp=>Nat.beq p.1 i
noncomputable def wh(a0 a1 a2:Nat):Nat:=if 0<a2 then 3 else if 0<a1 then 2 else if 0<a0 then 1 else 0
noncomputable def uf(a0 a1 a2:Nat)(i:Nat):Int:=if i=0 then a0 else if i=1 then a1 else if i=2 then a2 else 0
noncomputable def eC(a0 a1 a2 sp:Nat):da:=⟨sp,a0+2*a1+3*a2+sp,a0+a1+a2,wh a0 a1 a2,uf a0 a1 a2⟩
theorem jn(a0 a1 a2 sp:Nat):(eC a0 a1 a2 sp).step 32=eC a0 a1 a2 (sp+1):=by
 unfold da.step eC
 rw[if_neg (by decide)]
 simp only[da.mk.injEq,and_true,true_and]
 lia
theorem mM(a0 a1 a2:Nat):∀k sp,(List.replicate k 32).foldl da.step (eC a0 a1 a2 sp)=eC a0 a1 a2 (sp+k)
 |0,sp=>rfl
 |k+1,sp=>by
  rw[List.replicate_succ,List.foldl_cons,jn,mM a0 a1 a2 k (sp+1)]
  congr 1;lia
theorem Bq(a0 a1 a2:Nat):(eC a0 a1 a2 0).step 9=eC (a0+1) a1 a2 0:=by
 unfold da.step eC
 rw[if_pos rfl]
 simp only[da.mk.injEq,true_and]
 refine⟨by lia,by lia,?_,?_⟩
 ·unfold wh
  split
  ·lia
  ·split
   ·lia
   ·split<;>simp
 ·funext i
  unfold uf
  by_cases h:i=0
  ·simp[h]
  ·simp[h]
theorem xY(a0 a1 a2:Nat):(eC a0 a1 a2 1).step 9=eC a0 (a1+1) a2 0:=by
 unfold da.step eC
 rw[if_pos rfl]
 simp only[da.mk.injEq,true_and]
 refine⟨by lia,by lia,?_,?_⟩
 ·unfold wh
  split
  ·lia
  ·split
   ·simp
   ·split<;>simp
 ·funext i
  unfold uf
  by_cases h:i=1
  ·simp[h]
  ·by_cases h0:i=0
   ·simp[h0]
   ·simp[h,h0]
theorem xX(a0 a1 a2:Nat):(eC a0 a1 a2 2).step 9=eC a0 a1 (a2+1) 0:=by
 unfold da.step eC
 rw[if_pos rfl]
 simp only[da.mk.injEq,true_and]
 refine⟨by lia,by lia,?_,?_⟩
 ·unfold wh
  split
  ·simp
  ·split
   ·simp
   ·split<;>simp
 ·funext i
  unfold uf
  by_cases h:i=2
  ·simp[h]
  ·by_cases h0:i=0
   ·simp[h0]
   ·by_cases h1:i=1
    ·simp[h1]
    ·simp[h,h0,h1]
theorem kW:∀(T:fw),(∀p∈T,p.1<3)→∀a0 a1 a2,(T.flatMap λp=>cK p.1).foldl da.step (eC a0 a1 a2 0)=eC (a0+eu T 0) (a1+eu T 1) (a2+eu T 2) 0
 |[],_,a0,a1,a2=>rfl
 |(k,u)::T,h,a0,a1,a2=>by
  have hk:k<3:=h _ (.head _)
  have ih:=kW T λp hp=>h p (.tail _ hp)
  rw[List.flatMap_cons,List.foldl_append]
  have e:k=0∨k=1∨k=2:=by lia
  rcases e with rfl|rfl|rfl
  ·show(T.flatMap λp=>cK p.1).foldl da.step ((eC a0 a1 a2 0).step 9)=_
   rw[Bq,ih]
   simp only[eu,List.countP_cons]
   congr 1<;>simp<;>lia
  ·show(T.flatMap λp=>cK p.1).foldl da.step (((eC a0 a1 a2 0).step 32).step 9)=_
   rw[jn,xY,ih]
   simp only[eu,List.countP_cons]
   congr 1<;>simp<;>lia
  ·show(T.flatMap λp=>cK p.1).foldl da.step ((((eC a0 a1 a2 0).step 32).step 32).step 9)=_
   rw[jn,jn,xX,ih]
   simp only[eu,List.countP_cons]
   congr 1<;>simp<;>lia
theorem jV(a b:fw)(i:Nat):eu (a++b) i=eu a i+eu b i:=List.countP_append
theorem jU(T:fw)(k i:Nat):eu (T.drop k++T.take k) i=eu T i:=by
 rw[jV,Nat.add_comm,←jV,List.take_append_drop]
theorem mI{qs:fw}(hq:∀p∈qs,p.1<4)(x:Int)(d:Nat):bX (c8 qs x d)=eC (eu (az qs d) 0) (eu (az qs d) 1) (eu (az qs d) 2) (d-(az qs d).length):=by
 have h3:∀p∈az qs d,p.1<3:=λp hp=>by
  obtain⟨h1,h2⟩:=List.mem_filter.mp hp
  have h4:=hq p (List.mem_of_mem_take h1)
  have h5:p.1≠3:=λe=>by
   unfold gJ at h2;rw[e] at h2;cases h2
  lia
 unfold bX c8
 rw[List.foldl_append]
 have:=kW ((az qs d).drop (jE x (az qs d).length)++(az qs d).take (jE x (az qs d).length)) (λp hp=>by
  rcases List.mem_append.mp hp with hp|hp
  ·exact h3 p (List.mem_of_mem_drop hp)
  ·exact h3 p (List.mem_of_mem_take hp)) 0 0 0
 rw[show(⟨0,0,0,0,λO=>0⟩:da)=eC 0 0 0 0 from by
  unfold eC wh uf
  simp,this,mM,jU,jU,jU]
 simp only[Nat.zero_add]
theorem po:∀k b,no b (List.replicate k 32)
 |0,_=>trivial
 |k+1,b=> .inr ⟨rfl,po k (b+1)⟩
theorem kY:∀(T:fw),(∀p∈T,p.1<3)→∀k,no 0 ((T.flatMap λp=>cK p.1)++List.replicate k 32)
 |[],_,k=>po k 0
 |(m,u)::T,h,k=>by
  have hk:m<3:=h _ (.head _)
  have ih:=kY T (λp hp=>h p (.tail _ hp)) k
  rw[List.flatMap_cons,List.append_assoc]
  have e:m=0∨m=1∨m=2:=by lia
  rcases e with rfl|rfl|rfl
  ·exact .inl ⟨rfl,by decide,ih⟩
  ·exact .inr ⟨rfl,.inl ⟨rfl,by decide,ih⟩⟩
  ·exact .inr ⟨rfl,.inr ⟨rfl,.inl ⟨rfl,by decide,ih⟩⟩⟩
theorem lE{qs:fw}(hq:∀p∈qs,p.1<4)(d:Nat):∀p∈az qs d,p.1<3:=λp hp=>by
 obtain⟨h1,h2⟩:=List.mem_filter.mp hp
 have h4:=hq p (List.mem_of_mem_take h1)
 have h5:p.1≠3:=λe=>by
  unfold gJ at h2;rw[e] at h2;cases h2
 lia
theorem sX{qs:fw}(hq:∀p∈qs,p.1<4)(x:Int)(d:Nat):no 0 (c8 qs x d):=kY _ (λp hp=>by
  rcases List.mem_append.mp hp with hp|hp
  ·exact lE hq d p (List.mem_of_mem_drop hp)
  ·exact lE hq d p (List.mem_of_mem_take hp)) _
theorem k7:∀(T:fw),(T.flatMap λp=>cK p.1).length≤3*T.length
 |[]=>Nat.le_refl _
 |(m,u)::T=>by
  rw[List.flatMap_cons,List.length_append,List.length_cons]
  have:=k7 T
  have h:(cK (((m,u):Nat×Nat).1:Int)).length≤3:=by
   unfold cK
   split
   ·decide
   ·split
    ·decide
    ·split<;>decide
  lia
theorem tg(qs:fw)(x:Int){d:Nat}(hd:d≤5):(c8 qs x d).length≤100:=by
 unfold c8
 rw[List.length_append,List.length_replicate]
 have h:=k7 ((az qs d).drop (jE x (az qs d).length)++(az qs d).take (jE x (az qs d).length))
 have h2:((az qs d).drop (jE x (az qs d).length)++(az qs d).take (jE x (az qs d).length)).length=(az qs d).length:=by
  exact Id _ _
 have:=(ew qs d).1
 lia
structure uy(x:WS)(a0 a1 a2 sp:Nat):Prop where
 n:x.n=a0+2*a1+3*a2+sp
 nt:x.nt=a0+a1+a2
 l:x.l=wh a0 a1 a2
 c:x.c=uf a0 a1 a2
 tr:x.tr=sp
theorem r9{x:WS}{a0 a1 a2 sp:Nat}(h:uy x a0 a1 a2 sp)(ts:Nat):eD x ts=sp+ts*((if ts=2 then(a2:Int) else 0)+(a0+a1+a2)):=by
 unfold eD
 rw[h.tr,h.nt,h.l,h.c]
 congr 3
 unfold wh uf
 by_cases h2:ts=2
 ·simp only[h2,true_and]
  by_cases h3:0<a2
  ·simp[h3]
  ·have:a2=0:=by lia
   subst this
   by_cases h1:0<a1
   ·simp[h1]
   ·by_cases h0:0<a0<;>simp[h1,h0]
 ·simp[h2]
theorem mS{ix iy:Nat→Int}(h:∀ts,2≤ts→ix ts<iy ts):∀r ts,2≤ts→nH ix iy r ts=true
 |0,_,_=>rfl
 |r+1,ts,h2=>by
  unfold nH
  have:=h ts h2
  rw[if_neg (by lia)]
  exact mS h r (ts+1) (by lia)
theorem ta{x y:WS}{a0 a1 a2 sp b0 b1 b2 sq:Nat}(hx:uy x a0 a1 a2 sp)(hy:uy y b0 b1 b2 sq)(h0:a0≤b0)(h1:a1≤b1)(h2:a2≤b2)(hs:sp≤sq)(hlt:a0+a1+a2+sp<b0+b1+b2+sq):dJ x y=true:=by
 unfold dJ
 have e1:=hx.n
 have e2:=hy.n
 rw[if_neg (by lia)]
 split
 ·have e3:=hx.nt
  have e4:=hy.nt
  rw[decide_eq_true_eq]
  lia
 ·refine mS (λts hts=> ?_) _ _ (Nat.le_refl _)
  rw[r9 hx,r9 hy]
  obtain⟨k,hk⟩:∃k:Nat,((if ts=2 then(b2:Int) else 0)+(b0+b1+b2))=((if ts=2 then(a2:Int) else 0)+(a0+a1+a2))+k:=⟨((if ts=2 then(b2:Int) else 0)+(b0+b1+b2)-((if ts=2 then(a2:Int) else 0)+(a0+a1+a2))).toNat,by split<;>lia⟩
  have hz:k=0→a0+a1+a2=b0+b1+b2:=λh0=>by
   subst h0
   by_cases ht:ts=2
   ·rw[if_pos ht,if_pos ht] at hk;lia
   ·rw[if_neg ht,if_neg ht] at hk;lia
  rw[hk]
  generalize ((if ts=2 then(a2:Int) else 0)+(a0+a1+a2))=X
  rw[Int.mul_add]
  generalize (ts:Int)*X=Y
  by_cases hk0:k=0
  ·have:=hz hk0
   subst hk0
   have e:(ts:Int)*((0:Nat):Int)=0:=Int.mul_zero _
   rw[e]
   lia
  ·have:(0:Int)<(ts:Int)*(k:Int):=Int.mul_pos (by lia) (by lia)
   generalize (ts:Int)*(k:Int)=Z at this
   lia
theorem te{x y:WS}{a0 a1 a2 sp b0 b1 b2 sq:Nat}(hx:uy x a0 a1 a2 sp)(hy:uy y b0 b1 b2 sq)(h0:b0≤a0)(h1:b1≤a1)(h2:b2≤a2)(hs:sq≤sp):dJ x y=false:=by
 unfold dJ
 have e1:=hx.n
 have e2:=hy.n
 rw[if_pos (by lia)]
theorem AP{x:WS}{a0 a1 a2 sp:Nat}(h:uy x a0 a1 a2 sp):x.cs=if 0<a2 then [(a0:Int),a1,a2] else if 0<a1 then [(a0:Int),a1] else if 0<a0 then [(a0:Int)] else []:=by
 unfold WS.cs
 rw[h.l,h.c]
 unfold wh
 by_cases h2:0<a2
 ·simp[h2,uf]
 ·by_cases h1:0<a1
  ·simp[h2,h1,uf]
  ·by_cases h0:0<a0<;>simp[h2,h1,h0,uf]
theorem zK{a0 a1 a2 b0 b1 b2:Nat}(h:(if 0<a2 then [(a0:Int),a1,a2] else if 0<a1 then [(a0:Int),a1] else if 0<a0 then [(a0:Int)] else [])=(if 0<b2 then [(b0:Int),b1,b2] else if 0<b1 then [(b0:Int),b1] else if 0<b0 then [(b0:Int)] else [])):a0=b0∧a1=b1∧a2=b2:=by
 by_cases x2:0<a2<;>by_cases x1:0<a1<;>by_cases x0:0<a0<;>by_cases y2:0<b2<;>by_cases y1:0<b1<;>by_cases y0:0<b0<;>simp[x2,x1,x0,y2,y1,y0] at h<;>lia
theorem zG{x y:WS}{a0 a1 a2 sp b0 b1 b2 sq:Nat}(hx:uy x a0 a1 a2 sp)(hy:uy y b0 b1 b2 sq):ky x y=decide (a0=b0∧a1=b1∧a2=b2∧sp=sq):=by
 unfold ky
 rw[AP hx,AP hy,hx.tr,hy.tr,Bool.eq_iff_iff]
 simp only[Bool.and_eq_true,decide_eq_true_eq]
 constructor
 ·rintro⟨h1,h2⟩
  obtain⟨e0,e1,e2⟩:=zK h1
  exact⟨e0,e1,e2,by lia⟩
 ·rintro⟨rfl,rfl,rfl,rfl⟩
  exact⟨rfl,rfl⟩
theorem fJ{qs:fw}(hq:∀p∈qs,p.1<4)(d:Nat):eu (az qs d) 0+eu (az qs d) 1+eu (az qs d) 2=(az qs d).length:=by
 have h:=lE hq d
 generalize az qs d=T at h
 induction T with
 |nil=>rfl
 |cons p T ih=>
  have:=ih λq hq=>h q (.tail _ hq)
  have hp:=h p (.head _)
  obtain⟨m,u⟩:=p
  have hp:m<3:=hp
  have e:m=0∨m=1∨m=2:=by lia
  unfold eu at this⊢
  rcases e with rfl|rfl|rfl<;>simp[List.countP_cons]<;>lia
theorem sw(qs:fw){d d':Nat}(h:d≤d'):az qs d'=az qs d++((qs.drop d).take (d'-d)).filter gJ:=by
 unfold az
 rw[←List.filter_append,←List.take_add]
 congr 2;lia
theorem kU(qs:fw){d d':Nat}(h:d≤d'):(∀i,eu (az qs d) i≤eu (az qs d') i)∧d-(az qs d).length≤d'-(az qs d').length:=by
 rw[sw qs h]
 refine⟨λi=>by rw[jV];lia,?_⟩
 have h1:=(ew qs d).1
 have h2:(((qs.drop d).take (d'-d)).filter gJ).length≤d'-d:=Nat.le_trans (List.length_filter_le _ _) (by rw[List.length_take];exact Nat.min_le_left _ _)
 rw[List.length_append]
 omega
noncomputable def z4(qs:fw)(x:WS)(d:Nat):Prop:=uy x (eu (az qs d) 0) (eu (az qs d) 1) (eu (az qs d) 2) (d-(az qs d).length)
theorem yE{qs:fw}(hq:∀p∈qs,p.1<4){x y:WS}{d d':Nat}(hx:z4 qs x d)(hy:z4 qs y d'):dJ x y=decide (d<d'):=by
 by_cases h:d<d'
 ·rw[decide_eq_true h]
  obtain⟨m1,m2⟩:=kU qs (Nat.le_of_lt h)
  refine ta hx hy (m1 0) (m1 1) (m1 2) m2 ?_
  have t1:=fJ hq d
  have t2:=fJ hq d'
  have l1:=(ew qs d).1
  have l2:=(ew qs d').1
  lia
 ·rw[decide_eq_false h]
  obtain⟨m1,m2⟩:=kU qs (Nat.le_of_not_lt h)
  exact te hx hy (m1 0) (m1 1) (m1 2) m2
theorem HM{qs:fw}(hq:∀p∈qs,p.1<4){x y:WS}{d d':Nat}(hx:z4 qs x d)(hy:z4 qs y d'):ky x y=decide (d=d'):=by
 rw[zG hx hy]
 have t1:=fJ hq d
 have t2:=fJ hq d'
 have l1:=(ew qs d).1
 have l2:=(ew qs d').1
 by_cases h:d=d'
 ·subst h;simp
 ·rw[decide_eq_false h,decide_eq_false]
  rintro⟨e0,e1,e2,e3⟩
  lia
theorem vy(x:Int):lr x=7∨lr x=9∨lr x=25:=by
 unfold lr
 split
 ·exact .inl rfl
 ·split
  ·exact .inr (.inl rfl)
  ·exact .inr (.inr rfl)
noncomputable def q6:Nat→Nat→List (List Nat)
 |0,_=>[[]]
 |k+1,m=>(List.range m).flatMap λd=>(q6 k (d+2)).map λr=>d::r
theorem lc:∀(NS:List Int) (m:Nat),1≤m→(af ((m:Int)-2) NS).map (·.1)∈q6 NS.length m
 |[],m,_=> .head _
 |x::r,m,hm=>by
  rw[af,List.map_cons,List.length_cons,q6]
  have h0:(0:Int)<(m:Int)-2+2:=by lia
  have h1:=Int.fmod_nonneg_of_pos x h0
  have h2:=Int.fmod_lt_of_pos x h0
  refine List.mem_flatMap.mpr ⟨(x.fmod ((m:Int)-2+2)).toNat,List.mem_range.mpr (by lia),List.mem_map.mpr ⟨_,lc r ((x.fmod ((m:Int)-2+2)).toNat+2) (by lia),?_⟩⟩
  show _::_=_::_
  congr 4
  lia
theorem rT:∀k m,∀ds∈q6 k m,∀d∈ds,d+1<m+k+1
 |0,m,ds,h,d,hd=>by
  rw[q6,List.mem_singleton] at h
  subst h;cases hd
 |k+1,m,ds,h,d,hd=>by
  rw[q6] at h
  obtain⟨e,he,h⟩:=List.mem_flatMap.mp h
  obtain⟨r,hr,rfl⟩:=List.mem_map.mp h
  have he:=List.mem_range.mp he
  rcases e6 hd with rfl|hd
  ·lia
  ·have:=rT k (e+2) r hr d hd
   lia
theorem mB(z:Int):∀p∈(dH z).map λq=>(q,0),p.1<4:=λp hp=>by
 obtain⟨q,hq,rfl⟩:=List.mem_map.mp hp
 unfold dH at hq
 simp only[gV,List.not_mem_nil,or_false] at hq
 rcases hq with rfl|rfl|rfl|rfl|rfl<;>exact lR _ _
section
variable {NS:List Int} (h6:NS.length=6)
include h6
theorem n9:(af (-1) NS).map (·.1)∈q6 6 1:=by
 have:=lc NS 1 (Nat.le_refl _)
 rw[h6] at this
 exact this
theorem w4:∀e∈af (-1) NS,(e.2=7∨e.2=9∨e.2=25)∧e.1≤5:=λe he=>by
 refine⟨?_,?_⟩
 ·have:∀(NS:List Int) (dep:Int),∀e∈af dep NS,e.2=7∨e.2=9∨e.2=25:=by
   intro NS
   induction NS with
   |nil=>intro dep e he;cases he
   |cons x r ih=>
    intro dep e he
    rw[af] at he
    rcases e6 he with rfl|he
    ·exact vy x
    ·exact ih _ e he
  exact this NS _ e he
 ·have:=rT 6 1 _ (n9 h6) e.1 (List.mem_map_of_mem he)
  have hall:(q6 6 1).all (λds=>ds.all λd=>Nat.ble d 5)=true:=by decide+kernel
  have h1:=List.all_eq_true.mp hall _ (n9 h6)
  exact Nat.le_of_ble_eq_true (List.all_eq_true.mp h1 e.1 (List.mem_map_of_mem he))
theorem oa:(af (-1) NS).length=6:=by rw[dG,h6]
theorem wD:∀p∈bp NS,p.2∈[40,91,123]∧no 0 p.1∧(bX p.1).b≤5∧p.1.length≤100:=λp hp=>by
 obtain⟨i,hi,rfl⟩:=List.mem_map.mp hp
 have hi:=List.mem_range.mp hi
 have hm:(af (-1) NS).getD i (0,0)∈af (-1) NS:=bV (by rw[oa h6];exact hi)
 obtain⟨hk,hd⟩:=w4 h6 _ hm
 refine⟨?_,sX (mB _) _ _,?_,tg _ _ hd⟩
 ·show uh _∈_
  rcases hk with e|e|e<;>rw[e]<;>decide
 ·show(bX (c8 _ _ _)).b≤5
  rw[mI (mB _)]
  show _-_≤5
  lia
theorem ye{i:Nat}(hi:i<6):dY (bp NS) i=(c8 ((dH NS.sum).map λq=>(q,0)) (NS.getD i 0) ((af (-1) NS).getD i (0,0)).1,uh ((af (-1) NS).getD i (0,0)).2):=by
 unfold dY bp
 rw[List.getD_eq_getElem?_getD,List.getElem?_map,List.getElem?_range hi];rfl
theorem lu(tx τ:Nat→Nat){i:Nat}(hi:i<6):z4 ((dH NS.sum).map λq=>(q,0)) (bZ (bp NS) tx τ i) (((af (-1) NS).map (·.1)).getD i 0):=by
 have e:((af (-1) NS).map (·.1)).getD i 0=((af (-1) NS).getD i (0,0)).1:=cq (by rw[oa h6];exact hi)
 have hw:=mI (mB NS.sum) (NS.getD i 0) ((af (-1) NS).getD i (0,0)).1
 unfold z4 bZ
 rw[ye h6 hi,e]
 rw[hw]
 exact⟨rfl,rfl,rfl,rfl,rfl⟩
theorem yD(tx τ:Nat→Nat)(hL:cg (dN (bZ (bp NS) tx τ))){p q:Int}(hp:p∈[(0:Int),1,2,3,4,5])(hq:q∈[(0:Int),1,2,3,4,5]):gO (bZ (bp NS) tx τ) p q=Dq ((af (-1) NS).map (·.1)) p q:=by
 have hp':p.toNat<6:=by
  simp only[List.mem_cons,List.not_mem_nil,or_false] at hp;lia
 have hq':q.toNat<6:=by
  simp only[List.mem_cons,List.not_mem_nil,or_false] at hq;lia
 have e:dJ (bZ (bp NS) tx τ q.toNat) (bZ (bp NS) tx τ p.toNat)=Dq ((af (-1) NS).map (·.1)) p q:=yE (mB _) (lu h6 tx τ hq') (lu h6 tx τ hp')
 unfold gO dy
 split
 ·rename_i hs
  have:=hL.same (List.mem_map_of_mem (List.mem_range.mpr hp')) (List.mem_map_of_mem (List.mem_range.mpr hq')) hs.symm
  rw[←e,this]
  unfold dJ
  rw[if_pos (Int.le_refl _)]
 ·exact e
end
theorem gS{B B':Int→Int→Bool}:∀(b:Nat) (ns:List Int),(∀p∈ns,∀q∈ns,B p q=B' p q)→je B b ns=je B' b ns
 |0,_,_=>rfl
 |b+1,[],h=>gS b [] h
 |b+1,x::r,h=>by
  have e:((x::r).filter λp=>((x::r).filter (B p)).isEmpty)=((x::r).filter λp=>((x::r).filter (B' p)).isEmpty):=by
   refine List.filter_congr λp hp=> ?_
   congr 1
   exact List.filter_congr λq hq=>h p hp q hq
  unfold je
  dsimp only
  rw[e]
  congr 1
  exact gS b _ λp hp q hq=>h p (List.mem_filter.mp hp).1 q (List.mem_filter.mp hq).1
theorem yj{NS:List Int}(h6:NS.length=6)(tx τ:Nat→Nat)(hL:cg (dN (bZ (bp NS) tx τ))):je (gO (bZ (bp NS) tx τ)) 6 [0,1,2,3,4,5]=bB ((af (-1) NS).map (·.1)):=
 gS _ _ λp hp q hq=>yD h6 tx τ hL hp hq
theorem BA{NS:List Int}(h6:NS.length=6)(tx τ:Nat→Nat){i j:Nat}(hi:i<6)(hj:j<6):ky (bZ (bp NS) tx τ i) (bZ (bp NS) tx τ j)=decide (((af (-1) NS).map (·.1)).getD i 0=((af (-1) NS).map (·.1)).getD j 0):=
 HM (mB _) (lu h6 tx τ hi) (lu h6 tx τ hj)
noncomputable def tI(as ls:List Int):Nat→Nat→List Int
 |_,0=>[]
 |p,k+1=>(if(p:Int)∈as then [((2*p+2:Nat):Int)] else if(p:Int)∈ls then [((2*p+1:Nat):Int)] else [])++tI as ls (p+1) k
noncomputable def tO(n:Nat):List (List Int)→List Int
 |p::q::r=>tI p q 0 n++tO n (q::r)
 |_=>[]
noncomputable def tW(LV:List (List Int)):List Int:=tO 6 (([]::LV)++[[]])
noncomputable def nK(cs:List Int):List Nat:=(List.range cs.length).filter λi=>cx (cs.getD i 0)
noncomputable def mr(cs:List Int)(o:Nat):Nat:=if o<(nK cs).length then(nK cs).getD o 0 else cs.length
noncomputable def j8:Nat→Nat→List Int→List (List Int)
 |0,_,_=>[]
 |k+1,o,cs=>cs.take (mr cs o)::j8 k ((cs.take (mr cs o)).filter λx=> !cx x).length (cs.drop (mr cs o))
noncomputable def H9(L:List (List Int))(p d:Nat):Bool:=match L[d]? with
 |some ns=>decide ((p:Int)∈ns)
 |none=>false
noncomputable def z0(L:List (List Int))(n:Nat):List Nat:=(List.range n).flatMap λp=>(List.range L.length).filter (H9 L p)
noncomputable def H0(ds es:List Nat)(i j:Nat):Bool:=decide (ds.getD i 0=ds.getD j 0)||decide (es.getD i 0=es.getD j 0+1)
noncomputable def HX(ds es:List Nat)(j m:Nat):Int:=(((List.range m).filter λi=>H0 ds es i j).length:Nat)
noncomputable def z6(ds es:List Nat):Nat→Int
 |0=>0
 |j+1=>z6 ds es j+HX ds es j j
noncomputable def Dl(N:List (List Int)):Bool:=
 ((List.range N.length).all λm=>decide (((N.getD m []).filter cx).map (·-1)=(fZ (N.take m)).2.map (·.2))&&
  (List.range (N.getD m []).length).all λi=>cx ((N.getD m []).getD i 0)||(decide (0≤(j9 (fZ (N.take m)).2 ((N.getD m []).take i)).2)&&decide ((j9 (fZ (N.take m)).2 ((N.getD m []).take i)).2.toNat<(fZ (N.take m)).2.length)))&&
 (((List.range (N.length+1)).all λm=>Nat.ble (fZ (N.take m)).2.length 400&&(Nat.ble (fZ (N.take m)).1.length 400&&(fZ (N.take m)).2.all λq=>Nat.ble q.1.length 50))&& !(N.getD 0 []).isEmpty)
theorem ym{N:List (List Int)}(h:Dl N=true):kC N:=by
 unfold Dl at h
 rw[Bool.and_eq_true,Bool.and_eq_true,List.all_eq_true,List.all_eq_true] at h
 obtain⟨h1,h2,h3⟩:=h
 refine⟨λm hm=> ?_,λm hm i hi hb=> ?_,λm hm=> ?_,λe=> ?_⟩
 ·have:=h1 m (List.mem_range.mpr hm)
  rw[Bool.and_eq_true] at this
  exact of_decide_eq_true this.1
 ·have:=h1 m (List.mem_range.mpr hm)
  rw[Bool.and_eq_true,List.all_eq_true] at this
  have:=this.2 i (List.mem_range.mpr hi)
  rw[hb,Bool.false_or,Bool.and_eq_true] at this
  exact⟨of_decide_eq_true this.1,of_decide_eq_true this.2⟩
 ·have:=h2 m (List.mem_range.mpr (by lia))
  rw[Bool.and_eq_true,Bool.and_eq_true,List.all_eq_true] at this
  exact⟨Nat.le_of_ble_eq_true this.1,Nat.le_of_ble_eq_true this.2.1,λq hq=>Nat.le_of_ble_eq_true (this.2.2 q hq)⟩
 ·rw[e] at h3;cases h3
noncomputable def CU:List (List Int)→Bool
 |[]=>true
 |x::r=> !(r.contains x)&&CU r
theorem r2:∀{l:List (List Int)},CU l=true→l.Nodup
 |[],_=>List.nodup_nil
 |x::r,h=>by
  unfold CU at h
  rw[Bool.and_eq_true] at h
  rw[List.nodup_cons]
  refine⟨λhm=> ?_,r2 h.2⟩
  have:=List.contains_iff_mem.mpr hm
  rw[this] at h
  cases h.1
noncomputable def gX(ds:List Nat):Bool:=
 let LV:=bB ds
 let W:=tW LV
 let N:=j8 7 0 W
 let M:=(0::N.getD 0 [])::N.drop 1
 let G:=(fZ M).1
 (!LV.isEmpty&&Nat.ble LV.length 6)&&((Nat.beq W.length 12&&Nat.beq N.flatten.length 12)&&((Nat.beq (z0 LV 6).length 6&&decide (z6 ds (z0 LV 6) 6=(iY 0 0 N.flatten).1))&&
  (((N.drop 1).all (λn=>cx (n.getD 0 0))&& !cx ((N.getD 0 []).getD 0 0))&&(Dl M&&(Nat.beq G.length 6&&(CU (G.map (·.1))&&decide (lk G=(List.range 6).map λi=>(((ds.getD i 0:Nat):Int),((2*i+1:Nat):Int)))))))))&&W.all λx=>decide (1≤x)&&decide (x≤12)
noncomputable def qS(k:Nat):List (List Nat):=((q6 6 1).drop (12*k)).take 12
theorem IB:((qS 0).all gX)=true:=by decide+kernel
theorem IA:((qS 1).all gX)=true:=by decide+kernel
theorem Iz:((qS 2).all gX)=true:=by decide+kernel
theorem Iy:((qS 3).all gX)=true:=by decide+kernel
theorem Ix:((qS 4).all gX)=true:=by decide+kernel
theorem Iw:((qS 5).all gX)=true:=by decide+kernel
theorem Iv:((qS 6).all gX)=true:=by decide+kernel
theorem Iu:((qS 7).all gX)=true:=by decide+kernel
theorem It:((qS 8).all gX)=true:=by decide+kernel
theorem Is:((qS 9).all gX)=true:=by decide+kernel
theorem DY:((qS 10).all gX)=true:=by decide+kernel
theorem qg:q6 6 1=(List.range 11).flatMap qS:=by decide+kernel
theorem qh{ds:List Nat}(h:ds∈q6 6 1):gX ds=true:=by
 rw[qg] at h
 obtain⟨k,hk,h⟩:=List.mem_flatMap.mp h
 have hk:=List.mem_range.mp hk
 have e:∀k<11,k=0∨k=1∨k=2∨k=3∨k=4∨k=5∨k=6∨k=7∨k=8∨k=9∨k=10:=by decide
 rcases e k hk with rfl|rfl|rfl|rfl|rfl|rfl|rfl|rfl|rfl|rfl|rfl
 ·exact List.all_eq_true.mp IB ds h
 ·exact List.all_eq_true.mp IA ds h
 ·exact List.all_eq_true.mp Iz ds h
 ·exact List.all_eq_true.mp Iy ds h
 ·exact List.all_eq_true.mp Ix ds h
 ·exact List.all_eq_true.mp Iw ds h
 ·exact List.all_eq_true.mp Iv ds h
 ·exact List.all_eq_true.mp Iu ds h
 ·exact List.all_eq_true.mp It ds h
 ·exact List.all_eq_true.mp Is ds h
 ·exact List.all_eq_true.mp DY ds h
theorem ee(x:Int):cx x=decide (x%2=0):=by
 unfold cx
 rw[Int.fmod_eq_emod_of_nonneg _ (by decide)]
noncomputable def i8(φ:Int→Int)(q:PE):PE:=(q.1,φ q.2)
structure gL(φ:Int→Int):Prop where
 ev:∀x,cx (φ x)=cx x
 sub:∀x,cx x=true→φ (x-1)=φ x-1
 zero:φ 0=0
theorem m9{φ:Int→Int}(h:gL φ)(A:List PE)(i:Nat):(A.map (i8 φ)).getD i ([],0)=i8 φ (A.getD i ([],0)):=by
 by_cases hi:i<A.length
 ·exact cq hi
 ·rw[List.getD_eq_getElem?_getD,List.getD_eq_getElem?_getD,List.getElem?_eq_none (by simpa using Nat.le_of_not_lt hi),List.getElem?_eq_none (by simpa using Nat.le_of_not_lt hi)]
  show([],0)=i8 φ ([],0)
  unfold i8;rw[h.zero]
theorem pQ{φ:Int→Int}(h:gL φ)(A:List PE):∀(ns:List Int) (st:List PE×Int),
  (ns.map φ).foldl (re (A.map (i8 φ))) (st.1.map (i8 φ),st.2)=((ns.foldl (re A) st).1.map (i8 φ),(ns.foldl (re A) st).2)
 |[],st=>rfl
 |x::r,st=>by
  rw[List.map_cons,List.foldl_cons,List.foldl_cons]
  have e:re (A.map (i8 φ)) (st.1.map (i8 φ),st.2) (φ x)=((re A st x).1.map (i8 φ),(re A st x).2):=by
   unfold re
   rw[h.ev]
   cases cx x with
   |true=>rfl
   |false=>
    simp only[Bool.false_eq_true,if_false,List.map_append,List.length_map]
    rw[m9 h]
    rfl
  rw[e]
  exact pQ h A r _
theorem pR{φ:Int→Int}(h:gL φ)(A:List PE)(ns:List Int):j9 (A.map (i8 φ)) (ns.map φ)=((j9 A ns).1.map (i8 φ),(j9 A ns).2):=pQ h A ns ([],-1)
theorem yk{φ:Int→Int}(h:gL φ):φ (-1)= -1:=by
 have:=h.sub 0 (by decide)
 rw[h.zero] at this
 exact this
theorem mU{φ:Int→Int}(h:gL φ):∀(N:List (List Int)) (st:List PE×List PE),
  (N.map (·.map φ)).foldl q8 (st.1.map (i8 φ),st.2.map (i8 φ))=((N.foldl q8 st).1.map (i8 φ),(N.foldl q8 st).2.map (i8 φ))
 |[],st=>rfl
 |ns::r,st=>by
  rw[List.map_cons,List.foldl_cons,List.foldl_cons]
  have e:q8 (st.1.map (i8 φ),st.2.map (i8 φ)) (ns.map φ)=((q8 st ns).1.map (i8 φ),(q8 st ns).2.map (i8 φ)):=by
   unfold q8
   rw[pR h,List.map_append]
  rw[e]
  exact mU h r _
theorem gA{φ:Int→Int}(h:gL φ)(N:List (List Int)):fZ (N.map (·.map φ))=((fZ N).1.map (i8 φ),(fZ N).2.map (i8 φ)):=by
 have:=mU h N ([],[([],-1)])
 rw[show([([],-1)]:List PE).map (i8 φ)=[([],-1)] by unfold i8;simp[yk h]] at this
 exact this
theorem ir{φ:Int→Int}(h:gL φ)(l:List Int)(i:Nat):(l.map φ).getD i 0=φ (l.getD i 0):=by
 by_cases hi:i<l.length
 ·exact cq hi
 ·rw[List.getD_eq_getElem?_getD,List.getD_eq_getElem?_getD,List.getElem?_eq_none (by simpa using Nat.le_of_not_lt hi),List.getElem?_eq_none (by simpa using Nat.le_of_not_lt hi)]
  exact h.zero.symm
theorem gn{φ:Int→Int}(N:List (List Int))(i:Nat):(N.map (·.map φ)).getD i []=(N.getD i []).map φ:=by
 by_cases hi:i<N.length
 ·exact cq hi
 ·rw[List.getD_eq_getElem?_getD,List.getD_eq_getElem?_getD,List.getElem?_eq_none (by simpa using Nat.le_of_not_lt hi),List.getElem?_eq_none (by simpa using Nat.le_of_not_lt hi)]
  rfl
theorem zD{φ:Int→Int}(h:gL φ)(l:List Int):(l.map φ).filter cx=(l.filter cx).map φ:=by
 rw[List.filter_map]
 congr 1
 exact List.filter_congr λx O=>h.ev x
theorem yw{φ:Int→Int}(h:gL φ)(l:List Int):(l.map φ).filter (λx=> !cx x)=(l.filter λx=> !cx x).map φ:=by
 rw[List.filter_map]
 congr 1
 exact List.filter_congr λx O=>by show(!cx (φ x))=_;rw[h.ev x]
theorem kC.phi{φ:Int→Int}(h:gL φ){N:List (List Int)}(H:kC N):kC (N.map (·.map φ)):=by
 refine⟨λm hm=> ?_,λm hm i hi hb=> ?_,λm hm=> ?_,λe=> ?_⟩
 ·rw[List.length_map] at hm
  rw[gn,←List.map_take,gA h,zD h,List.map_map]
  have:=congrArg (List.map φ) (H.chk m hm)
  rw[List.map_map,List.map_map] at this
  show _=List.map _ (List.map _ _)
  rw[List.map_map]
  refine Eq.trans (List.map_congr_left λx hx=> ?_) this
  exact(h.sub x (List.mem_filter.mp hx).2).symm
 ·rw[List.length_map] at hm
  rw[gn] at hi hb⊢
  rw[List.length_map] at hi
  rw[ir h,h.ev] at hb
  rw[←List.map_take,←List.map_take,gA h]
  dsimp only
  rw[pR h,List.length_map]
  exact H.par m hm i hi hb
 ·rw[List.length_map] at hm
  rw[←List.map_take,gA h]
  dsimp only
  rw[List.length_map,List.length_map]
  obtain⟨h1,h2,h3⟩:=H.len m hm
  refine⟨h1,h2,λq hq=> ?_⟩
  obtain⟨q',hq',rfl⟩:=List.mem_map.mp hq
  exact h3 q' hq'
 ·rw[gn] at e
  exact H.first (List.map_eq_nil_iff.mp e)
theorem t6{φ:Int→Int}(h:gL φ)(l:List Int):nK (l.map φ)=nK l:=by
 unfold nK
 rw[List.length_map]
 exact List.filter_congr λi O=>by rw[ir h,h.ev]
theorem pj{φ:Int→Int}(h:gL φ):∀(k o:Nat) (l:List Int),j8 k o (l.map φ)=(j8 k o l).map (·.map φ)
 |0,_,_=>rfl
 |k+1,o,l=>by
  have hc:mr (l.map φ) o=mr l o:=by unfold mr;rw[t6 h,List.length_map]
  unfold j8
  rw[hc,←List.map_take,←List.map_drop,yw h,List.length_map,pj h k,List.map_cons]
theorem lX{φ:Int→Int}(h:gL φ):∀(l:List Int) (a b:Int),iY a b (l.map φ)=iY a b l
 |[],_,_=>rfl
 |x::r,a,b=>by
  have e:((φ x).fmod 2=1)↔(x.fmod 2=1):=by
   have:=h.ev x
   rw[ee,ee] at this
   rw[Int.fmod_eq_emod_of_nonneg _ (by decide),Int.fmod_eq_emod_of_nonneg _ (by decide)]
   have h1:(φ x%2=0)↔(x%2=0):=by simpa using this
   lia
  rw[List.map_cons]
  unfold iY
  by_cases hx:x.fmod 2=1
  ·rw[if_pos hx,if_pos (e.mpr hx)];exact lX h r _ _
  ·rw[if_neg hx,if_neg (λhh=>hx (e.mp hh))];exact lX h r _ _
theorem vg{φ:Int→Int}(h:gL φ)(L:List PE):lk (L.map (i8 φ))=(lk L).map λp=>(p.1,φ p.2):=by
 unfold lk
 simp only[m9 h]
 rw[List.map_map]
 rfl
noncomputable def phi(ks:List Nat)(x:Int):Int:=if x≤0 then x else if x.toNat%2=1 then((ks.getD (x.toNat/2) 1:Nat):Int) else((ks.getD ((x.toNat-1)/2) 1:Nat):Int)+1
theorem u5{ks:List Nat}(h:∀k∈ks,k%2=1):gL (phi ks):=by
 have hk:∀i,ks.getD i 1%2=1:=λi=>by
  by_cases hi:i<ks.length
  ·exact h _ (bV hi)
  ·rw[List.getD_eq_getElem?_getD,List.getElem?_eq_none (Nat.le_of_not_lt hi)];rfl
 refine⟨λx=> ?_,λx hx=> ?_,rfl⟩
 ·unfold phi
  rw[ee,ee]
  by_cases h0:x≤0
  ·rw[if_pos h0]
  ·rw[if_neg h0]
   by_cases h1:x.toNat%2=1
   ·rw[if_pos h1]
    have:=hk (x.toNat/2)
    generalize ks.getD (x.toNat/2) 1=k at this
    have e1: ¬((k:Int)%2=0):=by lia
    have e2: ¬(x%2=0):=by lia
    rw[decide_eq_false e1,decide_eq_false e2]
   ·rw[if_neg h1]
    have:=hk ((x.toNat-1)/2)
    generalize ks.getD ((x.toNat-1)/2) 1=k at this
    have e1:((k:Int)+1)%2=0:=by lia
    have e2:x%2=0:=by lia
    rw[decide_eq_true e1,decide_eq_true e2]
 ·rw[ee] at hx
  have hx:=of_decide_eq_true hx
  unfold phi
  by_cases h0:x≤0
  ·rw[if_pos h0,if_pos (by lia)]
  ·have a1: ¬(x-1≤0):=by lia
   have a2:(x-1).toNat%2=1:=by lia
   have a3: ¬(x.toNat%2=1):=by lia
   rw[if_neg h0,if_neg a1,if_pos a2,if_neg a3]
   have e:(x-1).toNat/2=(x.toNat-1)/2:=by
    congr 1;lia
   rw[e];lia
theorem rZ(ks:List Nat)(i:Nat):phi ks ((2*i+1:Nat):Int)=((ks.getD i 1:Nat):Int):=by
 unfold phi
 rw[if_neg (by lia),Int.toNat_natCast,if_pos (by lia)]
 congr 3;lia
theorem yl(ks:List Nat)(i:Nat):phi ks ((2*i+2:Nat):Int)=((ks.getD i 1:Nat):Int)+1:=by
 unfold phi
 rw[if_neg (by lia),Int.toNat_natCast,if_neg (by lia)]
 congr 4;lia
theorem wd{c:Nat}(h:c∈[40,91,123]):dx (ud c)=dx c+1:=by
 simp only[List.mem_cons,List.not_mem_nil,or_false] at h
 rcases h with rfl|rfl|rfl<;>rfl
theorem o6{ks:List Nat}(as ls:List Int):∀(sgs:List Nat) (p:Nat),(∀i c,sgs[i]?=some c→c∈[40,91,123]∧dx c=((ks.getD (p+i) 1:Nat):Int))→
  (iX as ls p sgs).map dx=(tI as ls p sgs.length).map (phi ks)
 |[],_,_=>rfl
 |c::r,p,h=>by
  obtain⟨h1,h2⟩:=h 0 c rfl
  rw[iX,List.length_cons,tI,List.map_append,List.map_append,o6 as ls r (p+1) (λi d hd=>by
   have:=h (i+1) d hd
   rw[show p+(i+1)=p+1+i by lia] at this
   exact this)]
  congr 1
  by_cases ha:(p:Int)∈as
  ·rw[if_pos ha,if_pos ha,List.map_singleton,List.map_singleton,yl,wd h1,h2];rfl
  ·rw[if_neg ha,if_neg ha]
   by_cases hl:(p:Int)∈ls
   ·rw[if_pos hl,if_pos hl,List.map_singleton,List.map_singleton,rZ,h2];rfl
   ·rw[if_neg hl,if_neg hl];rfl
theorem o4{ks sgs:List Nat}(h:∀i c,sgs[i]?=some c→c∈[40,91,123]∧dx c=((ks.getD i 1:Nat):Int)):∀(L:List (List Int)),(uj sgs L).map dx=(tO sgs.length L).map (phi ks)
 |[]=>rfl
 |[_]=>rfl
 |p::q::r=>by
  rw[uj,tO,List.map_append,List.map_append,o4 h (q::r),o6 p q sgs 0 (λi c hc=>by rw[Nat.zero_add];exact h i c hc)]
theorem o7(as ls:List Int):∀(sgs:List Nat) (p:Nat),(∀c∈sgs,c∈[40,91,123])→∀c∈iX as ls p sgs,c∈pX
 |[],_,_,c,h=>nomatch h
 |d::r,p,hd,c,h=>by
  rw[iX] at h
  rcases List.mem_append.mp h with h|h
  ·have h1:=hd d (.head _)
   simp only[List.mem_cons,List.not_mem_nil,or_false] at h1
   split at h
   ·rw[List.mem_singleton.mp h]
    rcases h1 with rfl|rfl|rfl<;>decide
   ·split at h
    ·rw[List.mem_singleton.mp h]
     rcases h1 with rfl|rfl|rfl<;>decide
    ·cases h
  ·exact o7 as ls r (p+1) (λc hc=>hd c (.tail _ hc)) c h
theorem o5{sgs:List Nat}(hd:∀c∈sgs,c∈[40,91,123]):∀(L:List (List Int)),∀c∈uj sgs L,c∈pX
 |[],c,h=>nomatch h
 |[_],c,h=>nomatch h
 |p::q::r,c,h=>by
  rw[uj] at h
  rcases List.mem_append.mp h with h|h
  ·exact o7 p q sgs 0 hd c h
  ·exact o5 hd (q::r) c h
theorem tC(c:Nat):cH c= !cx (dx c):=by
 unfold cH
 rw[ee,Int.fmod_eq_emod_of_nonneg _ (by decide)]
 by_cases h:dx c%2=0
 ·rw[decide_eq_true h,decide_eq_false (by lia)];rfl
 ·rw[decide_eq_false h,decide_eq_true (by lia)];rfl
theorem t8(cs:List Nat):dz cs=nK (cs.map dx):=by
 unfold dz nK
 rw[List.length_map]
 refine List.filter_congr λi hi=> ?_
 rw[cq (d:=0) (List.mem_range.mp hi)]
 rfl
theorem pk:∀(k o:Nat) (cs:List Nat),(fx k o cs).map (·.map dx)=j8 k o (cs.map dx)
 |0,_,_=>rfl
 |k+1,o,cs=>by
  have hc:g9 cs o=mr (cs.map dx) o:=by unfold g9 mr;rw[t8,List.length_map]
  have hf:∀l:List Nat,(l.filter cH).length=((l.map dx).filter λx=> !cx x).length:=λl=>by
   rw[List.filter_map,List.length_map]
   congr 1
   exact List.filter_congr λc O=>tC c
  unfold fx j8
  rw[List.map_cons,pk k,hc,←List.map_take,←List.map_drop,hf,List.map_take]
theorem zH(lvs:List dU)(n:Nat):kj lvs n=z0 (lvs.map (·.ns)) n:=by
 unfold kj z0
 congr 1
 funext p
 unfold ki
 rw[List.length_map]
 refine List.filter_congr λd O=> ?_
 unfold kv H9
 rw[List.getElem?_map]
 cases lvs[d]?<;>rfl
theorem rX{wf:Nat→WS}{ds es:List Nat}(h:∀i j,i<6→j<6→ky (wf i) (wf j)=decide (ds.getD i 0=ds.getD j 0)):∀n,n≤6→oF wf es n=z6 ds es n
 |0,_=>rfl
 |j+1,hn=>by
  unfold oF z6
  rw[rX h j (by lia)]
  congr 1
  unfold i9 HX
  congr 2
  refine List.filter_congr λi hi=> ?_
  have hi:=List.mem_range.mp hi
  unfold xe H0
  rw[h i j (by lia) (by lia)]
structure CL(ds:List Nat):Prop where
 ne:bB ds≠[]
 l6:(bB ds).length≤6
 w:(tW (bB ds)).length=12
 fl:(j8 7 0 (tW (bB ds))).flatten.length=12
 dp:(z0 (bB ds) 6).length=6
 pt:z6 ds (z0 (bB ds) 6) 6=(iY 0 0 (j8 7 0 (tW (bB ds))).flatten).1
 ev:∀n∈(j8 7 0 (tW (bB ds))).drop 1,cx (n.getD 0 0)=true
 od:cx (((j8 7 0 (tW (bB ds))).getD 0 []).getD 0 0)=false
 pg:kC ((0::(j8 7 0 (tW (bB ds))).getD 0 [])::(j8 7 0 (tW (bB ds))).drop 1)
 g6:(fZ ((0::(j8 7 0 (tW (bB ds))).getD 0 [])::(j8 7 0 (tW (bB ds))).drop 1)).1.length=6
 nd:((fZ ((0::(j8 7 0 (tW (bB ds))).getD 0 [])::(j8 7 0 (tW (bB ds))).drop 1)).1.map (·.1)).Nodup
 ou:lk (fZ ((0::(j8 7 0 (tW (bB ds))).getD 0 [])::(j8 7 0 (tW (bB ds))).drop 1)).1=(List.range 6).map λi=>(((ds.getD i 0:Nat):Int),((2*i+1:Nat):Int))
theorem uU{ds:List Nat}(h:gX ds=true):CL ds:=by
 unfold gX at h
 simp only[Bool.and_eq_true] at h
 obtain⟨⟨⟨h1,h2⟩,⟨h3,h4⟩,⟨h5,h6⟩,⟨h7,h8⟩,h9,h10,h11,h12⟩,h13⟩:=h
 refine⟨λe=> ?_,Nat.le_of_ble_eq_true h2,Nat.eq_of_beq_eq_true h3,Nat.eq_of_beq_eq_true h4,Nat.eq_of_beq_eq_true h5,of_decide_eq_true h6,List.all_eq_true.mp h7,by simpa using h8,ym h9,Nat.eq_of_beq_eq_true h10,r2 h11,of_decide_eq_true h12⟩
 rw[e] at h1;cases h1
theorem lU{k:Nat}(h:k=7∨k=9∨k=25):uh k∈[40,91,123]∧dx (uh k)=(k:Int)∧k%2=1:=by
 rcases h with rfl|rfl|rfl<;>exact⟨by decide,by decide,by decide⟩
theorem pure_law(NS:List Int)(h6:NS.length=6):eR NS:=by
 have S:=uU (qh (n9 h6))
 have hkd:=w4 h6
 have hD:=oa h6
 have hφ:gL (phi ((af (-1) NS).map (·.2))):=u5 λk hk=>by
  obtain⟨e,he,rfl⟩:=List.mem_map.mp hk
  exact(lU (hkd e he).1).2.2
 have hsl:((bp NS).map (·.2)).length=6:=by simp[bp]
 have hsg:∀i c,((bp NS).map (·.2))[i]?=some c→c∈[40,91,123]∧dx c=((((af (-1) NS).map (·.2)).getD i 1:Nat):Int):=λi c hc=>by
  have hi:i<6:=by
   rw[←hsl];exact(List.getElem?_eq_some_iff.mp hc).1
  have hm:(af (-1) NS).getD i (0,0)∈af (-1) NS:=bV (by lia)
  have e1:c=uh ((af (-1) NS).getD i (0,0)).2:=by
   unfold bp at hc
   rw[List.map_map,List.getElem?_map,List.getElem?_range hi] at hc
   exact(Option.some.inj hc).symm
  rw[cq (d:=(0,0)) (by lia),e1]
  exact⟨(lU (hkd _ hm).1).1,(lU (hkd _ hm).1).2.1⟩
 have hW:(gW ((bp NS).map (·.2)) (bB ((af (-1) NS).map (·.1)))).map dx=(tW (bB ((af (-1) NS).map (·.1)))).map (phi ((af (-1) NS).map (·.2))):=by
  have:=o4 hsg (([]::bB ((af (-1) NS).map (·.1)))++[[]])
  rw[hsl] at this
  exact this
 have hN:(fx 7 0 (gW ((bp NS).map (·.2)) (bB ((af (-1) NS).map (·.1))))).map (·.map dx)=(j8 7 0 (tW (bB ((af (-1) NS).map (·.1))))).map (·.map (phi ((af (-1) NS).map (·.2)))):=by
  rw[pk,hW,pj hφ]
 have hmem:∀c∈(bp NS).map (·.2),c∈[40,91,123]:=λc hc=>by
  obtain⟨p,hp,rfl⟩:=List.mem_map.mp hc
  exact(wD h6 p hp).1
 have hF:(fx 7 0 (gW ((bp NS).map (·.2)) (bB ((af (-1) NS).map (·.1))))).flatten.map dx=(j8 7 0 (tW (bB ((af (-1) NS).map (·.1))))).flatten.map (phi ((af (-1) NS).map (·.2))):=by
  rw[List.map_flatten,List.map_flatten,hN]
 refine⟨hkd,wD h6,λtx τ hL=>yj h6 tx τ hL,⟨S.ne,S.l6⟩,λtx τ hL lvs hlv=> ?_,⟨?_,?_⟩,?_,λN hN'=> ?_⟩
 ·rw[zH,hlv]
  refine⟨S.dp,?_⟩
  rw[rX (ds:=(af (-1) NS).map (·.1)) (λi j hi hj=>BA h6 tx τ hi hj) 6 (Nat.le_refl _),S.pt,hF,lX hφ]
 ·have:=congrArg List.length hW
  rw[List.length_map,List.length_map,S.w] at this
  exact this
 ·exact o5 hmem _
 ·have:=congrArg List.length hF
  rw[List.length_map,List.length_map,S.fl] at this
  exact this
 ·rw[hN] at hN'
  subst hN'
  generalize hM:j8 7 0 (tW (bB ((af (-1) NS).map (·.1))))=M at*
  have hS:=S
  have eM:((0:Int)::(M.map (·.map (phi ((af (-1) NS).map (·.2))))).getD 0 [])::(M.map (·.map (phi ((af (-1) NS).map (·.2))))).drop 1=((0::M.getD 0 [])::M.drop 1).map (·.map (phi ((af (-1) NS).map (·.2)))):=by
   rw[gn,List.map_cons,List.map_cons,hφ.zero,List.map_drop]
  have s1:=S.ev
  have s2:=S.od
  have s3:=S.pg
  have s4:=S.g6
  have s5:=S.nd
  have s6:=S.ou
  rw[hM] at s1 s2 s3 s4 s5 s6
  refine⟨λn hn he=> ?_,?_,?_,?_,?_⟩
  ·rw[←List.map_drop] at hn
   obtain⟨n0,hn0,rfl⟩:=List.mem_map.mp hn
   rw[gn] at he
   have:cx ((n0.map (phi ((af (-1) NS).map (·.2)))).getD 0 0)=cx (((M.getD 0 []).map (phi ((af (-1) NS).map (·.2)))).getD 0 0):=congrArg (λl:List Int=>cx (l.getD 0 0)) he
   rw[ir hφ,ir hφ,hφ.ev,hφ.ev,s1 n0 hn0,s2] at this
   cases this
  ·rw[eM];exact s3.phi hφ
  ·rw[eM,gA hφ]
   dsimp only
   rw[List.length_map];exact s4
  ·rw[eM,gA hφ]
   dsimp only
   rw[List.map_map]
   exact s5
  ·rw[eM,gA hφ]
   dsimp only
   rw[vg hφ,s6,List.map_map]
   refine List.ext_getElem? λi=> ?_
   by_cases hi:i<6
   ·rw[List.getElem?_map,List.getElem?_range hi,List.getElem?_map,List.getElem?_eq_getElem (by lia)]
    simp only[Option.map_some,Function.comp,Option.some.injEq,Prod.mk.injEq]
    rw[rZ,cq (d:=(0,0)) (by lia),cq (d:=(0,0)) (by lia),List.getD_eq_getElem?_getD,List.getElem?_eq_getElem (by lia)]
    exact⟨rfl,rfl⟩
   ·rw[List.getElem?_eq_none (by simpa using Nat.le_of_not_lt hi),List.getElem?_eq_none (by simp[hD];lia)]
section
set_option tactic.hygienic true
open PySem.W.ZRun
theorem topK(P:Params):ru P (KT.of (Kf P)):=⟨by kernel_rfl!,by kernel_rfl!,by kernel_rfl!⟩
theorem yG(P):c9 (bM (bC P 3)) "law"=some (.ref 223):=by kernel_rfl!
theorem Bf(hp:∀NS:List Int,NS.length=6→eR NS){w:World}{s₁:Shared}{kt:KT}{p:Program}{loose:List Str}{mean:ExcName→Option Value}{mg mb:Str→Option Value}{ns:List Int}{vs:List Value}{fa:Addr}
  (K:ru w.params kt) (ZH:KT.Holds s₁.heap 1 0 kt) (T:PyProof.Rows.Top p loose mean mg mb s₁.heap) (hm:mg "law"=some (.ref fa)) (hg:s₁.gens=#[]) (hl:s₁.heap.get? 224=some {cls:= .type "list",data:= .seq vs.toArray}) (hv:IntsAre vs ns) (hn:ns.length≤63):
  wpAny (model PySem.Challenge.pw_ti0049_01 w) callerA (PySem.call (.ref fa) [.ref 224]) (λv s'=>v= .bool true∧OldK s₁.heap s'.heap∧s'.os=s₁.os∧AllBare s'.gens) (λO O=>False) s₁:=by
 have G:=sf K ZH T.nolimit
 have h0:s₁.heap.get? 3=some (bC w.params 3):=(G.kt 3 _ (xg w.params)).1
 have e:=pq T.g (hZ h0 (xj w.params)) "law"
 rw[hm,yG] at e
 injection e with e
 injection e with e
 subst e
 exact Be hp K ZH T hg hl hv hn
theorem walkF(hp:∀NS:List Int,NS.length=6→eR NS){w:World}{s₀ s₁:Shared}{Kr:Frag}{p:Program}{loose:List Str}{mean:ExcName→Option Value}{mg mb:Str→Option Value}{ns:List Int}{vs:List Value}{fa:Addr}
  (K:ru w.params (KT.of Kr)) (ZA:AllIn s₀.heap Kr) (kp:∀b o,s₀.heap.get? b=some o→s₁.heap.get? b=some o) (T:PyProof.Rows.Top p loose mean mg mb s₁.heap) (hm:mg "law"=some (.ref fa)) (hg:s₁.gens=#[]) (hl:s₁.heap.get? 224=some {cls:= .type "list",data:= .seq vs.toArray}) (hv:IntsAre vs ns) (hn:ns.length≤63):
  wpAny (model PySem.Challenge.pw_ti0049_01 w) callerA (PySem.call (.ref fa) [.ref 224]) (λv s'=>v= .bool true∧OldK s₁.heap s'.heap∧s'.os=s₁.os∧AllBare s'.gens) (λO O=>False) s₁:=by
 have ZH:=holds_of ZA
 generalize KT.of Kr=kt at K ZH
 exact Bf hp K (KT.Holds.keeps kp ZH) T hm hg hl hv hn
theorem good_of{c:ClaimW}{cl:Str→Option Addr}{mean:ExcName→Option Value}{args:List WData}{s₁ s':Shared}{v:Value}
  (hr:∀cls,c.raises args cls=false) (hp:c.post args (.bool true) args=true)
  (h:v= .bool true∧OldK s₁.heap s'.heap∧s'.os=s₁.os∧AllBare s'.gens):GoodWG c cl mean args s₁ (.ok (.ret v)) s':=by
 obtain⟨rfl,h1,h2,h3⟩:=h
 exact⟨.inl ⟨_,_,[],rfl,hr,ReadsW.bool true,hp,λO=>⟨List.nodup_nil,λO hm=>(nomatch hm)⟩⟩,h1,h2,h3⟩
end
end Mine
open PySem PySem.W PySem.W.X PySem.W.ZRun PyProof.Rows
theorem PySem.Challenge.cw_ti0049_01_holds : PySem.Challenge.rw_ti0049_01.Holds := by
  w_on
  refine holds_law Mine.said0 fun said => ?_
  refine holds_openX (q := Mine.vw) (loose := Mine.looseI) (Xt := fun s => xlAt Mine.vw [] s && recOk [] s) (XP := XL Mine.vw []) (Yf := obsZ Mine.adrI) (Ya := valZ Mine.Kf 224 659) (N := 5572) Mine.hl (fun s e => xl_of s (Bool.and_eq_true_iff.mp e).1) XL.keeps (by rfl) (by rfl) (by rfl) (fun s e => recFacts_of (Bool.and_eq_true_iff.mp e).2) rfl said (by decide +kernel) ⟨rfl, rfl, rfl, rfl, rfl, by decide +kernel⟩ ?hw ?hc
  (case hw => w_witness2)
  intro w s₀ s₁ mg mb G y fa o pm cd doc dV kV ho hd hcd hD hmg hg args vals as L hpre hlay hrd hwl hlo
  obtain ⟨ZA, ZI, ZN, ZT⟩ := z_facts Mine.adrI_eq y
  refine Ground.open G ?_
  intro T B D TE TW
  wrow_args hpre hlay hrd hwl hlo
  obtain ⟨hat, hsz⟩ := script_at L
  have htk := script_toks L ZT
  rw [ZN] at hat hsz
  subst hat
  refine wpAny_mono (Mine.walkF Mine.pure_law (Mine.topK w.params) ZA (Laid.keeps L) T hmg hg (script_obj L (by assumption)) (by assumption) (by omega)) (fun v s' g => Mine.good_of (fun cls => ?_) ?_ g) (fun _ _ f => f.elim)
  · rfl
  · first | rfl | wrow_post | kernel_rfl!
